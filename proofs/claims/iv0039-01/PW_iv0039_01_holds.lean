import PyProof.Rows.All
import Wide.All
import OpenK.AllK
import Wide.FinOn
import PySem.Challenge.RW_iv0039_01
open PySem PySem.W PyProof.Rows PySem.Calls
set_option Elab.async false
namespace Mine
set_option maxRecDepth 100000 in
set_option maxHeartbeats 8000000 in
open_top hd for PySem.Challenge.rw_iv0039_01
end Mine
set_option maxRecDepth 100000
namespace Mine

-- L1
/-- abstract values -/
inductive V where
  | none | bool (b : Bool) | int (i : Int) | tup (l : List Int) | list (l : List V)
/-- what a name may hold: a value, or a list or a dict of the frame's own that grows -/
inductive W where
  | v (x : V) | olist (l : List V) | odict (d : Int → Option Int) (n : Nat) | unset

def RepU (h : Heap) (x : Value) : V → Prop
  | .none => x = .none
  | .bool b => x = .bool b
  | .int i => ∃ t, x = .int i t
  | .tup l => ∃ a vs, x = .ref a ∧ IsTup h a vs.toArray ∧ IntsAre vs l
  | .list _ => False

def Rep (h : Heap) (x : Value) : V → Prop
  | .list l => ∃ a vs, x = .ref a ∧ h.IsList a vs.toArray ∧ Paired (fun y v => RepU h v y) l vs
  | v => RepU h x v

/-- all sequences stay -/
def Seqs (h h' : Heap) : Prop := ∀ b o items n, o.data = .seq items n → h.get? b = some o → h'.get? b = some o
abbrev Sub (h h' : Heap) : Prop := ∀ b o, h.get? b = some o → h'.get? b = some o
def Tups (h h' : Heap) : Prop := ∀ b o items n, o.cls = .type "tuple" → o.data = .seq items n → h.get? b = some o → h'.get? b = some o

theorem RepU.tups {h h' : Heap} {x : Value} {v : V} (r : RepU h x v) (k : Tups h h') : RepU h' x v := by
  cases v with
  | tup l =>
    obtain ⟨a, vs, rfl, ⟨o, ho, hc, n, hd⟩, hi⟩ := r
    exact ⟨a, vs, rfl, ⟨o, k a o _ _ hc hd ho, hc, n, hd⟩, hi⟩
  | _ => exact r

theorem Paired.imp {α β : Type} {F G : α → β → Prop} (h : ∀ a b, F a b → G a b) : ∀ {l : List α} {m : List β}, Paired F l m → Paired G l m
  | _, _, .nil => .nil
  | _, _, .cons a b => .cons (h _ _ a) (Paired.imp h b)

theorem Rep.seqs {h h' : Heap} {x : Value} {v : V} (r : Rep h x v) (k : Seqs h h') : Rep h' x v := by
  have kt : Tups h h' := fun b o _ _ _ hd e => k b o _ _ hd e
  cases v with
  | list l =>
    obtain ⟨a, vs, rfl, ⟨o, ho, hc, n, hd⟩, hp⟩ := r
    exact ⟨a, vs, rfl, ⟨o, k a o _ _ hd ho, hc, n, hd⟩, Paired.imp (fun _ _ q => q.tups kt) hp⟩
  | none => exact r
  | bool b => exact r
  | int i => exact r
  | tup l => exact RepU.tups (v := .tup l) r kt

theorem Rep.sub {h h' : Heap} {x : Value} {v : V} (r : Rep h x v) (k : Sub h h') : Rep h' x v := r.seqs fun b o _ _ _ e => k b o e
theorem RepU.sub {h h' : Heap} {x : Value} {v : V} (r : RepU h x v) (k : Sub h h') : RepU h' x v := r.tups fun b o _ _ _ _ e => k b o e

/-- what the top left -/
structure G (w : World) (h : Heap) : Prop where
  X : (hd.heap_39 w.params).In h
  T : ∃ mean mg mb, Top hd.view_39 (looseW hd.view_39 []) mean mg mb h
theorem G.sub {w : World} {h h' : Heap} (g : G w h) (k : Sub h h') : G w h' := ⟨g.X.keeps k, let ⟨a, b, c, t⟩ := g.T; ⟨a, b, c, t.keeps k⟩⟩

abbrev PR : Program := Challenge.rw_iv0039_01.row.prog

/-- a dict of ints -/
def DictIs (h : Heap) (D : Addr) (d : Int → Option Int) (n : Nat) : Prop :=
  h.DictLe D n ∧ ∃ f, h.IntMap D f ∧ ∀ k, (d k = none ∧ f k = none) ∨ ∃ i t, d k = some i ∧ f k = some (.int i t)
def ListIs (h : Heap) (D : Addr) (l : List V) : Prop := ∃ its, PlainL h D its ∧ Paired (fun y v => RepU h v y) l its.toList

theorem intMap_obj {h : Heap} {D : Addr} {f : Int → Option Value} (x : h.IntMap D f) : ∃ o es ep, h.get? D = some o ∧ o.cls = .type "dict" ∧ o.data = .dict es ep := by
  obtain ⟨o, es, ep, a, b, c, _⟩ := x
  exact ⟨o, es, ep, a, b, c⟩
theorem DictIs.extBut {h h' : Heap} {D b : Addr} {d : Int → Option Int} {n : Nat} (x : DictIs h D d n) (hs : Heap.ExtBut b h h') (hb : D ≠ b) : DictIs h' D d n := by
  obtain ⟨a, f, i, k⟩ := x
  obtain ⟨o, es, ep, ho, _, hd⟩ := intMap_obj i
  exact ⟨a.of_same ho (hs D o hb ho), f, i.extBut hs hb, k⟩
theorem DictIs.obj {h : Heap} {D : Addr} {d : Int → Option Int} {n : Nat} (x : DictIs h D d n) : ∃ o, h.get? D = some o ∧ o.cls = .type "dict" := by
  obtain ⟨_, f, i, _⟩ := x
  obtain ⟨o, _, _, a, b, _⟩ := intMap_obj i
  exact ⟨o, a, b⟩
theorem ListIs.obj {h : Heap} {D : Addr} {l : List V} (x : ListIs h D l) : ∃ o items n, h.get? D = some o ∧ o.cls = .type "list" ∧ o.data = .seq items n := by
  obtain ⟨its, ⟨o, n, a, b, _, d⟩, _⟩ := x
  exact ⟨o, its, n, a, b, d⟩
theorem ListIs.extBut {h h' : Heap} {D b : Addr} {l : List V} (x : ListIs h D l) (hs : Heap.ExtBut b h h') (hb : D ≠ b) (k : Tups h h') : ListIs h' D l := by
  obtain ⟨its, p, q⟩ := x
  exact ⟨its, p.extBut hs hb, Paired.imp (fun _ _ r => r.tups k) q⟩
theorem ListIs.rep {h : Heap} {D : Addr} {l : List V} (x : ListIs h D l) : Rep h (.ref D) (.list l) := by
  obtain ⟨its, p, q⟩ := x
  exact ⟨D, its.toList, rfl, by simpa using p.isList, q⟩
theorem extBut_of_sub {h h' : Heap} (b : Addr) (k : Sub h h') : Heap.ExtBut b h h' := fun c o _ e => k c o e

/-- a name of the frame holds an abstract value -/
def VarOk (g : Heap) (env : Env) (m : Str → Option Value) (h : Heap) (x : Str) : W → Prop
  | .v v => (env.kindOf x = some .local ∧ ∃ val, m x = some val ∧ Rep h val v) ∨
      ((env.kindOf x = some .cell ∨ (env.kindOf x = some .free ∧ (x == ("__classdict__" : Str)) = false)) ∧ ∃ c val, env.cells.lookup x = some c ∧ h.IsCell c (some val) ∧ Rep h val v)
  | .olist l => env.kindOf x = some .local ∧ ∃ D, m x = some (.ref D) ∧ D ≠ env.locals ∧ g.get? D = none ∧ ListIs h D l
  | .odict d n => env.kindOf x = some .local ∧ ∃ D, m x = some (.ref D) ∧ D ≠ env.locals ∧ g.get? D = none ∧ DictIs h D d n
  | .unset => env.kindOf x = some .cell ∧ ∃ c, env.cells.lookup x = some c ∧ c ≠ env.locals ∧ g.get? c = none ∧ h.IsCell c none

structure FrameOk (w : World) (g : Heap) (env : Env) (ρ : List (Str × W)) (h : Heap) : Prop where
  kind : env.scope.kind = .function
  globals : env.globals = mainGlobals
  builtins : env.builtins = builtinsNs
  gg : G w g
  fr : ∃ m, Fr g env.locals h m ∧ ∀ x v, ρ.lookup x = some v → VarOk g env m h x v

theorem FrameOk.g {w : World} {g : Heap} {env : Env} {ρ : List (Str × W)} {h : Heap} (F : FrameOk w g env ρ h) : G w h := let ⟨_, f, _⟩ := F.fr; F.gg.sub f.keep

theorem VarOk.sub {g : Heap} {env : Env} {m : Str → Option Value} {h h' : Heap} {x : Str} {v : W} (r : VarOk g env m h x v) (k : Sub h h') : VarOk g env m h' x v := by
  cases v with
  | v v =>
    rcases r with ⟨a, val, b, c⟩ | ⟨a, c, val, b, d, e⟩
    · exact .inl ⟨a, val, b, c.sub k⟩
    · exact .inr ⟨a, c, val, b, d.keeps k, e.sub k⟩
  | olist l =>
    obtain ⟨a, D, b, c, d, e⟩ := r
    exact ⟨a, D, b, c, d, e.extBut (extBut_of_sub (D + 1) k) (by simp) fun b o _ _ _ _ q => k b o q⟩
  | odict dd n =>
    obtain ⟨a, D, b, c, d, e⟩ := r
    exact ⟨a, D, b, c, d, e.extBut (extBut_of_sub (D + 1) k) (by simp)⟩
  | unset =>
    obtain ⟨a, c, b, d, e, f⟩ := r
    exact ⟨a, c, b, d, e, f.keeps k⟩
theorem FrameOk.sub {w : World} {g : Heap} {env : Env} {ρ : List (Str × W)} {h h' : Heap} (F : FrameOk w g env ρ h) (k : Sub h h') : FrameOk w g env ρ h' :=
  let ⟨m, f, r⟩ := F.fr
  ⟨F.kind, F.globals, F.builtins, F.gg, m, f.after k, fun x v e => (r x v e).sub k⟩
theorem FrameOk.weaken {w : World} {g : Heap} {env : Env} {ρ ρ' : List (Str × W)} {h : Heap} (F : FrameOk w g env ρ h) (k : ∀ x v, ρ'.lookup x = some v → ρ.lookup x = some v) : FrameOk w g env ρ' h :=
  let ⟨m, f, r⟩ := F.fr
  ⟨F.kind, F.globals, F.builtins, F.gg, m, f, fun x v e => r x v (k x v e)⟩

/-- room for n calls more, one in another -/
structure Room (n : Nat) (A : Around) : Prop where
  handled : A.handled = none
  depth : A.depth + n < recursionLimit
  units : A.units + 8 * n + 128 < cLine
theorem Room.mono {n m : Nat} {A : Around} (r : Room n A) (h : m ≤ n) : Room m A := ⟨r.handled, by have := r.depth; omega, by have := r.units; omega⟩
theorem Room.deeper {n : Nat} {A : Around} {env : Env} (r : Room (n + 1) A) : Room n (A.deeper env) := ⟨r.handled, by have := r.depth; show A.depth + 1 + n < _; omega, by have := r.units; show A.units + 3 + 8 * n + 128 < _; omega⟩

abbrev MM (w : World) : Model := model PR w

theorem keeps_refl (s : Shared) : Keeps s s := ⟨s.heap, s.toks, rfl, fun _ _ e => e⟩
theorem ksub {s s' : Shared} (k : Keeps s s') : Sub s.heap s'.heap := by obtain ⟨h, t, rfl, q⟩ := k; exact q
theorem ktr {s s' s'' : Shared} (k : Keeps s s') (k' : Keeps s' s'') : Keeps s s'' := by
  obtain ⟨h, t, rfl, q⟩ := k
  obtain ⟨h', t', rfl, q'⟩ := k'
  exact ⟨h', t', rfl, fun b o e => q' b o (q b o e)⟩
theorem keeps_tok (s : Shared) (t : Nat) : Keeps s { s with toks := t } := ⟨s.heap, t, rfl, fun _ _ e => e⟩
theorem keeps_heap {s : Shared} {h : Heap} (k : Sub s.heap h) : Keeps s { s with heap := h } := ⟨h, s.toks, rfl, k⟩
theorem sub_push (h : Heap) (o : Obj) : Sub h (h.push o) := fun _ _ e => Heap.get?_push_of_some o e

/-- an expression's value -/
def Ev (w : World) (n : Nat) (g : Heap) (env : Env) (ρ : List (Str × W)) (e : Expr) (v : V) : Prop :=
  ∀ (A : Around) (s : Shared) (Q : Value → Shared → Prop) (E : Value → Shared → Prop), FrameOk w g env ρ s.heap → Room n A →
    (∀ val s', Keeps s s' → Rep s'.heap val v → Q val s') → wpAny (MM w) A (eval e env) Q E s
def Evs (w : World) (n : Nat) (g : Heap) (env : Env) (ρ : List (Str × W)) (es : List Expr) (vs : List V) : Prop :=
  ∀ (A : Around) (s : Shared) (Q : List Value → Shared → Prop) (E : Value → Shared → Prop) (pos : Pos), FrameOk w g env ρ s.heap → Room n A →
    (∀ vals s', Keeps s s' → Paired (fun v val => Rep s'.heap val v) vs vals → Q vals s') → wpAny (MM w) A (spliced (backTo pos (starEach es env))) Q E s
/-- a test's value -/
def Tst (w : World) (n : Nat) (g : Heap) (env : Env) (ρ : List (Str × W)) (e : Expr) (b : Bool) : Prop :=
  ∀ (A : Around) (s : Shared) (Q : Bool → Shared → Prop) (E : Value → Shared → Prop), FrameOk w g env ρ s.heap → Room n A →
    (∀ s', Keeps s s' → Q b s') → wpAny (MM w) A (isTrue e env (eval e env)) Q E s
/-- a call's value -/
def Cal (w : World) (n : Nat) (f : Value) (args : List V) (v : V) : Prop :=
  ∀ (A : Around) (s : Shared) (Q : Value → Shared → Prop) (E : Value → Shared → Prop) (vals : List Value), G w s.heap → Room n A →
    Paired (fun v val => Rep s.heap val v) args vals → (∀ val s', Keeps s s' → Rep s'.heap val v → Q val s') → wpAny (MM w) A (call f vals) Q E s

inductive Out where
  | next (ρ : List (Str × W))
  | ret (v : V)

/-- what is neither the frame's dict nor a list nor a dict stays -/
def Stays (L : Addr) (h h' : Heap) : Prop := ∀ b o, b ≠ L → o.cls ≠ .type "list" → o.cls ≠ .type "dict" → h.get? b = some o → h'.get? b = some o
def After (L : Addr) (s s' : Shared) : Prop := ∃ h' tk, s' = { s with heap := h', toks := tk } ∧ Stays L s.heap h'
theorem kafter {L : Addr} {s s' : Shared} (k : Keeps s s') : After L s s' := by obtain ⟨h, t, rfl, q⟩ := k; exact ⟨h, t, rfl, fun b o _ _ _ e => q b o e⟩
theorem After.trans {L : Addr} {s s' s'' : Shared} (k : After L s s') (k' : After L s' s'') : After L s s'' := by
  obtain ⟨h, t, rfl, q⟩ := k; obtain ⟨h', t', rfl, q'⟩ := k'; exact ⟨h', t', rfl, fun b o n c1 c2 e => q' b o n c1 c2 (q b o n c1 c2 e)⟩
theorem after_refl {L : Addr} (s : Shared) : After L s s := ⟨s.heap, s.toks, rfl, fun _ _ _ _ _ e => e⟩

def Ends (w : World) (g : Heap) (env : Env) (o : Out) (fl : Flow) (s' : Shared) : Prop := match o with
  | .next ρ' => fl = .next ∧ FrameOk w g env ρ' s'.heap
  | .ret v => (∃ val, fl = .ret val ∧ Rep s'.heap val v) ∧ FrameOk w g env [] s'.heap

def Ex (w : World) (n : Nat) (g : Heap) (env : Env) (ρ : List (Str × W)) (st : Stmt) (o : Out) : Prop :=
  ∀ (A : Around) (s : Shared) (Q : Flow → Shared → Prop) (E : Value → Shared → Prop), FrameOk w g env ρ s.heap → Room n A →
    (∀ fl s', After env.locals s s' → Ends w g env o fl s' → Q fl s') → wpAny (MM w) A (exec st env) Q E s
def Exs (w : World) (n : Nat) (g : Heap) (env : Env) (ρ : List (Str × W)) (st : List Stmt) (o : Out) : Prop :=
  ∀ (A : Around) (s : Shared) (Q : Flow → Shared → Prop) (E : Value → Shared → Prop), FrameOk w g env ρ s.heap → Room n A →
    (∀ fl s', After env.locals s s' → Ends w g env o fl s' → Q fl s') → wpAny (MM w) A (execs st env) Q E s

section
variable {w : World} {n : Nat} {g : Heap} {env : Env} {ρ ρ' : List (Str × W)}

theorem Ev.mono {e : Expr} {v : V} {m : Nat} (h : Ev w m g env ρ e v) (hm : m ≤ n) : Ev w n g env ρ e v := fun A s Q E F r q => h A s Q E F (r.mono hm) q

theorem Ev.name {x : Str} {pos : Pos} {v : V} (hx : ρ.lookup x = some (.v v)) (hd : (x == ("__debug__" : Str)) = false := by decide) : Ev w n g env ρ (.Name x pos) v := by
  intro A s Q E F r q
  obtain ⟨m, f, hr⟩ := F.fr
  rcases hr x _ hx with ⟨a, val, b, c⟩ | ⟨a, c, val, b, d, e⟩
  · exact wpAny_Name (wpAny_loadName_local F.kind a f.ns b (q _ _ (keeps_refl s) c)) hd
  · rcases a with a | ⟨a, a'⟩
    · exact wpAny_Name (wpAny_loadName_cell F.kind a b d (q _ _ (keeps_refl s) e)) hd
    · exact wpAny_Name (wpAny_loadName_free F.kind a b d (q _ _ (keeps_refl s) e) a') hd

theorem Ev.int {i : Int} {k : Nat} {pos : Pos} : Ev w n g env ρ (.Constant (.int i) k pos) (.int i) := fun _ s _ _ _ _ q => wpAny_Constant_int (q _ _ (keeps_tok s _) ⟨_, rfl⟩)
theorem Ev.none {k : Nat} {pos : Pos} : Ev w n g env ρ (.Constant .none k pos) .none := fun _ s _ _ _ _ q => wpAny_Constant_none (q _ _ (keeps_refl s) rfl)
theorem Ev.bool {b : Bool} {k : Nat} {pos : Pos} : Ev w n g env ρ (.Constant (.bool b) k pos) (.bool b) := fun _ s _ _ _ _ q => wpAny_Constant_bool (q _ _ (keeps_refl s) rfl)

/-- two operands, then a rule -/
theorem Ev.bin {l r : Expr} {op : Operator} {pos : Pos} {a b : V} {v : V} (h1 : Ev w n g env ρ l a) (h2 : Ev w n g env ρ r b)
    (h : ∀ (A : Around) (s : Shared) (Q : Value → Shared → Prop) (E : Value → Shared → Prop) (x y : Value), Room n A → Rep s.heap x a → Rep s.heap y b →
      (∀ val s', Keeps s s' → Rep s'.heap val v → Q val s') → wpAny (MM w) A (binaryOp op x y) Q E s) : Ev w n g env ρ (.BinOp l op r pos) v := by
  intro A s Q E F rm q
  refine wpAny_BinOp (h1 A s _ E F rm fun x s1 k1 r1 => h2 A s1 _ E (F.sub (ksub k1)) rm fun y s2 k2 r2 => ?_)
  exact h A s2 Q E x y rm (r1.sub (ksub k2)) r2 fun val s3 k3 r3 => q val s3 (ktr k1 (ktr k2 k3)) r3

theorem Ev.add {l r : Expr} {pos : Pos} {a b : Int} (h1 : Ev w n g env ρ l (.int a)) (h2 : Ev w n g env ρ r (.int b)) : Ev w n g env ρ (.BinOp l .Add r pos) (.int (a + b)) :=
  Ev.bin h1 h2 fun _ s _ _ _ _ _ ⟨_, ha⟩ ⟨_, hb⟩ q => by subst ha; subst hb; exact PyProof.Rows.add_int (q _ _ (keeps_tok s _) ⟨_, rfl⟩)
theorem Ev.sub {l r : Expr} {pos : Pos} {a b : Int} (h1 : Ev w n g env ρ l (.int a)) (h2 : Ev w n g env ρ r (.int b)) : Ev w n g env ρ (.BinOp l .Sub r pos) (.int (a - b)) :=
  Ev.bin h1 h2 fun _ s _ _ _ _ _ ⟨_, ha⟩ ⟨_, hb⟩ q => by subst ha; subst hb; exact PyProof.Rows.sub_int (q _ _ (keeps_tok s _) ⟨_, rfl⟩)

/-- x is below 2 ^ k -/
def Bd (k : Nat) (x : Int) : Prop := x.natAbs < 2 ^ k
theorem intMulOk_of {a b : Int} (h : Bd 64 a ∨ Bd 64 b) : IntMulOk a b := by
  unfold IntMulOk
  rcases h with h | h
  · have := intBits_le h
    simp [shortFactorBits]; intro q; exact absurd q (by omega)
  · have := intBits_le h
    simp [shortFactorBits]; intro _ q; exact absurd q (by omega)

theorem Ev.mul {l r : Expr} {pos : Pos} {a b : Int} (h1 : Ev w n g env ρ l (.int a)) (h2 : Ev w n g env ρ r (.int b)) (hb : Bd 64 a ∨ Bd 64 b) : Ev w n g env ρ (.BinOp l .Mult r pos) (.int (a * b)) :=
  Ev.bin h1 h2 fun _ s _ _ _ _ _ ⟨_, ha⟩ ⟨_, hb'⟩ q => by subst ha; subst hb'; exact mul_int (q _ _ (keeps_tok s _) ⟨_, rfl⟩) (intMulOk_of hb)
theorem Ev.mod {l r : Expr} {pos : Pos} {a b : Int} (h1 : Ev w n g env ρ l (.int a)) (h2 : Ev w n g env ρ r (.int b)) (hb : 0 < b) : Ev w n g env ρ (.BinOp l .Mod r pos) (.int (a % b)) :=
  Ev.bin h1 h2 fun _ s _ _ _ _ _ ⟨_, ha⟩ ⟨_, hb'⟩ q => by
    subst ha; subst hb'
    refine mod_int' (by omega) ?_
    rw [Int.fmod_eq_emod_of_nonneg _ (Int.le_of_lt hb)]
    exact q _ _ (keeps_tok s _) ⟨_, rfl⟩
theorem Ev.fdiv {l r : Expr} {pos : Pos} {a b : Int} (h1 : Ev w n g env ρ l (.int a)) (h2 : Ev w n g env ρ r (.int b)) (hb : 0 < b) (hb2 : b < 1073741824) : Ev w n g env ρ (.BinOp l .FloorDiv r pos) (.int (a / b)) :=
  Ev.bin h1 h2 fun _ s _ _ _ _ _ ⟨_, ha⟩ ⟨_, hb'⟩ q => by
    subst ha; subst hb'
    refine floordiv_int (by omega) ?_ (.inl (PyProof.noPylong_small (by omega)))
    rw [Int.fdiv_eq_ediv_of_nonneg _ (Int.le_of_lt hb)]
    exact q _ _ (keeps_tok s _) ⟨_, rfl⟩
theorem Ev.pow {l r : Expr} {pos : Pos} {a : Int} {k : Nat} (h1 : Ev w n g env ρ l (.int a)) (h2 : Ev w n g env ρ r (.int k)) (hk : k ≤ 1000000) (hb : Bd 64 a) : Ev w n g env ρ (.BinOp l .Pow r pos) (.int (a ^ k)) :=
  Ev.bin h1 h2 fun _ s _ _ _ _ _ ⟨_, ha⟩ ⟨_, hb'⟩ q => by
    subst ha; subst hb'
    exact pow_int_small (by omega) (by omega) hb (q _ _ (keeps_tok s _) ⟨_, rfl⟩)
theorem Ev.neg {l : Expr} {pos : Pos} {a : Int} (h1 : Ev w n g env ρ l (.int a)) : Ev w n g env ρ (.UnaryOp .USub l pos) (.int (-a)) := by
  intro A s Q E F rm q
  refine wpAny_UnaryOp (h1 A s _ E F rm fun x s1 k1 ⟨_, r1⟩ => ?_)
  subst r1
  exact PyProof.Rows.neg_int (q _ _ (ktr k1 (keeps_tok s1 _)) ⟨_, rfl⟩)

theorem Ev.ifexp {t a b : Expr} {pos : Pos} {c : Bool} {v : V} (h1 : Tst w n g env ρ t c) (h2 : c = true → Ev w n g env ρ a v) (h3 : c = false → Ev w n g env ρ b v) : Ev w n g env ρ (.IfExp t a b pos) v := by
  intro A s Q E F rm q
  refine wpAny_IfExp (h1 A s _ E F rm fun s1 k1 => ?_)
  cases c with
  | true => exact h2 rfl A s1 Q E (F.sub (ksub k1)) rm fun val s2 k2 r2 => q val s2 (ktr k1 k2) r2
  | false => exact h3 rfl A s1 Q E (F.sub (ksub k1)) rm fun val s2 k2 r2 => q val s2 (ktr k1 k2) r2
end

-- L2
section
variable {w : World} {n : Nat} {g : Heap} {env : Env} {ρ ρ' : List (Str × W)}

/-- a comparison's value -/
def Cmp (w : World) (op : CmpOp) (a b : V) (c : Bool) : Prop :=
  ∀ (A : Around) (s : Shared) (Q : Value → Shared → Prop) (E : Value → Shared → Prop) (x y : Value), Room 0 A → Rep s.heap x a → Rep s.heap y b →
    (∀ s', Keeps s s' → Q (.bool c) s') → wpAny (MM w) A (compareOp op x y) Q E s

theorem Cmp.eqI {a b : Int} : Cmp w .Eq (.int a) (.int b) (a == b) := fun _ s _ _ _ _ _ ⟨_, ha⟩ ⟨_, hb⟩ q => by subst ha; subst hb; exact PyProof.Rows.eq_int (q s (keeps_refl s))
theorem Cmp.neI {a b : Int} : Cmp w .NotEq (.int a) (.int b) (a != b) := fun _ s _ _ _ _ _ ⟨_, ha⟩ ⟨_, hb⟩ q => by subst ha; subst hb; exact PyProof.Rows.ne_int (q s (keeps_refl s))
theorem Cmp.ltI {a b : Int} : Cmp w .Lt (.int a) (.int b) (decide (a < b)) := fun _ s _ _ _ _ _ ⟨_, ha⟩ ⟨_, hb⟩ q => by subst ha; subst hb; exact PyProof.Rows.lt_int (q s (keeps_refl s))
theorem Cmp.gtI {a b : Int} : Cmp w .Gt (.int a) (.int b) (decide (b < a)) := fun _ s _ _ _ _ _ ⟨_, ha⟩ ⟨_, hb⟩ q => by subst ha; subst hb; exact PyProof.Rows.gt_int (q s (keeps_refl s))
theorem Cmp.geI {a b : Int} : Cmp w .GtE (.int a) (.int b) (decide (b ≤ a)) := fun _ s _ _ _ _ _ ⟨_, ha⟩ ⟨_, hb⟩ q => by subst ha; subst hb; exact PyProof.Rows.ge_int (q s (keeps_refl s))

theorem isN_none : (Value.none == Value.none) = true := by decide
theorem isN_ref (a : Addr) : (Value.ref a == Value.none) = false := by simp
theorem Cmp.isNN : Cmp w .Is .none .none true := fun _ s _ _ _ _ _ ha hb q => by cases ha; cases hb; exact is_none (by rw [isN_none]; exact q s (keeps_refl s))
theorem Cmp.isTN {l : List Int} : Cmp w .Is (.tup l) .none false := fun _ s _ _ _ _ _ ha hb q => by
  obtain ⟨a, _, rfl, _⟩ := ha; cases hb; exact is_none (by rw [isN_ref]; exact q s (keeps_refl s))
theorem Cmp.isNotNN : Cmp w .IsNot .none .none false := fun _ s _ _ _ _ _ ha hb q => by cases ha; cases hb; exact isNot_none (by rw [isN_none]; exact q s (keeps_refl s))
theorem Cmp.isNotTN {l : List Int} : Cmp w .IsNot (.tup l) .none true := fun _ s _ _ _ _ _ ha hb q => by
  obtain ⟨a, _, rfl, _⟩ := ha; cases hb; exact isNot_none (by rw [isN_ref]; exact q s (keeps_refl s))

theorem shaped_ints (ns : List Int) : SeqAt.shaped (.tuple (ns.map PyData.int)) = true := by
  simp [SeqAt.shaped, PyData.canLay0, PyData.depth, ke_canLayAll0, ke_depthAll]
theorem reads_tup {h : Heap} {a : Addr} {vs : List Value} {ns : List Int} (ht : IsTup h a vs.toArray) (hi : IntsAre vs ns) : ∃ as, Reads h (.ref a) (.tuple (ns.map PyData.int)) as := by
  obtain ⟨o, ho, hc, k, hd⟩ := ht
  have : ∀ {vs : List Value} {ns : List Int}, IntsAre vs ns → ∃ as, ReadsAll h vs (ns.map PyData.int) as := by
    intro vs ns hi
    induction hi with
    | nil => exact ⟨_, .nil⟩
    | cons m t _ ih => obtain ⟨as, r⟩ := ih; exact ⟨_, .cons (.int m t) r⟩
  obtain ⟨as, r⟩ := this hi
  exact ⟨_, reads_tuple_at ho hc hd (by simpa using r)⟩

theorem Cmp.eqT {l m : List Int} : Cmp w .Eq (.tup l) (.tup m) (decide (l = m)) := fun A s _ _ _ _ rm ha hb q => by
  obtain ⟨a, vs, rfl, ha, hi⟩ := ha
  obtain ⟨b, us, rfl, hb, hj⟩ := hb
  obtain ⟨as, ra⟩ := reads_tup ha hi
  obtain ⟨bs, rb⟩ := reads_tup hb hj
  refine eq_dataH ra rb (shaped_ints l) (shaped_ints m) (by have := rm.units; omega) ?_
  simp only [PyData.eqv, ked_eqvAll]
  exact q s (keeps_refl s)
theorem Cmp.neT {l m : List Int} : Cmp w .NotEq (.tup l) (.tup m) (!decide (l = m)) := fun A s _ _ _ _ rm ha hb q => by
  obtain ⟨a, vs, rfl, ha, hi⟩ := ha
  obtain ⟨b, us, rfl, hb, hj⟩ := hb
  obtain ⟨as, ra⟩ := reads_tup ha hi
  obtain ⟨bs, rb⟩ := reads_tup hb hj
  refine ne_dataH ra rb (shaped_ints l) (shaped_ints m) (by have := rm.units; omega) ?_
  simp only [PyData.eqv, ked_eqvAll]
  exact q s (keeps_refl s)

theorem Ev.compare {l r : Expr} {op : CmpOp} {pos : Pos} {a b : V} {c : Bool} (h1 : Ev w n g env ρ l a) (h2 : Ev w n g env ρ r b) (h : Cmp w op a b c)
    (hm : behindInMarks op r = false := by with_unfolding_all rfl) : Ev w n g env ρ (.Compare l [op] [r] pos) (.bool c) := by
  intro A s Q E F rm q
  refine wpAny_Compare1 (h1 A s _ E F rm fun x s1 k1 r1 => h2 A s1 _ E (F.sub (ksub k1)) rm fun y s2 k2 r2 => ?_) hm
  exact h A s2 Q E x y (rm.mono (Nat.zero_le _)) (r1.sub (ksub k2)) r2 fun s3 k3 => q _ s3 (ktr k1 (ktr k2 k3)) rfl
theorem Tst.compare {l r : Expr} {op : CmpOp} {pos : Pos} {a b : V} {c : Bool} (h1 : Ev w n g env ρ l a) (h2 : Ev w n g env ρ r b) (h : Cmp w op a b c)
    (hm : behindInMarks op r = false := by with_unfolding_all rfl) : Tst w n g env ρ (.Compare l [op] [r] pos) c := by
  intro A s Q E F rm q
  refine wpAny_isTrue_Compare1 (h1 A s _ E F rm fun x s1 k1 r1 => h2 A s1 _ E (F.sub (ksub k1)) rm fun y s2 k2 r2 => ?_) hm
  exact h A s2 _ E x y (rm.mono (Nat.zero_le _)) (r1.sub (ksub k2)) r2 fun s3 k3 => wpAny_truthy_bool (q s3 (ktr k1 (ktr k2 k3)))
theorem Tst.not {x : Expr} {pos : Pos} {b : Bool} (h : Tst w n g env ρ x b) : Tst w n g env ρ (.UnaryOp .Not x pos) (!b) := by
  intro A s Q E F rm q
  exact wpAny_isTrue_Not (h A s _ E F rm q)
theorem Tst.ofInt {e : Expr} {i : Int} (h : Ev w n g env ρ e (.int i)) (he : ∀ whole, isTrue e env whole = (do let v ← whole; standAt e.pos; holding [v] (truthy v)) := by intro _; rfl) : Tst w n g env ρ e (i != 0) := by
  intro A s Q E F rm q
  refine wpAny_isTrue_value (h A s _ E F rm fun val s1 k1 r1 => ?_) (he _)
  obtain ⟨t, rfl⟩ := r1
  exact PyProof.Rows.truthy_int (q s1 k1)
theorem Tst.or2 {x y : Expr} {pos : Pos} {b c : Bool} (h : Tst w n g env ρ x b) (h' : b = false → Tst w n g env ρ y c) : Tst w n g env ρ (.BoolOp .Or [x, y] pos) (b || c) := by
  intro A s Q E F rm q
  refine wpAny_isTrue_BoolOp (wpAny_allTrue_Or_cons (h A s _ E F rm fun s1 k1 => ?_))
  cases b with
  | true => exact q s1 k1
  | false =>
    refine wpAny_allTrue_Or_cons (h' rfl A s1 _ E (F.sub (ksub k1)) rm fun s2 k2 => ?_)
    cases c with
    | true => exact q s2 (ktr k1 k2)
    | false => exact wpAny_allTrue_Or_nil (q s2 (ktr k1 k2))

theorem Evs.nil : Evs w n g env ρ [] [] := fun _ s _ _ _ _ _ q => wpAny_items_nil (q _ s (keeps_refl s) .nil)
theorem Evs.cons {e : Expr} {es : List Expr} {v : V} {vs : List V} (h1 : Ev w n g env ρ e v) (h2 : Evs w n g env ρ es vs)
    (he : starEach (e :: es) env = (false, eval e env) :: starEach es env := by rfl) : Evs w n g env ρ (e :: es) (v :: vs) := by
  intro A s Q E pos F rm q
  refine wpAny_items_cons (h1 A s _ E F rm fun x s1 k1 r1 => h2 A s1 _ E pos (F.sub (ksub k1)) rm fun vals s2 k2 r2 => ?_) he
  exact q _ s2 (ktr k1 k2) (.cons (r1.sub (ksub k2)) r2)

theorem intsAre_of {h : Heap} : ∀ {l : List Int} {vals : List Value}, Paired (fun v val => Rep h val v) (l.map V.int) vals → IntsAre vals l
  | [], _, .nil => .nil
  | _ :: _, _, .cons ⟨t, e⟩ r => by subst e; exact .cons _ t (intsAre_of r)
theorem sizeLine_big : 1000 ≤ sizeLine := by decide

theorem Ev.tuple {es : List Expr} {l : List Int} {vs : List V} {k : Nat} {pos : Pos} (h : Evs w n g env ρ es vs) (e : vs = l.map V.int) (hl : l.length ≤ 1000 := by decide) : Ev w n g env ρ (.Tuple es k pos) (.tup l) := by
  subst e
  intro A s Q E F rm q
  refine wpAny_Tuple (h A s _ E pos F rm fun vals s1 k1 r1 => ?_)
  have hi := intsAre_of r1
  have hlen : vals.length ≤ sizeLine := by have := r1.length; simp at this; have := sizeLine_big; omega
  refine ⟨hlen, q _ _ (ktr k1 (keeps_heap (sub_push _ _))) ⟨_, vals, rfl, IsTup.new _ _, hi⟩⟩
end

-- L3
theorem paired_get {α β : Type} {F : α → β → Prop} : ∀ {l : List α} {m : List β} {i : Nat} {x : α}, Paired F l m → l[i]? = some x → ∃ y, m[i]? = some y ∧ F x y
  | _, _, 0, _, .cons h _, e => by simp at e; subst e; exact ⟨_, by simp, h⟩
  | _, _, i + 1, _, .cons _ r, e => by simp at e; obtain ⟨y, h1, h2⟩ := paired_get r e; exact ⟨y, by simpa using h1, h2⟩

theorem intsAre_get : ∀ {vs : List Value} {l : List Int} {i : Nat} {x : Int}, IntsAre vs l → l[i]? = some x → ∃ t, vs[i]? = some (.int x t)
  | _, _, 0, _, .cons _ t _, e => by simp at e; subst e; exact ⟨t, by simp⟩
  | _, _, i + 1, _, .cons _ _ r, e => by simp at e; obtain ⟨y, h1⟩ := intsAre_get r e; exact ⟨y, by simpa using h1⟩
theorem intsAre_len {vs : List Value} {l : List Int} (h : IntsAre vs l) : vs.length = l.length := by
  induction h with
  | nil => rfl
  | cons _ _ _ ih => simp [ih]

def plainSlice : Expr → Bool
  | .Slice .. => false
  | _ => true
theorem subscripted_plain {e : Expr} {o i : Value} (h : plainSlice e = true) : subscripted e false o i = operate [o, i] (getItem o i) := by
  cases e <;> first | rfl | cases h

theorem RepU.rep {h : Heap} {x : Value} {v : V} (r : RepU h x v) : Rep h x v := by
  cases v with
  | list l => exact r.elim
  | _ => exact r

section
variable {w : World} {n : Nat} {g : Heap} {env : Env} {ρ ρ' : List (Str × W)}

theorem Ev.itemT {e i : Expr} {pos : Pos} {l : List Int} {k : Nat} {x : Int} (h1 : Ev w n g env ρ e (.tup l)) (h2 : Ev w n g env ρ i (.int k)) (hx : l[k]? = some x) (hk : k < 1000 := by decide)
    (hs : plainSlice i = true := by rfl) : Ev w n g env ρ (.Subscript e i pos) (.int x) := by
  intro A s Q E F rm q
  refine Subscript_ (h1 A s _ E F rm fun o s1 k1 r1 => h2 A s1 _ E (F.sub (ksub k1)) rm fun j s2 k2 r2 => ?_)
  obtain ⟨a, vs, rfl, ht, hi⟩ := r1.sub (ksub k2)
  obtain ⟨t, rfl⟩ := r2
  obtain ⟨t', hv⟩ := intsAre_get hi hx
  have hlt : k < vs.length := by
    rcases Nat.lt_or_ge k vs.length with h | h
    · exact h
    · rw [List.getElem?_eq_none h] at hv; cases hv
  refine item_tupleT (j := k) ht (by omega) (by omega) ?_ hv (q _ s2 (ktr k1 k2) ⟨t', rfl⟩) (subscripted_plain hs)
  unfold seqIndex?
  simp; omega

theorem Ev.itemL {e i : Expr} {pos : Pos} {l : List V} {k : Int} {x : V} (h1 : Ev w n g env ρ e (.list l)) (h2 : Ev w n g env ρ i (.int k)) (h0 : 0 ≤ k) (hx : l[k.toNat]? = some x) (hk : k < 2 ^ 63)
    (hs : plainSlice i = true := by rfl) : Ev w n g env ρ (.Subscript e i pos) x := by
  intro A s Q E F rm q
  refine Subscript_ (h1 A s _ E F rm fun o s1 k1 r1 => h2 A s1 _ E (F.sub (ksub k1)) rm fun j s2 k2 r2 => ?_)
  obtain ⟨a, vs, rfl, ht, hi⟩ := r1.sub (ksub k2)
  obtain ⟨t, rfl⟩ := r2
  obtain ⟨y, hy, hr⟩ := paired_get hi hx
  exact tail_any ht.typeIs slot_list_getitem.lookup (wpAny_getItem_list ht h0 hk (by simpa using hy) (q _ s2 (ktr k1 k2) hr.rep)) (subscripted_plain hs)

/-- a def of the text's -/
noncomputable abbrev KK (w : World) : Frag := hd.heap_39 w.params

theorem ev_global {x : Str} {pos : Pos} {fa : Addr} {A : Around} {s : Shared} {Q : Value → Shared → Prop} {E : Value → Shared → Prop} (F : FrameOk w g env ρ s.heap) (hg : nsIn (KK w) mainGlobals x = some (some (.ref fa)))
    (hx : env.kindOf x = some .globalImplicit) (hd : (x == ("__debug__" : Str)) = false) (h : Q (.ref fa) s) : wpAny (MM w) A (eval (.Name x pos) env) Q E s := by
  have Gs := F.g
  obtain ⟨mean, mg, mb, T⟩ := Gs.T
  refine Name_function_global F.kind hx (loadGlobal_global (mg := mg) ?_ (mg_of Gs.X (topRead_of T).g hg) h) hd
  rw [F.globals]; exact (topRead_of T).g
theorem ev_builtin {x : Str} {pos : Pos} {v : Value} {A : Around} {s : Shared} {Q : Value → Shared → Prop} {E : Value → Shared → Prop} (F : FrameOk w g env ρ s.heap) (hg : nsIn (KK w) mainGlobals x = some Option.none)
    (hb : bootBuiltins x = some v) (hn : x ≠ "__name__") (hx : env.kindOf x = some .globalImplicit) (hd : (x == ("__debug__" : Str)) = false) (h : Q v s) : wpAny (MM w) A (eval (.Name x pos) env) Q E s := by
  have Gs := F.g
  obtain ⟨mean, mg, mb, T⟩ := Gs.T
  refine Name_function_global F.kind hx (loadGlobal_builtin (mg := mg) (mb := mb) ?_ (mg_none_of Gs.X (topRead_of T).g hg) ?_ (((topRead_of T).builtins x hn).trans hb) h) hd
  · rw [F.globals]; exact (topRead_of T).g
  · rw [F.builtins]; exact (topRead_of T).b

theorem Ev.call {f : Str} {p pos : Pos} {fa : Addr} {e : Expr} {es : List Expr} {vs : List V} {v : V} (hg : nsIn (KK w) mainGlobals f = some (some (.ref fa))) (hk : keepIn (KK w) (.ref fa) = true)
    (hx : env.kindOf f = some .globalImplicit) (ha : Evs w n g env ρ (e :: es) vs) (hc : Cal w n (.ref fa) vs v) (hd : (f == ("__debug__" : Str)) = false := by decide)
    (he : starEach (e :: es) env = (false, eval e env) :: starEach es env := by rfl) (hp : (backTo pos (starEach es env)).any (·.1) = false := by rfl) : Ev w n g env ρ (.Call (.Name f p) (e :: es) [] pos) v := by
  intro A s Q E F rm q
  refine Call_Name rfl (ev_global F hg hx hd ?_)
  refine callWith_K (h₀ := s.heap) F.g.X hk (ha A s _ E pos F rm fun vals s1 k1 r1 => ?_) he hp
  exact ⟨F.g.X.keeps (ksub k1), hc A s1 Q E vals (F.g.sub (ksub k1)) rm r1 fun val s2 k2 r2 => q val s2 (ktr k1 k2) r2⟩
theorem Ev.call0 {f : Str} {p pos : Pos} {fa : Addr} {v : V} (hg : nsIn (KK w) mainGlobals f = some (some (.ref fa))) (hk : keepIn (KK w) (.ref fa) = true)
    (hx : env.kindOf f = some .globalImplicit) (hc : Cal w n (.ref fa) [] v) (hd : (f == ("__debug__" : Str)) = false := by decide) : Ev w n g env ρ (.Call (.Name f p) [] [] pos) v := by
  intro A s Q E F rm q
  refine Call_Name rfl (ev_global F hg hx hd ?_)
  refine callWith_K0 F.g.X hk ?_
  exact hc A s Q E [] F.g rm .nil q
theorem Ev.builtin {f : Str} {p pos : Pos} {id : String} {e : Expr} {es : List Expr} {vs : List V} {v : V} (hg : nsIn (KK w) mainGlobals f = some Option.none) (hb : bootBuiltins f = some (.builtin id)) (hn : f ≠ "__name__")
    (hx : env.kindOf f = some .globalImplicit) (ha : Evs w n g env ρ (e :: es) vs) (hc : Cal w n (.builtin id) vs v) (hd : (f == ("__debug__" : Str)) = false := by decide)
    (he : starEach (e :: es) env = (false, eval e env) :: starEach es env := by rfl) (hp : (backTo pos (starEach es env)).any (·.1) = false := by rfl) : Ev w n g env ρ (.Call (.Name f p) (e :: es) [] pos) v := by
  intro A s Q E F rm q
  refine Call_Name rfl (ev_builtin F hg hb hn hx hd ?_)
  refine callWith_builtin1 (ha A s _ E pos F rm fun vals s1 k1 r1 => ?_) he hp
  exact hc A s1 Q E vals (F.g.sub (ksub k1)) rm r1 fun val s2 k2 r2 => q val s2 (ktr k1 k2) r2

/-- statements -/
theorem Exs.nil : Exs w n g env ρ [] (.next ρ) := fun _ s _ _ F _ q => wpAny_execs_nil (q _ s (after_refl s) ⟨rfl, F⟩)
theorem Exs.cons {st : Stmt} {rest : List Stmt} {ρ1 : List (Str × W)} {o : Out} (h1 : Ex w n g env ρ st (.next ρ1)) (h2 : Exs w n g env ρ1 rest o) : Exs w n g env ρ (st :: rest) o := by
  intro A s Q E F rm q
  refine wpAny_execs_cons (h1 A s _ E F rm fun fl s1 k1 e => ?_)
  obtain ⟨rfl, F1⟩ := e
  exact h2 A s1 Q E F1 rm fun fl s2 k2 e2 => q fl s2 (k1.trans k2) e2
theorem Exs.ret {st : Stmt} {rest : List Stmt} {v : V} (h1 : Ex w n g env ρ st (.ret v)) : Exs w n g env ρ (st :: rest) (.ret v) := by
  intro A s Q E F rm q
  refine wpAny_execs_cons (h1 A s _ E F rm fun fl s1 k1 e => ?_)
  obtain ⟨⟨val, rfl, r⟩, F1⟩ := e
  exact q _ s1 k1 ⟨⟨val, rfl, r⟩, F1⟩
theorem FrameOk.nil {h : Heap} (F : FrameOk w g env ρ h) : FrameOk w g env [] h := F.weaken fun _ _ e => by simp at e
theorem Ex.return {e : Expr} {pos : Pos} {v : V} (h : Ev w n g env ρ e v) : Ex w n g env ρ (.Return (some e) pos) (.ret v) := by
  intro A s Q E F rm q
  refine wpAny_Return_some (h A s _ E F rm fun val s1 k1 r1 => ?_)
  exact q _ s1 (kafter k1) ⟨⟨val, rfl, r1⟩, (F.sub (ksub k1)).nil⟩
theorem Ex.ite {t : Expr} {body orelse : List Stmt} {pos : Pos} {b : Bool} {o : Out} (h : Tst w n g env ρ t b) (h1 : b = true → Exs w n g env ρ body o) (h2 : b = false → Exs w n g env ρ orelse o) : Ex w n g env ρ (.If t body orelse pos) o := by
  intro A s Q E F rm q
  refine wpAny_If (h A s _ E F rm fun s1 k1 => ?_)
  cases b with
  | true => exact h1 rfl A s1 Q E (F.sub (ksub k1)) rm fun fl s2 k2 e => q fl s2 ((kafter k1).trans k2) e
  | false => exact h2 rfl A s1 Q E (F.sub (ksub k1)) rm fun fl s2 k2 e => q fl s2 ((kafter k1).trans k2) e
/-- an if that returns, then the rest -/
theorem Exs.ifRet {t : Expr} {body : List Stmt} {pos : Pos} {rest : List Stmt} {b : Bool} {v : V} (h : Tst w n g env ρ t b) (h1 : b = true → Exs w n g env ρ body (.ret v)) (h2 : b = false → Exs w n g env ρ rest (.ret v)) :
    Exs w n g env ρ (.If t body [] pos :: rest) (.ret v) := by
  cases b with
  | true => exact Exs.ret (Ex.ite h h1 fun e => by cases e)
  | false => exact Exs.cons (Ex.ite h (fun e => by cases e) fun _ => Exs.nil) (h2 rfl)

theorem stay_of_ext {L : Addr} {h h' : Heap} {m : Str → Option Value} (hn : h.Ns L m) (hs : Heap.ExtBut L h h') : Seqs h h' := fun b o items k hd e => by
  refine hs b o ?_ e
  rintro rfl
  obtain ⟨o', es, ep, ho, hd', _⟩ := hn
  rw [e] at ho; cases ho; rw [hd] at hd'; cases hd'

theorem stay_of_same {L : Addr} {h h' : Heap} {m : Str → Option Value} (hn : h.Ns L m) (hs : Heap.SameBut L h h') : Seqs h h' := stay_of_ext hn hs.extBut

theorem lookup_cons_eq {β : Type} {ρ : List (Str × β)} {x y : Str} {v : β} : List.lookup x ((y, v) :: ρ) = if x = y then some v else List.lookup x ρ := by
  rw [List.lookup_cons]
  by_cases h : x = y
  · subst h; simp
  · have : (x == y) = false := by simpa using h
    simp [this, h]

theorem VarOk.storeE {x y : Str} {u : W} {val : Value} {h h' : Heap} {m : Str → Option Value} (f : Fr g env.locals h m) (hu : VarOk g env m h y u) (hy : y ≠ x) (hs : Heap.ExtBut env.locals h h') : VarOk g env (fun y => if y = x then some val else m y) h' y u := by
  have st := stay_of_ext f.ns hs
  cases u with
  | v u =>
    rcases hu with ⟨a, val', b, c⟩ | ⟨a, c, val', b, d, e'⟩
    · exact .inl ⟨a, val', by simp [hy, b], c.seqs st⟩
    · obtain ⟨o, ho, hd⟩ := d
      refine .inr ⟨a, c, val', b, ⟨o, hs c o ?_ ho, hd⟩, e'.seqs st⟩
      rintro rfl
      obtain ⟨o', es, ep, ho', hd', _⟩ := f.ns
      rw [ho] at ho'; cases ho'; rw [hd] at hd'; cases hd'
  | olist l =>
    obtain ⟨a, D, b, c, d, e⟩ := hu
    exact ⟨a, D, by simp [hy, b], c, d, e.extBut hs c fun b o _ _ _ hd q => st b o _ _ hd q⟩
  | odict dd n =>
    obtain ⟨a, D, b, c, d, e⟩ := hu
    exact ⟨a, D, by simp [hy, b], c, d, e.extBut hs c⟩
  | unset =>
    obtain ⟨a, c, b, d, e, o, ho, hd⟩ := hu
    exact ⟨a, c, b, d, e, o, hs c o d ho, hd⟩

theorem VarOk.store {x y : Str} {u : W} {val : Value} {h h' : Heap} {m : Str → Option Value} (f : Fr g env.locals h m) (hu : VarOk g env m h y u) (hy : y ≠ x) (hs : Heap.SameBut env.locals h h') : VarOk g env (fun y => if y = x then some val else m y) h' y u :=
  VarOk.storeE f hu hy hs.extBut

theorem FrameOk.store {x : Str} {v : V} {val : Value} {h h' : Heap} {m : Str → Option Value} (F : FrameOk w g env ρ h) (f : Fr g env.locals h m) (hm : ∀ x v, ρ.lookup x = some v → VarOk g env m h x v) (hl : env.kindOf x = some .local) (r : Rep h val v)
    (hn : h'.Ns env.locals (fun y => if y = x then some val else m y)) (hs : Heap.SameBut env.locals h h') : FrameOk w g env ((x, .v v) :: ρ) h' := by
  have st := stay_of_same f.ns hs
  refine ⟨F.kind, F.globals, F.builtins, F.gg, _, f.set hn hs, fun y u e => ?_⟩
  rw [lookup_cons_eq] at e
  by_cases hy : y = x
  · subst hy
    rw [if_pos rfl] at e; cases e
    exact .inl ⟨hl, val, by simp, r.seqs st⟩
  · rw [if_neg hy] at e
    exact VarOk.store f (hm y u e) hy hs

theorem st_name {x : Str} {v : V} {val : Value} {A : Around} {s : Shared} {Q : Unit → Shared → Prop} {E : Value → Shared → Prop} (F : FrameOk w g env ρ s.heap) (hl : env.kindOf x = some .local) (r : Rep s.heap val v)
    (q : ∀ s', After env.locals s s' → FrameOk w g env ((x, .v v) :: ρ) s'.heap → Seqs s.heap s'.heap → Q () s') : wpAny (MM w) A (storeName env x val) Q E s := by
  obtain ⟨m, f, hm⟩ := F.fr
  refine wpAny_storeName_local hl f.ns (fun h' hn hs => q _ ⟨_, _, rfl, fun b o n _ _ e => hs.extBut b o n e⟩ (F.store f hm hl r hn hs) (stay_of_same f.ns hs)) ?_
  rw [F.kind]; rfl

theorem Ex.assign {x : Str} {p pos : Pos} {value : Expr} {v : V} (h : Ev w n g env ρ value v) (hl : env.kindOf x = some .local) (hs : swapsWith value (some (.Name x p)) pos.line env = pure false := by rfl) :
    Ex w n g env ρ (.Assign [.Name x p] value pos) (.next ((x, .v v) :: ρ)) := by
  intro A s Q E F rm q
  refine wpAny_Assign_Name (h A s _ E F rm fun val s1 k1 r1 => ?_) hs
  exact st_name (F.sub (ksub k1)) hl r1 fun s2 k2 F2 _ => q _ s2 ((kafter k1).trans k2) ⟨rfl, F2⟩

def namesOf : List Expr → Option (List Str)
  | [] => some []
  | .Name x _ :: r => (namesOf r).map (x :: ·)
  | _ => none
def stMany : List Str → List V → List (Str × W) → List (Str × W)
  | x :: xs, v :: vs, ρ => stMany xs vs ((x, .v v) :: ρ)
  | _, _, ρ => ρ

theorem sts_names {A : Around} {E : Value → Shared → Prop} : ∀ (xs : List Str) (vs : List V) (vals : List Value) (ts : List (Value → Sem Unit)) (ρ : List (Str × W)) (s : Shared) (Q : Unit → Shared → Prop),
    Paired (fun (x : Str) (t : Value → Sem Unit) => ∀ (s : Shared) (Q : Unit → Shared → Prop) val, wpAny (MM w) A (storeName env x val) Q E s → wpAny (MM w) A (t val) Q E s) xs ts →
    xs.length = vs.length → Paired (fun v val => Rep s.heap val v) vs vals → (∀ x ∈ xs, env.kindOf x = some .local) → FrameOk w g env ρ s.heap →
    (∀ s', After env.locals s s' → FrameOk w g env (stMany xs vs ρ) s'.heap → Q () s') → wpAny (MM w) A (assignInOrder ts vals) Q E s
  | [], vs, vals, ts, ρ, s, Q, ht, hl, hp, hx, F, q => by
    cases ht
    have : vs = [] := by cases vs with | nil => rfl | cons _ _ => simp at hl
    subst this
    cases hp
    exact wpAny_pure (q s (after_refl s) F)
  | x :: xs, vs, vals, ts, ρ, s, Q, ht, hl, hp, hx, F, q => by
    cases hp with
    | nil => simp at hl
    | cons r hp =>
      rename_i v val vs vals
      cases ht with
      | cons t ht =>
        refine wpAny_bind (wpAny_holding (t _ _ _ (st_name F (hx x (.head _)) r fun s1 k1 F1 st => ?_)))
        exact sts_names xs vs vals _ _ s1 Q ht (by simpa using hl) (Paired.imp (fun _ _ q => q.seqs st) hp) (fun y hy => hx y (.tail _ hy)) F1 fun s2 k2 F2 => q s2 (k1.trans k2) F2

theorem targets_of {A : Around} {E : Value → Shared → Prop} : ∀ {elts : List Expr} {xs : List Str}, namesOf elts = some xs →
    Paired (fun (x : Str) (t : Value → Sem Unit) => ∀ (s : Shared) (Q : Unit → Shared → Prop) val, wpAny (MM w) A (storeName env x val) Q E s → wpAny (MM w) A (t val) Q E s) xs ((assignEach elts env).map (·.2)) ∧ (assignEach elts env).length = xs.length ∧ (assignEach elts env).findIdx? (·.1) = none
  | [], xs, e => by cases e; exact ⟨.nil, rfl, rfl⟩
  | .Name x p :: r, xs, e => by
    unfold namesOf at e
    cases hr : namesOf r with
    | none => rw [hr] at e; cases e
    | some ys =>
      rw [hr] at e; cases e
      obtain ⟨a, b, c⟩ := targets_of hr
      have he : assignEach (.Name x p :: r) env = (false, assign (.Name x p) env) :: assignEach r env := rfl
      rw [he]
      exact ⟨.cons (fun s Q val h => assign_Name h) a, by simp [b], by simp [List.findIdx?_cons, c]⟩
  | .Constant .. :: _, xs, e | .Attribute .. :: _, xs, e | .BoolOp .. :: _, xs, e | .NamedExpr .. :: _, xs, e | .BinOp .. :: _, xs, e | .UnaryOp .. :: _, xs, e | .Lambda .. :: _, xs, e | .IfExp .. :: _, xs, e | .Dict .. :: _, xs, e
  | .Set .. :: _, xs, e | .ListComp .. :: _, xs, e | .SetComp .. :: _, xs, e | .DictComp .. :: _, xs, e | .GeneratorExp .. :: _, xs, e | .Await .. :: _, xs, e | .Yield .. :: _, xs, e | .YieldFrom .. :: _, xs, e | .Compare .. :: _, xs, e
  | .Call .. :: _, xs, e | .FormattedValue .. :: _, xs, e | .JoinedStr .. :: _, xs, e | .Subscript .. :: _, xs, e | .Starred .. :: _, xs, e | .List .. :: _, xs, e | .Tuple .. :: _, xs, e | .Slice .. :: _, xs, e => by cases e

theorem paired_ints {h : Heap} : ∀ {vs : List Value} {l : List Int}, IntsAre vs l → Paired (fun v val => Rep h val v) (l.map V.int) vs
  | _, _, .nil => .nil
  | _, _, .cons _ t r => .cons ⟨t, rfl⟩ (paired_ints r)

theorem extBut_sub {h h' : Heap} (e : Heap.ExtBut h.objs.size h h') : Sub h h' := fun b o x => e b o (Nat.ne_of_lt (Heap.lt_size x)) x

theorem Ex.unpackT {elts : List Expr} {k : Nat} {tpos pos : Pos} {value : Expr} {l : List Int} {xs : List Str} (h : Ev w n g env ρ value (.tup l)) (hx : namesOf elts = some xs) (hlen : xs.length = l.length)
    (hl : ∀ x ∈ xs, env.kindOf x = some .local) (hs : swapsWithSole [.Tuple elts k tpos] value pos.line env = pure false := by rfl)
    (hw : swappedStores [.Tuple elts k tpos] value env = pure none := by rfl) : Ex w n g env ρ (.Assign [.Tuple elts k tpos] value pos) (.next (stMany xs (l.map V.int) ρ)) := by
  intro A s Q E F rm q
  obtain ⟨ht, hn, hstar⟩ := targets_of (w := w) (A := A) (E := E) (env := env) hx
  refine Assign_Tuple (h A s _ E F rm fun val s1 k1 r1 => ?_) hs hw
  obtain ⟨a, vs, rfl, htup, hi⟩ := r1
  refine assign_Tuple_tuple rm.handled htup (by rw [hn, hlen, List.size_toArray, intsAre_len hi]) hstar fun h' he => ?_
  have sb := extBut_sub he
  have k2 : Keeps s1 { s1 with heap := h' } := keeps_heap sb
  refine sts_names xs (l.map V.int) vs _ ρ _ _ ht (by simpa using hlen) (paired_ints hi) hl ((F.sub (ksub k1)).sub sb) fun s3 k3 F3 => ?_
  exact q _ s3 ((kafter k1).trans ((kafter k2).trans k3)) ⟨rfl, F3⟩

theorem intsAre_app {a b : List Value} {c d : List Int} (h1 : IntsAre a c) (h2 : IntsAre b d) : IntsAre (a ++ b) (c ++ d) := by
  induction h1 with
  | nil => exact h2
  | cons n t _ ih => exact .cons n t ih
theorem intsAre_rev {vs : List Value} {l : List Int} (h : IntsAre vs l) : IntsAre vs.reverse l.reverse := by
  induction h with
  | nil => exact .nil
  | cons n t _ ih => simpa using intsAre_app ih (.cons n t .nil)

theorem Ex.unpackS {elts : List Expr} {k : Nat} {tpos pos : Pos} {value : Expr} {l : List Int} {xs : List Str} (h : Ev w n g env ρ value (.tup l)) (hlen : xs.length = l.length)
    (hl : ∀ x ∈ xs, env.kindOf x = some .local) (hs : swapsWithSole [.Tuple elts k tpos] value pos.line env = pure false)
    (hw : swappedStores [.Tuple elts k tpos] value env = pure (some xs)) : Ex w n g env ρ (.Assign [.Tuple elts k tpos] value pos) (.next (stMany xs.reverse (l.reverse.map V.int) ρ)) := by
  intro A s Q E F rm q
  refine Assign_Tuple_swapped (h A s _ E F rm fun val s1 k1 r1 => ?_) hs hw
  obtain ⟨a, vs, rfl, htup, hi⟩ := r1
  have hsz : xs.length = vs.toArray.size := by rw [List.size_toArray, intsAre_len hi, hlen]
  rw [hsz]
  refine unpackItems_tuple rm.handled htup fun h' he => ?_
  have sb := extBut_sub he
  have k2 : Keeps s1 { s1 with heap := h' } := keeps_heap sb
  have hrev := intsAre_rev hi
  have tp : ∀ xs : List Str, Paired (fun (x : Str) (t : Value → Sem Unit) => ∀ (s : Shared) (Q : Unit → Shared → Prop) val, wpAny (MM w) A (storeName env x val) Q E s → wpAny (MM w) A (t val) Q E s) xs (xs.map fun n => bindName env n) := by
    intro xs
    induction xs with
    | nil => exact .nil
    | cons x xs ih => exact .cons (fun s Q val h => wpAny_bindName h) ih
  refine sts_names xs.reverse (l.reverse.map V.int) vs.reverse _ ρ _ _ (tp _) (by simpa using hlen) (paired_ints hrev) (fun x hx => hl x (by simpa using hx)) ((F.sub (ksub k1)).sub sb) fun s3 k3 F3 => ?_
  exact q _ s3 ((kafter k1).trans ((kafter k2).trans k3)) ⟨rfl, F3⟩
end

-- L4
section
variable {w : World} {n : Nat} {g : Heap} {env : Env} {ρ ρ' : List (Str × W)}

/-- a while, turn by turn -/
def Wh (w : World) (n : Nat) (g : Heap) (env : Env) (ρ : List (Str × W)) (test : Expr) (body : List Stmt) (o : Out) : Prop :=
  ∀ (A : Around) (s : Shared) (R : Result → Shared → Prop), FrameOk w g env ρ s.heap → Room n A →
    (∀ fl s', After env.locals s s' → Ends w g env o fl s' → R (.ok fl) s') → codeAny (MM w) A (.whileLoop test body [] env) R s

theorem wh_step {test : Expr} {body : List Stmt} {A : Around} {s : Shared} {R : Result → Shared → Prop} {b : Bool} (F : FrameOk w g env ρ s.heap) (rm : Room n A) (h : Tst w n g env ρ test b)
    (h1 : ∀ s', Keeps s s' → if b then (∀ E, wpAny (MM w) A (execs body env) (fun f s₃ => match f with
            | .next | .cont => codeAny (MM w) A (.whileLoop test body [] env) R s₃
            | .brk => R (.ok .next) s₃
            | .ret v => R (.ok (.ret v)) s₃) E s') else R (.ok .next) s') : codeAny (MM w) A (.whileLoop test body [] env) R s := by
  refine codeAny_of_tree ?_
  show wpAny _ A ((whileTurn test body [] env).onRaise (fun x => do noteFrame x env; theTreesLotGoes x)) _ _ s
  refine wpAny_noted ?_
  simp only [whileTurn]
  refine wpAny_bind (h A s _ _ F rm fun s1 k1 => ?_)
  have h1 := h1 s1 k1
  cases b with
  | false =>
    simp only [Bool.false_eq_true, if_false] at h1 ⊢
    exact wpAny_bind (wpAny_execs_nil (wpAny_pure h1))
  | true =>
    simp only [if_true] at h1 ⊢
    refine wpAny_bind (wpAny_mono (h1 _) (fun f s₃ h₃ => ?_) fun _ _ h' => h')
    cases f with
    | next => exact wpAny_pure ⟨rfl, h₃⟩
    | cont => exact wpAny_pure ⟨rfl, h₃⟩
    | brk => exact wpAny_pure h₃
    | ret v => exact wpAny_pure h₃

theorem Wh.stop {test : Expr} {body : List Stmt} (h : Tst w n g env ρ test false) : Wh w n g env ρ test body (.next ρ) := by
  intro A s R F rm q
  refine wh_step F rm h fun s1 k1 => ?_
  simp only [Bool.false_eq_true, if_false]
  exact q _ s1 (kafter k1) ⟨rfl, F.sub (ksub k1)⟩
theorem Wh.turn {test : Expr} {body : List Stmt} {ρ1 : List (Str × W)} {o : Out} (h : Tst w n g env ρ test true) (h1 : Exs w n g env ρ body (.next ρ1)) (h2 : Wh w n g env ρ1 test body o) : Wh w n g env ρ test body o := by
  intro A s R F rm q
  refine wh_step F rm h fun s1 k1 => ?_
  simp only [if_true]
  intro E
  refine h1 A s1 _ E (F.sub (ksub k1)) rm fun fl s2 k2 e => ?_
  obtain ⟨rfl, F2⟩ := e
  exact h2 A s2 R F2 rm fun fl s3 k3 e3 => q fl s3 ((kafter k1).trans (k2.trans k3)) e3
theorem Wh.weaken {test : Expr} {body : List Stmt} {o : Out} (h : Wh w n g env ρ' test body o) (k : ∀ x v, ρ'.lookup x = some v → ρ.lookup x = some v) : Wh w n g env ρ test body o :=
  fun A s R F rm q => h A s R (F.weaken k) rm q
theorem Ex.while {test : Expr} {body : List Stmt} {pos : Pos} {o : Out} (h : Wh w n g env ρ test body o) : Ex w n g env ρ (.While test body [] pos) o := by
  intro A s Q E F rm q
  exact wpAny_While (h A s _ F rm fun fl s' k e => q fl s' k e)
theorem Exs.weaken {body : List Stmt} {o : Out} (h : Exs w n g env ρ' body o) (k : ∀ x v, ρ'.lookup x = some v → ρ.lookup x = some v) : Exs w n g env ρ body o :=
  fun A s R E F rm q => h A s R E (F.weaken k) rm q
theorem weaken_of : ∀ {ρ' ρ : List (Str × W)}, (∀ p ∈ ρ', ρ.lookup p.1 = some p.2) → ∀ x v, ρ'.lookup x = some v → ρ.lookup x = some v
  | [], _, _, _, _, e => by simp at e
  | p :: r, ρ, h, x, v, e => by
    rw [lookup_cons_eq] at e
    by_cases hx : x = p.1
    · rw [if_pos hx] at e; cases e; rw [hx]; exact h p (.head _)
    · rw [if_neg hx] at e; exact weaken_of (fun q hq => h q (.tail _ hq)) x v e

theorem lookup_reverse_nodup {β : Type} {x : Str} : ∀ {l : List (Str × β)}, (l.map (·.1)).Nodup → l.reverse.lookup x = l.lookup x
  | [], _ => rfl
  | p :: l, h => by
    rw [List.map_cons, List.nodup_cons] at h
    rw [List.reverse_cons, List.lookup_append, lookup_reverse_nodup h.2]
    by_cases hx : x = p.1
    · have : l.lookup x = none := by
        rw [List.lookup_eq_none_iff]
        intro q hq
        simp only [bne_iff_ne, ne_eq]
        rintro rfl
        exact h.1 (by rw [← hx]; exact List.mem_map_of_mem hq)
      rw [this]
      obtain ⟨a, b⟩ := p
      simp only at hx; subst hx
      simp
    · obtain ⟨a, b⟩ := p
      have hb : (x == a) = false := by simpa using hx
      simp [List.lookup_cons, hb]
theorem zip_lookup {h : Heap} {x : Str} : ∀ {xs : List Str} {vs : List V} {vals : List Value} {v : W}, Paired (fun v val => Rep h val v) vs vals → (xs.zip (vs.map W.v)).lookup x = some v → ∃ v', v = .v v' ∧ ∃ val, (xs.zip vals).lookup x = some val ∧ Rep h val v'
  | [], _, _, _, _, e => by simp at e
  | y :: xs, _, _, _, .nil, e => by simp at e
  | y :: xs, _, _, v, .cons r p, e => by
    rw [List.map_cons, List.zip_cons_cons, lookup_cons_eq] at e
    rw [List.zip_cons_cons, List.lookup_cons]
    by_cases hx : x = y
    · rw [if_pos hx] at e; cases e; subst hx; exact ⟨_, rfl, _, by simp, r⟩
    · rw [if_neg hx] at e
      have hb : (x == y) = false := by simpa using hx
      rw [hb]; exact zip_lookup p e
theorem zip_keys {β : Type} : ∀ (xs : List Str) (vs : List β), xs.length = vs.length → (xs.zip vs).map (·.1) = xs
  | [], _, _ => by simp
  | x :: xs, [], h => by simp at h
  | x :: xs, v :: vs, h => by simp [zip_keys xs vs (by simpa using h)]
theorem zip_lookup_mem {β : Type} {x : Str} {v : β} : ∀ {xs : List Str} {vs : List β}, (xs.zip vs).lookup x = some v → x ∈ xs
  | [], _, e => by simp at e
  | y :: xs, [], e => by simp at e
  | y :: xs, u :: vs, e => by
    rw [List.zip_cons_cons, List.lookup_cons] at e
    by_cases hx : x = y
    · exact hx ▸ .head _
    · have hb : (x == y) = false := by simpa using hx
      rw [hb] at e; exact .tail _ (zip_lookup_mem e)

/-- a def without cells -/
theorem Cal.fn {name qual : Str} {params : Arguments} {body : List Stmt} {scope : Scope} {dV kV doc pm cdv ct oc : Value} {an od : Option Addr} {osl : Array (Option Value)} {f : Addr} {args : List V} {xs : List Str} {v : V}
    (ho : (KK w).lookup f = some ⟨oc, od, .func (fnOf name qual params body scope dV kV doc pm an cdv ct), osl⟩) (hcd : codeIn (KK w) cdv qual = true)
    (hlen : xs.length = args.length) (hnd : xs.Nodup)
    (hbind : ∀ vals : List Value, vals.length = xs.length → bindArgs (fnOf name qual params body scope dV kV doc pm an cdv ct) ⟨vals, []⟩ = pure (xs.zip vals))
    (hloc : ∀ x ∈ xs, scope.names.lookup x = some .local)
    (h : ∀ g L, Exs w n g (envOf qual scope L f cdv) (xs.zip (args.map W.v)) body (.ret v))
    (hco : scope.isCoroutine = false := by rfl) (hgen : scope.isGenerator = false := by rfl) (hk : scope.kind = .function := by rfl)
    (hcell : ∀ x ∈ scope.names, x.2 ≠ .cell := by decide) : Cal w (n + 1) (.ref f) args v := by
  intro A s Q E vals Gs rm hp q
  have hvl : xs.length = vals.length := hlen.trans hp.length
  obtain ⟨mean, mg, mb, T⟩ := Gs.T
  refine wpAny_call (codeAny_call_def (fd := fnOf name qual params body scope dV kV doc pm an cdv ct) (body := body) (binds := xs.zip vals) (by have := rm.depth; omega) (Gs.X _ _ ho) rfl T.nolimit (codeRec_of Gs.X hcd) rfl
    (BindsTo.of_eq (hbind vals hvl.symm)) hcell (fun x hx => hloc x.1 (List.of_mem_zip hx).1) (fun h₁ hns hk₁ => ?_) hco hgen hk)
  have hnd' : ((xs.zip vals).map (·.1)).Nodup := by rw [zip_keys xs vals hvl]; exact hnd
  have F : FrameOk w s.heap (envOf qual scope s.heap.objs.size f cdv) (xs.zip (args.map W.v)) h₁ := by
    refine ⟨hk, rfl, rfl, Gs, _, ⟨hns, hk₁, Nat.le_refl _⟩, fun x v e => ?_⟩
    obtain ⟨v', rfl, val, e1, r⟩ := zip_lookup hp e
    exact .inl ⟨hloc x (zip_lookup_mem e), val, (lookup_reverse_nodup hnd').trans e1, r.sub hk₁⟩
  refine h s.heap s.heap.objs.size (A.deeper (envOf qual scope s.heap.objs.size f cdv)) { s with heap := h₁, toks := s.toks + (xs.zip vals).length } _ _ F rm.deeper fun fl s' k e => ?_
  obtain ⟨⟨val, rfl, r⟩, F'⟩ := e
  obtain ⟨h', tk, rfl, _⟩ := k
  obtain ⟨m', f', _⟩ := F'.fr
  exact q val _ ⟨h', tk, rfl, f'.keep⟩ r

theorem Cal.mono {m : Nat} {f : Value} {args : List V} {v : V} (h : Cal w m f args v) (hm : m ≤ n) : Cal w n f args v := fun A s Q E vals Gs rm hp q => h A s Q E vals Gs (rm.mono hm) hp q
end

theorem len1 {α : Type} {l : List α} (h : l.length = 1) : ∃ a, l = [a] := by match l, h with | [a], _ => exact ⟨a, rfl⟩
theorem len2 {α : Type} {l : List α} (h : l.length = 2) : ∃ a b, l = [a, b] := by match l, h with | [a, b], _ => exact ⟨a, b, rfl⟩
theorem len3 {α : Type} {l : List α} (h : l.length = 3) : ∃ a b c, l = [a, b, c] := by match l, h with | [a, b, c], _ => exact ⟨a, b, c, rfl⟩
theorem len4 {α : Type} {l : List α} (h : l.length = 4) : ∃ a b c d, l = [a, b, c, d] := by match l, h with | [a, b, c, d], _ => exact ⟨a, b, c, d, rfl⟩


section
variable {w : World} {n : Nat} {g : Heap} {env : Env} {ρ ρ' : List (Str × W)}
theorem Ev.pow2 {l : Expr} {pos p : Pos} {k : Nat} {a : Int} (h1 : Ev w n g env ρ l (.int a)) (hb : Bd 64 a) : Ev w n g env ρ (.BinOp l .Pow (.Constant (.int 2) k p) pos) (.int (a ^ 2)) := Ev.pow (k := 2) h1 Ev.int (by decide) hb
theorem Ev.pow3 {l : Expr} {pos p : Pos} {k : Nat} {a : Int} (h1 : Ev w n g env ρ l (.int a)) (hb : Bd 64 a) : Ev w n g env ρ (.BinOp l .Pow (.Constant (.int 3) k p) pos) (.int (a ^ 3)) := Ev.pow (k := 3) h1 Ev.int (by decide) hb
theorem Ev.pow4 {l : Expr} {pos p : Pos} {k : Nat} {a : Int} (h1 : Ev w n g env ρ l (.int a)) (hb : Bd 64 a) : Ev w n g env ρ (.BinOp l .Pow (.Constant (.int 4) k p) pos) (.int (a ^ 4)) := Ev.pow (k := 4) h1 Ev.int (by decide) hb
theorem Ev.item0 {e : Expr} {pos p : Pos} {k : Nat} {a : Int} {l : List Int} (h1 : Ev w n g env ρ e (.tup (a :: l))) : Ev w n g env ρ (.Subscript e (.Constant (.int 0) k p) pos) (.int a) := Ev.itemT (k := 0) h1 Ev.int rfl
theorem Ev.item1 {e : Expr} {pos p : Pos} {k : Nat} {a b : Int} {l : List Int} (h1 : Ev w n g env ρ e (.tup (a :: b :: l))) : Ev w n g env ρ (.Subscript e (.Constant (.int 1) k p) pos) (.int b) := Ev.itemT (k := 1) h1 Ev.int rfl
theorem Ev.item2 {e : Expr} {pos p : Pos} {k : Nat} {a b c : Int} {l : List Int} (h1 : Ev w n g env ρ e (.tup (a :: b :: c :: l))) : Ev w n g env ρ (.Subscript e (.Constant (.int 2) k p) pos) (.int c) := Ev.itemT (k := 2) h1 Ev.int rfl

def notStar : Expr → Bool
  | .Starred .. => false
  | _ => true
theorem starEach_plain {e : Expr} {es : List Expr} (h : notStar e = true) : starEach (e :: es) env = (false, eval e env) :: starEach es env := by
  cases e <;> first | rfl | cases h
theorem Ev.tup2 {a b : Expr} {k : Nat} {pos : Pos} {x y : Int} (h1 : Ev w n g env ρ a (.int x)) (h2 : Ev w n g env ρ b (.int y)) (s1 : notStar a = true) (s2 : notStar b = true) : Ev w n g env ρ (.Tuple [a, b] k pos) (.tup [x, y]) :=
  Ev.tuple (l := [x, y]) (Evs.cons h1 (Evs.cons h2 Evs.nil (starEach_plain s2)) (starEach_plain s1)) rfl (Nat.le_of_ble_eq_true rfl)
theorem Ev.tup3 {a b c : Expr} {k : Nat} {pos : Pos} {x y z : Int} (h1 : Ev w n g env ρ a (.int x)) (h2 : Ev w n g env ρ b (.int y)) (h3 : Ev w n g env ρ c (.int z)) (s1 : notStar a = true) (s2 : notStar b = true) (s3 : notStar c = true) : Ev w n g env ρ (.Tuple [a, b, c] k pos) (.tup [x, y, z]) :=
  Ev.tuple (l := [x, y, z]) (Evs.cons h1 (Evs.cons h2 (Evs.cons h3 Evs.nil (starEach_plain s3)) (starEach_plain s2)) (starEach_plain s1)) rfl (Nat.le_of_ble_eq_true rfl)
theorem Ev.tup4 {a b c d : Expr} {k : Nat} {pos : Pos} {x y z u : Int} (h1 : Ev w n g env ρ a (.int x)) (h2 : Ev w n g env ρ b (.int y)) (h3 : Ev w n g env ρ c (.int z)) (h4 : Ev w n g env ρ d (.int u)) (s1 : notStar a = true) (s2 : notStar b = true) (s3 : notStar c = true) (s4 : notStar d = true) : Ev w n g env ρ (.Tuple [a, b, c, d] k pos) (.tup [x, y, z, u]) :=
  Ev.tuple (l := [x, y, z, u]) (Evs.cons h1 (Evs.cons h2 (Evs.cons h3 (Evs.cons h4 Evs.nil (starEach_plain s4)) (starEach_plain s3)) (starEach_plain s2)) (starEach_plain s1)) rfl (Nat.le_of_ble_eq_true rfl)
theorem Evs.cons' {e : Expr} {es : List Expr} {v : V} {vs : List V} (h1 : Ev w n g env ρ e v) (h2 : Evs w n g env ρ es vs) (hs : notStar e = true) : Evs w n g env ρ (e :: es) (v :: vs) := Evs.cons h1 h2 (starEach_plain hs)
theorem Exs.retE {e : Expr} {pos : Pos} {rest : List Stmt} {v v' : V} (h : Ev w n g env ρ e v) (e' : v = v') : Exs w n g env ρ (.Return (some e) pos :: rest) (.ret v') := e' ▸ Exs.ret (Ex.return h)
theorem Exs.assign {x : Str} {p pos : Pos} {value : Expr} {v : V} {rest : List Stmt} {o : Out} (h : Ev w n g env ρ value v) (hl : env.kindOf x = some .local) (hs : swapsWith value (some (.Name x p)) pos.line env = pure false)
    (h2 : Exs w n g env ((x, .v v) :: ρ) rest o) : Exs w n g env ρ (.Assign [.Name x p] value pos :: rest) o := Exs.cons (Ex.assign h hl hs) h2

theorem Ex.unpackT' {elts : List Expr} {k : Nat} {tpos pos : Pos} {value : Expr} {l : List Int} {xs : List Str} {ρ1 : List (Str × W)} (h : Ev w n g env ρ value (.tup l)) (hx : namesOf elts = some xs) (hlen : xs.length = l.length)
    (hl : (xs.all fun x => decide (env.kindOf x = some .local)) = true) (hs : swapsWithSole [.Tuple elts k tpos] value pos.line env = pure false)
    (hw : swappedStores [.Tuple elts k tpos] value env = pure Option.none) (e : stMany xs (l.map V.int) ρ = ρ1) : Ex w n g env ρ (.Assign [.Tuple elts k tpos] value pos) (.next ρ1) :=
  e ▸ Ex.unpackT h hx hlen (fun x h => of_decide_eq_true (List.all_eq_true.mp hl x h)) hs hw
theorem Ex.unpackS' {elts : List Expr} {k : Nat} {tpos pos : Pos} {value : Expr} {l : List Int} {xs : List Str} {ρ1 : List (Str × W)} (h : Ev w n g env ρ value (.tup l)) (hw : swappedStores [.Tuple elts k tpos] value env = pure (some xs)) (hlen : xs.length = l.length)
    (hl : (xs.all fun x => decide (env.kindOf x = some .local)) = true) (hs : swapsWithSole [.Tuple elts k tpos] value pos.line env = pure false)
    (e : stMany xs.reverse (l.reverse.map V.int) ρ = ρ1) : Ex w n g env ρ (.Assign [.Tuple elts k tpos] value pos) (.next ρ1) :=
  e ▸ Ex.unpackS h hlen (fun x h => of_decide_eq_true (List.all_eq_true.mp hl x h)) hs hw
theorem Cal.fn' {name qual : Str} {params : Arguments} {body : List Stmt} {scope : Scope} {dV kV doc pm cdv ct oc : Value} {an od : Option Addr} {osl : Array (Option Value)} {f : Addr} {args : List V} {xs : List Str} {v : V}
    (ho : (KK w).lookup f = some ⟨oc, od, .func (fnOf name qual params body scope dV kV doc pm an cdv ct), osl⟩) (hcd : codeIn (KK w) cdv qual = true)
    (hlen : xs.length = args.length) (hnd : xs.Nodup)
    (hbind : ∀ vals : List Value, vals.length = xs.length → bindArgs (fnOf name qual params body scope dV kV doc pm an cdv ct) ⟨vals, []⟩ = pure (xs.zip vals))
    (hloc : (xs.all fun x => decide (scope.names.lookup x = some .local)) = true)
    (hco : scope.isCoroutine = false) (hgen : scope.isGenerator = false) (hk : scope.kind = .function)
    (hcell : (scope.names.all fun x => decide (x.2 ≠ .cell)) = true)
    (h : ∀ g L, Exs w n g (envOf qual scope L f cdv) (xs.zip (args.map W.v)) body (.ret v)) : Cal w (n + 1) (.ref f) args v :=
  Cal.fn ho hcd hlen hnd hbind (fun x h => of_decide_eq_true (List.all_eq_true.mp hloc x h)) h hco hgen hk (fun x h => of_decide_eq_true (List.all_eq_true.mp hcell x h))
end

theorem Bd.mono {k l : Nat} {x : Int} (h : Bd k x) (hk : k ≤ l) : Bd l x := Nat.lt_of_lt_of_le h (Nat.pow_le_pow_right (by decide) hk)
theorem Bd.mul {k l : Nat} {x y : Int} (h : Bd k x) (h' : Bd l y) : Bd (k + l) (x * y) := by
  unfold Bd at *
  rw [Int.natAbs_mul, Nat.pow_add]
  exact Nat.mul_lt_mul'' h h'
theorem Bd.add {k l : Nat} {x y : Int} (h : Bd k x) (h' : Bd l y) : Bd (max k l + 1) (x + y) := by
  have h := h.mono (Nat.le_max_left k l)
  have h' := h'.mono (Nat.le_max_right k l)
  unfold Bd at *
  rw [Nat.pow_succ]; omega
theorem Bd.sub {k l : Nat} {x y : Int} (h : Bd k x) (h' : Bd l y) : Bd (max k l + 1) (x - y) := by
  have h := h.mono (Nat.le_max_left k l)
  have h' := h'.mono (Nat.le_max_right k l)
  unfold Bd at *
  rw [Nat.pow_succ]; omega
theorem Bd.neg {k : Nat} {x : Int} (h : Bd k x) : Bd k (-x) := by unfold Bd at *; omega
theorem Bd.pow {k : Nat} {x : Int} (h : Bd k x) : ∀ n : Nat, Bd (k * n + 1) (x ^ n)
  | 0 => by simp [Bd]
  | n + 1 => by
    rw [Int.pow_succ]
    exact (Bd.mul (Bd.pow h n) h).mono (by rw [Nat.mul_succ]; omega)
theorem Bd.mod {k : Nat} {x y : Int} (h : Bd k y) (hy : 0 < y) : Bd k (x % y) := by
  unfold Bd at *
  have := Int.emod_nonneg x (Int.ne_of_gt hy)
  have := Int.emod_lt_of_pos x hy
  omega
theorem Bd.div {k : Nat} {x y : Int} (h : Bd k x) (hx : 0 ≤ x) (hy : 0 < y) : Bd k (x / y) := by
  unfold Bd at *
  have h1 := Int.ediv_le_self y hx
  have h2 := Int.ediv_nonneg hx (Int.le_of_lt hy)
  omega

-- L5
def Inc : List (Str × W) → List (Str × W) → Prop
  | [], _ => True
  | p :: r, ρ => ρ.lookup p.1 = some p.2 ∧ Inc r ρ
theorem Inc.all : ∀ {ρ' ρ : List (Str × W)}, Inc ρ' ρ → ∀ p ∈ ρ', ρ.lookup p.1 = some p.2
  | [], _, _, _, h => by cases h
  | _ :: _, _, h, _, .head _ => h.1
  | _ :: _, _, h, _, .tail _ m => h.2.all _ m
theorem Inc.look {ρ' ρ : List (Str × W)} (h : Inc ρ' ρ) : ∀ x v, ρ'.lookup x = some v → ρ.lookup x = some v := weaken_of h.all

section
variable {w : World} {n : Nat} {g : Heap} {env : Env} {ρ ρ' : List (Str × W)}

theorem loop_code {St : Type} {test : Expr} {body : List Stmt} (ρs : St → List (Str × W)) (I Fin : St → Prop) (m : St → Nat)
    (turn : ∀ s, I s → (Tst w n g env (ρs s) test false ∧ Fin s) ∨ (Tst w n g env (ρs s) test true ∧ ∃ ρ1 s', Exs w n g env (ρs s) body (.next ρ1) ∧ Inc (ρs s') ρ1 ∧ I s' ∧ m s' < m s)) :
    ∀ (N : Nat) (st : St), m st < N → I st → ∀ (A : Around) (s : Shared) (R : Result → Shared → Prop), FrameOk w g env (ρs st) s.heap → Room n A →
      (∀ s' st', After env.locals s s' → I st' → Fin st' → FrameOk w g env (ρs st') s'.heap → R (.ok .next) s') → codeAny (MM w) A (.whileLoop test body [] env) R s
  | 0, _, h, _, _, _, _, _, _, _ => absurd h (Nat.not_lt_zero _)
  | N + 1, st, hN, hI, A, s, R, F, rm, q => by
    rcases turn st hI with ⟨ht, hf⟩ | ⟨ht, ρ1, st', hb, hinc, hI', hlt⟩
    · refine wh_step F rm ht fun s1 k1 => ?_
      simp only [Bool.false_eq_true, if_false]
      exact q s1 st (kafter k1) hI hf (F.sub (ksub k1))
    · refine wh_step F rm ht fun s1 k1 => ?_
      simp only [if_true]
      intro E
      refine hb A s1 _ E (F.sub (ksub k1)) rm fun fl s2 k2 e => ?_
      obtain ⟨rfl, F2⟩ := e
      exact loop_code ρs I Fin m turn N st' (by omega) hI' A s2 R (F2.weaken hinc.look) rm fun s3 st3 k3 a b c => q s3 st3 ((kafter k1).trans (k2.trans k3)) a b c

theorem Exs.loop {St : Type} {test : Expr} {body rest : List Stmt} {pos : Pos} {o : Out} (ρs : St → List (Str × W)) (I Fin : St → Prop) (m : St → Nat) (s0 : St) (h0 : I s0) (start : Inc (ρs s0) ρ)
    (turn : ∀ s, I s → (Tst w n g env (ρs s) test false ∧ Fin s) ∨ (Tst w n g env (ρs s) test true ∧ ∃ ρ1 s', Exs w n g env (ρs s) body (.next ρ1) ∧ Inc (ρs s') ρ1 ∧ I s' ∧ m s' < m s))
    (done : ∀ s, I s → Fin s → Exs w n g env (ρs s) rest o) : Exs w n g env ρ (.While test body [] pos :: rest) o := by
  intro A s Q E F rm q
  refine wpAny_execs_cons (wpAny_While ?_)
  refine loop_code ρs I Fin m turn (m s0 + 1) s0 (Nat.lt_succ_self _) h0 A s _ (F.weaken start.look) rm fun s1 st1 k1 a b F1 => ?_
  exact done st1 a b A s1 Q E F1 rm fun fl s2 k2 e => q fl s2 (k1.trans k2) e

theorem Tst.and2 {x y : Expr} {pos : Pos} {b c : Bool} (h : Tst w n g env ρ x b) (h' : b = true → Tst w n g env ρ y c) : Tst w n g env ρ (.BoolOp .And [x, y] pos) (b && c) := by
  intro A s Q E F rm q
  refine wpAny_isTrue_BoolOp (wpAny_allTrue_And_cons (h A s _ E F rm fun s1 k1 => ?_))
  cases b with
  | false => exact q s1 k1
  | true =>
    refine wpAny_allTrue_And_cons (h' rfl A s1 _ E (F.sub (ksub k1)) rm fun s2 k2 => ?_)
    cases c with
    | false => exact q s2 (ktr k1 k2)
    | true => exact wpAny_allTrue_And_nil (q s2 (ktr k1 k2))
end

-- L6
theorem kind_pow : builtinKind "pow" = none := by decide +kernel
theorem plain_pow : plainId "pow" = true := by decide +kernel
theorem entry_pow : entryFor table "pow" = some Builtin.«pow» := entryFor_of_fast (by kernel_rfl)
theorem args_pow (a b c : Value) : argsOk "pow" ⟨[a, b, c], []⟩ := by unfold argsOk; kernel_rfl
theorem args_int_pow3 (a b c : Value) : argsOk "int.__pow__" ⟨[a, b, c], []⟩ := by unfold argsOk; kernel_rfl

theorem call_pow3 {prog : Program} {w : World} {A : Around} {E : Value → Shared → Prop} {s : Shared} {b e m : Int} {t u v : Tok} {Q : Value → Shared → Prop} (he : 0 ≤ e) (hm : 1 < m)
    (h : Q (.int (PySem.Builtin.powMod (b % m).toNat e.natAbs m.natAbs : Nat) s.toks) { s with toks := s.toks + 1 }) : wpAny (model prog w) A (call (.builtin "pow") [.int b t, .int e u, .int m v]) Q E s := by
  refine call_function_entry kind_pow plain_pow entry_pow (args_pow _ _ _) ?_
  unfold Builtin.«pow»
  have hb : Builtin.Builtins.bindParams "pow" ["base", "exp", "mod"] 2 ⟨[.int b t, .int e u, .int m v], []⟩ = pure [some (.int b t), some (.int e u), some (.int m v)] := rfl
  refine wpAny_bind (wpAny_of_eq hb ?_)
  dsimp only [Option.getD]
  refine wpAny_bind (wpAny_rule ?_)
  refine wpAny_bind (wpAny_typeOf (typeIs_int s b t) ?_)
  dsimp only
  refine wpAny_bind (wpAny_pure ?_)
  refine wpAny_bind (wpAny_callSpecial?_slot (name := Str.ofString "__pow__") (typeIs_int s b t) slot_int_pow (wpAny_call_entry slot_int_pow (typeIs_int s b t) entry_int_pow ?_ (args_int_pow3 _ _ _)))
  have hm0 : m ≠ 0 := by omega
  have e1 : (m.natAbs == 1) = false := by simp; omega
  have e2 : (m == 0) = false := by simpa using hm0
  have e3 : ((m.natAbs : Nat) : Int) = m := by omega
  show wpAny _ _ (if (m == 0) = true then _ else _) _ _ s
  rw [e2, if_neg (by simp)]
  show wpAny _ _ (if (m.natAbs == 1) = true then _ else _) _ _ s
  rw [e1, if_neg (by simp)]
  show wpAny _ _ (if e < 0 then _ else _) _ _ s
  rw [if_neg (by omega)]
  have e4 : (decide (m < 0) && ((Builtin.powMod (b % (m.natAbs : Int)).toNat e.natAbs m.natAbs : Nat) : Int) != 0) = false := by simp; omega
  show wpAny _ _ (retInt (if (decide (m < 0) && ((Builtin.powMod (b % (m.natAbs : Int)).toNat e.natAbs m.natAbs : Nat) : Int) != 0) = true then _ else ((Builtin.powMod (b % (m.natAbs : Int)).toNat e.natAbs m.natAbs : Nat) : Int))) _ _ s
  rw [e4, if_neg (by simp), e3]
  exact wpAny_ret_mkInt (wpAny_pure ⟨_, rfl, h⟩)

section
variable {w : World} {n : Nat}
theorem cal_pow {b e m : Int} (he : 0 ≤ e) (hm : 1 < m) : Cal w n (.builtin "pow") [.int b, .int e, .int m] (.int (Builtin.powMod (b % m).toNat e.natAbs m.natAbs : Nat)) := by
  intro A s Q E vals Gs rm hp q
  cases hp with
  | cons h1 hp =>
    cases hp with
    | cons h2 hp =>
      cases hp with
      | cons h3 hp =>
        cases hp
        obtain ⟨_, rfl⟩ := h1
        obtain ⟨_, rfl⟩ := h2
        obtain ⟨_, rfl⟩ := h3
        exact call_pow3 he hm (q _ _ (keeps_tok s _) ⟨_, rfl⟩)
theorem cal_abs {b : Int} : Cal w n (.builtin "abs") [.int b] (.int (b.natAbs : Int)) := by
  intro A s Q E vals Gs rm hp q
  cases hp with
  | cons h1 hp =>
    cases hp
    obtain ⟨_, rfl⟩ := h1
    refine call_abs_int fun u tk => ?_
    rw [ite_abs']
    exact q _ _ (keeps_tok s _) ⟨_, rfl⟩
theorem cal_len {l : List V} (hl : l.length < 2 ^ 62) : Cal w n (.builtin "len") [.list l] (.int (l.length : Int)) := by
  intro A s Q E vals Gs rm hp q
  cases hp with
  | cons h1 hp =>
    cases hp
    obtain ⟨a, vs, rfl, ht, hi⟩ := h1
    have e : vs.toArray.size = l.length := by rw [List.size_toArray, hi.length]
    refine len_list ht (by rw [e]; omega) ?_
    rw [e]
    exact q _ _ (keeps_tok s _) ⟨_, rfl⟩
end

-- L7
section
variable {w : World} {n : Nat} {g : Heap} {env : Env} {ρ ρ' : List (Str × W)}

theorem fresh_ne {h h' : Heap} {L : Addr} {m : Str → Option Value} (f : Fr g L h m) (k : Sub h h') : h'.objs.size ≠ L ∧ g.get? h'.objs.size = none := by
  have f' := f.after k
  exact ⟨Nat.ne_of_gt f'.ns.lt, f'.fresh⟩

/-- an own list is made -/
theorem Ex.newOlist {x : Str} {p pos lpos : Pos} {es : List Expr} {vs : List V} (h : Evs w n g env ρ es vs) (hf : ∀ (h : Heap) (vals : List Value), Paired (fun v val => Rep h val v) vs vals → Paired (fun v val => RepU h val v) vs vals) (hlen : vs.length ≤ 1000)
    (hl : env.kindOf x = some .local) (hs : swapsWith (.List es lpos) (some (.Name x p)) pos.line env = pure false) : Ex w n g env ρ (.Assign [.Name x p] (.List es lpos) pos) (.next ((x, .olist vs) :: ρ)) := by
  intro A s Q E F rm q
  refine wpAny_Assign_Name ?_ hs
  refine wpAny_List (h A s _ E lpos F rm fun vals s1 k1 r1 => ?_)
  have hlen' : vals.length ≤ sizeLine := by have := r1.length; have := sizeLine_big; omega
  refine ⟨hlen', ?_⟩
  have F1 := F.sub (ksub k1)
  obtain ⟨m, f, hm⟩ := F1.fr
  have fn := fresh_ne f (fun _ _ e => e)
  have F2 := F1.sub (sub_push s1.heap { cls := .type "list", data := .seq vals.toArray })
  obtain ⟨m2, f2, hm2⟩ := F2.fr
  refine wpAny_storeName_local hl f2.ns (fun h' hn hs' => q _ _ ?_ ⟨rfl, ?_⟩) (by rw [F.kind]; rfl)
  · refine (kafter k1).trans ((kafter (keeps_heap (sub_push _ _))).trans ⟨_, _, rfl, fun b o nb _ _ e => hs'.extBut b o nb e⟩)
  · refine ⟨F.kind, F.globals, F.builtins, F.gg, _, f2.set hn hs', fun y u e => ?_⟩
    rw [lookup_cons_eq] at e
    by_cases hy : y = x
    · subst hy
      rw [if_pos rfl] at e; cases e
      have hli : ListIs (s1.heap.push { cls := .type "list", data := .seq vals.toArray }) s1.heap.objs.size vs :=
        ⟨vals.toArray, ⟨_, _, Heap.get?_push_size _ rfl, rfl, rfl, rfl⟩, by simpa using Paired.imp (fun _ _ q => q.sub (sub_push _ _)) (hf _ _ r1)⟩
      exact ⟨hl, s1.heap.objs.size, by simp, fn.1, fn.2, hli.extBut hs'.extBut fn.1 fun b o _ _ _ hd q => stay_of_same f2.ns hs' b o _ _ hd q⟩
    · rw [if_neg hy] at e
      exact VarOk.store f2 (hm2 y u e) hy hs'

/-- an own dict is made -/
theorem Ex.newOdict {x : Str} {p pos lpos : Pos} (hl : env.kindOf x = some .local) (hs : swapsWith (.Dict [] [] lpos) (some (.Name x p)) pos.line env = pure false) :
    Ex w n g env ρ (.Assign [.Name x p] (.Dict [] [] lpos) pos) (.next ((x, .odict (fun _ => none) 0) :: ρ)) := by
  intro A s Q E F rm q
  refine wpAny_Assign_Name ?_ hs
  refine wpAny_Dict_empty ?_
  obtain ⟨m, f, hm⟩ := F.fr
  have fn := fresh_ne f (fun _ _ e => e)
  have F2 := F.sub (sub_push s.heap { cls := .type "dict", data := .dict #[] })
  obtain ⟨m2, f2, hm2⟩ := F2.fr
  refine wpAny_storeName_local hl f2.ns (fun h' hn hs' => q _ _ ?_ ⟨rfl, ?_⟩) (by rw [F.kind]; rfl)
  · exact (kafter (keeps_heap (sub_push _ _))).trans ⟨_, _, rfl, fun b o nb _ _ e => hs'.extBut b o nb e⟩
  · refine ⟨F.kind, F.globals, F.builtins, F.gg, _, f2.set hn hs', fun y u e => ?_⟩
    rw [lookup_cons_eq] at e
    by_cases hy : y = x
    · subst hy
      rw [if_pos rfl] at e; cases e
      have hdi : DictIs (s.heap.push { cls := .type "dict", data := .dict #[] }) s.heap.objs.size (fun _ => none) 0 := ⟨Heap.DictLe.new _, _, Heap.IntMap.new _, fun _ => .inl ⟨rfl, rfl⟩⟩
      exact ⟨hl, s.heap.objs.size, by simp, fn.1, fn.2, hdi.extBut hs'.extBut fn.1⟩
    · rw [if_neg hy] at e
      exact VarOk.store f2 (hm2 y u e) hy hs'

/-- the heap changes at one address of the call's own alone; what a name holds is elsewhere -/
def V.flat : V → Bool
  | .list _ => false
  | _ => true
theorem RepU.of_flat {h : Heap} {x : Value} {v : V} (r : Rep h x v) (hv : v.flat = true) : RepU h x v := by
  cases v with
  | list l => cases hv
  | _ => exact r
def W.okL : W → Bool
  | .v x => x.flat
  | .olist _ => false
  | .odict _ _ => true
  | .unset => true
def W.okD : W → Bool
  | .odict _ _ => false
  | _ => true

theorem frAt {h h' : Heap} {L D : Addr} {m : Str → Option Value} (f : Fr g L h m) (hs : Heap.ExtBut D h h') (hD : D ≠ L) (hg : g.get? D = none) : Fr g L h' m :=
  ⟨f.ns.extBut hs (Ne.symm hD), fun b o e => hs b o (by rintro rfl; rw [hg] at e; cases e) (f.keep b o e), f.above⟩

theorem VarOk.atL {h h' : Heap} {D : Addr} {m : Str → Option Value} {y : Str} {u : W} {l : List V} (r : VarOk g env m h y u) (hl : ListIs h D l) (hs : Heap.ExtBut D h h') (hu : u.okL = true) : VarOk g env m h' y u := by
  obtain ⟨o, its, k, ho, hc, hd⟩ := hl.obj
  have tp : Tups h h' := fun b o' _ _ hc' _ e => hs b o' (by rintro rfl; rw [ho] at e; cases e; rw [hc] at hc'; simp at hc') e
  cases u with
  | v v =>
    rcases r with ⟨a, val, b, c⟩ | ⟨a, c, val, b, d, e⟩
    · exact .inl ⟨a, val, b, ((RepU.of_flat c hu).tups tp).rep⟩
    · obtain ⟨oc, hoc, hdc⟩ := d
      exact .inr ⟨a, c, val, b, ⟨oc, hs c oc (by rintro rfl; rw [ho] at hoc; cases hoc; rw [hd] at hdc; cases hdc) hoc, hdc⟩, ((RepU.of_flat e hu).tups tp).rep⟩
  | olist l => cases hu
  | odict dd n =>
    obtain ⟨a, D', b, c, d, e⟩ := r
    obtain ⟨o', ho', hc'⟩ := e.obj
    exact ⟨a, D', b, c, d, e.extBut hs (by rintro rfl; rw [ho] at ho'; cases ho'; rw [hc] at hc'; simp at hc')⟩
  | unset =>
    obtain ⟨a, c, b, d, e, oc, hoc, hdc⟩ := r
    exact ⟨a, c, b, d, e, oc, hs c oc (by rintro rfl; rw [ho] at hoc; cases hoc; rw [hd] at hdc; cases hdc) hoc, hdc⟩

theorem VarOk.atD {h h' : Heap} {D : Addr} {m : Str → Option Value} {y : Str} {u : W} {dd : Int → Option Int} {k : Nat} (r : VarOk g env m h y u) (hl : DictIs h D dd k) (hs : Heap.ExtBut D h h') (hu : u.okD = true) : VarOk g env m h' y u := by
  obtain ⟨_, f, i, _⟩ := hl
  obtain ⟨o, es, ep, ho, hc, hd⟩ := intMap_obj i
  have sq : Seqs h h' := fun b o' _ _ hd' e => hs b o' (by rintro rfl; rw [ho] at e; cases e; rw [hd] at hd'; cases hd') e
  cases u with
  | v v =>
    rcases r with ⟨a, val, b, c⟩ | ⟨a, c, val, b, d, e⟩
    · exact .inl ⟨a, val, b, c.seqs sq⟩
    · obtain ⟨oc, hoc, hdc⟩ := d
      exact .inr ⟨a, c, val, b, ⟨oc, hs c oc (by rintro rfl; rw [ho] at hoc; cases hoc; rw [hd] at hdc; cases hdc) hoc, hdc⟩, e.seqs sq⟩
  | odict _ _ => cases hu
  | olist l =>
    obtain ⟨a, D', b, c, d, e⟩ := r
    obtain ⟨o', its, kk, ho', hc', hd'⟩ := e.obj
    exact ⟨a, D', b, c, d, e.extBut hs (by rintro rfl; rw [ho] at ho'; cases ho'; rw [hd] at hd'; cases hd') fun b o _ _ _ hd q => sq b o _ _ hd q⟩
  | unset =>
    obtain ⟨a, c, b, d, e, oc, hoc, hdc⟩ := r
    exact ⟨a, c, b, d, e, oc, hs c oc (by rintro rfl; rw [ho] at hoc; cases hoc; rw [hd] at hdc; cases hdc) hoc, hdc⟩

/-- an object of fields changes (an iterator) -/
theorem FrameOk.atF {h h' : Heap} {D : Addr} {o : Obj} {vs : Array Value} (F : FrameOk w g env ρ h) (ho : h.get? D = some o) (hd : o.data = .fields vs) (hs : Heap.ExtBut D h h') (hD : D ≠ env.locals) (hg : g.get? D = none) : FrameOk w g env ρ h' := by
  obtain ⟨m, f, hm⟩ := F.fr
  have sq : Seqs h h' := fun b o' _ _ hd' e => hs b o' (by rintro rfl; rw [ho] at e; cases e; rw [hd] at hd'; cases hd') e
  refine ⟨F.kind, F.globals, F.builtins, F.gg, m, frAt f hs hD hg, fun y u e => ?_⟩
  have r := hm y u e
  cases u with
  | v v =>
    rcases r with ⟨a, val, b, c⟩ | ⟨a, c, val, b, d, e⟩
    · exact .inl ⟨a, val, b, c.seqs sq⟩
    · obtain ⟨oc, hoc, hdc⟩ := d
      exact .inr ⟨a, c, val, b, ⟨oc, hs c oc (by rintro rfl; rw [ho] at hoc; cases hoc; rw [hd] at hdc; cases hdc) hoc, hdc⟩, e.seqs sq⟩
  | odict dd k =>
    obtain ⟨a, D', b, c, d, e⟩ := r
    obtain ⟨o', ho', hc'⟩ := e.obj
    refine ⟨a, D', b, c, d, e.extBut hs ?_⟩
    obtain ⟨_, f', i, _⟩ := e
    obtain ⟨o2, es, ep, ho2, _, hd2⟩ := intMap_obj i
    rintro rfl; rw [ho] at ho2; cases ho2; rw [hd] at hd2; cases hd2
  | olist l =>
    obtain ⟨a, D', b, c, d, e⟩ := r
    obtain ⟨o', its, kk, ho', hc', hd'⟩ := e.obj
    exact ⟨a, D', b, c, d, e.extBut hs (by rintro rfl; rw [ho] at ho'; cases ho'; rw [hd] at hd'; cases hd') fun b o _ _ _ hd q => sq b o _ _ hd q⟩
  | unset =>
    obtain ⟨a, c, b, d, e, oc, hoc, hdc⟩ := r
    exact ⟨a, c, b, d, e, oc, hs c oc (by rintro rfl; rw [ho] at hoc; cases hoc; rw [hd] at hdc; cases hdc) hoc, hdc⟩

theorem Ex.append {x : Str} {p apos cpos epos : Pos} {e : Expr} {l : List V} {v : V} (hx : ρ.lookup x = some (.olist l)) (h : Ev w n g env ρ e v) (hv : v.flat = true) (hother : ∀ y u, ρ.lookup y = some u → y = x ∨ u.okL = true) (hlen : l.length ≤ 1000)
    (hbase : attributeBase (.Name x p) "append" env (eval (.Name x p) env) = eval (.Name x p) env)
    (hfew : ((backTo cpos (starEach [e] env)).all (fun x => !x.1) && (backToKw cpos (keywordEach [] env)).all (fun x => x.1.isSome)
      && decide (([e] : List Expr).length + ([] : List Keyword).length + (if ([] : List Keyword).isEmpty then 0 else 1) < 30)) = true)
    (hline : (apos.endLine == cpos.line) = true) (htrees : backTo cpos (starEach [e] env) = [(false, eval e env)])
    (hint : interactive env = false) (hsw : swapsWith (.Call (.Attribute (.Name x p) "append" apos) [e] [] cpos) none epos.line env = pure false) (hd : (x == ("__debug__" : Str)) = false) :
    Ex w n g env ρ (.Expr (.Call (.Attribute (.Name x p) "append" apos) [e] [] cpos) epos) (.next ((x, .olist (l ++ [v])) :: ρ)) := by
  intro A s Q E F rm q
  refine wpAny_Expr (wpAny_Call_append hbase hfew hline htrees ?_) hint hsw
  obtain ⟨m, f, hm⟩ := F.fr
  obtain ⟨a, D, b, c, d, its, hp, hpl⟩ := hm x _ hx
  refine wpAny_Name (wpAny_loadName_local F.kind a f.ns b ⟨D, its, rfl, hp, ?_⟩) hd
  refine h A s _ E F rm fun val s1 k1 r1 => ?_
  have F1 := F.sub (ksub k1)
  have hp1 := hp.keeps (ksub k1)
  have hl1 : ListIs s1.heap D l := ⟨its, hp1, Paired.imp (fun _ _ q => q.sub (ksub k1)) hpl⟩
  refine list_append_plainL hp1 (fun h' hp' hs' => ?_) (by have h1 := hpl.length; have h2 := sizeLine_big; have h3 : its.toList.length = its.size := Array.length_toList; omega)
  refine q _ _ ((kafter k1).trans ⟨h', _, rfl, fun b o _ hc1 _ e0 => hs'.extBut b o ?_ e0⟩) ⟨rfl, ?_⟩
  · rintro rfl
    obtain ⟨o', _, _, ho', hc', _⟩ := hl1.obj
    rw [e0] at ho'; cases ho'; exact hc1 hc'
  · have f1 := f.after (ksub k1)
    refine ⟨F.kind, F.globals, F.builtins, F.gg, m, frAt f1 hs'.extBut c d, fun y u e => ?_⟩
    rw [lookup_cons_eq] at e
    by_cases hy : y = x
    · subst hy
      rw [if_pos rfl] at e; cases e
      refine ⟨a, D, b, c, d, its.push val, hp', ?_⟩
      obtain ⟨o', _, _, ho', hc', _⟩ := hl1.obj
      have tp : Tups s1.heap h' := fun b o2 _ _ hc2 _ e => hs'.extBut b o2 (by rintro rfl; rw [ho'] at e; cases e; rw [hc'] at hc2; simp at hc2) e
      rw [Array.toList_push]
      exact Paired.snoc (Paired.imp (fun _ _ q => (q.sub (ksub k1)).tups tp) hpl) ((RepU.of_flat r1 hv).tups tp)
    · rw [if_neg hy] at e
      exact VarOk.atL ((hm y u e).sub (ksub k1)) hl1 hs'.extBut ((hother y u e).resolve_left hy)

/-- an own list's value -/
theorem Ev.nameL {x : Str} {pos : Pos} {l : List V} (hx : ρ.lookup x = some (.olist l)) (hd : (x == ("__debug__" : Str)) = false := by decide) : Ev w n g env ρ (.Name x pos) (.list l) := by
  intro A s Q E F r q
  obtain ⟨m, f, hr⟩ := F.fr
  obtain ⟨a, D, b, c, d, e⟩ := hr x _ hx
  exact wpAny_Name (wpAny_loadName_local F.kind a f.ns b (q _ _ (keeps_refl s) e.rep)) hd

theorem Ex.setD {x : Str} {p ipos pos : Pos} {value i : Expr} {dd : Int → Option Int} {cnt : Nat} {k v : Int} (hx : ρ.lookup x = some (.odict dd cnt)) (hval : Ev w n g env ρ value (.int v)) (hi : Ev w n g env ρ i (.int k)) (hcnt : cnt ≤ 1000)
    (hother : ∀ y u, ρ.lookup y = some u → y = x ∨ u.okD = true) (hs : swapsWith value (some (.Subscript (.Name x p) i ipos)) pos.line env = pure false) (hd : (x == ("__debug__" : Str)) = false) :
    Ex w n g env ρ (.Assign [.Subscript (.Name x p) i ipos] value pos) (.next ((x, .odict (fun y => if y = k then some v else dd y) (cnt + 1)) :: ρ)) := by
  intro A s Q E F rm q
  refine wpAny_Assign_Subscript (hval A s _ E F rm fun val s1 k1 r1 => ?_) hs
  have F1 := F.sub (ksub k1)
  obtain ⟨m, f, hm⟩ := F1.fr
  obtain ⟨a, D, b, c, d, e⟩ := hm x _ hx
  refine wpAny_Name (wpAny_loadName_local F.kind a f.ns b ?_) hd
  refine hi A s1 _ E F1 rm fun iv s2 k2 r2 => ?_
  obtain ⟨t, rfl⟩ := r1
  obtain ⟨u, rfl⟩ := r2
  have e2 := e.extBut (extBut_of_sub (D + 1) (ksub k2)) (by simp)
  obtain ⟨hle, fm, im, hk⟩ := id e2
  refine wpAny_setItem_intMap_le im hle (by have := sizeLine_big; omega) fun h' im' hle' hs' => ?_
  refine q _ _ ((kafter (ktr k1 k2)).trans ⟨h', _, rfl, fun b o _ _ hc1 e0 => hs'.extBut b o ?_ e0⟩) ⟨rfl, ?_⟩
  · rintro rfl
    obtain ⟨o', ho', hc'⟩ := e2.obj
    rw [e0] at ho'; cases ho'; exact hc1 hc'
  · have f2 := f.after (ksub k2)
    refine ⟨F.kind, F.globals, F.builtins, F.gg, m, frAt f2 hs'.extBut c d, fun y u' e => ?_⟩
    rw [lookup_cons_eq] at e
    by_cases hy : y = x
    · subst hy
      rw [if_pos rfl] at e; cases e
      refine ⟨a, D, b, c, d, hle', _, im', fun z => ?_⟩
      by_cases hz : z = k
      · exact .inr ⟨v, t, by simp [hz], by simp [hz]⟩
      · simp only [if_neg hz]; exact hk z
    · rw [if_neg hy] at e
      exact VarOk.atD ((hm y u' e).sub (ksub k2)) e2 hs'.extBut ((hother y u' e).resolve_left hy)

theorem Tst.inD {x : Str} {p pos : Pos} {l : Expr} {dd : Int → Option Int} {cnt : Nat} {k : Int} (hx : ρ.lookup x = some (.odict dd cnt)) (hl : Ev w n g env ρ l (.int k)) (hd : (x == ("__debug__" : Str)) = false) (hm : behindInMarks .In (.Name x p) = false) :
    Tst w n g env ρ (.Compare l [.In] [.Name x p] pos) (dd k).isSome := by
  intro A s Q E F rm q
  refine wpAny_isTrue_Compare1 (hl A s _ E F rm fun val s1 k1 r1 => ?_) hm
  have F1 := F.sub (ksub k1)
  obtain ⟨m, f, hm⟩ := F1.fr
  obtain ⟨a, D, b, c, d, hle, fm, im, hk⟩ := hm x _ hx
  obtain ⟨t, rfl⟩ := r1
  refine wpAny_Name (wpAny_loadName_local F.kind a f.ns b ?_) hd
  refine wpAny_in_intMap im (wpAny_truthy_bool ?_)
  have e : (fm k).isSome = (dd k).isSome := by rcases hk k with ⟨a, b⟩ | ⟨i, t, a, b⟩ <;> rw [a, b] <;> rfl
  rw [e]
  exact q _ (ktr k1 (keeps_tok s1 _))

theorem Ev.itemD {x : Str} {p pos : Pos} {i : Expr} {dd : Int → Option Int} {cnt : Nat} {k v : Int} (hx : ρ.lookup x = some (.odict dd cnt)) (hi : Ev w n g env ρ i (.int k)) (hv : dd k = some v) (hd : (x == ("__debug__" : Str)) = false := by decide) (hs : plainSlice i = true := by rfl) :
    Ev w n g env ρ (.Subscript (.Name x p) i pos) (.int v) := by
  intro A s Q E F rm q
  obtain ⟨m, f, hm⟩ := F.fr
  obtain ⟨a, D, b, c, d, e⟩ := hm x _ hx
  refine Subscript_ (wpAny_Name (wpAny_loadName_local F.kind a f.ns b ?_) hd)
  refine hi A s _ E F rm fun iv s2 k2 r2 => ?_
  obtain ⟨u, rfl⟩ := r2
  have e2 := e.extBut (extBut_of_sub (D + 1) (ksub k2)) (by simp)
  obtain ⟨hle, fm, im, hk⟩ := e2
  rcases hk k with ⟨a, _⟩ | ⟨i', t, a, b'⟩
  · rw [hv] at a; cases a
  · rw [hv] at a; cases a
    exact tail_any im.typeIs slot_dict_getitem.lookup (wpAny_getItem_intMap im b' (q _ _ (ktr k2 (keeps_tok s2 _)) ⟨t, rfl⟩)) (subscripted_plain hs)

/-- an iterable that is a range -/
def Rng (w : World) (n : Nat) (g : Heap) (env : Env) (ρ : List (Str × W)) (iter : Expr) (a b : Int) : Prop :=
  ∀ (A : Around) (s : Shared) (Q : Value → Shared → Prop) (E : Value → Shared → Prop), FrameOk w g env ρ s.heap → Room n A →
    (∀ r t u v s', Keeps s s' → IsRange s'.heap r a b 1 t u v → Q (.ref r) s') → wpAny (MM w) A (eval iter env) Q E s

theorem Rng.one {p pos : Pos} {e : Expr} {b : Int} (h : Ev w n g env ρ e (.int b)) (hx : env.kindOf ("range" : Str) = some .globalImplicit) (hs : notStar e = true) : Rng w n g env ρ (.Call (.Name "range" p) [e] [] pos) 0 b := by
  intro A s Q E F rm q
  refine Call_Name rfl (ev_builtin F rfl boot_range (by decide) hx (by decide) ?_)
  refine callWith_type1 ?_ (starEach_plain hs) rfl
  refine (Evs.cons' h Evs.nil hs) A s _ E pos F rm fun vals s1 k1 r1 => ?_
  cases r1 with
  | cons r1 r2 =>
    cases r2
    obtain ⟨t, rfl⟩ := r1
    refine call_range_1 ?_
    exact q _ _ _ _ _ (ktr k1 ⟨_, _, rfl, sub_push _ _⟩) (IsRange.new _ _ _ _ _ _ _)
theorem Rng.two {p pos : Pos} {e e' : Expr} {a b : Int} (h : Ev w n g env ρ e (.int a)) (h' : Ev w n g env ρ e' (.int b)) (hx : env.kindOf ("range" : Str) = some .globalImplicit) (hs : notStar e = true) (hs' : notStar e' = true) : Rng w n g env ρ (.Call (.Name "range" p) [e, e'] [] pos) a b := by
  intro A s Q E F rm q
  refine Call_Name rfl (ev_builtin F rfl boot_range (by decide) hx (by decide) ?_)
  refine callWith_type1 ?_ (starEach_plain hs) (by rw [starEach_plain hs']; rfl)
  refine (Evs.cons' h (Evs.cons' h' Evs.nil hs') hs) A s _ E pos F rm fun vals s1 k1 r1 => ?_
  cases r1 with
  | cons r1 r2 =>
    cases r2 with
    | cons r2 r3 =>
      cases r3
      obtain ⟨t, rfl⟩ := r1
      obtain ⟨u, rfl⟩ := r2
      refine call_range_2 ?_
      exact q _ _ _ _ _ (ktr k1 ⟨_, _, rfl, sub_push _ _⟩) (IsRange.new _ _ _ _ _ _ _)

theorem Exs.forRange {x : Str} {px pos : Pos} {iter : Expr} {body rest : List Stmt} {a b : Int} {o : Out} (cnt : Nat) (ρs : Nat → List (Str × W)) (hiter : Rng w n g env ρ iter a b) (hcnt : (cnt : Int) = if a < b then b - a else 0)
    (ha : -(2 ^ 62) ≤ a) (ha' : a < 2 ^ 62) (hb : -(2 ^ 62) ≤ b) (hb' : b < 2 ^ 62) (hx : env.kindOf x = some .local) (start : Inc (ρs 0) ρ)
    (turn : ∀ i, i < cnt → ∃ ρ1, Exs w n g env ((x, .v (.int (a + i))) :: ρs i) body (.next ρ1) ∧ Inc (ρs (i + 1)) ρ1)
    (done : Exs w n g env (ρs cnt) rest o) (hs : ∀ x, foldedSetIterable iter env x = pure x := by intro _; rfl) : Exs w n g env ρ (.For (.Name x px) iter body [] pos :: rest) o := by
  intro A s Q E F rm q
  refine wpAny_execs_cons (wpAny_For (hiter A s _ E F rm fun r t u v s1 k1 hr => ?_) hs)
  have hsz : Builtin.Range.rangeSize a b 1 = (cnt : Int) := by rw [rangeSize_one, hcnt]
  refine wpAny_pyIter_range hr (small_one ha ha' hb hb') ?_
  rw [hsz]
  have F1 := F.sub (ksub k1)
  obtain ⟨m, f, hm⟩ := F1.fr
  obtain ⟨hD, hg⟩ := fresh_ne f (fun _ _ e => e)
  generalize hI : s1.heap.objs.size = I at hD hg ⊢
  generalize hh2 : s1.heap.push { cls := .type "range_iterator", data := .fields #[rawInt a, rawInt (cnt : Int), rawInt 1] } = h2
  have hit : IsRangeIter h2 I a (cnt : Int) 1 := by rw [← hh2, ← hI]; exact Heap.get?_push_size _ rfl
  have F2 : FrameOk w g env ρ h2 := by rw [← hh2]; exact F1.sub (sub_push _ _)
  have k2 : After env.locals s { s1 with heap := h2 } := (kafter k1).trans (kafter (keeps_heap (by rw [← hh2]; exact sub_push _ _)))
  refine codeAny_forLoop (fun k s' => ∃ i : Nat, k = cnt - i ∧ i ≤ cnt ∧ FrameOk w g env (ρs i) s'.heap ∧ IsRangeIter s'.heap I (a + i) ((cnt : Int) - i) 1 ∧ After env.locals s s') ?_ cnt
    ⟨0, rfl, Nat.zero_le _, F2.weaken start.look, by simpa using hit, k2⟩
  rintro k s' ⟨i, rfl, hi, F', hit', k'⟩
  by_cases hlt : i < cnt
  · refine wpAny_pyNext_range_item hit' (by omega) fun h' hit'' hs' => ?_
    have F3 := F'.atF hit' rfl hs'.extBut hD hg
    obtain ⟨ρ1, hb, hinc⟩ := turn i hlt
    have k3 : After env.locals s { s' with heap := h', toks := s'.toks + 1 } := by
      obtain ⟨h5, t5, rfl, q5⟩ := k'
      exact ⟨h', _, rfl, fun b o nb c1 c2 e => by
        refine hs'.extBut b o ?_ (q5 b o nb c1 c2 e)
        rintro rfl
        have e1 := (ksub k1) _ _ e
        have := Heap.lt_size e1
        rw [hI] at this; exact Nat.lt_irrefl _ this⟩
    refine wpAny_assign_Name (st_name F3 hx (v := .int (a + i)) ⟨_, rfl⟩ fun s4 k4 F4 _ => ?_)
    refine hb A s4 _ _ F4 rm fun fl s5 k5 e5 => ?_
    obtain ⟨rfl, F5⟩ := e5
    refine ⟨cnt - (i + 1), by omega, i + 1, rfl, hlt, F5.weaken hinc.look, ?_, k3.trans (k4.trans k5)⟩
    obtain ⟨h6, t6, rfl, q6⟩ := k4.trans k5
    have := q6 I _ hD (by simp) (by simp) hit''
    rw [show (a + ((i + 1 : Nat) : Int)) = a + i + 1 by omega, show ((cnt : Int) - ((i + 1 : Nat) : Int)) = cnt - i - 1 by omega]
    exact this
  · have hic : i = cnt := by omega
    subst hic
    refine wpAny_pyNext_range_end rm.handled hit' (by omega) fun h' he' => ?_
    have F3 := F'.atF hit' rfl he' hD hg
    have k3 : After env.locals s { s' with heap := h' } := by
      obtain ⟨h5, t5, rfl, q5⟩ := k'
      exact ⟨h', _, rfl, fun b o nb c1 c2 e => by
        refine he' b o ?_ (q5 b o nb c1 c2 e)
        rintro rfl
        have e1 := (ksub k1) _ _ e
        have := Heap.lt_size e1
        rw [hI] at this; exact Nat.lt_irrefl _ this⟩
    refine wpAny_execs_nil ?_
    exact done A { s' with heap := h' } Q E F3 rm fun fl s6 k6 e6 => q fl s6 (k3.trans k6) e6
end

-- L8
theorem bindL_notin {k : Str → Option NameKind} {x : Str} : ∀ {binds : List (Str × Value)} {m : Str → Option Value}, x ∉ binds.map (·.1) → bindL k binds m x = m x
  | [], _, _ => rfl
  | (n, v) :: r, m, h => by
    simp only [List.map_cons, List.mem_cons, not_or] at h
    unfold bindL
    rw [bindL_notin h.2]
    split
    · simp [h.1]
    · rfl
theorem bindC_notin {k : Str → Option NameKind} {x : Str} : ∀ {binds : List (Str × Value)} {m : Str → Option Value}, x ∉ binds.map (·.1) → bindC k binds m x = m x
  | [], _, _ => rfl
  | (n, v) :: r, m, h => by
    simp only [List.map_cons, List.mem_cons, not_or] at h
    unfold bindC
    rw [bindC_notin h.2]
    split
    · rfl
    · simp [h.1]
theorem bindL_look {k : Str → Option NameKind} {x : Str} {v : Value} (hk : k x = some .local) : ∀ {binds : List (Str × Value)} {m : Str → Option Value}, (binds.map (·.1)).Nodup → binds.lookup x = some v → bindL k binds m x = some v
  | [], _, _, e => by simp at e
  | (n, u) :: r, m, hn, e => by
    rw [List.map_cons, List.nodup_cons] at hn
    rw [lookup_cons_eq] at e
    unfold bindL
    by_cases hx : x = n
    · rw [if_pos hx] at e; cases e; subst hx
      rw [bindL_notin hn.1, if_pos hk]; simp
    · rw [if_neg hx] at e
      exact bindL_look hk hn.2 e
theorem bindC_look {k : Str → Option NameKind} {x : Str} {v : Value} (hk : k x ≠ some .local) : ∀ {binds : List (Str × Value)} {m : Str → Option Value}, (binds.map (·.1)).Nodup → binds.lookup x = some v → bindC k binds m x = some v
  | [], _, _, e => by simp at e
  | (n, u) :: r, m, hn, e => by
    rw [List.map_cons, List.nodup_cons] at hn
    rw [lookup_cons_eq] at e
    unfold bindC
    by_cases hx : x = n
    · rw [if_pos hx] at e; cases e; subst hx
      rw [bindC_notin hn.1, if_neg hk]; simp
    · rw [if_neg hx] at e
      exact bindC_look hk hn.2 e

section
variable {w : World} {n : Nat} {g : Heap} {env : Env} {ρ ρ' : List (Str × W)}

/-- what a def with cells hands to its body: the cells that hold nothing yet -/
def Unset (env : Env) (g h : Heap) (x : Str) : Prop := ∃ c, env.cells.lookup x = some c ∧ c ≠ env.locals ∧ g.get? c = none ∧ h.IsCell c none

/-- a def with cells -/
theorem code_fnC {A : Around} {s : Shared} {R : Result → Shared → Prop} {name qual : Str} {params : Arguments} {body : List Stmt} {scope : Scope} {dV kV doc pm cdv ct : Value} {an : Option Addr} {fo : Obj} {f : Addr} {args : List V} {vals : List Value} {xs : List Str}
    (Gs : G w s.heap) (rm : Room (n + 1) A) (ho : s.heap.get? f = some fo) (hd : fo.data = .func (fnOf name qual params body scope dV kV doc pm an cdv ct)) (hcd : s.heap.CodeRec cdv qual)
    (hlen : xs.length = args.length) (hnd : xs.Nodup) (hp : Paired (fun v val => Rep s.heap val v) args vals)
    (hbind : bindArgs (fnOf name qual params body scope dV kV doc pm an cdv ct) ⟨vals, []⟩ = pure (xs.zip vals))
    (hkinds : (xs.all fun x => scope.names.lookup x == some .local || scope.names.lookup x == some .cell) = true)
    (h : ∀ L h₁ tk, FrameOk w s.heap (envOfC qual scope L f cdv) (xs.zip (args.map W.v)) h₁ → (∀ x c, (cellsFrom (L + 1) scope.names []).lookup x = some c → x ∉ xs → Unset (envOfC qual scope L f cdv) s.heap h₁ x) → Sub s.heap h₁ →
      ∀ E, wpAny (MM w) (A.deeper (envOfC qual scope L f cdv)) (execs body (envOfC qual scope L f cdv)) (fun fl s' => R (.ok (.ret (match fl with | .ret v => v | _ => .none))) s') E { s with heap := h₁, toks := tk })
    (hcell : ∀ x ∈ xs, scope.names.lookup x = some .cell → ∀ L, ((cellsFrom (L + 1) scope.names []).lookup x).isSome = true)
    (hco : scope.isCoroutine = false) (hgen : scope.isGenerator = false) (hk : scope.kind = .function) : codeAny (MM w) A (.call (.ref f) ⟨vals, []⟩) R s := by
  have hvl : xs.length = vals.length := hlen.trans hp.length
  obtain ⟨mean, mg, mb, T⟩ := Gs.T
  have hnd' : ((xs.zip vals).map (·.1)).Nodup := by rw [zip_keys xs vals hvl]; exact hnd
  have hall : ((xs.zip vals).all fun y => scope.names.lookup y.1 == some .local || scope.names.lookup y.1 == some .cell) = true := by
    rw [List.all_eq_true] at hkinds ⊢
    exact fun y hy => hkinds y.1 (List.of_mem_zip hy).1
  refine codeAny_call_function (by have := rm.depth; omega) ho hd hco hgen rfl hcd ?_
  show wpAny _ _ (bindArgs (fnOf name qual params body scope dV kV doc pm an cdv ct) ⟨vals, []⟩) _ _ _
  rw [hbind]
  refine wpAny_pure (wpAny_newFunctionEnv_cells hk (kindsX hall _) fun env' he s' x => ?_)
  subst he
  refine ⟨T.nolimit.keeps x.toInCall.keep, codeAny_func ?_⟩
  obtain ⟨h₁, tk, rfl, _⟩ := x.done
  have hk₁ := x.toInCall.keep
  refine h s.heap.objs.size h₁ tk ⟨hk, rfl, rfl, Gs, _, ⟨x.toInCall.ns, hk₁, Nat.le_refl _⟩, fun y u e => ?_⟩ (fun y c hc hy => ?_) hk₁ _
  · obtain ⟨v', rfl, val, e1, r⟩ := zip_lookup hp e
    have hy := zip_lookup_mem e
    have hkx := List.all_eq_true.mp hkinds y hy
    rcases Bool.or_eq_true_iff.mp hkx with hl | hl
    · have hl : scope.names.lookup y = some .local := by simpa using hl
      exact .inl ⟨hl, val, bindL_look hl hnd' e1, r.sub hk₁⟩
    · have hl : scope.names.lookup y = some .cell := by simpa using hl
      obtain ⟨c, hc⟩ := Option.isSome_iff_exists.mp (hcell y hy hl s.heap.objs.size)
      refine .inr ⟨.inl hl, c, val, hc, ?_, r.sub hk₁⟩
      have hcl := x.cell y c hc
      have e2 : bindC (Env.kindOf (newEnv scope s.heap.objs.size mainGlobals (cellsFrom (s.heap.objs.size + 1) scope.names []) (qual ++ ".<locals>.") (some f) cdv none builtinsNs)) (xs.zip vals) (fun _ => none) y = some val :=
        bindC_look (by show scope.names.lookup y ≠ some .local; rw [hl]; decide) hnd' e1
      rw [← e2]
      exact hcl
  · refine ⟨c, hc, ?_, ?_, ?_⟩
    · have hm : (y, c) ∈ cellsFrom (s.heap.objs.size + 1) scope.names [] := by
        obtain ⟨l1, l2, e, _⟩ := List.lookup_eq_some_iff.mp hc
        rw [e]; simp
      exact Nat.ne_of_gt (x.above y c hm)
    · have hm : (y, c) ∈ cellsFrom (s.heap.objs.size + 1) scope.names [] := by
        obtain ⟨l1, l2, e, _⟩ := List.lookup_eq_some_iff.mp hc
        rw [e]; simp
      have := x.above y c hm
      cases hq : s.heap.get? c with
      | none => rfl
      | some o =>
        have h5 := Heap.lt_size hq
        exact absurd (Nat.lt_trans this h5) (Nat.lt_irrefl _)
    · have hcl := x.cell y c hc
      have e2 : bindC (Env.kindOf (newEnv scope s.heap.objs.size mainGlobals (cellsFrom (s.heap.objs.size + 1) scope.names []) (qual ++ ".<locals>.") (some f) cdv none builtinsNs)) (xs.zip vals) (fun _ => none) y = none :=
        bindC_notin (by rw [zip_keys xs vals hvl]; exact hy)
      rw [← e2]
      exact hcl

theorem Cal.fnC {name qual : Str} {params : Arguments} {body : List Stmt} {scope : Scope} {dV kV doc pm cdv ct oc : Value} {an od : Option Addr} {osl : Array (Option Value)} {f : Addr} {args : List V} {xs : List Str} {v : V}
    (ho : (KK w).lookup f = some ⟨oc, od, .func (fnOf name qual params body scope dV kV doc pm an cdv ct), osl⟩) (hcd : codeIn (KK w) cdv qual = true)
    (hlen : xs.length = args.length) (hnd : xs.Nodup)
    (hbind : ∀ vals : List Value, vals.length = xs.length → bindArgs (fnOf name qual params body scope dV kV doc pm an cdv ct) ⟨vals, []⟩ = pure (xs.zip vals))
    (hkinds : (xs.all fun x => scope.names.lookup x == some .local || scope.names.lookup x == some .cell) = true)
    (hcell : ∀ x ∈ xs, scope.names.lookup x = some .cell → ∀ L, ((cellsFrom (L + 1) scope.names []).lookup x).isSome = true)
    (hco : scope.isCoroutine = false) (hgen : scope.isGenerator = false) (hk : scope.kind = .function)
    (h : ∀ g L, Exs w n g (envOfC qual scope L f cdv) (xs.zip (args.map W.v)) body (.ret v)) : Cal w (n + 1) (.ref f) args v := by
  intro A s Q E vals Gs rm hp q
  have hvl : xs.length = vals.length := hlen.trans hp.length
  refine wpAny_call (code_fnC (n := n) (xs := xs) Gs rm (Gs.X _ _ ho) rfl (codeRec_of Gs.X hcd) hlen hnd hp (hbind vals hvl.symm) hkinds (fun L h₁ tk F _ sb E' => ?_) hcell hco hgen hk)
  refine h s.heap L _ _ _ _ F rm.deeper fun fl s' k e => ?_
  obtain ⟨⟨val, rfl, r⟩, F'⟩ := e
  obtain ⟨h', tk', rfl, _⟩ := k
  obtain ⟨m', f', _⟩ := F'.fr
  exact q val _ ⟨h', tk', rfl, f'.keep⟩ r

/-- a comprehension's source: ints one by one -/
def Src (w : World) (n : Nat) (g : Heap) (env : Env) (ρ : List (Str × W)) (iter : Expr) (items : List Int) : Prop :=
  ∀ (A : Around) (s : Shared) (Q : Value → Shared → Prop) (E : Value → Shared → Prop), FrameOk w g env ρ s.heap → Room n A →
    (∀ I s2 fp wr P St, Keeps s s2 → Walks PR w A I fp wr items.length P St → St 0 s2.heap → (∀ b ∈ fp, b < s2.heap.objs.size) → (∀ b ∈ wr, s.heap.get? b = none) → (∀ i v, P i v → ∃ x t, items[i]? = some x ∧ v = .int x t) → Q (.ref I) s2) →
    wpAny (MM w) A (eval iter env) (fun xv s1 => wpAny (MM w) A (pyIter xv) Q E s1) E s

theorem fresh_none (h : Heap) : h.get? h.objs.size = none := Heap.get?_none_of_le (Nat.le_refl _)

theorem Src.range {iter : Expr} {a b : Int} (cnt : Nat) (hr : Rng w n g env ρ iter a b) (hcnt : (cnt : Int) = if a < b then b - a else 0) (ha : -(2 ^ 62) ≤ a) (ha' : a < 2 ^ 62) (hb : -(2 ^ 62) ≤ b) (hb' : b < 2 ^ 62) :
    Src w n g env ρ iter ((List.range cnt).map fun i => a + (i : Nat)) := by
  intro A s Q E F rm q
  refine hr A s _ E F rm fun r t u v s1 k1 hr => ?_
  have hsz : Builtin.Range.rangeSize a b 1 = (cnt : Int) := by rw [rangeSize_one, hcnt]
  refine wpAny_pyIter_range hr (small_one ha ha' hb hb') ?_
  rw [hsz]
  have W := (Walks.range (prog := PR) (w := w) (A := A) rm.handled s1.heap.objs.size a 1 cnt)
  have kk : Keeps s { s1 with heap := s1.heap.push { cls := .type "range_iterator", data := .fields #[rawInt a, rawInt (cnt : Int), rawInt 1] } } := ktr k1 (keeps_heap (sub_push _ _))
  refine q s1.heap.objs.size _ _ _ _ _ kk (by rw [List.length_map, List.length_range]; exact W.bound) ?_ ?_ ?_ ?_
  · simpa using Heap.get?_push_size s1.heap (o := { cls := .type "range_iterator", data := .fields #[rawInt a, rawInt (cnt : Int), rawInt 1] }) rfl
  · intro b hb
    simp only [List.mem_singleton] at hb
    subst hb
    rw [Heap.size_push]; exact Nat.lt_succ_self _
  · intro b hb
    simp only [List.mem_singleton] at hb
    subst hb
    cases hq : s.heap.get? s1.heap.objs.size with
    | none => rfl
    | some o =>
      have := ksub k1 _ _ hq
      rw [fresh_none] at this; cases this
  · rintro i v ⟨hi, t, rfl⟩
    exact ⟨a + i, t, by simp [hi], by simp⟩

theorem Src.tup {iter : Expr} {l : List Int} (h : Ev w n g env ρ iter (.tup l)) : Src w n g env ρ iter l := by
  intro A s Q E F rm q
  refine h A s _ E F rm fun val s1 k1 r1 => ?_
  obtain ⟨a, vs, rfl, ht, hi⟩ := r1
  have ht' : s1.heap.IsTuple a vs.toArray := ht
  refine wpAny_pyIter_tuple ht' ?_
  have hne : a ≠ s1.heap.objs.size := by obtain ⟨o, ho, _⟩ := ht; exact Nat.ne_of_lt (Heap.lt_size ho)
  have W := Walks.tuple (prog := PR) (w := w) (A := A) rm.handled s1.heap.objs.size a hne vs.toArray
  have hl : vs.toArray.size = l.length := by rw [List.size_toArray]; exact intsAre_len hi
  rw [hl] at W
  refine q s1.heap.objs.size _ _ _ _ _ (ktr k1 (keeps_heap (sub_push _ _))) W ⟨⟨_, Heap.get?_push_size _ rfl, rfl, rfl⟩, ht'.push _⟩ ?_ ?_ ?_
  · intro b hb
    rw [Heap.size_push]
    simp only [List.mem_cons, List.not_mem_nil, or_false] at hb
    rcases hb with rfl | rfl
    · exact Nat.lt_succ_self _
    · obtain ⟨o, ho, _⟩ := ht; exact Nat.lt_succ_of_lt (Heap.lt_size ho)
  · intro b hb
    simp only [List.mem_singleton] at hb
    subst hb
    cases hq : s.heap.get? s1.heap.objs.size with
    | none => rfl
    | some o =>
      have := ksub k1 _ _ hq
      rw [fresh_none] at this; cases this
  · intro i v e
    have e : vs[i]? = some v := by simpa using e
    have hlt : i < vs.length := (List.getElem?_eq_some_iff.mp e).1
    have hlt' : i < l.length := by rw [← intsAre_len hi]; exact hlt
    obtain ⟨t, ht⟩ := intsAre_get hi (List.getElem?_eq_getElem hlt')
    rw [e] at ht; cases ht
    exact ⟨l[i], t, List.getElem?_eq_getElem hlt', rfl⟩

/-- a free name of a comprehension's: a cell of the frame's around -/
structure FreeOk (env : Env) (scope : Scope) (cl : List (Str × Addr)) (ρ : List (Str × W)) (x : Str) (p : Str × V) : Prop where
  val : ρ.lookup p.1 = some (.v p.2)
  kind : env.kindOf p.1 = some .cell
  cell : cl.lookup p.1 = env.cells.lookup p.1
  lab : (relabel scope env).names.lookup p.1 = some .cell
  ne : p.1 ≠ x

theorem frame_comp {h h' : Heap} {scope : Scope} {cl : List (Str × Addr)} {x : Str} {ρf : List (Str × V)} {C : Addr} {m₃ : Str → Option Value} {i : Int} {t : Tok} (F : FrameOk w g env ρ h) (hk : Sub h h') (hkind : scope.kind = .function)
    (hxk : (relabel scope env).names.lookup x = some .local) (hfree : ∀ p ∈ ρf, FreeOk env scope cl ρ x p) (hC : g.objs.size ≤ C) (hn : h'.Ns C m₃) (hm : m₃ x = some (.int i t)) :
    FrameOk w g (compEnvC scope cl C env) ((x, .v (.int i)) :: ρf.map fun p => (p.1, W.v p.2)) h' := by
  obtain ⟨m, f, hv⟩ := F.fr
  refine ⟨hkind, F.globals, F.builtins, F.gg, m₃, ⟨hn, fun b o e => hk _ _ (f.keep b o e), hC⟩, fun y u e => ?_⟩
  rw [lookup_cons_eq] at e
  by_cases hy : y = x
  · subst hy
    rw [if_pos rfl] at e; cases e
    exact .inl ⟨hxk, _, hm, t, rfl⟩
  · rw [if_neg hy] at e
    have hmem : ∃ p ∈ ρf, p.1 = y ∧ u = .v p.2 := by
      clear hfree
      induction ρf with
      | nil => simp at e
      | cons p r ih =>
        rw [List.map_cons, lookup_cons_eq] at e
        by_cases hyp : y = p.1
        · rw [if_pos hyp] at e; cases e; exact ⟨p, .head _, hyp.symm, rfl⟩
        · rw [if_neg hyp] at e
          obtain ⟨q, hq, h1, h2⟩ := ih e
          exact ⟨q, .tail _ hq, h1, h2⟩
    obtain ⟨p, hp, rfl, rfl⟩ := hmem
    have fo := hfree p hp
    rcases hv p.1 _ fo.val with ⟨a, _⟩ | ⟨a, c, val, b, d, e'⟩
    · rw [fo.kind] at a; cases a
    · exact .inr ⟨.inl fo.lab, c, val, fo.cell.trans b, d.keeps hk, e'.sub hk⟩

theorem paired_items {Fp : Int → Value → Prop} : ∀ {items : List Int} {vs ys : List Value}, vs.length = items.length → (∀ (j : Nat) (v : Value), vs[j]? = some v → ∃ x t, items[j]? = some x ∧ v = Value.int x t) → Paired (fun (v : Value) y => ∀ i t, v = Value.int i t → Fp i y) vs ys → Paired Fp items ys
  | [], [], _, _, _, .nil => .nil
  | x :: items, v :: vs, _, hl, hP, .cons (b := y) h p => by
    obtain ⟨x', t, e1, e2⟩ := hP 0 v rfl
    simp at e1; subst e1
    exact .cons (h _ t e2) (paired_items (by simpa using hl) (fun j v hv => hP (j + 1) v (by simpa using hv)) p)
  | [], _ :: _, _, hl, _, _ => by simp at hl
  | _ :: _, [], _, hl, _, _ => by simp at hl

theorem quiet_of {A : Around} {s s2 : Shared} {scope : Scope} {cl : List (Str × Addr)} {x : Str} {elt : Expr} {ρf : List (Str × V)} {items : List Int} {wr : List Addr} {P : Nat → Value → Prop} (Fp : Int → Value → Prop) (F : FrameOk w g env ρ s.heap) (k2 : Keeps s s2)
    (hkind : scope.kind = .function) (hxk : (relabel scope env).names.lookup x = some .local) (hfree : ∀ p ∈ ρf, FreeOk env scope cl ρ x p) (hwr : ∀ b ∈ wr, s.heap.get? b = none) (hP : ∀ i v, P i v → ∃ x t, items[i]? = some x ∧ v = .int x t)
    (helt : ∀ i ∈ items, ∀ C s3 E, FrameOk w g (compEnvC scope cl C env) ((x, .v (.int i)) :: ρf.map fun p => (p.1, W.v p.2)) s3.heap → Sub s.heap s3.heap → wpAny (MM w) A (eval elt (compEnvC scope cl C env)) (fun y s4 => Fp i y ∧ Keeps s3 s4) E s3) :
    QuietOnC PR w A env scope cl x [] elt wr P (fun _ => true) (fun (v : Value) y => ∀ i t, v = .int i t → Fp i y) s2 where
  tests := fun C i v s₃ m₃ E' _ _ _ _ _ _ => wpAny_tests_nil ⟨rfl, keeps_refl s₃⟩
  elt := fun C i v s₃ m₃ E' hC hv _ hn hm hk _ => by
    obtain ⟨i', t, hi', rfl⟩ := hP i v hv
    have sb : Sub s.heap s₃.heap := fun b o e => hk b o (fun hw => by rw [hwr b hw] at e; cases e) (ksub k2 b o e)
    have hsz : g.objs.size ≤ s2.heap.objs.size := by
      obtain ⟨m, f, _⟩ := (F.sub (ksub k2)).fr
      exact Nat.le_trans f.above (Nat.le_of_lt f.ns.lt)
    have F3 := frame_comp (t := t) F sb hkind hxk hfree (Nat.le_trans hsz hC) hn hm
    exact wpAny_mono (helt i' (List.mem_of_getElem? hi') C s₃ E' F3 sb) (fun y s4 r => ⟨fun j u e => by cases e; exact r.1, r.2⟩) fun _ _ e => e

theorem filter_all (vs : List Value) : vs.filter (fun _ => true) = vs := List.filter_eq_self.mpr fun _ _ => rfl

theorem comp_eval {A : Around} {s : Shared} {Q : Value → Shared → Prop} {E : Value → Shared → Prop} {scope : Scope} {cl : List (Str × Addr)} {x : Str} {px pos : Pos} {elt iter : Expr} {ρf : List (Str × V)} {items : List Int} (Fp : Int → Value → Prop) (F : FrameOk w g env ρ s.heap) (rm : Room n A)
    (hsrc : Src w n g env ρ iter items) (hclos : closureFor scope env = pure cl) (hcell : ∀ y ∈ scope.names, y.2 ≠ .cell) (hkind : scope.kind = .function) (hnames : ∀ y ∈ scope.names, y.2 = .local → scope.names.lookup y.1 = some .local)
    (hx : scope.names.lookup x = some .local) (hxk : (relabel scope env).names.lookup x = some .local) (hfree : ∀ p ∈ ρf, FreeOk env scope cl ρ x p) (hlen : items.length ≤ 1000)
    (helt : ∀ i ∈ items, ∀ C s3 E, FrameOk w g (compEnvC scope cl C env) ((x, .v (.int i)) :: ρf.map fun p => (p.1, W.v p.2)) s3.heap → Sub s.heap s3.heap → wpAny (MM w) A (eval elt (compEnvC scope cl C env)) (fun y s4 => Fp i y ∧ Keeps s3 s4) E s3)
    (hQ : ∀ D s' ys, Keeps s s' → s'.heap.IsList D ys → Paired Fp items ys.toList → Q (.ref D) s') (hs : ∀ v, foldedSetIterable iter env v = pure v) :
    wpAny (MM w) A (eval (.ListComp elt [⟨.Name x px, iter, [], 0⟩] scope pos) env) Q E s := by
  refine wpAny_ListComp_free (fun _ => true) (fun (v : Value) y => ∀ i t, v = .int i t → Fp i y) hclos hcell hkind hnames hx ?_ hs
  refine hsrc A s _ E F rm fun I s2 fp wr P St k2 W hst hfp hwr hP => ⟨I, fp, wr, items.length, P, St, rfl, W, by have := sizeLine_big; omega, hst, hfp, quiet_of Fp F k2 hkind hxk hfree hwr hP helt, ?_⟩
  intro D h' tk ys vs hD hl hpl hvl hPv hF hk
  refine hQ D _ ys ?_ hl (paired_items hvl (fun j v hv => hP j v (hPv j v hv)) (filter_all vs ▸ hF))
  obtain ⟨h2, t2, rfl, q2⟩ := k2
  exact ⟨h', tk, rfl, fun b o e => hk b o (fun hw => by rw [hwr b hw] at e; cases e) (q2 b o e)⟩

theorem paired_map_int {h : Heap} {f : Int → Int} : ∀ {items : List Int} {ys : List Value}, Paired (fun i y => ∃ t, y = Value.int (f i) t) items ys → Paired (fun v y => RepU h y v) (items.map fun i => V.int (f i)) ys
  | [], _, .nil => .nil
  | _ :: _, _, .cons a b => .cons a (paired_map_int b)

/-- a comprehension of ints -/
theorem Ev.comp {scope : Scope} {cl : List (Str × Addr)} {x : Str} {px pos : Pos} {elt iter : Expr} (ρf : List (Str × V)) {items : List Int} (f : Int → Int)
    (hsrc : Src w n g env ρ iter items) (hclos : closureFor scope env = pure cl) (hcell : (scope.names.all fun y => decide (y.2 ≠ .cell)) = true) (hkind : scope.kind = .function) (hnames : (scope.names.all fun y => decide (y.2 = .local → scope.names.lookup y.1 = some .local)) = true)
    (hx : scope.names.lookup x = some .local) (hxk : (relabel scope env).names.lookup x = some .local) (hfree : ∀ p ∈ ρf, FreeOk env scope cl ρ x p) (hlen : items.length ≤ 1000)
    (helt : ∀ i ∈ items, ∀ C, Ev w n g (compEnvC scope cl C env) ((x, .v (.int i)) :: ρf.map fun p => (p.1, W.v p.2)) elt (.int (f i)))
    (hs : ∀ v, foldedSetIterable iter env v = pure v) : Ev w n g env ρ (.ListComp elt [⟨.Name x px, iter, [], 0⟩] scope pos) (.list (items.map fun i => V.int (f i))) := by
  intro A s Q E F rm q
  refine comp_eval (fun i y => ∃ t, y = .int (f i) t) F rm hsrc hclos (fun y h => of_decide_eq_true (List.all_eq_true.mp hcell y h)) hkind (fun y h => of_decide_eq_true (List.all_eq_true.mp hnames y h)) hx hxk hfree hlen ?_ ?_ hs
  · intro i hi C s3 E' F3 sb
    exact helt i hi C A s3 _ E' F3 rm fun val s4 k4 r4 => ⟨r4, k4⟩
  · intro D s' ys k hl hp
    exact q _ s' k ⟨D, ys.toList, rfl, by simpa using hl, paired_map_int hp⟩

theorem Ex.assignComp {scope : Scope} {cl : List (Str × Addr)} {x y : Str} {px py pos spos : Pos} {elt iter : Expr} (ρf : List (Str × V)) {items : List Int} (f : Int → Int)
    (hsw : swapsWith (.ListComp elt [⟨.Name x px, iter, [], 0⟩] scope pos) (some (.Name y py)) spos.line env = pure true) (hy : env.kindOf y = some .local)
    (hsrc : Src w n g env ρ iter items) (hclos : closureFor scope env = pure cl) (hcell : (scope.names.all fun y => decide (y.2 ≠ .cell)) = true) (hkind : scope.kind = .function) (hnames : (scope.names.all fun y => decide (y.2 = .local → scope.names.lookup y.1 = some .local)) = true)
    (hx : scope.names.lookup x = some .local) (hxk : (relabel scope env).names.lookup x = some .local) (hfree : ∀ p ∈ ρf, FreeOk env scope cl ρ x p) (hlen : items.length ≤ 1000)
    (helt : ∀ i ∈ items, ∀ C, Ev w n g (compEnvC scope cl C env) ((x, .v (.int i)) :: ρf.map fun p => (p.1, W.v p.2)) elt (.int (f i)))
    (hs : ∀ v, foldedSetIterable iter env v = pure v) : Ex w n g env ρ (.Assign [.Name y py] (.ListComp elt [⟨.Name x px, iter, [], 0⟩] scope pos) spos) (.next ((y, .v (.list (items.map fun i => V.int (f i)))) :: ρ)) := by
  intro A s Q E F rm q
  refine wpAny_Assign_ListComp_free (fun _ => true) (fun (v : Value) y => ∀ i t, v = .int i t → ∃ t, y = .int (f i) t) hsw hclos (fun y h => of_decide_eq_true (List.all_eq_true.mp hcell y h)) hkind (fun y h => of_decide_eq_true (List.all_eq_true.mp hnames y h)) hx hy (by rw [F.kind]; rfl) ?_ hs
  refine hsrc A s _ E F rm fun I s2 fp wr P St k2 W hst hfp hwr hP => ?_
  have F2 := F.sub (ksub k2)
  obtain ⟨m, fr, hv⟩ := F2.fr
  have hLw : env.locals ∉ wr := fun hw => by
    obtain ⟨m0, f0, _⟩ := F.fr
    obtain ⟨o, _, _, ho, _⟩ := f0.ns
    rw [hwr _ hw] at ho; cases ho
  refine ⟨I, fp, wr, items.length, P, St, m, rfl, W, by have := sizeLine_big; omega, hst, hfp, hLw, fr.ns, quiet_of (fun i y => ∃ t, y = .int (f i) t) F k2 hkind hxk hfree hwr hP ?_, ?_⟩
  · intro i hi C s3 E' F3 sb
    exact helt i hi C A s3 _ E' F3 rm fun val s4 k4 r4 => ⟨r4, k4⟩
  · intro D h' tk ys vs hD hl hpl hvl hPv hF hn hk
    have hp := paired_items (Fp := fun i y => ∃ t, y = .int (f i) t) hvl (fun j v hv => hP j v (hPv j v hv)) (filter_all vs ▸ hF)
    obtain ⟨h2, t2, rfl, q2⟩ := k2
    have ext : Heap.ExtBut env.locals s.heap h' := fun b o nb e => hk b o nb (fun hw => by rw [hwr b hw] at e; cases e) (q2 b o e)
    obtain ⟨m0, f0, hv0⟩ := F.fr
    have hmm : m0 = m := by
      obtain ⟨o, es, ep, ho, hd, _, hf⟩ := f0.ns
      obtain ⟨o', es', ep', ho', hd', _, hf'⟩ := fr.ns
      rw [q2 _ _ ho] at ho'; cases ho'
      rw [hd] at hd'; cases hd'
      funext z; rw [← hf z, ← hf' z]
    subst hmm
    refine q _ _ ⟨h', tk, rfl, fun b o nb _ _ e => ext b o nb e⟩ ⟨rfl, ?_⟩
    have hgL : g.get? env.locals = none := by
      cases hq : g.get? env.locals with
      | none => rfl
      | some o => exact absurd (Nat.lt_of_lt_of_le (Heap.lt_size hq) f0.above) (Nat.lt_irrefl _)
    refine ⟨F.kind, F.globals, F.builtins, F.gg, _, ⟨hn, fun b o e => ext b o (by rintro rfl; rw [hgL] at e; cases e) (f0.keep b o e), f0.above⟩, fun z u e => ?_⟩
    rw [lookup_cons_eq] at e
    by_cases hz : z = y
    · subst hz
      rw [if_pos rfl] at e; cases e
      exact .inl ⟨hy, .ref D, by simp, D, ys.toList, rfl, by simpa using hl, paired_map_int hp⟩
    · rw [if_neg hz] at e
      exact VarOk.storeE f0 (hv0 z u e) hz ext

theorem intsAre_of_repU {h : Heap} : ∀ {l : List Int} {vs : List Value}, Paired (fun v x => RepU h x v) (l.map V.int) vs → IntsAre vs l
  | [], _, .nil => .nil
  | _ :: _, _, .cons ⟨t, e⟩ r => by subst e; exact .cons _ t (intsAre_of_repU r)
theorem Cmp.inL {k : Int} {l : List Int} : Cmp w .In (.int k) (.list (l.map V.int)) (l.any (· == k)) := fun _ s _ _ _ _ _ ha hb q => by
  obtain ⟨t, rfl⟩ := ha
  obtain ⟨a, vs, rfl, hl, hi⟩ := hb
  exact in_list_ints hl (intsAre_of_repU hi) (q s (keeps_refl s))
end

-- L9
section
variable {w : World} {n : Nat} {g : Heap} {env : Env} {ρ ρ' : List (Str × W)}

/-- statements, with no word on what other frames own -/
def Run (w : World) (n : Nat) (g : Heap) (env : Env) (ρ : List (Str × W)) (st : List Stmt) (v : V) : Prop :=
  ∀ (A : Around) (s : Shared) (Q : Flow → Shared → Prop) (E : Value → Shared → Prop), FrameOk w g env ρ s.heap → Room n A →
    (∀ fl h' tk, Ends w g env (.ret v) fl { s with heap := h', toks := tk } → Q fl { s with heap := h', toks := tk }) → wpAny (MM w) A (execs st env) Q E s

theorem Run.of {st : List Stmt} {v : V} (h : Exs w n g env ρ st (.ret v)) : Run w n g env ρ st v := fun A s Q E F rm q => h A s Q E F rm fun fl s' k e => by
  obtain ⟨h', tk, rfl, _⟩ := k
  exact q fl h' tk e
theorem Run.cons {st : Stmt} {rest : List Stmt} {v : V} {ρ1 : List (Str × W)} (h1 : Ex w n g env ρ st (.next ρ1)) (h2 : Run w n g env ρ1 rest v) : Run w n g env ρ (st :: rest) v := by
  intro A s Q E F rm q
  refine wpAny_execs_cons (h1 A s _ E F rm fun fl s1 k1 e => ?_)
  obtain ⟨rfl, F1⟩ := e
  obtain ⟨h', tk, rfl, _⟩ := k1
  exact h2 A _ Q E F1 rm q
theorem Run.assign {x : Str} {p pos : Pos} {value : Expr} {v : V} {rest : List Stmt} {r : V} (h : Ev w n g env ρ value v) (hl : env.kindOf x = some .local) (hs : swapsWith value (some (.Name x p)) pos.line env = pure false)
    (h2 : Run w n g env ((x, .v v) :: ρ) rest r) : Run w n g env ρ (.Assign [.Name x p] value pos :: rest) r := Run.cons (Ex.assign h hl hs) h2

theorem isCell_inj {h : Heap} {c : Addr} {a b : Option Value} (x : h.IsCell c a) (y : h.IsCell c b) : a = b := by
  obtain ⟨o, ho, hd⟩ := x
  obtain ⟨o', ho', hd'⟩ := y
  rw [ho] at ho'; cases ho'; rw [hd] at hd'; cases hd'; rfl

/-- a name that is a cell is set for the first time -/
theorem Run.cell {x : Str} {p pos : Pos} {value : Expr} {v r : V} {rest : List Stmt} (h : Ev w n g env ρ value v) (hx : ρ.lookup x = some .unset) (hoth : ∀ y, ρ.lookup y = some .unset → y ≠ x → env.cells.lookup y ≠ env.cells.lookup x)
    (hs : swapsWith value (some (.Name x p)) pos.line env = pure false) (h2 : Run w n g env ((x, .v v) :: ρ) rest r) : Run w n g env ρ (.Assign [.Name x p] value pos :: rest) r := by
  intro A s Q E F rm q
  refine wpAny_execs_cons (wpAny_Assign_Name (h A s _ E F rm fun val s1 k1 r1 => ?_) hs)
  have F1 := F.sub (ksub k1)
  obtain ⟨m, f, hm⟩ := F1.fr
  obtain ⟨hk, c, hc, hcl, hgc, hcell⟩ := hm x _ hx
  refine wpAny_storeName_cell F.kind hk hc hcell fun h' hc' hs' => ?_
  obtain ⟨h1, t1, rfl, _⟩ := k1
  have hs' : Heap.SameBut c h1 h' := hs'
  have hcell : h1.IsCell c none := hcell
  refine h2 A _ Q E ?_ rm q
  have sq : Seqs h1 h' := fun b o' _ _ hd' e => hs'.extBut b o' (by
    rintro rfl; obtain ⟨o, ho, hd⟩ := hcell; rw [ho] at e; cases e; rw [hd] at hd'; cases hd') e
  refine ⟨F.kind, F.globals, F.builtins, F.gg, m, ⟨f.ns.extBut hs'.extBut (Ne.symm hcl), fun b o e => hs'.extBut b o (by rintro rfl; rw [hgc] at e; cases e) (f.keep b o e), f.above⟩, fun y u e => ?_⟩
  rw [lookup_cons_eq] at e
  by_cases hy : y = x
  · subst hy
    rw [if_pos rfl] at e; cases e
    exact .inr ⟨.inl hk, c, val, hc, hc', r1.seqs sq⟩
  · rw [if_neg hy] at e
    have r := hm y u e
    cases u with
    | v u =>
      rcases r with ⟨a, val', b, c'⟩ | ⟨a, c', val', b, d, e'⟩
      · exact .inl ⟨a, val', b, c'.seqs sq⟩
      · refine .inr ⟨a, c', val', b, d.sameBut hs' ?_, e'.seqs sq⟩
        rintro rfl
        cases isCell_inj d hcell
    | olist l =>
      obtain ⟨a, D, b, c', d, e⟩ := r
      obtain ⟨o', its, kk, ho', hc', hd'⟩ := e.obj
      refine ⟨a, D, b, c', d, e.extBut hs'.extBut ?_ fun b o _ _ _ hd q => sq b o _ _ hd q⟩
      rintro rfl
      obtain ⟨o, ho, hd⟩ := hcell
      rw [ho] at ho'; cases ho'; rw [hd] at hd'; cases hd'
    | odict dd k =>
      obtain ⟨a, D, b, c', d, e⟩ := r
      refine ⟨a, D, b, c', d, e.extBut hs'.extBut ?_⟩
      obtain ⟨_, f', i, _⟩ := e
      obtain ⟨o2, es, ep, ho2, _, hd2⟩ := intMap_obj i
      rintro rfl
      obtain ⟨o, ho, hd⟩ := hcell
      rw [ho] at ho2; cases ho2; rw [hd] at hd2; cases hd2
    | unset =>
      obtain ⟨a, c', b, d, e', f'⟩ := r
      refine ⟨a, c', b, d, e', f'.sameBut hs' ?_⟩
      rintro rfl
      exact hoth y e hy (b.trans hc.symm)

/-- a def with cells, from the outside -/
theorem code_law {A : Around} {s : Shared} {R : Result → Shared → Prop} {name qual : Str} {params : Arguments} {body : List Stmt} {scope : Scope} {dV kV doc pm cdv ct oc : Value} {an od : Option Addr} {osl : Array (Option Value)} {f : Addr} {args : List V} {vals : List Value} {xs : List Str} {v : V} (us : List Str)
    (Gs : G w s.heap) (rm : Room (n + 1) A) (ho : (KK w).lookup f = some ⟨oc, od, .func (fnOf name qual params body scope dV kV doc pm an cdv ct), osl⟩) (hcd : codeIn (KK w) cdv qual = true)
    (hlen : xs.length = args.length) (hnd : xs.Nodup) (hp : Paired (fun v val => Rep s.heap val v) args vals)
    (hbind : ∀ vals : List Value, vals.length = xs.length → bindArgs (fnOf name qual params body scope dV kV doc pm an cdv ct) ⟨vals, []⟩ = pure (xs.zip vals))
    (hkinds : (xs.all fun x => scope.names.lookup x == some .local || scope.names.lookup x == some .cell) = true)
    (hcell : ∀ x ∈ xs, scope.names.lookup x = some .cell → ∀ L, ((cellsFrom (L + 1) scope.names []).lookup x).isSome = true)
    (hus : ∀ x ∈ us, x ∉ xs ∧ scope.names.lookup x = some .cell ∧ ∀ L, ((cellsFrom (L + 1) scope.names []).lookup x).isSome = true)
    (hco : scope.isCoroutine = false) (hgen : scope.isGenerator = false) (hk : scope.kind = .function)
    (h : ∀ g L, Run w n g (envOfC qual scope L f cdv) (xs.zip (args.map W.v) ++ us.map (·, W.unset)) body v)
    (q : ∀ val h' tk, Sub s.heap h' → Rep h' val v → R (.ok (.ret val)) { s with heap := h', toks := tk }) : codeAny (MM w) A (.call (.ref f) ⟨vals, []⟩) R s := by
  have hvl : xs.length = vals.length := hlen.trans hp.length
  refine code_fnC (n := n) (xs := xs) Gs rm (Gs.X _ _ ho) rfl (codeRec_of Gs.X hcd) hlen hnd hp (hbind vals hvl.symm) hkinds (fun L h₁ tk F un sb E' => ?_) hcell hco hgen hk
  have F' : FrameOk w s.heap (envOfC qual scope L f cdv) (xs.zip (args.map W.v) ++ us.map (·, W.unset)) h₁ := by
    obtain ⟨m, fr, hm⟩ := F.fr
    refine ⟨F.kind, F.globals, F.builtins, F.gg, m, fr, fun y u e => ?_⟩
    rw [List.lookup_append] at e
    cases hz : (xs.zip (args.map W.v)).lookup y with
    | some u' =>
      rw [hz] at e
      simp at e; subst e
      exact hm y _ hz
    | none =>
      rw [hz, Option.none_or] at e
      have hmem : y ∈ us ∧ u = .unset := by
        clear hus h
        induction us with
        | nil => simp at e
        | cons x r ih =>
          rw [List.map_cons, lookup_cons_eq] at e
          by_cases hyx : y = x
          · rw [if_pos hyx] at e; cases e; exact ⟨hyx ▸ .head _, rfl⟩
          · rw [if_neg hyx] at e; exact ⟨.tail _ (ih e).1, (ih e).2⟩
      obtain ⟨hy, rfl⟩ := hmem
      obtain ⟨a, b, c⟩ := hus y hy
      obtain ⟨cc, hcc⟩ := Option.isSome_iff_exists.mp (c L)
      obtain ⟨c', d1, d2, d3, d4⟩ := un y cc hcc a
      exact ⟨b, c', d1, d2, d3, d4⟩
  refine h s.heap L _ _ _ _ F' rm.deeper fun fl h' tk e => ?_
  obtain ⟨⟨val, rfl, r⟩, F''⟩ := e
  obtain ⟨m', f', _⟩ := F''.fr
  exact q val h' tk f'.keep r

/-- the items of a name's list, the very ones, by a comprehension, into names -/
theorem Ex.unpackComp {x l : Str} {pl px pos upos lpos cpos : Pos} {k : Nat} {iter ix : Expr} {scope : Scope} {cl : List (Str × Addr)} {elts : List Expr} {xs : List Str} (ρf : List (Str × V)) {items : List Int} {pts : List V} (f : Int → Int) (z : Int → V)
    (hpts : (l, V.list pts) ∈ ρf)
    (hsw : swapsWithSole [.Tuple elts k upos] (.ListComp (.Subscript (.Name l pl) ix lpos) [⟨.Name x px, iter, [], 0⟩] scope cpos) pos.line env = pure false)
    (hw : swappedStores [.Tuple elts k upos] (.ListComp (.Subscript (.Name l pl) ix lpos) [⟨.Name x px, iter, [], 0⟩] scope cpos) env = pure none)
    (hns : namesOf elts = some xs) (hxl : xs.length = items.length) (hlocal : ∀ x ∈ xs, env.kindOf x = some .local)
    (hsrc : Src w n g env ρ iter items) (hclos : closureFor scope env = pure cl) (hcell : (scope.names.all fun y => decide (y.2 ≠ .cell)) = true) (hkind : scope.kind = .function) (hnames : (scope.names.all fun y => decide (y.2 = .local → scope.names.lookup y.1 = some .local)) = true)
    (hx : scope.names.lookup x = some .local) (hxk : (relabel scope env).names.lookup x = some .local) (hfree : ∀ p ∈ ρf, FreeOk env scope cl ρ x p) (hlen : items.length ≤ 1000)
    (helt : ∀ i ∈ items, ∀ C, Ev w n g (compEnvC scope cl C env) ((x, .v (.int i)) :: ρf.map fun p => (p.1, W.v p.2)) ix (.int (f i))) (hf : ∀ i ∈ items, 0 ≤ f i ∧ f i < 2 ^ 63 ∧ pts[(f i).toNat]? = some (z i))
    (hd : (l == ("__debug__" : Str)) = false) (hps : plainSlice ix = true)
    (hs : ∀ v, foldedSetIterable iter env v = pure v) : Ex w n g env ρ (.Assign [.Tuple elts k upos] (.ListComp (.Subscript (.Name l pl) ix lpos) [⟨.Name x px, iter, [], 0⟩] scope cpos) pos) (.next (stMany xs (items.map z) ρ)) := by
  intro A s Q E F rm q
  obtain ⟨ht, hn, hstar⟩ := targets_of (w := w) (A := A) (E := E) (env := env) hns
  have fo := hfree _ hpts
  have hv : ∃ c a vs, env.cells.lookup l = some c ∧ s.heap.IsCell c (some (.ref a)) ∧ s.heap.IsList a vs ∧ Paired (fun v val => RepU s.heap val v) pts vs.toList := by
    obtain ⟨m, fr, hm⟩ := F.fr
    rcases hm l _ fo.val with ⟨a, _⟩ | ⟨a, c, val, b, d, e⟩
    · rw [fo.kind] at a; cases a
    · obtain ⟨a', vs, rfl, h1, h2⟩ := e
      exact ⟨c, a', vs.toArray, b, d, h1, by simpa using h2⟩
  obtain ⟨c, a, vs, hc, hcv, hli, hpr⟩ := hv
  refine Assign_Tuple (comp_eval (fun i y => vs[(f i).toNat]? = some y) F rm hsrc hclos (fun y h => of_decide_eq_true (List.all_eq_true.mp hcell y h)) hkind (fun y h => of_decide_eq_true (List.all_eq_true.mp hnames y h)) hx hxk hfree hlen ?_ ?_ hs) hsw hw
  · intro i hi C s3 E' F3 sb
    refine Subscript_ (wpAny_Name (wpAny_loadName_cell (by exact hkind) fo.lab (fo.cell.trans hc) (hcv.keeps sb) ?_) hd)
    refine helt i hi C A s3 _ E' F3 rm fun iv s4 k4 r4 => ?_
    obtain ⟨t, rfl⟩ := r4
    obtain ⟨h0, hb, hz⟩ := hf i hi
    obtain ⟨y, hy, _⟩ := paired_get hpr hz
    have hl4 : s4.heap.IsList a vs := let ⟨o, ho, r⟩ := hli; ⟨o, ksub k4 _ _ (sb _ _ ho), r⟩
    have hy' : vs[(f i).toNat]? = some y := by simpa using hy
    exact tail_any hl4.typeIs slot_list_getitem.lookup (wpAny_getItem_list hl4 h0 hb hy' ⟨hy', k4⟩) (subscripted_plain hps)
  · intro D s1 ys k1 hl hp
    have hrep : Paired (fun v val => Rep s1.heap val v) (items.map z) ys.toList := by
      have : ∀ (its : List Int) (yl : List Value), (∀ i ∈ its, i ∈ items) → Paired (fun i y => vs[(f i).toNat]? = some y) its yl → Paired (fun v val => Rep s1.heap val v) (its.map z) yl := by
        intro its
        induction its with
        | nil => intro yl _ hp; cases hp; exact .nil
        | cons i its ih =>
          intro yl hin hp
          cases hp with
          | cons h r =>
            refine .cons ?_ (ih _ (fun j hj => hin j (.tail _ hj)) r)
            obtain ⟨_, _, hz⟩ := hf i (hin i (.head _))
            obtain ⟨y', hy, r'⟩ := paired_get hpr hz
            have hy' : vs[(f i).toNat]? = some y' := by simpa using hy
            rw [h] at hy'; cases hy'
            exact (r'.sub (ksub k1)).rep
      exact this items _ (fun _ h => h) hp
    have hsz : ys.size = items.length := by have := hrep.length; simp at this; omega
    rw [assign_Tuple]
    refine wpAny_bind (wpAny_standAt ?_)
    unfold unpack
    rw [hn, hstar, show xs.length = ys.size by omega]
    refine wpAny_bind (wpAny_holding (kun_itemsOf rm.handled hl fun h' he => ?_))
    have sb := extBut_sub he
    have k2 : Keeps s1 { s1 with heap := h' } := keeps_heap sb
    refine sts_names xs (items.map z) ys.toList _ ρ _ _ ht (by simpa using hxl) (Paired.imp (fun _ _ q => q.sub sb) hrep) hlocal ((F.sub (ksub k1)).sub sb) fun s3 k3 F3 => ?_
    exact q _ s3 ((kafter k1).trans ((kafter k2).trans k3)) ⟨rfl, F3⟩
end

-- F1
theorem Bd.lit {x : Int} (h : decide (x.natAbs < 256) = true) : Bd 8 x := by unfold Bd; exact of_decide_eq_true h
theorem Bd.ofRange {x P : Int} (h0 : 0 ≤ x) (h1 : x < P) (h : P < 256) : Bd 8 x := by unfold Bd; omega

local macro_rules | `(tactic| walk_at "bd1") => `(tactic| first
  | ((with_reducible show Bd _ _); assumption) | ((with_reducible show (0 : Int) < _); assumption) | ((refine' Bd.lit ?_); decide)
  | with_reducible refine' Bd.mod ?_ ?_ | with_reducible refine' Bd.mul ?_ ?_ | with_reducible refine' Bd.add ?_ ?_ | with_reducible refine' Bd.sub ?_ ?_ | with_reducible refine' Bd.pow ?_ _ | with_reducible refine' Bd.neg ?_)
local macro_rules | `(tactic| walk_at "bd") => `(tactic| (refine' Bd.mono (k := ?bdk) ?bda ?bdb; (case bda => repeat' (walk_at "bd1")); (case bdb => decide)))
local macro_rules | `(tactic| walk_at "side") => `(tactic| ((try dsimp only); first | ((with_reducible show (0 : Int) < _); assumption) | (with_reducible show Bd _ _; walk_at "bd") | ((with_reducible show Bd _ _ ∨ Bd _ _); first | (refine Or.inl ?_; walk_at "bd") | (refine Or.inr ?_; walk_at "bd"))))
local macro_rules | `(tactic| walk_at "ev1") => `(tactic| first
  | with_reducible exact Ev.int | with_reducible exact Ev.none | with_reducible exact Ev.bool
  | ((with_reducible refine' Ev.name ?hx); (case hx => rfl))
  | with_reducible refine' Ev.add ?_ ?_ | with_reducible refine' Ev.sub ?_ ?_ | with_reducible refine' Ev.mul ?_ ?_ ?_ | with_reducible refine' Ev.mod ?_ ?_ ?_ | with_reducible refine' Ev.fdiv ?_ ?_ ?_ ?_
  | with_reducible refine' Ev.pow2 ?_ ?_ | with_reducible refine' Ev.pow3 ?_ ?_ | with_reducible refine' Ev.pow4 ?_ ?_ | with_reducible refine' Ev.neg ?_
  | with_reducible refine' Ev.item0 ?_ | with_reducible refine' Ev.item1 ?_ | with_reducible refine' Ev.item2 ?_
  | ((with_reducible refine' Ev.tup3 ?_ ?_ ?_ ?_ ?_ ?_) <;> first | rfl | skip) | ((with_reducible refine' Ev.tup2 ?_ ?_ ?_ ?_) <;> first | rfl | skip) | ((with_reducible refine' Ev.tup4 ?_ ?_ ?_ ?_ ?_ ?_ ?_ ?_) <;> first | rfl | skip)
  | ((with_reducible refine' Evs.cons' ?_ ?_ ?_) <;> first | rfl | skip) | with_reducible exact Evs.nil)
local macro_rules | `(tactic| walk_at "ev") => `(tactic| ((repeat' (walk_at "ev1")); (all_goals (try walk_at "side"))))
local macro_rules | `(tactic| walk_at "asg") => `(tactic| (refine' Exs.assign ?ev rfl rfl ?_; (case ev => walk_at "ev")))
local macro_rules | `(tactic| walk_at "unp") => `(tactic| (refine Exs.cons (Ex.unpackT' (Ev.name rfl) rfl rfl rfl rfl rfl rfl) ?_))

abbrev T3 := Int × Int × Int
abbrev t3 (p : T3) : List Int := [p.1, p.2.1, p.2.2]
/-- a curve -/
structure Cv where
  (P N A B Gx Gy : Int)
abbrev Cv.l (c : Cv) : List Int := [c.P, c.N, c.A, c.B, c.Gx, c.Gy]
structure Cv.Ok (c : Cv) : Prop where
  pos : 0 < c.P
  lt : c.P < 64
  a0 : 0 ≤ c.A
  aP : c.A < c.P
theorem Cv.Ok.bP {c : Cv} (h : c.Ok) : Bd 8 c.P := Bd.ofRange (P := 64) (Int.le_of_lt h.pos) h.lt (by decide)
theorem Cv.Ok.bA {c : Cv} (h : c.Ok) : Bd 8 c.A := Bd.ofRange (P := 64) h.a0 (Int.lt_trans h.aP h.lt) (by decide)
structure B3 (p : T3) : Prop where
  x : Bd 8 p.1
  y : Bd 8 p.2.1
  z : Bd 8 p.2.2

def jdbl (c : Cv) (p : T3) : T3 :=
  if p.2.1 = 0 then (0, 0, 0) else
  ((((3 * p.1 ^ 2 + c.A * p.2.2 ^ 4) % c.P) ^ 2 - 2 * (4 * p.1 * (p.2.1 ^ 2 % c.P) % c.P)) % c.P,
   ((3 * p.1 ^ 2 + c.A * p.2.2 ^ 4) % c.P * (4 * p.1 * (p.2.1 ^ 2 % c.P) % c.P - (((3 * p.1 ^ 2 + c.A * p.2.2 ^ 4) % c.P) ^ 2 - 2 * (4 * p.1 * (p.2.1 ^ 2 % c.P) % c.P)) % c.P) - 8 * (p.2.1 ^ 2 % c.P) ^ 2) % c.P,
   2 * p.2.1 * p.2.2 % c.P)

theorem B3.jdbl {c : Cv} {p : T3} (hc : c.Ok) : B3 (jdbl c p) := by
  have bP := hc.bP
  have hP := hc.pos
  unfold Mine.jdbl
  split
  · exact ⟨Bd.lit rfl, Bd.lit rfl, Bd.lit rfl⟩
  · exact ⟨Bd.mod bP hP, Bd.mod bP hP, Bd.mod bP hP⟩

theorem cal_double (w : World) (n : Nat) {c : Cv} {p : T3} (hc : c.Ok) (hp : B3 p) : Cal w (n + 1) (.ref 35) [.tup (t3 p), .tup c.l] (.tup (t3 (jdbl c p))) := by
  have bP := hc.bP
  have hP := hc.pos
  have bA := hc.bA
  obtain ⟨x, y, z⟩ := p
  obtain ⟨bx, by', bz⟩ := hp
  obtain ⟨P, N, A, B, Gx, Gy⟩ := c
  dsimp only at bx by' bz bP hP bA
  refine Cal.fn' (xs := ["p", "curve"]) rfl rfl rfl (by decide) ?_ rfl rfl rfl rfl rfl ?_
  · intro vals h; obtain ⟨a, b, rfl⟩ := len2 h; rfl
  intro g L
  walk_at "unp"
  refine' Exs.ifRet (Tst.not (Tst.ofInt ?a)) ?_ ?_
  case a => walk_at "ev"
  · intro h
    have h : y = 0 := by simpa using h
    rw [jdbl, if_pos h]
    refine' Exs.retE ?_ ?_
    case refine'_2 => walk_at "ev"
    rfl
  · intro h
    have h : y ≠ 0 := by simpa using h
    rw [jdbl, if_neg h]
    walk_at "asg"
    walk_at "asg"
    walk_at "asg"
    walk_at "asg"
    walk_at "asg"
    walk_at "asg"
    refine' Exs.retE ?_ ?_
    case refine'_2 => walk_at "ev"
    rfl

theorem cal_to_jacobian (w : World) (n : Nat) {x y : Int} : Cal w (n + 1) (.ref 28) [.tup [x, y]] (.tup (t3 (x, y, 1))) := by
  refine Cal.fn' (xs := ["p"]) rfl rfl rfl (by decide) ?_ rfl rfl rfl rfl rfl ?_
  · intro vals h; obtain ⟨a, rfl⟩ := len1 h; rfl
  intro g L
  walk_at "asg"
  refine' Exs.retE ?_ ?_
  case refine'_2 => walk_at "ev"
  rfl

/-- Jacobian addition -/
def jadd (c : Cv) (p q : T3) : T3 :=
  if p.2.1 = 0 then q else if q.2.1 = 0 then p else
  if p.1 * q.2.2 ^ 2 % c.P = q.1 * p.2.2 ^ 2 % c.P then
    (if p.2.1 * q.2.2 ^ 3 % c.P ≠ q.2.1 * p.2.2 ^ 3 % c.P then (0, 0, 1) else jdbl c p)
  else
    let U1 := p.1 * q.2.2 ^ 2 % c.P
    let U2 := q.1 * p.2.2 ^ 2 % c.P
    let S1 := p.2.1 * q.2.2 ^ 3 % c.P
    let S2 := q.2.1 * p.2.2 ^ 3 % c.P
    let H := U2 - U1
    let R := S2 - S1
    let H2 := H * H % c.P
    let H3 := H * H2 % c.P
    let V := U1 * H2 % c.P
    let nx := (R ^ 2 - H3 - 2 * V) % c.P
    (nx, (R * (V - nx) - S1 * H3) % c.P, H * p.2.2 * q.2.2 % c.P)

theorem B3.jadd {c : Cv} {p q : T3} (hc : c.Ok) (hp : B3 p) (hq : B3 q) : B3 (jadd c p q) := by
  have bP := hc.bP
  have hP := hc.pos
  unfold Mine.jadd
  split
  · exact hq
  · split
    · exact hp
    · split
      · split
        · exact ⟨Bd.lit rfl, Bd.lit rfl, Bd.lit rfl⟩
        · exact B3.jdbl hc
      · exact ⟨Bd.mod bP hP, Bd.mod bP hP, Bd.mod bP hP⟩

theorem cal_add (w : World) (n : Nat) {c : Cv} {p q : T3} (hc : c.Ok) (hp : B3 p) (hq : B3 q) : Cal w (n + 2) (.ref 42) [.tup (t3 p), .tup (t3 q), .tup c.l] (.tup (t3 (jadd c p q))) := by
  have hdb := cal_double w n hc hp
  have bP := hc.bP
  have hP := hc.pos
  have bA := hc.bA
  obtain ⟨x1, y1, z1⟩ := p
  obtain ⟨x2, y2, z2⟩ := q
  obtain ⟨bx1, by1, bz1⟩ := hp
  obtain ⟨bx2, by2, bz2⟩ := hq
  obtain ⟨P, N, A, B, Gx, Gy⟩ := c
  dsimp only at bx1 by1 bz1 bx2 by2 bz2 bP hP bA
  refine Cal.fn' (xs := ["p", "q", "curve"]) rfl rfl rfl (by decide) ?_ rfl rfl rfl rfl rfl ?_
  · intro vals h; obtain ⟨a, b, c, rfl⟩ := len3 h; rfl
  intro g L
  walk_at "unp"
  refine' Exs.ifRet (Tst.not (Tst.ofInt ?a)) ?_ ?_
  case a => walk_at "ev"
  · intro h
    have h : y1 = 0 := by simpa using h
    rw [jadd, if_pos h]
    exact Exs.retE (Ev.name rfl) rfl
  intro h
  have h : y1 ≠ 0 := by simpa using h
  rw [jadd, if_neg h]
  refine' Exs.ifRet (Tst.not (Tst.ofInt ?a)) ?_ ?_
  case a => walk_at "ev"
  · intro h
    have h : y2 = 0 := by simpa using h
    rw [if_pos h]
    exact Exs.retE (Ev.name rfl) rfl
  intro h'
  have h' : y2 ≠ 0 := by simpa using h'
  rw [if_neg h']
  walk_at "asg"
  walk_at "asg"
  walk_at "asg"
  walk_at "asg"
  refine' Exs.ifRet (Tst.compare (Ev.name ?a) (Ev.name ?b) Cmp.eqI) ?_ ?_
  case a => rfl
  case b => rfl
  · intro h1
    have h1 := eq_of_beq h1
    rw [if_pos h1]
    refine' Exs.ifRet (Tst.compare (Ev.name ?a) (Ev.name ?b) Cmp.neI) ?_ ?_
    case a => rfl
    case b => rfl
    · intro h2
      rw [if_pos (by simpa using h2)]
      refine' Exs.retE ?_ ?_
      case refine'_2 => walk_at "ev"
      rfl
    · intro h2
      rw [if_neg (by simpa using h2)]
      refine' Exs.retE (Ev.call rfl rfl rfl (Evs.cons' (Ev.name rfl) (Evs.cons' (Ev.name rfl) Evs.nil rfl) rfl) hdb) rfl
  · intro h1
    have h1 := ne_of_beq_false h1
    rw [if_neg h1]
    walk_at "asg"
    walk_at "asg"
    walk_at "asg"
    walk_at "asg"
    walk_at "asg"
    walk_at "asg"
    walk_at "asg"
    walk_at "asg"
    refine' Exs.retE ?_ ?_
    case refine'_2 => walk_at "ev"
    rfl

-- F2
def invLoop : Nat → Int → Int → Int → Int → Int
  | 0, lm, _, _, _ => lm
  | k + 1, lm, hm, low, high => if 1 < low then invLoop k (hm - lm * (high / low)) lm (high - low * (high / low)) low else lm
def invI (a n : Int) : Int := if a = 0 then 0 else invLoop 64 1 0 (a % n) n % n

/-- the state of inv's loop: fuel, lm, hm, low, high -/
structure IS where
  (k : Nat) (lm hm low high : Int)

theorem cal_inv (w : World) (m : Nat) {a n : Int} (hn : 0 < n) (hn2 : n < 64) : Cal w (m + 1) (.ref 21) [.int a, .int n] (.int (invI a n)) := by
  refine Cal.fn' (xs := ["a", "n"]) rfl rfl rfl (by decide) ?_ rfl rfl rfl rfl rfl ?_
  · intro vals h; obtain ⟨a, b, rfl⟩ := len2 h; rfl
  intro g L
  refine' Exs.ifRet (Tst.compare (Ev.name ?a) Ev.int Cmp.eqI) ?_ ?_
  case a => rfl
  · intro h
    have h := eq_of_beq h
    refine' Exs.retE Ev.int ?_
    rw [invI, if_pos h]
  intro h
  have h := ne_of_beq_false h
  refine Exs.cons (Ex.unpackT' (Ev.tup2 Ev.int Ev.int rfl rfl) rfl rfl rfl rfl rfl rfl) ?_
  have bn : Bd 8 n := Bd.ofRange (P := 64) (Int.le_of_lt hn) hn2 (by decide)
  refine Exs.cons (Ex.unpackS' (Ev.tup2 (Ev.mod (Ev.name rfl) (Ev.name rfl) hn) (Ev.name rfl) rfl rfl) rfl rfl rfl rfl rfl) ?_
  have h1 := Int.emod_nonneg a (Int.ne_of_gt hn)
  have h2 := Int.emod_lt_of_pos a hn
  refine Exs.loop (St := IS) (fun s => [("lm", .v (.int s.lm)), ("hm", .v (.int s.hm)), ("low", .v (.int s.low)), ("high", .v (.int s.high)), ("n", .v (.int n))])
    (fun s => 0 ≤ s.low ∧ s.low < s.k ∧ s.low < 64 ∧ 0 ≤ s.high ∧ s.high < 64 ∧ invLoop s.k s.lm s.hm s.low s.high = invLoop 64 1 0 (a % n) n) (fun s => ¬ 1 < s.low) (fun s => s.low.toNat) ⟨64, 1, 0, a % n, n⟩
    ⟨h1, by show a % n < 64; omega, by show a % n < 64; omega, by show 0 ≤ n; omega, hn2, rfl⟩ ⟨rfl, rfl, rfl, rfl, rfl, trivial⟩ ?_ ?_
  · rintro ⟨k, lm, hm, low, high⟩ ⟨a1, a2, a3, a4, a5, a6⟩
    dsimp only at a1 a2 a3 a4 a5 a6 ⊢
    by_cases hl : 1 < low
    · right
      refine ⟨?_, ?_⟩
      · have e : decide (1 < low) = true := by simpa using hl
        rw [← e]
        exact Tst.compare (Ev.name rfl) Ev.int Cmp.gtI
      have hr : high % low = high - low * (high / low) := Int.emod_def high low
      have hr0 := Int.emod_nonneg high (by omega : low ≠ 0)
      have hr1 := Int.emod_lt_of_pos high (by omega : 0 < low)
      have bl : Bd 8 low := Bd.ofRange (P := 64) a1 a3 (by decide)
      have bh : Bd 8 high := Bd.ofRange (P := 64) a4 a5 (by decide)
      have br : Bd 8 (high / low) := Bd.div bh a4 (by omega)
      refine' ⟨?_, ⟨k - 1, hm - lm * (high / low), lm, high - low * (high / low), low⟩, ?cbody, ?cinc, ?cinv, ?cdec⟩
      case cbody =>
        refine Exs.assign (Ev.fdiv (Ev.name rfl) (Ev.name rfl) (by omega) (by omega)) rfl rfl ?_
        refine Exs.cons (Ex.unpackS' (Ev.tup2 (Ev.sub (Ev.name rfl) (Ev.mul (Ev.name rfl) (Ev.name rfl) (.inr (br.mono (by decide))))) (Ev.sub (Ev.name rfl) (Ev.mul (Ev.name rfl) (Ev.name rfl) (.inr (br.mono (by decide))))) rfl rfl) rfl rfl rfl rfl rfl) ?_
        refine Exs.cons (Ex.unpackT' (Ev.tup4 (Ev.name rfl) (Ev.name rfl) (Ev.name rfl) (Ev.name rfl) rfl rfl rfl rfl) rfl rfl rfl rfl rfl rfl) ?_
        exact Exs.nil
      case cinc => exact ⟨rfl, rfl, rfl, rfl, rfl, trivial⟩
      case cinv =>
        obtain ⟨j, rfl⟩ : ∃ j, k = j + 1 := ⟨k - 1, by omega⟩
        refine ⟨?_, ?_, ?_, a1, a3, ?_⟩
        · show 0 ≤ high - low * (high / low); omega
        · show high - low * (high / low) < ((j + 1 - 1 : Nat) : Int); omega
        · show high - low * (high / low) < 64; omega
        · rw [← a6]
          show _ = invLoop (j + 1) lm hm low high
          rw [invLoop, if_pos hl]
          rfl
      case cdec =>
        show (high - low * (high / low)).toNat < low.toNat; omega
    · left
      refine ⟨?_, hl⟩
      have e : decide (1 < low) = false := by simpa using hl
      rw [← e]
      exact Tst.compare (Ev.name rfl) Ev.int Cmp.gtI
  · rintro ⟨k, lm, hm, low, high⟩ ⟨a1, a2, a3, a4, a5, a6⟩ hl
    dsimp only at a1 a2 a3 a4 a5 a6 hl ⊢
    refine Exs.retE (Ev.mod (Ev.name rfl) (Ev.name rfl) hn) ?_
    rw [invI, if_neg h, ← a6]
    cases k with
    | zero => rfl
    | succ j => rw [invLoop, if_neg hl]

/-- back from Jacobian form -/
def fromJ (c : Cv) (p : T3) : Int × Int := (p.1 * invI p.2.2 c.P ^ 2 % c.P, p.2.1 * invI p.2.2 c.P ^ 3 % c.P)
abbrev t2 (p : Int × Int) : List Int := [p.1, p.2]
theorem invI_bd {a n : Int} (hn : 0 < n) (bn : Bd 8 n) : Bd 8 (invI a n) := by
  unfold invI
  split
  · exact Bd.lit rfl
  · exact Bd.mod bn hn

theorem cal_from (w : World) (n : Nat) {c : Cv} {p : T3} (hc : c.Ok) (hp : B3 p) : Cal w (n + 2) (.ref 49) [.tup (t3 p), .tup c.l] (.tup (t2 (fromJ c p))) := by
  have bP := hc.bP
  have hP := hc.pos
  have hlt := hc.lt
  have hi := cal_inv w n (a := p.2.2) hP hlt
  have bz := invI_bd (a := p.2.2) hP bP
  obtain ⟨x, y, z⟩ := p
  obtain ⟨bx, by', bz'⟩ := hp
  obtain ⟨P, N, A, B, Gx, Gy⟩ := c
  dsimp only at bx by' bz bP hP hi
  refine Cal.fn' (xs := ["p", "curve"]) rfl rfl rfl (by decide) ?_ rfl rfl rfl rfl rfl ?_
  · intro vals h; obtain ⟨a, b, rfl⟩ := len2 h; rfl
  intro g L
  walk_at "unp"
  refine Exs.assign (Ev.call rfl rfl rfl (Evs.cons' (Ev.item2 (Ev.name rfl)) (Evs.cons' (Ev.name rfl) Evs.nil rfl) rfl) hi) rfl rfl ?_
  refine' Exs.retE ?_ ?_
  case refine'_2 => walk_at "ev"
  rfl

-- F3
section
variable {w : World} {n : Nat} {g : Heap} {env : Env} {ρ ρ' : List (Str × W)}
theorem paired_ints' {h : Heap} : ∀ {vs : List Value} {l : List Int}, IntsAre vs l → Paired (fun v val => RepU h val v) (l.map V.int) vs
  | _, _, .nil => .nil
  | _, _, .cons _ t r => .cons ⟨t, rfl⟩ (paired_ints' r)
theorem Ev.listI {es : List Expr} {l : List Int} {vs : List V} {pos : Pos} (h : Evs w n g env ρ es vs) (e : vs = l.map V.int) (hl : l.length ≤ 1000) : Ev w n g env ρ (.List es pos) (.list vs) := by
  subst e
  intro A s Q E F rm q
  refine wpAny_List (h A s _ E pos F rm fun vals s1 k1 r1 => ?_)
  have hi := intsAre_of r1
  have hlen : vals.length ≤ sizeLine := by have := r1.length; simp at this; have := sizeLine_big; omega
  exact ⟨hlen, q _ _ (ktr k1 (keeps_heap (sub_push _ _))) ⟨_, vals, rfl, ⟨_, Heap.get?_push_size _ rfl, rfl, _, rfl⟩, paired_ints' hi⟩⟩
theorem Exs.raiseAbsurd {st : Stmt} {rest : List Stmt} {o : Out} (h : False) : Exs w n g env ρ (st :: rest) o := h.elim
end

/-- multiplication by double and add, as the text does it -/
def jmul (c : Cv) (p : T3) : Nat → Int → T3
  | 0, _ => (0, 0, 1)
  | k + 1, n => if p.2.1 = 0 ∨ n = 0 then (0, 0, 1) else if n = 1 then p else if n < 0 ∨ c.N ≤ n then jmul c p k (n % c.N)
    else if n % 2 = 0 then jdbl c (jmul c p k (n / 2)) else jadd c (jdbl c (jmul c p k (n / 2))) p

theorem B3.jmul {c : Cv} {p : T3} (hc : c.Ok) (hp : B3 p) : ∀ k n, B3 (jmul c p k n)
  | 0, n => ⟨Bd.lit rfl, Bd.lit rfl, Bd.lit rfl⟩
  | k + 1, n => by
    unfold Mine.jmul
    split
    · exact ⟨Bd.lit rfl, Bd.lit rfl, Bd.lit rfl⟩
    · split
      · exact hp
      · split
        · exact B3.jmul hc hp k _
        · split
          · exact B3.jdbl hc
          · exact B3.jadd hc (B3.jdbl hc) hp

theorem mul_step (w : World) (k : Nat) {c : Cv} {p : T3} (hc : c.Ok) (hN : 0 < c.N) (hp : B3 p) (n : Int)
    (ih1 : p.2.1 ≠ 0 → n ≠ 0 → n ≠ 1 → (n < 0 ∨ c.N ≤ n) → Cal w (k + 2) (.ref 56) [.tup (t3 p), .int (n % c.N), .tup c.l] (.tup (t3 (jmul c p k (n % c.N)))))
    (ih2 : p.2.1 ≠ 0 → n ≠ 0 → n ≠ 1 → ¬ (n < 0 ∨ c.N ≤ n) → Cal w (k + 2) (.ref 56) [.tup (t3 p), .int (n / 2), .tup c.l] (.tup (t3 (jmul c p k (n / 2))))) :
    Cal w (k + 3) (.ref 56) [.tup (t3 p), .int n, .tup c.l] (.tup (t3 (jmul c p (k + 1) n))) := by
  have hb := B3.jmul hc hp k (n / 2)
  have hd := cal_double w (k + 1) hc hb
  have ha := cal_add w k (q := p) hc (B3.jdbl (p := jmul c p k (n / 2)) hc) hp
  generalize hj1 : jmul c p k (n % c.N) = j1 at ih1
  generalize hj2 : jmul c p k (n / 2) = j2 at ih2 hd ha hb
  generalize hj3 : jdbl c j2 = j3 at hd ha
  generalize hj4 : jadd c j3 p = j4 at ha
  have e0 : jmul c p (k + 1) n = if p.2.1 = 0 ∨ n = 0 then (0, 0, 1) else if n = 1 then p else if n < 0 ∨ c.N ≤ n then j1 else if n % 2 = 0 then j3 else j4 := by
    rw [jmul, hj1, hj2, hj3, hj4]
  rw [e0]
  clear e0 hj1 hj2 hj3 hj4 hb
  obtain ⟨x, y, z⟩ := p
  obtain ⟨P, N, A, B, Gx, Gy⟩ := c
  dsimp only at hN ih1 ih2 ⊢
  refine Cal.fn' (xs := ["a", "n", "curve"]) rfl rfl rfl (by decide) ?_ rfl rfl rfl rfl rfl ?_
  · intro vals h; obtain ⟨a, b, c, rfl⟩ := len3 h; rfl
  intro g L
  walk_at "unp"
  refine' Exs.ifRet (Tst.or2 (Tst.compare (Ev.item1 (Ev.name ?a)) Ev.int Cmp.eqI) (fun _ => Tst.compare (Ev.name ?b) Ev.int Cmp.eqI)) ?_ ?_
  case a => rfl
  case b => rfl
  · intro h
    rw [if_pos (by simpa using h)]
    refine' Exs.retE ?_ ?_
    case refine'_2 => walk_at "ev"
    rfl
  intro h
  have h : ¬ (y = 0 ∨ n = 0) := by simpa using h
  rw [if_neg h]
  refine' Exs.ifRet (Tst.compare (Ev.name ?a) Ev.int Cmp.eqI) ?_ ?_
  case a => rfl
  · intro h1
    have h1 := eq_of_beq h1
    rw [if_pos h1]
    exact Exs.retE (Ev.name rfl) rfl
  intro h1
  have h1 := ne_of_beq_false h1
  rw [if_neg h1]
  refine' Exs.ifRet (Tst.or2 (Tst.compare (Ev.name ?a) Ev.int Cmp.ltI) (fun _ => Tst.compare (Ev.name ?qb) (Ev.name ?qc) Cmp.geI)) ?_ ?_
  case a => rfl
  case qb => rfl
  case qc => rfl
  · intro h2
    have h2 : n < 0 ∨ N ≤ n := by simpa using h2
    rw [if_pos h2]
    exact Exs.retE (Ev.call rfl rfl rfl (Evs.cons' (Ev.name rfl) (Evs.cons' (Ev.mod (Ev.name rfl) (Ev.name rfl) hN) (Evs.cons' (Ev.name rfl) Evs.nil rfl) rfl) rfl) (ih1 (fun q => h (.inl q)) (fun q => h (.inr q)) h1 h2)) rfl
  intro h2
  have h2 : ¬ (n < 0 ∨ N ≤ n) := by simpa using h2
  rw [if_neg h2]
  have ih2 := ih2 (fun q => h (.inl q)) (fun q => h (.inr q)) h1 h2
  refine' Exs.ifRet (Tst.compare (Ev.mod (Ev.name ?a) Ev.int (by decide)) Ev.int Cmp.eqI) ?_ ?_
  case a => rfl
  · intro h3
    have h3 := eq_of_beq h3
    rw [if_pos h3]
    refine Exs.retE (Ev.call rfl rfl rfl (Evs.cons' (Ev.call rfl rfl rfl (Evs.cons' (Ev.name rfl) (Evs.cons' (Ev.fdiv (Ev.name rfl) Ev.int (by decide) (by decide)) (Evs.cons' (Ev.name rfl) Evs.nil rfl) rfl) rfl) ih2) (Evs.cons' (Ev.name rfl) Evs.nil rfl) rfl) hd) rfl
  intro h3
  have h3 := ne_of_beq_false h3
  rw [if_neg h3]
  refine' Exs.ifRet (Tst.compare (Ev.mod (Ev.name ?a) Ev.int (by decide)) Ev.int Cmp.eqI) ?_ ?_
  case a => rfl
  · intro _
    refine Exs.retE (Ev.call rfl rfl rfl (Evs.cons' (Ev.call rfl rfl rfl (Evs.cons' (Ev.call rfl rfl rfl (Evs.cons' (Ev.name rfl) (Evs.cons' (Ev.fdiv (Ev.name rfl) Ev.int (by decide) (by decide)) (Evs.cons' (Ev.name rfl) Evs.nil rfl) rfl) rfl) ih2) (Evs.cons' (Ev.name rfl) Evs.nil rfl) rfl) hd)
      (Evs.cons' (Ev.name rfl) (Evs.cons' (Ev.name rfl) Evs.nil rfl) rfl) rfl) ha) rfl
  · intro h4
    have h4 := ne_of_beq_false h4
    exact Exs.raiseAbsurd (by have := Int.emod_two_eq n; omega)

theorem cal_mul_in (w : World) {c : Cv} {p : T3} (hc : c.Ok) (hp : B3 p) : ∀ (k : Nat) (n : Int), 0 ≤ n → n < c.N → n < 2 ^ (k + 1) → Cal w (k + 3) (.ref 56) [.tup (t3 p), .int n, .tup c.l] (.tup (t3 (jmul c p (k + 1) n)))
  | 0, n, h0, hN, hk => by
    refine mul_step w 0 hc (by omega) hp n (fun _ _ _ h => ?_) (fun _ _ _ _ => ?_)
    · omega
    · have : n < 2 := by simpa using hk
      omega
  | k + 1, n, h0, hN, hk => by
    refine mul_step w (k + 1) hc (by omega) hp n (fun _ _ _ h => ?_) (fun _ _ _ _ => ?_)
    · omega
    · refine cal_mul_in w hc hp k (n / 2) (by omega) (by omega) ?_
      have : (2 : Int) ^ (k + 1 + 1) = 2 ^ (k + 1) * 2 := Int.pow_succ 2 (k + 1)
      omega
theorem cal_mul (w : World) {c : Cv} {p : T3} (hc : c.Ok) (hN : 0 < c.N) (hN2 : c.N ≤ 2 ^ 10) (hp : B3 p) (n : Int) : Cal w 13 (.ref 56) [.tup (t3 p), .int n, .tup c.l] (.tup (t3 (jmul c p 11 n))) := by
  refine mul_step w 10 hc hN hp n (fun _ _ _ _ => ?_) (fun _ _ _ h => ?_)
  · have a := Int.emod_nonneg n (Int.ne_of_gt hN)
    have b := Int.emod_lt_of_pos n hN
    exact cal_mul_in w hc hp 9 (n % c.N) a b (by omega)
  · exact cal_mul_in w hc hp 9 (n / 2) (by omega) (by omega) (by omega)

theorem b3_to {x y : Int} (hx : Bd 8 x) (hy : Bd 8 y) : B3 (x, y, 1) := ⟨hx, hy, Bd.lit rfl⟩

theorem cal_multiply (w : World) {c : Cv} {x y : Int} (hc : c.Ok) (hN : 0 < c.N) (hN2 : c.N ≤ 2 ^ 10) (hx : Bd 8 x) (hy : Bd 8 y) (n : Int) :
    Cal w 14 (.ref 63) [.tup [x, y], .int n, .tup c.l] (.tup (t2 (fromJ c (jmul c (x, y, 1) 11 n)))) := by
  have h1 := cal_mul w hc hN hN2 (b3_to hx hy) n
  have h2 := cal_from w 11 hc (B3.jmul hc (b3_to hx hy) 11 n)
  generalize jmul c (x, y, 1) 11 n = j at h1 h2 ⊢
  generalize fromJ c j = f at h2 ⊢
  obtain ⟨P, N, A, B, Gx, Gy⟩ := c
  refine Cal.fn' (xs := ["a", "n", "curve"]) rfl rfl rfl (by decide) ?_ rfl rfl rfl rfl rfl ?_
  · intro vals h; obtain ⟨a, b, c, rfl⟩ := len3 h; rfl
  intro g L
  walk_at "unp"
  exact Exs.retE (Ev.call rfl rfl rfl (Evs.cons' (Ev.call rfl rfl rfl (Evs.cons' (Ev.call rfl rfl rfl (Evs.cons' (Ev.name rfl) Evs.nil rfl) (cal_to_jacobian w 12)) (Evs.cons' (Ev.name rfl) (Evs.cons' (Ev.name rfl) Evs.nil rfl) rfl) rfl) h1) (Evs.cons' (Ev.name rfl) Evs.nil rfl) rfl) h2) rfl

theorem cal_addp (w : World) {c : Cv} {x y u v : Int} (hc : c.Ok) (hx : Bd 8 x) (hy : Bd 8 y) (hu : Bd 8 u) (hv : Bd 8 v) :
    Cal w 4 (.ref 70) [.tup [x, y], .tup [u, v], .tup c.l] (.tup (t2 (fromJ c (jadd c (x, y, 1) (u, v, 1))))) := by
  have h1 := cal_add w 1 hc (b3_to hx hy) (b3_to hu hv)
  have h2 := cal_from w 1 hc (B3.jadd hc (b3_to hx hy) (b3_to hu hv))
  generalize jadd c (x, y, 1) (u, v, 1) = j at h1 h2 ⊢
  generalize fromJ c j = f at h2 ⊢
  obtain ⟨P, N, A, B, Gx, Gy⟩ := c
  refine Cal.fn' (xs := ["a", "b", "curve"]) rfl rfl rfl (by decide) ?_ rfl rfl rfl rfl rfl ?_
  · intro vals h; obtain ⟨a, b, c, rfl⟩ := len3 h; rfl
  intro g L
  walk_at "unp"
  exact Exs.retE (Ev.call rfl rfl rfl (Evs.cons' (Ev.call rfl rfl rfl (Evs.cons' (Ev.call rfl rfl rfl (Evs.cons' (Ev.name rfl) Evs.nil rfl) (cal_to_jacobian w 2)) (Evs.cons' (Ev.call rfl rfl rfl (Evs.cons' (Ev.name rfl) Evs.nil rfl) (cal_to_jacobian w 2)) (Evs.cons' (Ev.name rfl) Evs.nil rfl) rfl) rfl) h1) (Evs.cons' (Ev.name rfl) Evs.nil rfl) rfl) h2) rfl

-- F4
theorem powMod_lt (b e m : Nat) (hm : 0 < m) : Builtin.powMod b e m < m := by
  unfold Builtin.powMod
  have : ∀ (l : List Nat) (a : Nat), a < m → List.foldl (fun p i => if e.testBit i then p * p % m * b % m else p * p % m) a l < m := by
    intro l
    induction l with
    | nil => intro a h; exact h
    | cons x l ih =>
      intro a _
      refine ih _ ?_
      show (if e.testBit x then a * a % m * b % m else a * a % m) < m
      split <;> exact Nat.mod_lt _ hm
  exact this _ _ (Nat.mod_lt _ hm)

/-- a point: none is infinity -/
abbrev PT := Option (Int × Int)
def ptV : PT → V
  | none => .none
  | some p => .tup [p.1, p.2]
def plain : PT → Int × Int
  | none => (0, 0)
  | some p => p
def lform (p : PT) (k P : Int) : T3 := match p with
  | none => (0, 0, k)
  | some p => (p.1 * k ^ 2 % P, p.2 * k ^ 3 % P, k)
abbrev pinv (a P : Int) : Int := (Builtin.powMod (a % P).toNat (P - 2).natAbs P.natAbs : Nat)
def lsum (a P : Int) : PT → PT → PT
  | none, q => q
  | some s, none => some s
  | some s, some t =>
    if s.1 = t.1 ∧ s.2 ≠ t.2 then none else
    let run := if s.1 = t.1 then 2 * s.2 else t.1 - s.1
    let climb := if s.1 = t.1 then 3 * s.1 * s.1 + a else t.2 - s.2
    let slope := climb * pinv (run % P) P % P
    let x3 := (slope * slope - s.1 - t.1) % P
    some (x3, (slope * (s.1 - x3) - s.2) % P)

def BP : PT → Prop
  | none => True
  | some p => Bd 8 p.1 ∧ Bd 8 p.2

section
variable {w : World} {n : Nat} {g : Heap} {env : Env} {ρ ρ' : List (Str × W)}
theorem Tst.isNone {e : Expr} {pos p : Pos} {k : Nat} {q : PT} (h : Ev w n g env ρ e (ptV q)) (hm : behindInMarks .Is (.Constant .none k p) = false := by with_unfolding_all rfl) : Tst w n g env ρ (.Compare e [.Is] [.Constant .none k p] pos) q.isNone := by
  cases q with
  | none => exact Tst.compare h Ev.none Cmp.isNN hm
  | some p => exact Tst.compare h Ev.none Cmp.isTN hm
theorem Tst.isNotNone {e : Expr} {pos p : Pos} {k : Nat} {q : PT} (h : Ev w n g env ρ e (ptV q)) (hm : behindInMarks .IsNot (.Constant .none k p) = false := by with_unfolding_all rfl) : Tst w n g env ρ (.Compare e [.IsNot] [.Constant .none k p] pos) q.isSome := by
  cases q with
  | none => exact Tst.compare h Ev.none Cmp.isNotNN hm
  | some p => exact Tst.compare h Ev.none Cmp.isNotTN hm
end

theorem cal_plain (w : World) (n : Nat) (q : PT) : Cal w (n + 1) (.ref 110) [ptV q] (.tup (t2 (plain q))) := by
  refine Cal.fn' (xs := ["point"]) rfl rfl rfl (by decide) ?_ rfl rfl rfl rfl rfl ?_
  · intro vals h; obtain ⟨a, rfl⟩ := len1 h; rfl
  intro g L
  refine Exs.ret (Ex.return (Ev.ifexp (Tst.isNone (q := q) (Ev.name rfl)) ?_ ?_))
  · intro h
    cases q with
    | none => exact Ev.tup2 Ev.int Ev.int rfl rfl
    | some p => cases h
  · intro h
    cases q with
    | none => cases h
    | some p => exact Ev.name rfl

theorem cal_form (w : World) (n : Nat) {q : PT} {k P : Int} (hq : BP q) (hk : Bd 8 k) (hP : 0 < P) : Cal w (n + 1) (.ref 117) [ptV q, .int k, .int P] (.tup (t3 (lform q k P))) := by
  refine Cal.fn' (xs := ["point", "scale", "prime"]) rfl rfl rfl (by decide) ?_ rfl rfl rfl rfl rfl ?_
  · intro vals h; obtain ⟨a, b, c, rfl⟩ := len3 h; rfl
  intro g L
  refine Exs.ifRet (Tst.isNone (q := q) (Ev.name rfl)) ?_ ?_
  · intro h
    cases q with
    | none =>
      refine' Exs.retE ?_ ?_
      case refine'_2 => walk_at "ev"
      rfl
    | some p => cases h
  · intro h
    cases q with
    | none => cases h
    | some p =>
      obtain ⟨x, y⟩ := p
      obtain ⟨bx, by'⟩ := hq
      dsimp only at bx by'
      dsimp only [ptV]
      refine' Exs.retE ?_ ?_
      case refine'_2 => walk_at "ev"
      rfl

def primes : List Int := [5, 7, 11, 13, 17, 19, 23, 29, 31, 37, 41, 43]
theorem cal_primes (w : World) (n : Nat) : Cal w (n + 1) (.ref 77) [] (.list (primes.map V.int)) := by
  refine Cal.fn' (xs := []) rfl rfl rfl (by decide) ?_ rfl rfl rfl rfl rfl ?_
  · intro vals h
    have : vals = [] := by cases vals with | nil => rfl | cons _ _ => simp at h
    subst this; rfl
  intro g L
  refine' Exs.retE ?qd ?qc
  case qd =>
    refine' Ev.listI (l := primes) ?qa ?qb ?qe
    case qa => walk_at "ev"
    case qb => rfl
    case qe => decide
  rfl

theorem cal_sum (w : World) (n : Nat) {s t : PT} {a P : Int} (hs : BP s) (ht : BP t) (ha : Bd 8 a) (hP : 1 < P) (hP2 : P < 64) : Cal w (n + 1) (.ref 96) [ptV s, ptV t, .int a, .int P] (ptV (lsum a P s t)) := by
  have bP : Bd 8 P := Bd.ofRange (P := 64) (by omega) hP2 (by decide)
  have hP0 : 0 < P := by omega
  refine Cal.fn' (xs := ["here", "there", "linear", "prime"]) rfl rfl rfl (by decide) ?_ rfl rfl rfl rfl rfl ?_
  · intro vals h; obtain ⟨a, b, c, d, rfl⟩ := len4 h; rfl
  intro g L
  refine Exs.ifRet (Tst.or2 (Tst.isNone (q := s) (Ev.name rfl)) (fun _ => Tst.isNone (q := t) (Ev.name rfl))) ?_ ?_
  · intro h
    refine Exs.ret (Ex.return (Ev.ifexp (Tst.isNone (q := s) (Ev.name rfl)) ?_ ?_))
    · intro h1
      cases s with
      | none => exact Ev.name rfl
      | some s => cases h1
    · intro h1
      cases s with
      | none => cases h1
      | some s =>
        cases t with
        | none => exact Ev.name rfl
        | some t => simp at h
  intro h
  obtain ⟨s, rfl⟩ : ∃ s', s = some s' := by cases s with | none => simp at h | some s => exact ⟨s, rfl⟩
  obtain ⟨t, rfl⟩ : ∃ s', t = some s' := by cases t with | none => simp at h | some s => exact ⟨s, rfl⟩
  obtain ⟨x1, y1⟩ := s
  obtain ⟨x2, y2⟩ := t
  obtain ⟨bx1, by1⟩ := hs
  obtain ⟨bx2, by2⟩ := ht
  dsimp only at bx1 by1 bx2 by2
  dsimp only [ptV]
  walk_at "unp"
  walk_at "unp"
  refine Exs.ifRet (Tst.and2 (Tst.compare (Ev.name rfl) (Ev.name rfl) Cmp.eqI) (fun _ => Tst.compare (Ev.name rfl) (Ev.name rfl) Cmp.neI)) ?_ ?_
  · intro h1
    have h1 : x1 = x2 ∧ y1 ≠ y2 := by simpa using h1
    rw [lsum, if_pos h1]
    exact Exs.retE Ev.none rfl
  intro h1
  have h1 : ¬ (x1 = x2 ∧ y1 ≠ y2) := by simpa using h1
  rw [lsum, if_neg h1]
  have bi : ∀ r : Int, Bd 8 (pinv (r % P) P) := fun r => by
    have := powMod_lt (r % P % P).toNat (P - 2).natAbs P.natAbs (by omega)
    unfold Bd pinv; omega
  by_cases hx : x1 = x2
  · subst hx
    refine Exs.cons (Ex.unpackT' (Ev.ifexp (v := .tup [2 * y1, 3 * x1 * x1 + a]) (Tst.compare (Ev.name rfl) (Ev.name rfl) Cmp.neI) (fun h => by simp at h) (fun _ => ?_)) rfl rfl rfl rfl rfl rfl) ?_
    · walk_at "ev"
    refine Exs.assign (Ev.mod (Ev.mul (Ev.name rfl) (Ev.builtin rfl boot_pow (by decide) rfl (Evs.cons' (Ev.mod (Ev.name rfl) (Ev.name rfl) hP0) (Evs.cons' (Ev.sub (Ev.name rfl) Ev.int) (Evs.cons' (Ev.name rfl) Evs.nil rfl) rfl) rfl) (cal_pow (by omega) hP)) (.inr ((bi _).mono (by decide)))) (Ev.name rfl) hP0) rfl rfl ?_
    walk_at "asg"
    refine' Exs.retE ?_ ?_
    case refine'_2 => walk_at "ev"
    simp only [↓reduceIte]
  · have hx' : (x1 != x2) = true := by simpa using hx
    refine Exs.cons (Ex.unpackT' (Ev.ifexp (v := .tup [x2 - x1, y2 - y1]) (Tst.compare (Ev.name rfl) (Ev.name rfl) Cmp.neI) (fun _ => ?_) (fun h => by rw [hx'] at h; cases h)) rfl rfl rfl rfl rfl rfl) ?_
    · walk_at "ev"
    refine Exs.assign (Ev.mod (Ev.mul (Ev.name rfl) (Ev.builtin rfl boot_pow (by decide) rfl (Evs.cons' (Ev.mod (Ev.name rfl) (Ev.name rfl) hP0) (Evs.cons' (Ev.sub (Ev.name rfl) Ev.int) (Evs.cons' (Ev.name rfl) Evs.nil rfl) rfl) rfl) (cal_pow (by omega) hP)) (.inr ((bi _).mono (by decide)))) (Ev.name rfl) hP0) rfl rfl ?_
    walk_at "asg"
    refine' Exs.retE ?_ ?_
    case refine'_2 => walk_at "ev"
    simp only [if_neg hx]

-- F5
def OkB (f : W → Bool) (x : Str) : List (Str × W) → Prop
  | [] => True
  | p :: r => (p.1 = x ∨ f p.2 = true) ∧ OkB f x r
theorem OkB.look {f : W → Bool} {x : Str} : ∀ {ρ : List (Str × W)}, OkB f x ρ → ∀ y u, ρ.lookup y = some u → y = x ∨ f u = true
  | [], _, y, u, e => by simp at e
  | p :: r, h, y, u, e => by
    rw [lookup_cons_eq] at e
    by_cases hy : y = p.1
    · rw [if_pos hy] at e; cases e; rw [hy]; exact h.1
    · rw [if_neg hy] at e; exact h.2.look y u e
theorem flat_pt (q : PT) : (ptV q).flat = true := by cases q <;> rfl
theorem okL_pt (q : PT) : (W.v (ptV q)).okL = true := flat_pt q
theorem BP.lsum {a P : Int} {s t : PT} (hs : BP s) (ht : BP t) (bP : Bd 8 P) (hP : 0 < P) : BP (lsum a P s t) := by
  cases s with
  | none => exact ht
  | some s =>
    cases t with
    | none => exact hs
    | some t =>
      unfold Mine.lsum
      dsimp only
      split
      · trivial
      · exact ⟨Bd.mod bP hP, Bd.mod bP hP⟩

theorem repU_pts {h : Heap} : ∀ {l : List PT} {vals : List Value}, Paired (fun v val => Rep h val v) (l.map ptV) vals → Paired (fun v val => RepU h val v) (l.map ptV) vals
  | [], _, .nil => .nil
  | q :: l, _, .cons a b => .cons (RepU.of_flat a (flat_pt q)) (repU_pts b)

/-- the multiples as law_round makes them -/
def mult (a P : Int) (p : PT) : Nat → PT
  | 0 => p
  | i + 1 => lsum a P (mult a P p i) p
def roundL (a P : Int) (p : PT) (i : Nat) : List PT := none :: (List.range i).map (mult a P p)
theorem roundL_succ (a P : Int) (p : PT) (i : Nat) : roundL a P p (i + 1) = roundL a P p i ++ [mult a P p i] := by
  simp [roundL, List.range_succ]
theorem BP.mult {a P : Int} {p : PT} (hp : BP p) (bP : Bd 8 P) (hP : 0 < P) : ∀ i, BP (mult a P p i)
  | 0 => hp
  | i + 1 => BP.lsum (BP.mult hp bP hP i) hp bP hP

theorem cal_round (w : World) (n : Nat) {a P : Int} {p : PT} (N : Nat) (hN : mult a P p N = none) (hlt : ∀ i, i < N → mult a P p i ≠ none) (hN2 : N ≤ 900) (hp : BP p) (ha : Bd 8 a) (hP : 1 < P) (hP2 : P < 64) :
    Cal w (n + 2) (.ref 103) [ptV p, .int a, .int P] (.list ((roundL a P p N).map ptV)) := by
  have bP : Bd 8 P := Bd.ofRange (P := 64) (by omega) hP2 (by decide)
  have hP0 : 0 < P := by omega
  refine Cal.fn' (xs := ["point", "linear", "prime"]) rfl rfl rfl (by decide) ?_ rfl rfl rfl rfl rfl ?_
  · intro vals h; obtain ⟨a, b, c, rfl⟩ := len3 h; rfl
  intro g L
  refine Exs.cons (Ex.newOlist (vs := [none].map ptV) (Evs.cons' Ev.none Evs.nil rfl) (fun h vals r => repU_pts r) (by decide) rfl rfl) ?_
  refine Exs.assign (v := ptV p) (Ev.name rfl) rfl rfl ?_
  refine Exs.loop (St := Nat) (fun i => [("row", .olist ((roundL a P p i).map ptV)), ("now", .v (ptV (mult a P p i))), ("point", .v (ptV p)), ("linear", .v (.int a)), ("prime", .v (.int P))])
    (fun i => i ≤ N) (fun i => i = N) (fun i => N - i) 0 (Nat.zero_le _) ⟨rfl, rfl, rfl, rfl, rfl, trivial⟩ ?_ ?_
  · intro i hi
    by_cases h : i = N
    · left
      refine ⟨?_, h⟩
      subst h
      have e : (mult a P p i).isSome = false := by rw [hN]; rfl
      exact e ▸ Tst.isNotNone (q := mult a P p i) (Ev.name rfl) rfl
    · right
      have hs : (mult a P p i).isSome = true := Option.isSome_iff_ne_none.mpr (hlt i (by omega))
      refine ⟨hs ▸ Tst.isNotNone (q := mult a P p i) (Ev.name rfl) rfl, ?_⟩
      refine' ⟨?_, i + 1, ?cbody, ?cinc, ?cinv, ?cdec⟩
      case cbody =>
        refine Exs.cons (Ex.append (v := ptV (mult a P p i)) rfl (Ev.name rfl) (flat_pt _) (OkB.look ⟨.inl rfl, .inr (okL_pt _), .inr (okL_pt _), .inr rfl, .inr rfl, trivial⟩) ?_ rfl rfl rfl rfl rfl rfl rfl) ?_
        · simp [roundL]; omega
        refine Exs.assign (Ev.call rfl rfl rfl (Evs.cons' (Ev.name rfl) (Evs.cons' (Ev.name rfl) (Evs.cons' (Ev.name rfl) (Evs.cons' (Ev.name rfl) Evs.nil rfl) rfl) rfl) rfl) (cal_sum w n (BP.mult hp bP hP0 i) hp ha hP hP2)) rfl rfl ?_
        exact Exs.nil
      case cinc =>
        refine ⟨?_, rfl, rfl, rfl, rfl, trivial⟩
        rw [roundL_succ, List.map_append]
        rfl
      case cinv => omega
      case cdec => omega
  · intro i hi h
    subst h
    exact Exs.retE (Ev.nameL rfl) rfl

-- F6
/-- the square roots as law_points keeps them -/
def rootsF (P : Int) : Nat → Int → Option Int
  | 0 => fun _ => none
  | i + 1 => fun y => if y = (1 + i) * (1 + i) % P then some (1 + i : Int) else rootsF P i y
def half (P : Int) : Nat := ((P + 1) / 2 - 1).toNat
def ptsAt (a c P x : Int) : List PT := match rootsF P (half P) ((x ^ 3 + a * x + c) % P) with
  | none => []
  | some r => [some (x, r), some (x, P - r)]
def ptsF (a c P : Int) : Nat → List PT
  | 0 => [none]
  | i + 1 => ptsF a c P i ++ ptsAt a c P i
theorem ptsF_len (a c P : Int) : ∀ i, (ptsF a c P i).length ≤ 2 * i + 1
  | 0 => Nat.le_refl _
  | i + 1 => by
    have := ptsF_len a c P i
    have h2 : (ptsAt a c P i).length ≤ 2 := by unfold ptsAt; split <;> simp
    rw [ptsF, List.length_append]; omega
theorem rootsF_range (P : Int) : ∀ (i : Nat) (y r : Int), rootsF P i y = some r → 1 ≤ r ∧ r ≤ i ∧ y = r * r % P
  | 0, _, _, e => by simp [rootsF] at e
  | i + 1, y, r, e => by
    unfold rootsF at e
    split at e
    · cases e; rename_i h; exact ⟨by omega, by omega, h⟩
    · have := rootsF_range P i y r e; omega

theorem cal_points (w : World) (n : Nat) {a c P : Int} (ha : Bd 8 a) (hP : 1 < P) (hP2 : P < 64) : Cal w (n + 1) (.ref 89) [.int P, .int a, .int c] (.list ((ptsF a c P P.toNat).map ptV)) := by
  have bP : Bd 8 P := Bd.ofRange (P := 64) (by omega) hP2 (by decide)
  have hP0 : 0 < P := by omega
  have hhalf : ((half P : Nat) : Int) = (P + 1) / 2 - 1 := by unfold half; omega
  refine Cal.fn' (xs := ["prime", "linear", "constant"]) rfl rfl rfl (by decide) ?_ rfl rfl rfl rfl rfl ?_
  · intro vals h; obtain ⟨a, b, c, rfl⟩ := len3 h; rfl
  intro g L
  refine Exs.cons (Ex.newOdict rfl rfl) ?_
  refine Exs.forRange (half P) (fun i => [("roots", .odict (rootsF P i) i), ("prime", .v (.int P)), ("linear", .v (.int a)), ("constant", .v (.int c))])
    (Rng.two (a := 1) (b := (P + 1) / 2) Ev.int (Ev.fdiv (Ev.add (Ev.name rfl) Ev.int) Ev.int (by decide) (by decide)) rfl rfl rfl) (by rw [hhalf]; split <;> omega) (by decide) (by decide) (by omega) (by omega) rfl ⟨rfl, rfl, rfl, rfl, trivial⟩ ?_ ?_
  · intro i hi
    refine' ⟨_, ?cbody, ?cinc⟩
    case cbody =>
      have bi : Bd 8 (1 + (i : Int)) := Bd.ofRange (P := 64) (by omega) (by omega) (by decide)
      refine Exs.cons (Ex.setD (k := (1 + i) * (1 + i) % P) (v := 1 + i) rfl (Ev.name rfl) (Ev.mod (Ev.mul (Ev.name rfl) (Ev.name rfl) (.inl (bi.mono (by decide)))) (Ev.name rfl) hP0) (by omega) (OkB.look ⟨.inr rfl, .inl rfl, .inr rfl, .inr rfl, .inr rfl, trivial⟩) rfl rfl) ?_
      exact Exs.nil
    case cinc => exact ⟨rfl, rfl, rfl, rfl, trivial⟩
  refine Exs.cons (Ex.newOlist (vs := [none].map ptV) (Evs.cons' Ev.none Evs.nil rfl) (fun h vals r => repU_pts r) (by decide) rfl rfl) ?_
  refine Exs.forRange P.toNat (fun i => [("points", .olist ((ptsF a c P i).map ptV)), ("roots", .odict (rootsF P (half P)) (half P)), ("prime", .v (.int P)), ("linear", .v (.int a)), ("constant", .v (.int c))])
    (Rng.one (b := P) (Ev.name rfl) rfl rfl) (by split <;> omega) (by decide) (by decide) (by omega) (by omega) rfl ⟨rfl, rfl, rfl, rfl, rfl, trivial⟩ ?_ ?_
  · intro i hi
    have hlen := ptsF_len a c P i
    have bi : Bd 8 (0 + (i : Int)) := Bd.ofRange (P := 64) (by omega) (by omega) (by decide)
    have e0 : (0 : Int) + i = i := by omega
    rw [e0] at bi ⊢
    cases hr : rootsF P (half P) (((i : Int) ^ 3 + a * i + c) % P) with
    | none =>
      have hn : ptsF a c P (i + 1) = ptsF a c P i := by rw [ptsF, ptsAt, hr, List.append_nil]
      refine' ⟨[("square", .v (.int (((i : Int) ^ 3 + a * i + c) % P))), ("place", .v (.int i)), ("points", .olist ((ptsF a c P i).map ptV)), ("roots", .odict (rootsF P (half P)) (half P)), ("prime", .v (.int P)), ("linear", .v (.int a)), ("constant", .v (.int c))], ?cbody, ?cinc⟩
      case cbody =>
        refine Exs.assign (v := .int (((i : Int) ^ 3 + a * i + c) % P)) ?_ rfl rfl ?_
        · walk_at "ev"
        refine Exs.cons (Ex.ite (Tst.inD rfl (Ev.name rfl) rfl rfl) (fun h => ?_) (fun _ => Exs.nil)) Exs.nil
        rw [hr] at h; cases h
      case cinc =>
        refine ⟨?_, rfl, rfl, rfl, rfl, trivial⟩
        rw [hn]; rfl
    | some r =>
      have hn : ptsF a c P (i + 1) = ptsF a c P i ++ [some ((i : Int), r)] ++ [some ((i : Int), P - r)] := by rw [ptsF, ptsAt, hr, List.append_assoc]; rfl
      refine' ⟨_, ?cbody, ?cinc⟩
      case cbody =>
        refine Exs.assign (v := .int (((i : Int) ^ 3 + a * i + c) % P)) ?_ rfl rfl ?_
        · walk_at "ev"
        refine Exs.cons (Ex.ite (Tst.inD rfl (Ev.name rfl) rfl rfl) (fun _ => ?_) (fun h => ?_)) Exs.nil
        · refine Exs.cons (Ex.append (v := .tup [(i : Int), r]) rfl (Ev.tup2 (Ev.name rfl) (Ev.itemD rfl (Ev.name rfl) hr) rfl rfl) rfl (OkB.look ⟨.inr rfl, .inr rfl, .inl rfl, .inr rfl, .inr rfl, .inr rfl, .inr rfl, trivial⟩) ?_ rfl rfl rfl rfl rfl rfl rfl) ?_
          · simp; omega
          refine Exs.cons (Ex.append (v := .tup [(i : Int), P - r]) rfl (Ev.tup2 (Ev.name rfl) (Ev.sub (Ev.name rfl) (Ev.itemD rfl (Ev.name rfl) hr)) rfl rfl) rfl (OkB.look ⟨.inl rfl, .inr rfl, .inr rfl, .inl rfl, .inr rfl, .inr rfl, .inr rfl, .inr rfl, trivial⟩) ?_ rfl rfl rfl rfl rfl rfl rfl) ?_
          · simp; omega
          exact Exs.nil
        · rw [hr] at h; cases h
      case cinc =>
        refine ⟨?_, rfl, rfl, rfl, rfl, trivial⟩
        rw [hn, List.map_append, List.map_append]
        rfl
  · exact Exs.retE (Ev.nameL rfl) rfl

-- F7
def takenI (a P x : Int) : Int := -(x ^ 3 + a * x) % P
def takenL (a P : Int) : List Int := ((List.range P.toNat).map fun i => (0 : Int) + (i : Nat)).map (takenI a P)
def searchC (a P : Int) : Nat → Int → Int
  | 0, c => c
  | k + 1, c => if (takenL a P).any (· == c) = true then searchC a P k ((c + 1) % P) else c
def lconst (a P num : Int) : Int := searchC a P P.toNat (num % P)

theorem dist_step {d c P : Int} (hP : 0 < P) (hd : 0 ≤ d) (hdP : d < P) (hc : 0 ≤ c) (hcP : c < P) (hne : c ≠ d) : (d - (c + 1) % P) % P = (d - c) % P - 1 := by
  have e1 : (c + 1) % P = if c + 1 = P then 0 else c + 1 := by
    split
    · rename_i h; rw [h, Int.emod_self]
    · exact Int.emod_eq_of_lt (by omega) (by omega)
  have e2 : (d - c) % P = if d < c then d - c + P else d - c := by
    split
    · rw [← Int.add_emod_right]; exact Int.emod_eq_of_lt (by omega) (by omega)
    · exact Int.emod_eq_of_lt (by omega) (by omega)
  rw [e1, e2]
  split
  · rename_i h
    rw [Int.sub_zero, Int.emod_eq_of_lt hd hdP]
    split <;> omega
  · rename_i h
    by_cases hlt : d < c
    · rw [if_pos hlt, ← Int.add_emod_right, Int.emod_eq_of_lt (by omega) (by omega)]; omega
    · rw [if_neg hlt, Int.emod_eq_of_lt (by omega) (by omega)]; omega

structure CS where
  (k : Nat) (c : Int)

theorem cal_constant (w : World) (n : Nat) {a P num : Int} (ha : Bd 8 a) (hP : 1 < P) (hP2 : P < 64) (d : Int) (hd : 0 ≤ d) (hdP : d < P) (hdt : (takenL a P).any (· == d) = false) :
    Cal w (n + 1) (.ref 82) [.int P, .int a, .int num] (.int (lconst a P num)) := by
  have bP : Bd 8 P := Bd.ofRange (P := 64) (by omega) hP2 (by decide)
  have hP0 : 0 < P := by omega
  refine Cal.fnC (xs := ["prime", "linear", "number"]) rfl rfl rfl (by decide) ?_ rfl ?_ rfl rfl rfl ?_
  · intro vals h; obtain ⟨a, b, c, rfl⟩ := len3 h; rfl
  · intro x hx h L
    simp only [List.mem_cons, List.not_mem_nil, or_false] at hx
    rcases hx with rfl | rfl | rfl <;> first | rfl | cases h
  intro g L
  refine Exs.cons (Ex.assignComp [("prime", .int P), ("linear", .int a)] (takenI a P) rfl rfl
    (Src.range (a := 0) (b := P) P.toNat (Rng.one (Ev.name rfl) rfl rfl) (by split <;> omega) (by decide) (by decide) (by omega) (by omega)) rfl rfl rfl rfl rfl rfl ?_ ?_ ?_ ?_) ?_
  · intro p hp
    simp only [List.mem_cons, List.not_mem_nil, or_false] at hp
    rcases hp with rfl | rfl <;> exact ⟨rfl, rfl, rfl, rfl, by dsimp only; decide⟩
  · simp; omega
  · intro i hi C
    have bi : Bd 8 i := by
      simp only [List.mem_map, List.mem_range] at hi
      obtain ⟨j, hj, rfl⟩ := hi
      exact Bd.ofRange (P := 64) (by omega) (by omega) (by decide)
    unfold takenI
    walk_at "ev"
  · intro _; rfl
  refine Exs.assign (Ev.mod (Ev.name rfl) (Ev.name rfl) hP0) rfl rfl ?_
  have h1 := Int.emod_nonneg num (Int.ne_of_gt hP0)
  have h2 := Int.emod_lt_of_pos num hP0
  have h3 := Int.emod_lt_of_pos (d - num % P) hP0
  refine Exs.loop (St := CS) (fun s => [("constant", .v (.int s.c)), ("taken", .v (.list ((takenL a P).map V.int))), ("prime", .v (.int P))])
    (fun s => 0 ≤ s.c ∧ s.c < P ∧ (d - s.c) % P < s.k + 1 ∧ searchC a P s.k s.c = lconst a P num) (fun s => (takenL a P).any (· == s.c) = false) (fun s => s.k) ⟨P.toNat, num % P⟩
    ⟨h1, h2, by show (d - num % P) % P < (P.toNat : Int) + 1; omega, rfl⟩ ⟨rfl, ?_, rfl, trivial⟩ ?_ ?_
  · simp [takenL]; rfl
  · rintro ⟨k, c⟩ ⟨a1, a2, a3, a4⟩
    dsimp only at a1 a2 a3 a4 ⊢
    cases hc : (takenL a P).any (· == c) with
    | false => left; exact ⟨hc ▸ Tst.compare (Ev.name rfl) (Ev.name rfl) Cmp.inL, rfl⟩
    | true =>
      right
      refine ⟨hc ▸ Tst.compare (Ev.name rfl) (Ev.name rfl) Cmp.inL, ?_⟩
      have hne : c ≠ d := by rintro rfl; rw [hdt] at hc; cases hc
      have hs := dist_step hP0 hd hdP a1 a2 hne
      have hnn := Int.emod_nonneg (d - (c + 1) % P) (Int.ne_of_gt hP0)
      obtain ⟨j, rfl⟩ : ∃ j, k = j + 1 := ⟨k - 1, by omega⟩
      refine' ⟨_, ⟨j, (c + 1) % P⟩, ?cbody, ?cinc, ?cinv, ?cdec⟩
      case cbody =>
        refine Exs.assign (Ev.mod (Ev.add (Ev.name rfl) Ev.int) (Ev.name rfl) hP0) rfl rfl ?_
        exact Exs.nil
      case cinc => exact ⟨rfl, rfl, rfl, trivial⟩
      case cinv =>
        refine ⟨Int.emod_nonneg _ (Int.ne_of_gt hP0), Int.emod_lt_of_pos _ hP0, by show (d - (c + 1) % P) % P < (j : Int) + 1; omega, ?_⟩
        rw [← a4]
        show _ = searchC a P (j + 1) c
        rw [searchC, if_pos hc]
      case cdec => exact Nat.lt_succ_self j
  · rintro ⟨k, c⟩ ⟨a1, a2, a3, a4⟩ hf
    dsimp only at a1 a2 a3 a4 hf ⊢
    refine Exs.retE (Ev.name rfl) ?_
    rw [← a4]
    cases k with
    | zero => rfl
    | succ k => rw [searchC, if_neg (by rw [hf]; decide)]

-- F8
def gv (ns : List Int) (i : Int) : Int := if i < ns.length then ((ns.getD i.toNat 0).natAbs : Int) else 3 * i + 1
def facI (ns : List Int) : Int := if (8 : Int) < ns.length then ns.getD 8 0 else -3
def fixA (P g : Int) : Int := if g % P = 0 ∧ P % 3 = 2 then 1 else g % P
abbrev gl (ns : List Int) : List V := [.int (gv ns 0), .int (gv ns 1), .int (gv ns 2), .int (gv ns 3), .int (gv ns 4), .int (gv ns 5), .int (gv ns 6), .int (gv ns 7)]
abbrev ptsL (a c P : Int) : List PT := ptsF a c P P.toNat

structure LF (ns : List Int) (P a c gx gy : Int) (A B D : PT) (M : Nat) (cv : Cv) : Prop where
  f_p : primes[(gv ns 0 % 12).toNat]? = some P
  f_p1 : 3 < P
  f_p2 : P < 64
  f_a : a = fixA P (gv ns 1)
  f_a0 : 0 ≤ a
  f_aP : a < P
  f_tk : ∃ d, 0 ≤ d ∧ d < P ∧ (takenL a P).any (· == d) = false
  f_c : c = lconst a P (gv ns 2)
  f_cb : Bd 8 c
  f_gen : (ptsL a c P)[1]? = some (some (gx, gy))
  f_A : (ptsL a c P)[(gv ns 3 % (ptsL a c P).length).toNat]? = some A
  f_B : (ptsL a c P)[(gv ns 4 % (ptsL a c P).length).toNat]? = some B
  f_D : (ptsL a c P)[(gv ns 5 % (ptsL a c P).length).toNat]? = some D
  f_bA : BP A
  f_bB : BP B
  f_bD : BP D
  f_cv : cv = ⟨P, (ptsL a c P).length * (1 + gv ns 2 / P % 3), a, c, gx, gy⟩
  f_m : mult a P A M = none
  f_ml : ∀ i, i < M → mult a P A i ≠ none
  f_m9 : M ≤ 900
  f_e1 : fromJ cv (jadd cv (lform A (1 + gv ns 6 % (P - 1)) P) (lform B (1 + gv ns 7 % (P - 1)) P)) = plain (lsum a P A B)
  f_e2 : fromJ cv (jadd cv (lform B (1 + gv ns 7 % (P - 1)) P) (lform A (1 + gv ns 6 % (P - 1)) P)) = plain (lsum a P A B)
  f_e3 : fromJ cv (jadd cv (jadd cv (lform A (1 + gv ns 6 % (P - 1)) P) (lform B (1 + gv ns 7 % (P - 1)) P)) (lform D 1 P)) = plain (lsum a P (lsum a P A B) D)
  f_e4 : fromJ cv (jadd cv (lform A (1 + gv ns 6 % (P - 1)) P) (jadd cv (lform B (1 + gv ns 7 % (P - 1)) P) (lform D 1 P))) = plain (lsum a P (lsum a P A B) D)
  f_e5 : fromJ cv (jdbl cv (lform A (1 + gv ns 6 % (P - 1)) P)) = plain (lsum a P A A)
  f_e6 : fromJ cv (jadd cv ((plain A).1, (plain A).2, 1) ((plain B).1, (plain B).2, 1)) = plain (lsum a P A B)
  f_e7 : ∀ q, (roundL a P A M)[(facI ns % (roundL a P A M).length).toNat]? = some q → fromJ cv (jmul cv (lform A (1 + gv ns 6 % (P - 1)) P) 11 (facI ns)) = plain q
  f_e8 : ∀ q, (roundL a P A M)[(facI ns % (roundL a P A M).length).toNat]? = some q → fromJ cv (jmul cv ((plain A).1, (plain A).2, 1) 11 (facI ns)) = plain q
  f_e9 : fromJ cv (jmul cv ((plain A).1, (plain A).2, 1) 11 (ptsL a c P).length) = (0, 0)
  f_e10 : fromJ cv ((plain D).1, (plain D).2, 1) = plain D

theorem gv_nonneg (ns : List Int) (i : Int) (hi : 0 ≤ i) : 0 ≤ gv ns i := by unfold gv; split <;> omega
theorem B3.lform {q : PT} {k P : Int} (hq : BP q) (hk : Bd 8 k) (bP : Bd 8 P) (hP : 0 < P) : B3 (lform q k P) := by
  cases q with
  | none => exact ⟨Bd.lit rfl, Bd.lit rfl, hk⟩
  | some p => exact ⟨Bd.mod bP hP, Bd.mod bP hP, hk⟩
theorem BP.plain {q : PT} (h : BP q) : Bd 8 (plain q).1 ∧ Bd 8 (plain q).2 := by
  cases q with
  | none => exact ⟨Bd.lit rfl, Bd.lit rfl⟩
  | some p => exact h

section
variable {w : World} {n : Nat} {g : Heap} {env : Env} {ρ ρ' : List (Str × W)}
theorem Ev.tup6 {a b c d e f : Expr} {k : Nat} {pos : Pos} {x y z u v t : Int} (h1 : Ev w n g env ρ a (.int x)) (h2 : Ev w n g env ρ b (.int y)) (h3 : Ev w n g env ρ c (.int z)) (h4 : Ev w n g env ρ d (.int u)) (h5 : Ev w n g env ρ e (.int v)) (h6 : Ev w n g env ρ f (.int t))
    (s : ([a, b, c, d, e, f].all notStar) = true) : Ev w n g env ρ (.Tuple [a, b, c, d, e, f] k pos) (.tup [x, y, z, u, v, t]) := by
  simp only [List.all_cons, List.all_nil, Bool.and_true, Bool.and_eq_true] at s
  obtain ⟨s1, s2, s3, s4, s5, s6⟩ := s
  exact Ev.tuple (l := [x, y, z, u, v, t]) (Evs.cons' h1 (Evs.cons' h2 (Evs.cons' h3 (Evs.cons' h4 (Evs.cons' h5 (Evs.cons' h6 Evs.nil s6) s5) s4) s3) s2) s1) rfl (Nat.le_of_ble_eq_true rfl)
theorem Ev.cast {e : Expr} {v v' : V} (h : Ev w n g env ρ e v) (q : v = v') : Ev w n g env ρ e v' := q ▸ h
theorem Tst.cast {e : Expr} {b b' : Bool} (h : Tst w n g env ρ e b) (q : b = b') : Tst w n g env ρ e b' := q ▸ h
theorem Tst.neF {l r : Expr} {pos : Pos} {a b : List Int} (h1 : Ev w n g env ρ l (.tup a)) (h2 : Ev w n g env ρ r (.tup b)) (e : a = b) (hm : behindInMarks .NotEq r = false) : Tst w n g env ρ (.Compare l [.NotEq] [r] pos) false := by
  subst e
  exact (Tst.compare h1 h2 Cmp.neT hm).cast (by simp)
end

theorem Ex.weakenOut {w : World} {n : Nat} {g : Heap} {env : Env} {ρ ρ1 ρ2 : List (Str × W)} {st : Stmt} (h : Ex w n g env ρ st (.next ρ1)) (k : ∀ x v, ρ2.lookup x = some v → ρ1.lookup x = some v) : Ex w n g env ρ st (.next ρ2) :=
  fun A s Q E F rm q => h A s Q E F rm fun fl s' k' e => q fl s' k' ⟨e.1, e.2.weaken k⟩
theorem Exs.weakenOut {w : World} {n : Nat} {g : Heap} {env : Env} {ρ ρ1 ρ2 : List (Str × W)} {st : List Stmt} (h : Exs w n g env ρ st (.next ρ1)) (k : ∀ x v, ρ2.lookup x = some v → ρ1.lookup x = some v) : Exs w n g env ρ st (.next ρ2) :=
  fun A s Q E F rm q => h A s Q E F rm fun fl s' k' e => q fl s' k' ⟨e.1, e.2.weaken k⟩
theorem Inc.refl' {ρ : List (Str × W)} : ∀ x v, ρ.lookup x = some v → ρ.lookup x = some v := fun _ _ h => h


theorem items8 (ns : List Int) : (((List.range 8).map fun i => (0 : Int) + (i : Nat)).map fun i => V.int (gv ns i)) = gl ns := by
  simp [List.range, List.range.loop]

set_option maxHeartbeats 4000000 in
theorem law_code (w : World) {ns : List Int} {P a c gx gy : Int} {A B D : PT} {M : Nat} {cv : Cv} (hns : ns.length ≤ 63) (lf : LF ns P a c gx gy A B D M cv)
    {Ar : Around} {s : Shared} {R : Result → Shared → Prop} {x : Value} (Gs : G w s.heap) (rm : Room 15 Ar) (hx : Rep s.heap x (.list (ns.map V.int)))
    (q : ∀ h' tk, Sub s.heap h' → R (.ok (.ret (.bool true))) { s with heap := h', toks := tk }) : codeAny (MM w) Ar (.call (.ref 122) ⟨[x], []⟩) R s := by
  have hP1 := lf.f_p1
  have hP2 := lf.f_p2
  have hP0 : 0 < P := by omega
  have bP : Bd 8 P := Bd.ofRange (P := 64) (by omega) hP2 (by decide)
  have bA : Bd 8 a := Bd.ofRange (P := 64) lf.f_a0 (Int.lt_trans lf.f_aP hP2) (by decide)
  refine code_law (xs := ["script"]) (v := .bool true) (args := [.list (ns.map V.int)]) ["given", "points"] Gs rm rfl rfl rfl (by decide) (.cons hx .nil) ?_ rfl ?_ ?_ rfl rfl rfl ?_ ?_
  · intro vals h; obtain ⟨a, rfl⟩ := len1 h; rfl
  · intro x hx h L
    simp only [List.mem_cons, List.not_mem_nil, or_false] at hx
    subst hx; rfl
  · intro x hx
    simp only [List.mem_cons, List.not_mem_nil, or_false] at hx
    rcases hx with rfl | rfl <;> exact ⟨by decide, rfl, fun _ => rfl⟩
  · intro g L
    -- given
    refine Run.cell (v := .list (gl ns)) ?_ rfl ?_ rfl ?_
    · refine Ev.cast (Ev.comp [("script", .list (ns.map V.int))] (gv ns) (Src.range (a := 0) (b := 8) 8 (Rng.one Ev.int rfl rfl) (by decide) (by decide) (by decide) (by decide) (by decide)) rfl rfl rfl rfl rfl rfl ?_ ?_ ?_ ?_) (congrArg V.list (items8 ns))
      · intro p hp
        simp only [List.mem_cons, List.not_mem_nil, or_false] at hp
        subst hp; exact ⟨rfl, rfl, rfl, rfl, by dsimp only; decide⟩
      · simp
      · intro i hi C
        have hi0 : 0 ≤ i ∧ i < 8 := by
          simp only [List.mem_map, List.mem_range] at hi
          obtain ⟨j, hj, rfl⟩ := hi
          omega
        refine Ev.ifexp (Tst.compare (Ev.name rfl) (Ev.builtin rfl Boot.len (by decide) rfl (Evs.cons' (Ev.name rfl) Evs.nil rfl) (cal_len (by simp; omega))) Cmp.ltI) (fun h => ?_) (fun h => ?_)
        · have h : i < ns.length := by simpa using h
          have e1 : gv ns i = ((ns.getD i.toNat 0).natAbs : Int) := if_pos h
          rw [e1]
          refine Ev.builtin rfl boot_abs (by decide) rfl (Evs.cons' (Ev.itemL (x := .int (ns.getD i.toNat 0)) (Ev.name rfl) (Ev.name rfl) hi0.1 ?_ (by omega)) Evs.nil rfl) cal_abs
          rw [List.getElem?_map, List.getD_eq_getElem?_getD, List.getElem?_eq_getElem (by omega)]; rfl
        · have h : ¬ i < ns.length := by simpa using h
          have e1 : gv ns i = 3 * i + 1 := if_neg h
          rw [e1]
          exact Ev.add (Ev.mul Ev.int (Ev.name rfl) (.inl (Bd.mono (Bd.lit rfl) (by decide)))) Ev.int
      · intro _; rfl
    · intro y hy hne h
      have hy : List.lookup y [("script", W.v (.list (ns.map V.int))), ("given", .unset), ("points", .unset)] = some .unset := hy
      rw [lookup_cons_eq, lookup_cons_eq, if_neg hne, lookup_cons_eq] at hy
      by_cases h1 : y = "script"
      · rw [if_pos h1] at hy; cases hy
      · rw [if_neg h1] at hy
        by_cases h2 : y = "points"
        · subst h2
          have h' : (some (L + 1 + 1 + 1) : Option Nat) = some (L + 1 + 1) := h
          injection h' with h'
          exact absurd h' (Nat.ne_of_gt (Nat.lt_succ_self _))
        · rw [if_neg h2] at hy; cases hy
    -- factor
    refine Run.assign (v := .int (facI ns)) (Ev.ifexp (Tst.compare (Ev.builtin rfl Boot.len (by decide) rfl (Evs.cons' (Ev.name rfl) Evs.nil rfl) (cal_len (by simp; omega))) Ev.int Cmp.gtI) (fun h => ?_) (fun h => ?_)) rfl rfl ?_
    · have h : (8 : Int) < ns.length := by simpa using h
      have e1 : facI ns = ns.getD 8 0 := if_pos h
      rw [e1]
      refine Ev.itemL (x := .int (ns.getD 8 0)) (Ev.name rfl) Ev.int (by decide) ?_ (by decide)
      rw [List.getElem?_map, List.getD_eq_getElem?_getD]
      show (ns[8]?).map V.int = _
      rw [List.getElem?_eq_getElem (by omega)]; rfl
    · have h : ¬ (8 : Int) < ns.length := by simpa using h
      have e1 : facI ns = -3 := if_neg h
      rw [e1]
      exact Ev.neg Ev.int
    -- prime
    refine Run.assign (v := .int P) (Ev.itemL (Ev.call0 rfl rfl rfl (cal_primes w 13)) (Ev.mod (Ev.itemL (l := gl ns) (k := 0) (x := .int (gv ns 0)) (Ev.name rfl) Ev.int (by decide) rfl (by decide)) Ev.int (by decide)) (Int.emod_nonneg _ (by decide)) ?_ (by omega)) rfl rfl ?_
    · rw [List.getElem?_map, lf.f_p]; rfl
    -- linear
    refine Run.assign (v := .int (gv ns 1 % P)) (Ev.mod (Ev.itemL (l := gl ns) (k := 1) (x := .int (gv ns 1)) (Ev.name rfl) Ev.int (by decide) rfl (by decide)) (Ev.name rfl) hP0) rfl rfl ?_
    refine Run.cons (ρ1 := [("linear", .v (.int a)), ("prime", .v (.int P)), ("factor", .v (.int (facI ns))), ("given", .v (.list (gl ns))), ("points", .unset)]) ?_ ?_
    · refine Ex.ite (Tst.and2 (Tst.compare (Ev.name rfl) Ev.int Cmp.eqI) (fun _ => Tst.compare (Ev.mod (Ev.name rfl) Ev.int (by decide)) Ev.int Cmp.eqI)) (fun h => ?_) (fun h => ?_)
      · have h : gv ns 1 % P = 0 ∧ P % 3 = 2 := by simpa using h
        have ea : a = 1 := by rw [lf.f_a]; exact if_pos h
        rw [ea]
        refine Exs.cons (Ex.weakenOut (Ex.assign Ev.int rfl) (Inc.look (ρ' := [("linear", .v (.int 1)), ("prime", .v (.int P)), ("factor", .v (.int (facI ns))), ("given", .v (.list (gl ns))), ("points", .unset)]) ⟨rfl, rfl, rfl, rfl, rfl, trivial⟩)) Exs.nil
      · have h : ¬ (gv ns 1 % P = 0 ∧ P % 3 = 2) := by simpa using h
        have ea : a = gv ns 1 % P := by rw [lf.f_a]; exact if_neg h
        rw [ea]
        exact Exs.weakenOut Exs.nil (Inc.look (ρ' := [("linear", .v (.int (gv ns 1 % P))), ("prime", .v (.int P)), ("factor", .v (.int (facI ns))), ("given", .v (.list (gl ns))), ("points", .unset)]) ⟨rfl, rfl, rfl, rfl, rfl, trivial⟩)
    -- constant
    obtain ⟨d, hd0, hd1, hd2⟩ := lf.f_tk
    have cc := cal_constant w 13 (num := gv ns 2) bA (by omega) hP2 d hd0 hd1 hd2
    rw [← lf.f_c] at cc
    refine Run.assign (v := .int c) (Ev.call rfl rfl rfl (Evs.cons' (Ev.name rfl) (Evs.cons' (Ev.name rfl) (Evs.cons' (Ev.itemL (l := gl ns) (k := 2) (x := .int (gv ns 2)) (Ev.name rfl) Ev.int (by decide) rfl (by decide)) Evs.nil rfl) rfl) rfl) cc) rfl rfl ?_
    -- points
    have cp := cal_points w 13 (c := c) bA (by omega) hP2
    refine Run.cell (v := .list ((ptsL a c P).map ptV)) (Ev.call rfl rfl rfl (Evs.cons' (Ev.name rfl) (Evs.cons' (Ev.name rfl) (Evs.cons' (Ev.name rfl) Evs.nil rfl) rfl) rfl) cp) rfl ?_ rfl ?_
    · intro y hy hne h
      have hy : List.lookup y [("constant", W.v (.int c)), ("linear", .v (.int a)), ("prime", .v (.int P)), ("factor", .v (.int (facI ns))), ("given", .v (.list (gl ns))), ("points", .unset)] = some .unset := hy
      simp only [lookup_cons_eq, if_neg hne] at hy
      repeat' (split at hy)
      all_goals cases hy
    refine Run.of ?_
    have hlen : (ptsL a c P).length ≤ 127 := by have := ptsF_len a c P P.toNat; show (ptsF a c P P.toNat).length ≤ 127; omega
    have hP10 : 0 < P - 1 := by omega
    have hlp : 2 ≤ (ptsL a c P).length := by
      rcases Nat.lt_or_ge 1 (ptsL a c P).length with h | h
      · exact h
      · have := lf.f_gen; rw [List.getElem?_eq_none h] at this; cases this
    have hcv := lf.f_cv
    have hok : cv.Ok := by rw [hcv]; exact ⟨hP0, hP2, lf.f_a0, lf.f_aP⟩
    have hm3 : ∀ x : Int, 0 ≤ x % 3 ∧ x % 3 < 3 := fun x => ⟨Int.emod_nonneg _ (by decide), Int.emod_lt_of_pos _ (by decide)⟩
    have h13 : 1 ≤ 1 + gv ns 2 / P % 3 ∧ 1 + gv ns 2 / P % 3 ≤ 3 := by have := hm3 (gv ns 2 / P); omega
    have hb3 : Bd 8 (1 + gv ns 2 / P % 3) := Bd.ofRange (P := 4) (by omega) (by omega) (by decide)
    have hNval : cv.N = (ptsL a c P).length * (1 + gv ns 2 / P % 3) := by rw [hcv]
    have hNpos : 0 < cv.N := by rw [hNval]; exact Int.mul_pos (by omega) (by omega)
    have hNle : cv.N ≤ 2 ^ 10 := by
      rw [hNval]
      have : ((ptsL a c P).length : Int) * (1 + gv ns 2 / P % 3) ≤ 127 * 3 := Int.mul_le_mul (by omega) (by omega) (by omega) (by omega)
      omega
    have hcurve : cv.l = [P, (ptsL a c P).length * (1 + gv ns 2 / P % 3), a, c, gx, gy] := by rw [hcv]
    have bk6 : Bd 8 (1 + gv ns 6 % (P - 1)) := by
      have h1 := Int.emod_nonneg (gv ns 6) (Int.ne_of_gt hP10)
      have h2 := Int.emod_lt_of_pos (gv ns 6) hP10
      exact Bd.ofRange (P := 64) (by omega) (by omega) (by decide)
    have bk7 : Bd 8 (1 + gv ns 7 % (P - 1)) := by
      have h1 := Int.emod_nonneg (gv ns 7) (Int.ne_of_gt hP10)
      have h2 := Int.emod_lt_of_pos (gv ns 7) hP10
      exact Bd.ofRange (P := 64) (by omega) (by omega) (by decide)
    have clen : Cal w 14 (.builtin "len") [.list ((ptsL a c P).map ptV)] (.int (ptsL a c P).length) := by
      have := cal_len (w := w) (n := 14) (l := (ptsL a c P).map ptV) (by rw [List.length_map]; omega)
      rwa [List.length_map] at this
    have cHere := cal_form w 13 (q := A) lf.f_bA bk6 hP0
    have cThere := cal_form w 13 (q := B) lf.f_bB bk7 hP0
    have cLast := cal_form w 13 (q := D) lf.f_bD (k := 1) (Bd.lit rfl) hP0
    have bHere := B3.lform lf.f_bA bk6 bP hP0
    have bThere := B3.lform lf.f_bB bk7 bP hP0
    have bLast := B3.lform lf.f_bD (k := 1) (Bd.lit rfl) bP hP0
    have cDue := cal_sum w 13 lf.f_bA lf.f_bB bA (by omega : 1 < P) hP2
    have bDue := BP.lsum (a := a) lf.f_bA lf.f_bB bP hP0
    have cDue3 := cal_sum w 13 bDue lf.f_bD bA (by omega : 1 < P) hP2
    have cWhole := cal_plain w 13 (lsum a P (lsum a P A B) D)
    have cPlDue := cal_plain w 13 (lsum a P A B)
    have cAA := cal_sum w 13 lf.f_bA lf.f_bA bA (by omega : 1 < P) hP2
    have cPlAA := cal_plain w 13 (lsum a P A A)
    have cPlA := cal_plain w 13 A
    have cPlB := cal_plain w 13 B
    have cPlD := cal_plain w 13 D
    obtain ⟨bA1, bA2⟩ := lf.f_bA.plain
    obtain ⟨bB1, bB2⟩ := lf.f_bB.plain
    have cRound := cal_round w 12 M lf.f_m lf.f_ml lf.f_m9 lf.f_bA bA (by omega : 1 < P) hP2
    have E1 := lf.f_e1
    have E2 := lf.f_e2
    have E3 := lf.f_e3
    have E4 := lf.f_e4
    have E5 := lf.f_e5
    have E6 := lf.f_e6
    have E7 := lf.f_e7
    have E8 := lf.f_e8
    have E9 := lf.f_e9
    have E10 := lf.f_e10
    have hA' := lf.f_A
    have hB' := lf.f_B
    have hD' := lf.f_D
    have hgen := lf.f_gen
    generalize lform A (1 + gv ns 6 % (P - 1)) P = here at *
    generalize lform B (1 + gv ns 7 % (P - 1)) P = there at *
    generalize lform D 1 P = last at *
    generalize lsum a P A B = due at *
    generalize lsum a P due D = dd at *
    generalize lsum a P A A = aa at *
    have cBoth := cal_add w 12 hok bHere bThere
    have cBack := cal_add w 12 hok bThere bHere
    have bBoth := B3.jadd hok bHere bThere
    have bBack := B3.jadd hok bThere bHere
    have cTL := cal_add w 12 hok bThere bLast
    have bTL := B3.jadd hok bThere bLast
    have cBL := cal_add w 12 hok bBoth bLast
    have bBL := B3.jadd hok bBoth bLast
    have cHTL := cal_add w 12 hok bHere bTL
    have bHTL := B3.jadd hok bHere bTL
    have cDbl := cal_double w 13 hok bHere
    have bDbl : B3 (jdbl cv here) := B3.jdbl hok
    have f1 := cal_from w 12 hok bBoth
    have f2 := cal_from w 12 hok bBack
    have f3 := cal_from w 12 hok bBL
    have f4 := cal_from w 12 hok bHTL
    have f5 := cal_from w 12 hok bDbl
    rw [E1] at f1
    rw [E2] at f2
    rw [E3] at f3
    rw [E4] at f4
    rw [E5] at f5
    have f6 : Cal w 14 (.ref 70) _ _ := (cal_addp w hok bA1 bA2 bB1 bB2).mono (by decide)
    rw [E6] at f6
    have cMul := (cal_mul w hok hNpos hNle bHere (facI ns)).mono (n := 14) (by decide)
    have f7 := cal_from w 12 hok (B3.jmul hok bHere 11 (facI ns))
    have f8 := cal_multiply w hok hNpos hNle bA1 bA2 (facI ns)
    have f9 := cal_multiply w hok hNpos hNle bA1 bA2 ((ptsL a c P).length : Int)
    rw [E9] at f9
    have f10 := cal_from w 12 hok (b3_to lf.f_bD.plain.1 lf.f_bD.plain.2)
    rw [E10] at f10
    have cTo := cal_to_jacobian w 13 (x := (plain D).1) (y := (plain D).2)
    clear E1 E2 E3 E4 E5 E6 E9 E10
    rw [hcurve] at cBoth cBack cTL cBL cHTL cDbl f1 f2 f3 f4 f5 f6 cMul f7 f8 f9 f10
    generalize jmul cv here 11 (facI ns) = mh at *
    generalize jmul cv ((plain A).1, (plain A).2, 1) 11 (facI ns) = ma at *
    generalize jadd cv here (jadd cv there last) = htl at *
    generalize jadd cv (jadd cv here there) last = bl at *
    generalize jadd cv there last = tl at *
    generalize jadd cv here there = both at *
    generalize jadd cv there here = back at *
    generalize jdbl cv here = dbl at *
    -- order
    refine Exs.assign (Ev.mul (Ev.builtin rfl Boot.len (by decide) rfl (Evs.cons' (Ev.name rfl) Evs.nil rfl) clen) (Ev.add Ev.int (Ev.mod (Ev.fdiv (Ev.itemL (l := gl ns) (k := 2) (x := .int (gv ns 2)) (Ev.name rfl) Ev.int (by decide) rfl (by decide)) (Ev.name rfl) hP0 (by omega)) Ev.int (by decide))) (.inr (hb3.mono (by decide)))) rfl rfl ?_
    have hg1 : ((ptsL a c P).map ptV)[(1 : Int).toNat]? = some (.tup [gx, gy]) := by
      rw [List.getElem?_map]
      show ((ptsL a c P)[1]?).map ptV = _
      rw [hgen]; rfl
    refine Exs.assign (Ev.tup6 (Ev.name rfl) (Ev.name rfl) (Ev.name rfl) (Ev.name rfl) (Ev.item0 (Ev.itemL (k := 1) (Ev.name rfl) Ev.int (by decide) hg1 (by decide))) (Ev.item1 (Ev.itemL (k := 1) (Ev.name rfl) Ev.int (by decide) hg1 (by decide))) rfl) rfl rfl ?_
    have hmod : ∀ x : Int, 0 ≤ x % ((ptsL a c P).length : Int) ∧ x % ((ptsL a c P).length : Int) < 2 ^ 63 := fun x => by
      have h1 := Int.emod_nonneg x (b := ((ptsL a c P).length : Int)) (by omega)
      have h2 := Int.emod_lt_of_pos x (b := ((ptsL a c P).length : Int)) (by omega)
      omega
    have hgvA : ∀ i ∈ [(3 : Int), 4, 5], 0 ≤ gv ns i % ((ptsL a c P).length : Int) ∧ gv ns i % ((ptsL a c P).length : Int) < 2 ^ 63 ∧ ((ptsL a c P).map ptV)[(gv ns i % ((ptsL a c P).length : Int)).toNat]? = some ((fun i => if i = 3 then ptV A else if i = 4 then ptV B else ptV D) i) := by
      intro i hi
      refine ⟨(hmod _).1, (hmod _).2, ?_⟩
      simp only [List.mem_cons, List.not_mem_nil, or_false] at hi
      rcases hi with rfl | rfl | rfl
      · rw [List.getElem?_map, hA']; rfl
      · rw [List.getElem?_map, hB']; rfl
      · rw [List.getElem?_map, hD']; rfl
    refine Exs.cons (Ex.unpackComp [("given", .list (gl ns)), ("points", .list ((ptsL a c P).map ptV))] (items := [3, 4, 5]) (fun i => gv ns i % ((ptsL a c P).length : Int)) (fun i => if i = 3 then ptV A else if i = 4 then ptV B else ptV D) (.tail _ (.head _)) rfl rfl rfl rfl ?_ (Src.tup (Ev.tup3 Ev.int Ev.int Ev.int rfl rfl rfl)) rfl rfl rfl rfl rfl rfl ?_ (by decide) ?_ hgvA rfl rfl ?_) ?_
    · intro x hx
      simp only [List.mem_cons, List.not_mem_nil, or_false] at hx
      rcases hx with rfl | rfl | rfl <;> rfl
    · intro p hp
      simp only [List.mem_cons, List.not_mem_nil, or_false] at hp
      rcases hp with rfl | rfl <;> exact ⟨rfl, rfl, rfl, rfl, by dsimp only; decide⟩
    · intro i hi C
      have hitem : 0 ≤ i ∧ (gl ns)[i.toNat]? = some (.int (gv ns i)) ∧ i < 2 ^ 63 := by
        simp only [List.mem_cons, List.not_mem_nil, or_false] at hi
        rcases hi with rfl | rfl | rfl
        · exact ⟨by decide, rfl, by decide⟩
        · exact ⟨by decide, rfl, by decide⟩
        · exact ⟨by decide, rfl, by decide⟩
      refine Ev.mod (Ev.itemL (l := gl ns) (Ev.name rfl) (Ev.name rfl) hitem.1 hitem.2.1 hitem.2.2) (Ev.builtin rfl Boot.len (by decide) rfl (Evs.cons' (Ev.name rfl) Evs.nil rfl) clen) (by omega)
    · intro _; rfl

    refine Exs.assign (Ev.call rfl rfl rfl (Evs.cons' (Ev.name (v := ptV A) rfl) (Evs.cons' (Ev.add Ev.int (Ev.mod (Ev.itemL (l := gl ns) (k := 6) (x := .int (gv ns 6)) (Ev.name rfl) Ev.int (by decide) rfl (by decide)) (Ev.sub (Ev.name rfl) Ev.int) hP10)) (Evs.cons' (Ev.name rfl) Evs.nil rfl) rfl) rfl) cHere) rfl rfl ?_
    refine Exs.assign (Ev.call rfl rfl rfl (Evs.cons' (Ev.name (v := ptV B) rfl) (Evs.cons' (Ev.add Ev.int (Ev.mod (Ev.itemL (l := gl ns) (k := 7) (x := .int (gv ns 7)) (Ev.name rfl) Ev.int (by decide) rfl (by decide)) (Ev.sub (Ev.name rfl) Ev.int) hP10)) (Evs.cons' (Ev.name rfl) Evs.nil rfl) rfl) rfl) cThere) rfl rfl ?_
    refine Exs.assign (Ev.call rfl rfl rfl (Evs.cons' (Ev.name (v := ptV D) rfl) (Evs.cons' Ev.int (Evs.cons' (Ev.name rfl) Evs.nil rfl) rfl) rfl) cLast) rfl rfl ?_
    refine Exs.assign (Ev.call rfl rfl rfl (Evs.cons' (Ev.name (v := ptV A) rfl) (Evs.cons' (Ev.name (v := ptV B) rfl) (Evs.cons' (Ev.name rfl) (Evs.cons' (Ev.name rfl) Evs.nil rfl) rfl) rfl) rfl) cDue) rfl rfl ?_
    refine Exs.assign (Ev.call rfl rfl rfl (Evs.cons' (Ev.call rfl rfl rfl (Evs.cons' (Ev.name rfl) (Evs.cons' (Ev.name (v := ptV D) rfl) (Evs.cons' (Ev.name rfl) (Evs.cons' (Ev.name rfl) Evs.nil rfl) rfl) rfl) rfl) cDue3) Evs.nil rfl) cWhole) rfl rfl ?_
    refine Exs.assign (Ev.call rfl rfl rfl (Evs.cons' (Ev.name rfl) (Evs.cons' (Ev.name rfl) (Evs.cons' (Ev.name rfl) Evs.nil rfl) rfl) rfl) cBoth) rfl rfl ?_
    refine Exs.ifRet (b := false) ((Tst.or2 (Tst.neF (Ev.call rfl rfl rfl (Evs.cons' (Ev.name rfl) (Evs.cons' (Ev.name rfl) Evs.nil rfl) rfl) f1) (Ev.call rfl rfl rfl (Evs.cons' (Ev.name rfl) Evs.nil rfl) cPlDue) rfl rfl) (fun _ => Tst.neF (Ev.call rfl rfl rfl (Evs.cons' (Ev.call rfl rfl rfl (Evs.cons' (Ev.name rfl) (Evs.cons' (Ev.name rfl) (Evs.cons' (Ev.name rfl) Evs.nil rfl) rfl) rfl) cBack) (Evs.cons' (Ev.name rfl) Evs.nil rfl) rfl) f2) (Ev.call rfl rfl rfl (Evs.cons' (Ev.name rfl) Evs.nil rfl) cPlDue) rfl rfl)).cast rfl) (fun h => by cases h) fun _ => ?_
    refine Exs.ifRet (b := false) (Tst.neF (Ev.call rfl rfl rfl (Evs.cons' (Ev.call rfl rfl rfl (Evs.cons' (Ev.name rfl) (Evs.cons' (Ev.name rfl) (Evs.cons' (Ev.name rfl) Evs.nil rfl) rfl) rfl) cBL) (Evs.cons' (Ev.name rfl) Evs.nil rfl) rfl) f3) (Ev.name rfl) rfl rfl) (fun h => by cases h) fun _ => ?_
    refine Exs.ifRet (b := false) (Tst.neF (Ev.call rfl rfl rfl (Evs.cons' (Ev.call rfl rfl rfl (Evs.cons' (Ev.name rfl) (Evs.cons' (Ev.call rfl rfl rfl (Evs.cons' (Ev.name rfl) (Evs.cons' (Ev.name rfl) (Evs.cons' (Ev.name rfl) Evs.nil rfl) rfl) rfl) cTL) (Evs.cons' (Ev.name rfl) Evs.nil rfl) rfl) rfl) cHTL) (Evs.cons' (Ev.name rfl) Evs.nil rfl) rfl) f4) (Ev.name rfl) rfl rfl) (fun h => by cases h) fun _ => ?_
    refine Exs.ifRet (b := false) (Tst.neF (Ev.call rfl rfl rfl (Evs.cons' (Ev.call rfl rfl rfl (Evs.cons' (Ev.name rfl) (Evs.cons' (Ev.name rfl) Evs.nil rfl) rfl) cDbl) (Evs.cons' (Ev.name rfl) Evs.nil rfl) rfl) f5) (Ev.call rfl rfl rfl (Evs.cons' (Ev.call rfl rfl rfl (Evs.cons' (Ev.name (v := ptV A) rfl) (Evs.cons' (Ev.name (v := ptV A) rfl) (Evs.cons' (Ev.name rfl) (Evs.cons' (Ev.name rfl) Evs.nil rfl) rfl) rfl) rfl) cAA) Evs.nil rfl) cPlAA) rfl rfl) (fun h => by cases h) fun _ => ?_
    refine Exs.ifRet (b := false) (Tst.neF (Ev.call rfl rfl rfl (Evs.cons' (Ev.call rfl rfl rfl (Evs.cons' (Ev.name (v := ptV A) rfl) Evs.nil rfl) cPlA) (Evs.cons' (Ev.call rfl rfl rfl (Evs.cons' (Ev.name (v := ptV B) rfl) Evs.nil rfl) cPlB) (Evs.cons' (Ev.name rfl) Evs.nil rfl) rfl) rfl) f6) (Ev.call rfl rfl rfl (Evs.cons' (Ev.name rfl) Evs.nil rfl) cPlDue) rfl rfl) (fun h => by cases h) fun _ => ?_
    refine Exs.assign (Ev.call rfl rfl rfl (Evs.cons' (Ev.name (v := ptV A) rfl) (Evs.cons' (Ev.name rfl) (Evs.cons' (Ev.name rfl) Evs.nil rfl) rfl) rfl) cRound) rfl rfl ?_
    have hrl : (roundL a P A M).length = M + 1 := by simp [roundL]
    have hrp : (0 : Int) < ((roundL a P A M).length : Int) := by omega
    have h1r := Int.emod_nonneg (facI ns) (Int.ne_of_gt hrp)
    have h2r := Int.emod_lt_of_pos (facI ns) hrp
    obtain ⟨mu, hmu⟩ : ∃ mu, (roundL a P A M)[(facI ns % (roundL a P A M).length).toNat]? = some mu := ⟨_, List.getElem?_eq_getElem (by omega)⟩
    rw [E7 mu hmu] at f7
    rw [E8 mu hmu] at f8
    have hm9 := lf.f_m9
    have clr : Cal w 14 (.builtin "len") [.list ((roundL a P A M).map ptV)] (.int (roundL a P A M).length) := by
      have := cal_len (w := w) (n := 14) (l := (roundL a P A M).map ptV) (by rw [List.length_map]; omega)
      rwa [List.length_map] at this
    have cPlMu := cal_plain w 13 mu
    have hmu' : ((roundL a P A M).map ptV)[(facI ns % (roundL a P A M).length).toNat]? = some (ptV mu) := by rw [List.getElem?_map, hmu]; rfl
    refine Exs.assign (Ev.call rfl rfl rfl (Evs.cons' (Ev.itemL (k := facI ns % (roundL a P A M).length) (Ev.name rfl) (Ev.mod (Ev.name rfl) (Ev.builtin rfl Boot.len (by decide) rfl (Evs.cons' (Ev.name rfl) Evs.nil rfl) clr) hrp) h1r hmu' (by omega)) Evs.nil rfl) cPlMu) rfl rfl ?_
    refine Exs.ifRet (b := false) ((Tst.or2 (Tst.neF (Ev.call rfl rfl rfl (Evs.cons' (Ev.call rfl rfl rfl (Evs.cons' (Ev.name rfl) (Evs.cons' (Ev.name rfl) (Evs.cons' (Ev.name rfl) Evs.nil rfl) rfl) rfl) cMul) (Evs.cons' (Ev.name rfl) Evs.nil rfl) rfl) f7) (Ev.name rfl) rfl rfl) (fun _ => Tst.neF (Ev.call rfl rfl rfl (Evs.cons' (Ev.call rfl rfl rfl (Evs.cons' (Ev.name (v := ptV A) rfl) Evs.nil rfl) cPlA) (Evs.cons' (Ev.name rfl) (Evs.cons' (Ev.name rfl) Evs.nil rfl) rfl) rfl) f8) (Ev.name rfl) rfl rfl)).cast rfl) (fun h => by cases h) fun _ => ?_
    refine Exs.ifRet (b := false) (Tst.neF (Ev.call rfl rfl rfl (Evs.cons' (Ev.call rfl rfl rfl (Evs.cons' (Ev.name (v := ptV A) rfl) Evs.nil rfl) cPlA) (Evs.cons' (Ev.builtin rfl Boot.len (by decide) rfl (Evs.cons' (Ev.name rfl) Evs.nil rfl) clen) (Evs.cons' (Ev.name rfl) Evs.nil rfl) rfl) rfl) f9) (Ev.tup2 Ev.int Ev.int rfl rfl) rfl rfl) (fun h => by cases h) fun _ => ?_
    refine Exs.retE (Ev.compare (Ev.call rfl rfl rfl (Evs.cons' (Ev.call rfl rfl rfl (Evs.cons' (Ev.call rfl rfl rfl (Evs.cons' (Ev.name (v := ptV D) rfl) Evs.nil rfl) cPlD) Evs.nil rfl) cTo) (Evs.cons' (Ev.name rfl) Evs.nil rfl) rfl) f10) (Ev.call rfl rfl rfl (Evs.cons' (Ev.name (v := ptV D) rfl) Evs.nil rfl) cPlD) Cmp.eqT rfl) ?_
    simp
  · intro val h' tk sb r
    cases r
    exact q h' tk sb

-- F9
theorem room_caller : Room 15 callerA := ⟨rfl, by decide, by decide⟩
set_option maxHeartbeats 8000000 in
theorem law_top (main : ∀ ns : List Int, ns.length ≤ 63 → ∃ P a c gx gy A B D M cv, LF ns P a c gx gy A B D M cv) : PySem.Challenge.rw_iv0039_01.Holds := hd (by
  k_fill
  intro w s₀ s₁ mg mb G Y fa o pm cd doc dV kV ho hd hcd hD hmg hg args vals as hpre hlay hrd hwl hlo
  have KX := kIn_of Y
  have X := (Ground.X G).1
  have V := (Ground.X G).2
  refine Ground.open G ?_
  intro T B D TE TW
  clear D
  have hfa : fa = 122 := by
    have h := mg_of (n := "law") (v := .ref 122) KX (topRead_of T).g rfl
    have h2 := hmg.symm.trans h
    injection h2 with h2
    injection h2
  subst hfa
  clear hmg
  wrow_args hpre hlay hrd hwl hlo
  rename_i ns _ _ _ _ _ _ _ a vs _ hL _ _ _ hI _ hlen _
  refine wpAny_call ?_
  have hl63 : ns.length ≤ 63 := by
    have : ¬ (63 : Int) < ns.length := hlen
    omega
  obtain ⟨P, a0, c, gx, gy, A, B', D, M, cv, lf⟩ := main ns hl63
  refine law_code w hl63 lf ⟨KX, _, _, _, T⟩ room_caller ⟨_, _, rfl, hL, paired_ints' hI⟩ fun h' tk sb => ?_
  refine GoodW.toG ⟨.inl ⟨.bool true, .bool true, [], rfl, raisesW_false (by wrow_none_raised), .bool true, ?_, unshared_nil⟩, sb, rfl, hg⟩
  wrow_post)

-- M1
section
variable {K : Type} [Lean.Grind.CommRing K]

/-- three points of a line: x_i, y_i = l x_i + m, and the curve less the line's square is the product of the X - x_i -/
structure Lin (a c : K) (l m : K) (p q r : K × K) : Prop where
  y1 : p.2 = l * p.1 + m
  y2 : q.2 = l * q.1 + m
  y3 : r.2 = l * r.1 + m
  c2 : l * l = p.1 + q.1 + r.1
  c1 : a - 2 * (l * m) = p.1 * q.1 + p.1 * r.1 + q.1 * r.1
  c0 : c - m * m = -(p.1 * q.1 * r.1)

theorem Lin.swap12 {a c l m : K} {p q r : K × K} (h : Lin a c l m p q r) : Lin a c l m q p r := by
  obtain ⟨h1, h2, h3, h4, h5, h6⟩ := h
  exact ⟨h2, h1, h3, by grind, by grind, by grind⟩
theorem Lin.swap23 {a c l m : K} {p q r : K × K} (h : Lin a c l m p q r) : Lin a c l m p r q := by
  obtain ⟨h1, h2, h3, h4, h5, h6⟩ := h
  exact ⟨h1, h3, h2, by grind, by grind, by grind⟩

/-- no two numbers but 0 have the product 0 -/
def NoZ (K : Type) [Lean.Grind.CommRing K] : Prop := ∀ x y : K, x * y = 0 → x = 0 ∨ y = 0
theorem NoZ.cancel (hz : NoZ K) {x y z : K} (h : x * y = x * z) (hx : x ≠ 0) : y = z := by
  rcases hz x (y - z) (by grind) with h | h
  · exact absurd h hx
  · grind

theorem mul_eq {x y : K} (z : K) (h : x = y) : z * x = z * y := by rw [h]
theorem lin_q1 {l1 l3 xa xb xc xd xg : K} (d2 : l1 * l1 = xa + xb + xd) (g2 : l3 * l3 = xd + xc + xg) : (l1 + l3) * l1 - (xa + xb) = (l1 + l3) * l3 - (xc + xg) := by grind
theorem lin_q0 {a l1 m1 l3 m3 xa xb xc xd xg : K} (d2 : l1 * l1 = xa + xb + xd) (g2 : l3 * l3 = xd + xc + xg) (d1 : a - 2 * (l1 * m1) = xa * xb + xa * xd + xb * xd) (g1 : a - 2 * (l3 * m3) = xd * xc + xd * xg + xc * xg)
    (kd : (l1 + l3) * xd + m1 + m3 = 0) : xa * xb + (l1 + l3) * m1 = xc * xg + (l1 + l3) * m3 := by
  have e : (xa * xb - xc * xg) + (xa + xb - xc - xg) * xd = 2 * (l3 * m3) - 2 * (l1 * m1) := by clear d2 g2 kd; grind
  have e2 : xa + xb - xc - xg = (l1 - l3) * (l1 + l3) := by clear d1 g1 kd e; grind
  rw [e2] at e
  have e3 := mul_eq (l1 - l3) kd
  clear d1 g1 kd d2 g2 e2
  grind
theorem lin_r1 {k l1 l2 l3 xa xb xc xg : K} (hk : k = l1 + l3) (q1 : k * l1 - (xa + xb) = k * l2 - (xb + xc)) (q1' : k * l1 - (xa + xb) = k * l3 - (xc + xg)) : k * (k - l2) - (xa + xg) = k * l2 - (xb + xc) := by grind
theorem lin_k1 {k l xa xb xd : K} (d2 : l * l = xa + xb + xd) : k * k * xd = (k * l) * (k * l) - k * k * (xa + xb) := by grind
theorem lin_k2 {k u v xa xb xc xg : K} (h3 : u = v + xa - xc) (h4 : k * k = 2 * v + xa + xg - xb - xc) : (u * u - k * k * (xa + xb)) - (v * v - k * k * (xb + xc)) = (xa - xc) * (xb - xg) := by
  subst h3
  have h : (v + xa - xc) * (v + xa - xc) - k * k * (xa + xb) - (v * v - k * k * (xb + xc)) = (xa - xc) * (2 * v + (xa - xc) - k * k) := by clear h4; grind
  rw [h, h4]
  clear h h4
  grind
theorem lin_kd {k l1 l2 xa xb xc xd xe xg : K} (d2 : l1 * l1 = xa + xb + xd) (e2 : l2 * l2 = xb + xc + xe) (q1 : k * l1 - (xa + xb) = k * l2 - (xb + xc)) (r1 : k * (k - l2) - (xa + xg) = k * l2 - (xb + xc)) : k * k * xd - k * k * xe = (xa - xc) * (xb - xg) := by
  rw [lin_k1 d2, lin_k1 e2]
  clear d2 e2
  refine lin_k2 ?_ ?_
  · clear r1; grind
  · clear q1; grind
theorem lin_r0 {k m1 m2 m3 xa xb xc xd xe xg : K} (kd : k * xd + m1 + m3 = 0) (q0 : xa * xb + k * m1 = xb * xc + k * m2) (q0' : xa * xb + k * m1 = xc * xg + k * m3) (kke : k * k * xd - k * k * xe = (xa - xc) * (xb - xg)) :
    xa * xg + k * (-(k * xe) - m2) = xb * xc + k * m2 := by
  have h1 := mul_eq k kd
  clear kd
  grind
theorem lin_z2 {k l2 xa xb xc xe xg : K} (e2 : l2 * l2 = xb + xc + xe) (r1 : k * (k - l2) - (xa + xg) = k * l2 - (xb + xc)) : (k - l2) * (k - l2) = xa + xe + xg := by grind
theorem lin_z1 {a k l2 m2 xa xb xc xe xg : K} (e1 : a - 2 * (l2 * m2) = xb * xc + xb * xe + xc * xe) (r1 : k * (k - l2) - (xa + xg) = k * l2 - (xb + xc)) (r0 : xa * xg + k * (-(k * xe) - m2) = xb * xc + k * m2) :
    a - 2 * ((k - l2) * (-(k * xe) - m2)) = xa * xe + xa * xg + xe * xg := by
  have h : (k - l2) * (-(k * xe) - m2) = l2 * m2 - k * k * xe - k * m2 + k * l2 * xe := by clear e1 r1 r0; grind
  have h1 : k * m2 + k * m2 + k * k * xe = xa * xg - xb * xc := by clear e1 r1 h; grind
  have h2 : k * l2 + k * l2 - k * k = xb + xc - xa - xg := by clear e1 r0 h h1; grind
  have h3 := mul_eq xe h2
  clear r1 r0 h2
  rw [h]
  clear h
  grind
theorem lin_z0 {c k m2 xa xb xc xe xg : K} (e0 : c - m2 * m2 = -(xb * xc * xe)) (r0 : xa * xg + k * (-(k * xe) - m2) = xb * xc + k * m2) : c - (-(k * xe) - m2) * (-(k * xe) - m2) = -(xa * xe * xg) := by
  have h1 : k * m2 + k * m2 + k * k * xe = xa * xg - xb * xc := by grind
  have h2 : xe * (k * m2 + k * m2 + k * k * xe) = xe * (xa * xg - xb * xc) := by rw [h1]
  grind

theorem lin_b {k l1 m1 l2 m2 xa xb xc : K} (h : l1 * xb + m1 = l2 * xb + m2) : (k * l1 - (xa + xb) - (k * l2 - (xb + xc))) * xb + (xa * xb + k * m1 - (xb * xc + k * m2)) = 0 := by
  have e := mul_eq k h
  clear h
  grind
theorem lin_c {k l1 m1 l2 m2 l3 m3 xa xb xc xg : K} (h : l2 * xc + m2 = l3 * xc + m3) (q1' : k * l1 - (xa + xb) = k * l3 - (xc + xg)) (q0' : xa * xb + k * m1 = xc * xg + k * m3) : (k * l1 - (xa + xb) - (k * l2 - (xb + xc))) * xc + (xa * xb + k * m1 - (xb * xc + k * m2)) = 0 := by
  have e := mul_eq k h
  clear h
  rw [q1', q0']
  clear q1' q0'
  grind
/-- b = c -/
theorem lin_tan {a k l1 m1 l2 m2 l3 m3 xa xb xd xe y : K} (hk : k = l1 + l3) (d1 : a - 2 * (l1 * m1) = xa * xb + xa * xd + xb * xd) (e1 : a - 2 * (l2 * m2) = xb * xb + xb * xe + xb * xe) (d2 : l1 * l1 = xa + xb + xd) (e2 : l2 * l2 = xb + xb + xe)
    (kd : k * xd + m1 + m3 = 0) (y1 : y = l1 * xb + m1) (y2 : y = l2 * xb + m2) (y3 : y = l3 * xb + m3) : 2 * y * (k * l1 - (xa + xb) - (k * l2 - (xb + xb))) = 0 := by
  have f1 : a + 3 * (xb * xb) = 2 * l1 * y + (xb - xa) * (xb - xd) := by clear e1 e2 kd y2 y3 hk; grind
  have f2 : a + 3 * (xb * xb) = 2 * l2 * y := by clear d1 d2 kd y1 y3 hk f1; grind
  have f3 : 2 * y = k * (xb - xd) := by clear d1 d2 e1 e2 f1 f2 y2; grind
  have f4 : 2 * y * (l1 - l2) = -((xb - xa) * (xb - xd)) := by clear d1 d2 e1 e2 f3 y1 y2 y3 kd hk; grind
  have f5 := mul_eq k f4
  have f6 := mul_eq (xb - xa) f3
  clear d1 d2 e1 e2 f1 f2 f3 f4 y1 y2 y3 kd hk
  grind

theorem of_sub0 {x y : K} (h : x - y = 0) : y = x := by grind
theorem swp1 {x y u v s t : K} (h : x - (u + v) = y - (s + t)) : x - (v + u) = y - (t + s) := by grind
theorem swp2 {x y u v s t : K} (h : u * v + x = s * t + y) : v * u + x = t * s + y := by grind
theorem lin_ya {k l1 m1 l4 m4 xa xb xg : K} (r1 : k * l4 - (xa + xg) = k * l1 - (xa + xb)) (r0 : xa * xg + k * m4 = xa * xb + k * m1) : k * (l4 * xa + m4 - (l1 * xa + m1)) = 0 := by
  have e := mul_eq xa r1
  clear r1
  grind

def negp (p : K × K) : K × K := (p.1, -p.2)

theorem lin_assoc (hz : NoZ K) {a c l1 m1 l2 m2 l3 m3 : K} {A B C D E G : K × K} (h1 : Lin a c l1 m1 A B D) (h2 : Lin a c l2 m2 B C E) (h3 : Lin a c l3 m3 (negp D) C G) (hb : 2 * B.2 ≠ 0) : ∃ l m, Lin a c l m A (negp E) G := by
  obtain ⟨xa, ya⟩ := A
  obtain ⟨xb, yb⟩ := B
  obtain ⟨xc, yc⟩ := C
  obtain ⟨xd, yd⟩ := D
  obtain ⟨xe, ye⟩ := E
  obtain ⟨xg, yg⟩ := G
  obtain ⟨a1, b1, n1, d2, d1, d0⟩ := h1
  obtain ⟨b2, c1, o1, e2, e1, e0⟩ := h2
  obtain ⟨n2, c2, g1, g2, g1', g0⟩ := h3
  simp only [negp] at *
  have kd : (l1 + l3) * xd + m1 + m3 = 0 := by clear d2 d1 d0 e2 e1 e0 g2 g1' g0 a1 b1 b2 c1 c2 o1 g1; grind
  have q1' := lin_q1 d2 g2
  have q0' := lin_q0 d2 g2 d1 g1' kd
  generalize hk : l1 + l3 = k at *
  have rb := lin_b (k := k) (xa := xa) (xc := xc) (b1.symm.trans b2)
  have rc := lin_c (c1.symm.trans c2) q1' q0'
  have r1 : k * l1 - (xa + xb) - (k * l2 - (xb + xc)) = 0 := by
    generalize hr : k * l1 - (xa + xb) - (k * l2 - (xb + xc)) = r at *
    generalize xa * xb + k * m1 - (xb * xc + k * m2) = s at *
    have hbc : r * (xb - xc) = 0 := by clear d2 d1 d0 e2 e1 e0 g2 g1' g0 hr kd q1' q0'; grind
    rcases hz _ _ hbc with h | h
    · exact h
    · have hcb : xc = xb := by clear d2 d1 d0 e2 e1 e0 g2 g1' g0 hr kd q1' q0' rb rc hbc; grind
      subst hcb
      have := lin_tan hk.symm d1 e1 d2 e2 kd b1 b2 (b2.trans (c1.symm.trans c2))
      rw [hr] at this
      exact (hz _ _ this).resolve_left hb
  rw [r1] at rb
  have q1 : k * l1 - (xa + xb) = k * l2 - (xb + xc) := by clear d2 d1 d0 e2 e1 e0 g2 g1' g0 kd q1' q0' rb rc; grind
  have q0 : xa * xb + k * m1 = xb * xc + k * m2 := by clear d2 d1 d0 e2 e1 e0 g2 g1' g0 kd q1' q0' q1 r1 rc; grind
  have s1 := lin_r1 hk.symm q1 q1'
  have kke := lin_kd d2 e2 q1 s1
  have s0 := lin_r0 kd q0 q0' kke
  have ya4 : k * ((k - l2) * xa + (-(k * xe) - m2) - (l1 * xa + m1)) = 0 := lin_ya (s1.trans q1.symm) (s0.trans q0.symm)
  have yg4 : k * ((k - l2) * xg + (-(k * xe) - m2) - (l3 * xg + m3)) = 0 := by
    refine lin_ya (xb := xc) (xg := xa) ?_ ?_
    · exact swp1 ((s1.trans q1.symm).trans q1')
    · exact swp2 ((s0.trans q0.symm).trans q0')
  refine ⟨k - l2, -(k * xe) - m2, ?_, ?_, ?_, lin_z2 e2 s1, lin_z1 e1 s1 s0, lin_z0 e0 s0⟩
  · show ya = (k - l2) * xa + (-(k * xe) - m2)
    rcases hz _ _ ya4 with h | h
    · clear d2 d1 d0 e2 e1 e0 g2 g1' g0 ya4 yg4 kke s0 s1 q0 q0' rb rc r1
      subst h
      grind
    · exact a1.trans (of_sub0 h)
  · show -ye = (k - l2) * xe + (-(k * xe) - m2)
    rw [o1]; clear d2 d1 d0 e2 e1 e0 g2 g1' g0 ya4 yg4 kke s0 s1 q0 q0' rb rc r1 q1 q1' kd; grind
  · show yg = (k - l2) * xg + (-(k * xe) - m2)
    rcases hz _ _ yg4 with h | h
    · clear d2 d1 d0 e2 e1 e0 g2 g1' g0 ya4 yg4 kke s0 s1 q0 q0' rb rc r1
      subst h
      grind
    · exact g1.trans (of_sub0 h)
end

-- M2
section
variable {K : Type} [Lean.Grind.CommRing K]

theorem neg0 {x : K} : - -x = x := by grind
theorem negp_negp (p : K × K) : negp (negp p) = p := by
  obtain ⟨x, y⟩ := p
  simp only [negp, neg0]
def neg : Option (K × K) → Option (K × K)
  | none => none
  | some p => some (negp p)
theorem neg_neg' (p : Option (K × K)) : neg (neg p) = p := by
  cases p with
  | none => rfl
  | some p => simp only [neg, negp_negp]

/-- three points of sum infinity -/
def T3s (a c : K) : Option (K × K) → Option (K × K) → Option (K × K) → Prop
  | none, q, r => r = neg q
  | some p, none, r => r = neg (some p)
  | some p, some q, none => q = negp p
  | some p, some q, some r => ∃ l m, Lin a c l m p q r

def Ok2 : Option (K × K) → Prop
  | none => True
  | some p => 2 * p.2 ≠ 0

variable {a c : K} {p q r r' : Option (K × K)}
theorem negp_eq {p q : K × K} (h : q = negp p) : p = negp q := by rw [h, negp_negp]

theorem T3s.swap12 (h : T3s a c p q r) : T3s a c q p r := by
  cases p with
  | none => cases q with
    | none => exact h
    | some q => exact h
  | some p => cases q with
    | none => exact h
    | some q => cases r with
      | none => exact negp_eq h
      | some r => obtain ⟨l, m, h⟩ := h; exact ⟨l, m, h.swap12⟩
theorem T3s.swap23 (h : T3s a c p q r) : T3s a c p r q := by
  cases p with
  | none => show q = neg r; rw [show r = neg q from h, neg_neg']
  | some p => cases q with
    | none =>
      have h : r = some (negp p) := h
      subst h
      rfl
    | some q => cases r with
      | none => have h : q = negp p := h; subst h; rfl
      | some r => obtain ⟨l, m, h⟩ := h; exact ⟨l, m, h.swap23⟩
theorem Lin.neg {l m : K} {p q r : K × K} (h : Lin a c l m p q r) : Lin a c (-l) (-m) (negp p) (negp q) (negp r) := by
  obtain ⟨h1, h2, h3, h4, h5, h6⟩ := h
  refine ⟨?_, ?_, ?_, ?_, ?_, ?_⟩
  · show -p.2 = -l * p.1 + -m; rw [h1]; clear h1 h2 h3 h4 h5 h6; grind
  · show -q.2 = -l * q.1 + -m; rw [h2]; clear h1 h2 h3 h4 h5 h6; grind
  · show -r.2 = -l * r.1 + -m; rw [h3]; clear h1 h2 h3 h4 h5 h6; grind
  · show -l * -l = p.1 + q.1 + r.1; rw [← h4]; clear h1 h2 h3 h4 h5 h6; grind
  · show a - 2 * (-l * -m) = p.1 * q.1 + p.1 * r.1 + q.1 * r.1; rw [← h5]; clear h1 h2 h3 h4 h5 h6; grind
  · show c - -m * -m = -(p.1 * q.1 * r.1); rw [← h6]; clear h1 h2 h3 h4 h5 h6; grind
theorem T3s.neg (h : T3s a c p q r) : T3s a c (neg p) (neg q) (neg r) := by
  cases p with
  | none => show Mine.neg r = Mine.neg (Mine.neg q); rw [show r = Mine.neg q from h]
  | some p => cases q with
    | none => show Mine.neg r = Mine.neg (Mine.neg (some p)); rw [show r = Mine.neg (some p) from h]
    | some q => cases r with
      | none => show negp q = negp (negp p); rw [show q = negp p from h]
      | some r => obtain ⟨l, m, h⟩ := h; exact ⟨-l, -m, h.neg⟩

theorem lin_neg {l m : K} {p : K × K} {r : K × K} (h : Lin a c l m p (negp p) r) : 2 * p.2 = 0 := by
  have h1 := h.y1
  have h2 : -p.2 = l * p.1 + m := h.y2
  clear h
  grind
theorem tan_eq {l m px py rx : K} (h1 : py = l * px + m) (h4 : l * l = px + px + rx) (h5 : a - 2 * (l * m) = px * px + px * rx + px * rx) : 2 * py * l = a + 3 * (px * px) := by
  have h6 : 2 * py * l = 2 * (px * (l * l)) + 2 * (l * m) := by rw [h1]; clear h1 h4 h5; grind
  have h7 : 2 * (l * m) = a - (px * px + px * rx + px * rx) := by rw [← h5]; clear h1 h4 h5 h6; grind
  rw [h6, h7, h4]
  clear h1 h4 h5 h6 h7
  grind
theorem lin_uniq (hz : NoZ K) {l m l' m' : K} {p q r r' : K × K} (h : Lin a c l m p q r) (h' : Lin a c l' m' p q r') (hp : 2 * p.2 ≠ 0) : r = r' := by
  have hl : l = l' := by
    have e : (l - l') * (p.1 - q.1) = 0 := by
      have h1 := h.y1
      have h2 := h.y2
      have h3 := h'.y1
      have h4 := h'.y2
      clear h h' hp
      generalize p.1 = px at *
      generalize q.1 = qx at *
      grind
    rcases hz _ _ e with e | e
    · exact (of_sub0 e).symm
    · have hx : q.1 = p.1 := of_sub0 e
      have t : ∀ {l m : K} {r : K × K}, Lin a c l m p q r → 2 * p.2 * l = a + 3 * (p.1 * p.1) := by
        intro l m r h
        have h1 := h.y1
        have h5 := h.c1
        have h4 := h.c2
        rw [hx] at h4 h5
        exact tan_eq h1 h4 h5
      exact hz.cancel ((t h).trans (t h').symm) hp
  subst hl
  have hm : m = m' := by
    have h1 := h.y1
    have h3 := h'.y1
    clear h h'
    grind
  subst hm
  have hx : r.1 = r'.1 := by
    have h1 := h.c2
    have h3 := h'.c2
    clear h h'
    grind
  exact Prod.ext hx (by rw [h.y3, h'.y3, hx])

theorem T3s.uniq (hz : NoZ K) (hp : Ok2 p) (h : T3s a c p q r) (h' : T3s a c p q r') : r = r' := by
  cases p with
  | none => exact h.trans h'.symm
  | some p => cases q with
    | none => exact h.trans h'.symm
    | some q => cases r with
      | none => cases r' with
        | none => rfl
        | some r' =>
          obtain ⟨l, m, h'⟩ := h'
          have h : q = negp p := h
          subst h
          exact absurd (lin_neg h') hp
      | some r => cases r' with
        | none =>
          obtain ⟨l, m, h⟩ := h
          have h' : q = negp p := h'
          subst h'
          exact absurd (lin_neg h) hp
        | some r' =>
          obtain ⟨l, m, h⟩ := h
          obtain ⟨l', m', h'⟩ := h'
          rw [lin_uniq hz h h' hp]

theorem Ok2.neg (h : Ok2 p) : Ok2 (neg p) := by
  cases p with
  | none => trivial
  | some p =>
    intro e
    refine h ?_
    have e : 2 * -p.2 = 0 := e
    clear h
    grind

/-- (A + B) + C = A + (B + C) -/
theorem T3s.assoc (hz : NoZ K) {A B C D E G : Option (K × K)} (okA : Ok2 A) (okB : Ok2 B) (okC : Ok2 C) (okD : Ok2 D) (h1 : T3s a c A B D) (h2 : T3s a c B C E) (h3 : T3s a c (Mine.neg D) C G) : T3s a c A (Mine.neg E) G := by
  cases A with
  | none =>
    have h1 : D = Mine.neg B := h1
    subst h1
    rw [neg_neg'] at h3
    show G = Mine.neg (Mine.neg E)
    rw [neg_neg']
    exact T3s.uniq hz okB h3 h2
  | some A =>
  cases B with
  | none =>
    have h1 : D = some (negp A) := h1
    subst h1
    have h2 : E = Mine.neg C := h2
    subst h2
    rw [neg_neg']
    have h3 : T3s a c (some (negp (negp A))) C G := h3
    rwa [negp_negp] at h3
  | some B =>
  cases C with
  | none =>
    have h2 : E = some (negp B) := h2
    subst h2
    have h3 : G = Mine.neg (Mine.neg D) := h3.swap12
    rw [neg_neg'] at h3
    subst h3
    show T3s a c (some A) (some (negp (negp B))) G
    rwa [negp_negp]
  | some C =>
  cases D with
  | none =>
    have h1 : B = negp A := h1
    subst h1
    have h3 : G = some (negp C) := h3
    subst h3
    have h4 := h2.neg
    have h4 : T3s a c (some (negp (negp A))) (some (negp C)) (Mine.neg E) := h4
    rw [negp_negp] at h4
    exact h4.swap23
  | some D =>
  cases E with
  | none =>
    have h2 : C = negp B := h2
    subst h2
    have h4 : T3s a c (some (negp D)) (some (negp B)) (some (negp A)) := h1.swap12.swap23.swap12.neg
    have := T3s.uniq hz (Ok2.neg (p := some D) okD) h3 h4
    subst this
    rfl
  | some E =>
  cases G with
  | none =>
    have h3 : C = negp (negp D) := h3
    rw [negp_negp] at h3
    subst h3
    have := T3s.uniq hz okB h2 h1.swap12.swap23
    cases this
    rfl
  | some G =>
    obtain ⟨l1, m1, h1⟩ := h1
    obtain ⟨l2, m2, h2⟩ := h2
    obtain ⟨l3, m3, h3⟩ := h3
    exact lin_assoc hz h1 h2 h3 okB
end

-- M3
section
variable {K : Type} [Lean.Grind.CommRing K]

/-- the whole numbers as the numbers of a field of P elements -/
structure Fld (φ : Int → K) (P : Int) : Prop where
  add : ∀ x y, φ (x + y) = φ x + φ y
  sub : ∀ x y, φ (x - y) = φ x - φ y
  mul : ∀ x y, φ (x * y) = φ x * φ y
  one : φ 1 = 1
  ext : ∀ x y, φ x = φ y ↔ x % P = y % P
  pos : 1 < P
  noz : NoZ K
  two : (2 : K) ≠ 0
  pinv : ∀ x, φ x ≠ 0 → φ x * φ (pinv (x % P) P) = 1
  inv : ∀ x, φ x ≠ 0 → φ x * φ (invI x P) = 1

variable {φ : Int → K} {P a c : Int}
theorem Fld.mod (F : Fld φ P) (x : Int) : φ (x % P) = φ x := (F.ext _ _).mpr (Int.emod_emod ..)
theorem Fld.zero (F : Fld φ P) : φ 0 = 0 := by
  have := F.sub 0 0
  rw [Int.sub_zero] at this
  rw [this]; grind
theorem Fld.n2 (F : Fld φ P) : φ 2 = 2 := by
  have := F.add 1 1
  rw [F.one] at this
  rw [show (2 : Int) = 1 + 1 from rfl, this]; grind
theorem Fld.n3 (F : Fld φ P) : φ 3 = 3 := by
  rw [show (3 : Int) = 2 + 1 from rfl, F.add, F.n2, F.one]; grind
theorem Fld.n4 (F : Fld φ P) : φ 4 = 4 := by
  rw [show (4 : Int) = 2 + 2 from rfl, F.add, F.n2]; grind
theorem Fld.n8 (F : Fld φ P) : φ 8 = 8 := by
  rw [show (8 : Int) = 4 + 4 from rfl, F.add, F.n4]; grind
theorem Fld.neg (F : Fld φ P) (x : Int) : φ (-x) = -φ x := by
  have := F.sub 0 x
  rw [F.zero, Int.zero_sub] at this
  rw [this]; grind
theorem Fld.p2 (F : Fld φ P) (x : Int) : φ (x ^ 2) = φ x * φ x := by rw [show x ^ 2 = x * x from by rw [Int.pow_succ, Int.pow_succ, Int.pow_zero, Int.one_mul], F.mul]
theorem Fld.p3 (F : Fld φ P) (x : Int) : φ (x ^ 3) = φ x * φ x * φ x := by rw [Int.pow_succ, F.mul, F.p2]
theorem Fld.p4 (F : Fld φ P) (x : Int) : φ (x ^ 4) = φ x * φ x * φ x * φ x := by rw [Int.pow_succ, F.mul, F.p3]
theorem Fld.inj (F : Fld φ P) {x y : Int} (h : φ x = φ y) (x0 : 0 ≤ x) (x1 : x < P) (y0 : 0 ≤ y) (y1 : y < P) : x = y := by
  have := (F.ext x y).mp h
  rwa [Int.emod_eq_of_lt x0 x1, Int.emod_eq_of_lt y0 y1] at this
theorem Fld.modEq (F : Fld φ P) {x y : Int} : x % P = y % P ↔ φ x = φ y := (F.ext x y).symm

abbrev psi (φ : Int → K) (q : PT) : Option (K × K) := q.map fun p => (φ p.1, φ p.2)
/-- a point of the curve, not of order two -/
def Good (φ : Int → K) (a c P : Int) : PT → Prop
  | none => True
  | some p => 0 ≤ p.1 ∧ p.1 < P ∧ 0 < p.2 ∧ p.2 < P ∧ φ p.2 * φ p.2 = φ p.1 * φ p.1 * φ p.1 + φ a * φ p.1 + φ c
def NoRoot (φ : Int → K) (a c : Int) : Prop := ∀ x : Int, φ x * φ x * φ x + φ a * φ x + φ c ≠ 0

theorem Good.ok2 (F : Fld φ P) {q : PT} (h : Good φ a c P q) : Ok2 (psi φ q) := by
  cases q with
  | none => trivial
  | some p =>
    obtain ⟨_, _, h3, h4, _⟩ := h
    intro e
    rcases F.noz _ _ e with e | e
    · exact F.two e
    · rw [← F.zero] at e
      have := F.inj e (Int.le_of_lt h3) h4 (Int.le_refl _) (by omega)
      omega
theorem Good.inj (F : Fld φ P) {q r : PT} (h : Good φ a c P q) (h' : Good φ a c P r) (e : psi φ q = psi φ r) : q = r := by
  cases q with
  | none => cases r with
    | none => rfl
    | some r => cases e
  | some p => cases r with
    | none => cases e
    | some r =>
      simp only [psi, Option.map_some, Option.some.injEq, Prod.mk.injEq] at e
      obtain ⟨h1, h2, h3, h4, _⟩ := h
      obtain ⟨h1', h2', h3', h4', _⟩ := h'
      exact congrArg some (Prod.ext (F.inj e.1 h1 h2 h1' h2') (F.inj e.2 (Int.le_of_lt h3) h4 (Int.le_of_lt h3') h4'))

theorem lin_chord (hz : NoZ K) {a c l x1 y1 x2 y2 : K} (h1 : y1 * y1 = x1 * x1 * x1 + a * x1 + c) (h2 : y2 * y2 = x2 * x2 * x2 + a * x2 + c) (hl : l * (x2 - x1) = y2 - y1) (hx : x1 ≠ x2) :
    Lin a c l (y1 - l * x1) (x1, y1) (x2, y2) (negp (l * l - x1 - x2, l * (x1 - (l * l - x1 - x2)) - y1)) := by
  have e1 : a - 2 * (l * (y1 - l * x1)) = x1 * x2 + x1 * (l * l - x1 - x2) + x2 * (l * l - x1 - x2) := by
    have hy : y2 = y1 + l * (x2 - x1) := by clear h1 h2 hx; grind
    have hne : x2 - x1 ≠ 0 := by intro e; clear h1 h2 hl hy; exact hx (of_sub0 e)
    refine hz.cancel (x := x2 - x1) ?_ hne
    subst hy
    clear hx hl hne
    grind
  refine ⟨?_, ?_, ?_, ?_, e1, ?_⟩
  · show y1 = l * x1 + (y1 - l * x1); clear e1 h1 h2 hl hx; grind
  · show y2 = l * x2 + (y1 - l * x1); clear e1 h1 h2 hx; grind
  · show -(l * (x1 - (l * l - x1 - x2)) - y1) = l * (l * l - x1 - x2) + (y1 - l * x1); clear e1 h1 h2 hl hx; grind
  · show l * l = x1 + x2 + (l * l - x1 - x2); clear e1 h1 h2 hl hx; grind
  · show c - (y1 - l * x1) * (y1 - l * x1) = -(x1 * x2 * (l * l - x1 - x2))
    have e2 := mul_eq x1 e1
    clear e1 h2 hl hx
    grind
theorem lin_tang {a c l x1 y1 : K} (h1 : y1 * y1 = x1 * x1 * x1 + a * x1 + c) (hl : l * (2 * y1) = 3 * x1 * x1 + a) :
    Lin a c l (y1 - l * x1) (x1, y1) (x1, y1) (negp (l * l - x1 - x1, l * (x1 - (l * l - x1 - x1)) - y1)) := by
  have e1 : a - 2 * (l * (y1 - l * x1)) = x1 * x1 + x1 * (l * l - x1 - x1) + x1 * (l * l - x1 - x1) := by
    clear h1
    grind
  refine ⟨?_, ?_, ?_, ?_, e1, ?_⟩
  · show y1 = l * x1 + (y1 - l * x1); clear e1 h1 hl; grind
  · show y1 = l * x1 + (y1 - l * x1); clear e1 h1 hl; grind
  · show -(l * (x1 - (l * l - x1 - x1)) - y1) = l * (l * l - x1 - x1) + (y1 - l * x1); clear e1 h1 hl; grind
  · show l * l = x1 + x1 + (l * l - x1 - x1); clear e1 h1 hl; grind
  · show c - (y1 - l * x1) * (y1 - l * x1) = -(x1 * x1 * (l * l - x1 - x1))
    have e2 := mul_eq x1 e1
    clear e1 hl
    grind
theorem Lin.on3 {a c l m : K} {p q r : K × K} (h : Lin a c l m p q r) : r.2 * r.2 = r.1 * r.1 * r.1 + a * r.1 + c := by
  obtain ⟨_, _, h3, h4, h5, h6⟩ := h
  have e1 := mul_eq (r.1 * r.1) h4
  have e2 := mul_eq r.1 h5
  rw [h3]
  clear h3 h4 h5
  generalize r.1 = x at *
  grind

theorem lsum_ok (F : Fld φ P) (hr : NoRoot φ a c) {s t : PT} (hs : Good φ a c P s) (ht : Good φ a c P t) : Good φ a c P (lsum a P s t) ∧ T3s (φ a) (φ c) (psi φ s) (psi φ t) (neg (psi φ (lsum a P s t))) := by
  cases s with
  | none => exact ⟨ht, rfl⟩
  | some s => cases t with
    | none => exact ⟨hs, rfl⟩
    | some t =>
      have hP := F.pos
      obtain ⟨s1, s2, s3, s4, s5⟩ := hs
      obtain ⟨t1, t2, t3, t4, t5⟩ := ht
      obtain ⟨x1, y1⟩ := s
      obtain ⟨x2, y2⟩ := t
      dsimp only at *
      -- what a line or a tangent gives
      have fin : ∀ l : Int, (∃ m, Lin (φ a) (φ c) (φ l) m (φ x1, φ y1) (φ x2, φ y2) (negp (φ l * φ l - φ x1 - φ x2, φ l * (φ x1 - (φ l * φ l - φ x1 - φ x2)) - φ y1))) →
          Good φ a c P (some ((l * l - x1 - x2) % P, (l * (x1 - (l * l - x1 - x2) % P) - y1) % P)) ∧
          T3s (φ a) (φ c) (psi φ (some (x1, y1))) (psi φ (some (x2, y2))) (neg (psi φ (some ((l * l - x1 - x2) % P, (l * (x1 - (l * l - x1 - x2) % P) - y1) % P)))) := by
        intro l ⟨m, h⟩
        have ex : φ ((l * l - x1 - x2) % P) = φ l * φ l - φ x1 - φ x2 := by rw [F.mod, F.sub, F.sub, F.mul]
        have ey : φ ((l * (x1 - (l * l - x1 - x2) % P) - y1) % P) = φ l * (φ x1 - (φ l * φ l - φ x1 - φ x2)) - φ y1 := by rw [F.mod, F.sub, F.mul, F.sub, ex]
        have hon := h.on3
        have hon : -(φ l * (φ x1 - (φ l * φ l - φ x1 - φ x2)) - φ y1) * -(φ l * (φ x1 - (φ l * φ l - φ x1 - φ x2)) - φ y1) = (φ l * φ l - φ x1 - φ x2) * (φ l * φ l - φ x1 - φ x2) * (φ l * φ l - φ x1 - φ x2) + φ a * (φ l * φ l - φ x1 - φ x2) + φ c := hon
        rw [← ey, ← ex] at hon
        have hon' : ∀ u v : K, -u * -u = v → u * u = v := by intro u v h; rw [← h]; clear h; grind
        have hon := hon' _ _ hon
        have b1 := Int.emod_nonneg (l * l - x1 - x2) (b := P) (by omega)
        have b2 := Int.emod_lt_of_pos (l * l - x1 - x2) (b := P) (by omega)
        have b3 := Int.emod_nonneg (l * (x1 - (l * l - x1 - x2) % P) - y1) (b := P) (by omega)
        have b4 := Int.emod_lt_of_pos (l * (x1 - (l * l - x1 - x2) % P) - y1) (b := P) (by omega)
        refine ⟨⟨b1, b2, ?_, b4, hon⟩, φ l, m, ?_⟩
        · rcases Int.lt_or_eq_of_le b3 with h0 | h0
          · exact h0
          · exfalso
            have h0 : (l * (x1 - (l * l - x1 - x2) % P) - y1) % P = 0 := h0.symm
            rw [h0, F.zero] at hon
            refine hr _ (hon.symm.trans ?_)
            clear hon hon'
            grind
        · show Lin _ _ _ _ _ _ (negp (φ ((l * l - x1 - x2) % P), φ ((l * (x1 - (l * l - x1 - x2) % P) - y1) % P)))
          rw [ex, ey]
          exact h
      unfold lsum
      dsimp only
      by_cases hx : x1 = x2
      · by_cases hy : y1 = y2
        · rw [if_neg (by simp [hy]), if_pos hx, if_pos hx]
          subst hx; subst hy
          have hne : φ (2 * y1) ≠ 0 := by
            have := Good.ok2 F (q := some (x1, y1)) (a := a) (c := c) ⟨s1, s2, s3, s4, s5⟩
            rw [F.mul, F.n2]; exact this
          refine fin ((3 * x1 * x1 + a) * Mine.pinv (2 * y1 % P) P % P) ⟨_, lin_tang s5 ?_⟩
          have hi := F.pinv (2 * y1) hne
          rw [F.mod, F.mul, F.add, F.mul, F.mul, F.n3]
          rw [F.mul, F.n2] at hi
          generalize φ (Mine.pinv (2 * y1 % P) P) = i at *
          have e := mul_eq (3 * φ x1 * φ x1 + φ a) hi
          clear hi s5 t5 fin hne
          grind
        · rw [if_pos ⟨hx, hy⟩]
          subst hx
          refine ⟨trivial, ?_⟩
          show (φ x1, φ y2) = (φ x1, -φ y1)
          have e : (φ y2 - φ y1) * (φ y2 + φ y1) = 0 := by rw [← s5] at t5; clear s5 fin; grind
          rcases F.noz _ _ e with e | e
          · exact absurd (F.inj (of_sub0 e) (Int.le_of_lt s3) s4 (Int.le_of_lt t3) t4) hy
          · have : φ y2 = -φ y1 := by clear t5 s5 fin; grind
            rw [this]
      · rw [if_neg (by simp [hx]), if_neg hx, if_neg hx]
        have hne : φ x1 ≠ φ x2 := fun e => hx (F.inj e s1 s2 t1 t2)
        have hne2 : φ (x2 - x1) ≠ 0 := by rw [F.sub]; intro e; exact hne (of_sub0 e)
        refine fin ((y2 - y1) * Mine.pinv ((x2 - x1) % P) P % P) ⟨_, lin_chord F.noz s5 t5 ?_ hne⟩
        have hi := F.pinv (x2 - x1) hne2
        rw [F.mod, F.mul, F.sub]
        rw [F.sub] at hi
        generalize φ (Mine.pinv ((x2 - x1) % P) P) = i at *
        have e := mul_eq (φ y2 - φ y1) hi
        clear hi s5 t5 fin hne hne2
        grind
end

-- M4
section
variable {K : Type} [Lean.Grind.CommRing K] {φ : Int → K} {P a c : Int}

theorem neg_inj {p q : Option (K × K)} (h : neg p = neg q) : p = q := by rw [← neg_neg' p, h, neg_neg']

theorem lsum_good (F : Fld φ P) (hr : NoRoot φ a c) {s t : PT} (hs : Good φ a c P s) (ht : Good φ a c P t) : Good φ a c P (lsum a P s t) := (lsum_ok F hr hs ht).1
theorem lsum_comm (F : Fld φ P) (hr : NoRoot φ a c) {s t : PT} (hs : Good φ a c P s) (ht : Good φ a c P t) : lsum a P s t = lsum a P t s := by
  obtain ⟨g1, h1⟩ := lsum_ok F hr hs ht
  obtain ⟨g2, h2⟩ := lsum_ok F hr ht hs
  exact g1.inj F g2 (neg_inj (T3s.uniq F.noz (hs.ok2 F) h1 h2.swap12))
theorem lsum_assoc (F : Fld φ P) (hr : NoRoot φ a c) {s t u : PT} (hs : Good φ a c P s) (ht : Good φ a c P t) (hu : Good φ a c P u) : lsum a P (lsum a P s t) u = lsum a P s (lsum a P t u) := by
  obtain ⟨g1, h1⟩ := lsum_ok F hr hs ht
  obtain ⟨g2, h2⟩ := lsum_ok F hr ht hu
  obtain ⟨g3, h3⟩ := lsum_ok F hr g1 hu
  obtain ⟨g4, h4⟩ := lsum_ok F hr hs g2
  rw [← neg_neg' (psi φ (lsum a P s t))] at h3
  have h5 := T3s.assoc F.noz (hs.ok2 F) (ht.ok2 F) (hu.ok2 F) ((g1.ok2 F).neg) h1 h2 h3
  rw [neg_neg'] at h5
  exact g3.inj F g4 (neg_inj (T3s.uniq F.noz (hs.ok2 F) h5 h4))
theorem lsum_cancel (F : Fld φ P) (hr : NoRoot φ a c) {s t u : PT} (hs : Good φ a c P s) (ht : Good φ a c P t) (hu : Good φ a c P u) (e : lsum a P s t = lsum a P s u) : t = u := by
  obtain ⟨g1, h1⟩ := lsum_ok F hr hs ht
  obtain ⟨g2, h2⟩ := lsum_ok F hr hs hu
  rw [← e] at h2
  exact ht.inj F hu (T3s.uniq F.noz (hs.ok2 F) h1.swap23 h2.swap23)
theorem lsum_none {s : PT} : lsum a P s none = s := by cases s <;> rfl
theorem lsum_left (F : Fld φ P) (hr : NoRoot φ a c) {s t u : PT} (hs : Good φ a c P s) (ht : Good φ a c P t) (hu : Good φ a c P u) : lsum a P s (lsum a P t u) = lsum a P t (lsum a P s u) := by
  rw [← lsum_assoc F hr hs ht hu, lsum_comm F hr hs ht, lsum_assoc F hr ht hs hu]

/-- the multiples -/
def nsm (a P : Int) (p : PT) : Nat → PT
  | 0 => none
  | n + 1 => lsum a P (nsm a P p n) p
theorem nsm_good (F : Fld φ P) (hr : NoRoot φ a c) {p : PT} (hp : Good φ a c P p) : ∀ n, Good φ a c P (nsm a P p n)
  | 0 => trivial
  | n + 1 => lsum_good F hr (nsm_good F hr hp n) hp
theorem nsm_add (F : Fld φ P) (hr : NoRoot φ a c) {p : PT} (hp : Good φ a c P p) (m : Nat) : ∀ n, nsm a P p (m + n) = lsum a P (nsm a P p m) (nsm a P p n)
  | 0 => lsum_none.symm
  | n + 1 => by
    show lsum a P (nsm a P p (m + n)) p = lsum a P (nsm a P p m) (lsum a P (nsm a P p n) p)
    rw [nsm_add F hr hp m n, lsum_assoc F hr (nsm_good F hr hp m) (nsm_good F hr hp n) hp]
theorem mult_nsm (p : PT) : ∀ i, mult a P p i = nsm a P p (i + 1)
  | 0 => rfl
  | i + 1 => by show lsum a P (mult a P p i) p = lsum a P (nsm a P p (i + 1)) p; rw [mult_nsm p i]

/-- the sum of a list -/
def sumL (a P : Int) (l : List PT) : PT := l.foldr (lsum a P) none
theorem sumL_good (F : Fld φ P) (hr : NoRoot φ a c) : ∀ {l : List PT}, (∀ q ∈ l, Good φ a c P q) → Good φ a c P (sumL a P l)
  | [], _ => trivial
  | _ :: _, h => lsum_good F hr (h _ (.head _)) (sumL_good F hr fun q hq => h q (.tail _ hq))
theorem sumL_perm (F : Fld φ P) (hr : NoRoot φ a c) {l m : List PT} (p : l.Perm m) : (∀ q ∈ l, Good φ a c P q) → sumL a P l = sumL a P m := by
  induction p with
  | nil => intro _; rfl
  | cons x _ ih => intro h; show lsum a P x _ = lsum a P x _; exact congrArg _ (ih fun q hq => h q (.tail _ hq))
  | swap x y l => intro h; exact lsum_left F hr (h _ (.head _)) (h _ (.tail _ (.head _))) (sumL_good F hr fun q hq => h q (.tail _ (.tail _ hq)))
  | trans p1 _ ih1 ih2 => intro h; exact (ih1 h).trans (ih2 fun q hq => h q (p1.mem_iff.mpr hq))
theorem sumL_map (F : Fld φ P) (hr : NoRoot φ a c) {p : PT} (hp : Good φ a c P p) : ∀ {l : List PT}, (∀ q ∈ l, Good φ a c P q) → sumL a P (l.map (lsum a P p)) = lsum a P (nsm a P p l.length) (sumL a P l)
  | [], _ => rfl
  | x :: l, h => by
    have hx := h x (.head _)
    have hl : ∀ q ∈ l, Good φ a c P q := fun q hq => h q (.tail _ hq)
    have hn := nsm_good F hr hp l.length
    have hS := sumL_good F hr hl
    show lsum a P (lsum a P p x) (sumL a P (l.map (lsum a P p))) = lsum a P (lsum a P (nsm a P p l.length) p) (lsum a P x (sumL a P l))
    rw [sumL_map F hr hp hl, lsum_left F hr (lsum_good F hr hp hx) hn hS, lsum_assoc F hr hp hx hS, lsum_assoc F hr hn hp (lsum_good F hr hx hS)]

theorem perm_of : ∀ {l m : List PT}, l.Nodup → (∀ q ∈ l, q ∈ m) → m.length ≤ l.length → l.Perm m
  | [], m, _, _, h => by
    have : m = [] := List.eq_nil_of_length_eq_zero (by simpa using h)
    subst this; exact .nil
  | x :: l, m, hn, hs, h => by
    rw [List.nodup_cons] at hn
    have hx := hs x (.head _)
    have p := List.perm_cons_erase hx
    have hlen := p.length_eq
    refine (List.Perm.cons x (perm_of hn.2 (fun q hq => ?_) ?_)).trans p.symm
    · have hqx : q ≠ x := by rintro rfl; exact hn.1 hq
      exact (List.mem_erase_of_ne hqx).mpr (hs q (.tail _ hq))
    · simp only [List.length_cons] at h hlen
      omega

theorem nodup_map (F : Fld φ P) (hr : NoRoot φ a c) {p : PT} (hp : Good φ a c P p) : ∀ {l : List PT}, (∀ q ∈ l, Good φ a c P q) → l.Nodup → (l.map (lsum a P p)).Nodup
  | [], _, _ => List.nodup_nil
  | x :: l, h, hn => by
    rw [List.nodup_cons] at hn
    rw [List.map_cons, List.nodup_cons]
    refine ⟨fun hm => ?_, nodup_map F hr hp (fun q hq => h q (.tail _ hq)) hn.2⟩
    obtain ⟨y, hy, e⟩ := List.mem_map.mp hm
    have := lsum_cancel F hr hp (h y (.tail _ hy)) (h x (.head _)) e
    subst this
    exact hn.1 hy

/-- the number of all points makes infinity of each -/
theorem nsm_all (F : Fld φ P) (hr : NoRoot φ a c) {p : PT} (hp : Good φ a c P p) {E : List PT} (hn : E.Nodup) (hE : ∀ q, q ∈ E ↔ Good φ a c P q) : nsm a P p E.length = none := by
  have hg : ∀ q ∈ E, Good φ a c P q := fun q hq => (hE q).mp hq
  have pm : (E.map (lsum a P p)).Perm E := by
    refine perm_of (nodup_map F hr hp hg hn) (fun q hq => ?_) (by simp)
    obtain ⟨y, hy, rfl⟩ := List.mem_map.mp hq
    exact (hE _).mpr (lsum_good F hr hp (hg y hy))
  have e := sumL_perm F hr pm fun q hq => by
    obtain ⟨y, hy, rfl⟩ := List.mem_map.mp hq
    exact lsum_good F hr hp (hg y hy)
  rw [sumL_map F hr hp hg] at e
  have hS := sumL_good F hr hg
  have hN := nsm_good F hr hp E.length
  rw [lsum_comm F hr hN hS] at e
  exact lsum_cancel F hr hS hN (u := none) trivial (e.trans lsum_none.symm)

theorem nsm_mul (F : Fld φ P) (hr : NoRoot φ a c) {p : PT} (hp : Good φ a c P p) {n : Nat} (h : nsm a P p n = none) : ∀ k, nsm a P p (n * k) = none
  | 0 => rfl
  | k + 1 => by rw [Nat.mul_succ, nsm_add F hr hp, nsm_mul F hr hp h k, h]; rfl
theorem nsm_mod (F : Fld φ P) (hr : NoRoot φ a c) {p : PT} (hp : Good φ a c P p) {n : Nat} (h : nsm a P p n = none) (m : Nat) : nsm a P p m = nsm a P p (m % n) := by
  have := nsm_add F hr hp (n * (m / n)) (m % n)
  rw [Nat.div_add_mod, nsm_mul F hr hp h] at this
  exact this

theorem least (f : Nat → Prop) [DecidablePred f] : ∀ n, f n → ∃ m, m ≤ n ∧ f m ∧ ∀ i, i < m → ¬ f i
  | 0, h => ⟨0, Nat.le_refl _, h, fun _ hi => absurd hi (Nat.not_lt_zero _)⟩
  | n + 1, h => by
    by_cases hx : ∃ i, i ≤ n ∧ f i
    · obtain ⟨i, hi, hf⟩ := hx
      have key : ∀ j, j ≤ n → f j → ∃ m, m ≤ j ∧ f m ∧ ∀ i, i < m → ¬ f i := by
        intro j
        induction j using Nat.strongRecOn with
        | _ j ih =>
          intro hj hfj
          by_cases hy : ∃ i, i < j ∧ f i
          · obtain ⟨i, hij, hfi⟩ := hy
            obtain ⟨m, h1, h2⟩ := ih i hij (by omega) hfi
            exact ⟨m, by omega, h2⟩
          · exact ⟨j, Nat.le_refl _, hfj, fun i hi hf => hy ⟨i, hi, hf⟩⟩
      obtain ⟨m, h1, h2⟩ := key i hi hf
      exact ⟨m, by omega, h2⟩
    · exact ⟨n + 1, Nat.le_refl _, h, fun i hi hf => hx ⟨i, by omega, hf⟩⟩

/-- the row of the multiples: its length, and which multiple stands where -/
theorem round_ok (F : Fld φ P) (hr : NoRoot φ a c) {p : PT} (hp : Good φ a c P p) {E : Nat} (hE : 0 < E) (h : nsm a P p E = none) : ∃ M, M < E ∧ mult a P p M = none ∧ (∀ i, i < M → mult a P p i ≠ none) ∧
    ∀ (N : Nat) (n : Int), nsm a P p N = none → 0 < N → nsm a P p (n % N).toNat = nsm a P p (n % ((M + 1 : Nat) : Int)).toNat := by
  obtain ⟨M, h1, h2, h3⟩ := least (fun i => mult a P p i = none) (E - 1) (by rw [mult_nsm, show E - 1 + 1 = E by omega]; exact h)
  refine ⟨M, by omega, h2, h3, fun N n hN hN0 => ?_⟩
  rw [mult_nsm] at h2
  have hdvd : N % (M + 1) = 0 := by
    have e := nsm_mod F hr hp h2 N
    rw [hN] at e
    have hlt := Nat.mod_lt N (Nat.succ_pos M)
    cases hz : N % (M + 1) with
    | zero => rfl
    | succ i =>
      rw [hz] at e hlt
      exact absurd (by rw [mult_nsm]; exact e.symm) (h3 i (by omega))
  rw [nsm_mod F hr hp h2 (n % N).toNat]
  congr 1
  have e1 : ((N : Int) % ((M + 1 : Nat) : Int)) = 0 := by rw [← Int.natCast_emod, hdvd]; rfl
  have e2 : (n % N) % ((M + 1 : Nat) : Int) = n % ((M + 1 : Nat) : Int) := Int.emod_emod_of_dvd n (Int.dvd_of_emod_eq_zero e1)
  have h0 : 0 ≤ n % N := Int.emod_nonneg _ (by omega)
  rw [← e2]
  clear e2
  generalize n % N = x at *
  obtain ⟨k, rfl⟩ := Int.eq_ofNat_of_zero_le h0
  rw [Int.toNat_natCast, ← Int.natCast_emod, Int.toNat_natCast]
end

-- M5
section
variable {K : Type} [Lean.Grind.CommRing K] {φ : Int → K} {P a c : Int}

theorem dbl_k {A X Y Z x y l x3 y3 W M S nx : K} (hX : X = x * (Z * Z)) (hY : Y = y * (Z * Z * Z)) (hl : 2 * y * l = A + 3 * (x * x)) (h3 : l * l = x + x + x3) (h4 : y3 = l * (x - x3) - y)
    (hW : W = 2 * Y * Z) (hM : M = 3 * (X * X) + A * (Z * Z * Z * Z)) (hS : S = 4 * X * (Y * Y)) (hn : nx = M * M - 2 * S) : nx = x3 * (W * W) ∧ M * (S - nx) - 8 * (Y * Y * (Y * Y)) = y3 * (W * W * W) := by
  have eW : W = 2 * y * (Z * Z * Z * Z) := by rw [hW, hY]; clear hX hY hl h3 h4 hW hM hS hn; grind
  have eM : M = l * W := by
    have e : M = (A + 3 * (x * x)) * (Z * Z * Z * Z) := by rw [hM, hX]; clear hX hY hl h3 h4 hW hM hS hn eW; grind
    rw [e, ← hl, eW]; clear hX hY hl h3 h4 hW hM hS hn eW e; grind
  have eS : S = x * (W * W) := by rw [hS, hX, hY, eW]; clear hX hY hl h3 h4 hW hM hS hn eW eM; grind
  have e8 : 8 * (Y * Y * (Y * Y)) = y * (W * W * W) := by rw [hY, eW]; clear hX hY hl h3 h4 hW hM hS hn eW eM eS; grind
  have enx : nx = x3 * (W * W) := by
    have e : x3 = l * l - x - x := by clear hX hY hl h4 hW hM hS hn eW eM eS e8; grind
    rw [hn, eM, eS, e]; clear hX hY hl h3 h4 hW hM hS hn eW eM eS e8 e; grind
  refine ⟨enx, ?_⟩
  rw [e8, enx, eM, eS, h4]
  clear hX hY hl h3 h4 hW hM hS hn eW eM eS e8 enx
  grind

theorem add_k {X1 Y1 Z1 X2 Y2 Z2 x1 y1 x2 y2 l x3 y3 U1 U2 S1 S2 H R V H3 W nx : K} (hX1 : X1 = x1 * (Z1 * Z1)) (hY1 : Y1 = y1 * (Z1 * Z1 * Z1)) (hX2 : X2 = x2 * (Z2 * Z2)) (hY2 : Y2 = y2 * (Z2 * Z2 * Z2))
    (hl : l * (x2 - x1) = y2 - y1) (h3 : l * l = x1 + x2 + x3) (h4 : y3 = l * (x1 - x3) - y1)
    (hU1 : U1 = X1 * (Z2 * Z2)) (hU2 : U2 = X2 * (Z1 * Z1)) (hS1 : S1 = Y1 * (Z2 * Z2 * Z2)) (hS2 : S2 = Y2 * (Z1 * Z1 * Z1)) (hH : H = U2 - U1) (hR : R = S2 - S1) (hV : V = U1 * (H * H)) (hH3 : H3 = H * (H * H)) (hW : W = H * Z1 * Z2) (hn : nx = R * R - H3 - 2 * V) :
    nx = x3 * (W * W) ∧ R * (V - nx) - S1 * H3 = y3 * (W * W * W) := by
  have eU1 : U1 = x1 * (Z1 * Z2 * (Z1 * Z2)) := by rw [hU1, hX1]; (try clear L); (try clear c2); (try clear e); (try clear eH); (try clear eH3); (try clear eR); (try clear eS1); (try clear eSH); (try clear eU1); (try clear eV); (try clear eWW); (try clear enx); (try clear h); (try clear h3); (try clear h4); (try clear hH); (try clear hH3); (try clear hR); (try clear hS1); (try clear hS2); (try clear hU1); (try clear hU2); (try clear hV); (try clear hW); (try clear hX1); (try clear hX2); (try clear hY1); (try clear hY2); (try clear hl); (try clear hn); grind
  have eS1 : S1 = y1 * (Z1 * Z2 * (Z1 * Z2) * (Z1 * Z2)) := by rw [hS1, hY1]; (try clear L); (try clear c2); (try clear e); (try clear eH); (try clear eH3); (try clear eR); (try clear eS1); (try clear eSH); (try clear eU1); (try clear eV); (try clear eWW); (try clear enx); (try clear h); (try clear h3); (try clear h4); (try clear hH); (try clear hH3); (try clear hR); (try clear hS1); (try clear hS2); (try clear hU1); (try clear hU2); (try clear hV); (try clear hW); (try clear hX1); (try clear hX2); (try clear hY1); (try clear hY2); (try clear hl); (try clear hn); grind
  have eH : H = (x2 - x1) * (Z1 * Z2 * (Z1 * Z2)) := by rw [hH, hU1, hU2, hX1, hX2]; (try clear L); (try clear c2); (try clear e); (try clear eH); (try clear eH3); (try clear eR); (try clear eS1); (try clear eSH); (try clear eU1); (try clear eV); (try clear eWW); (try clear enx); (try clear h); (try clear h3); (try clear h4); (try clear hH); (try clear hH3); (try clear hR); (try clear hS1); (try clear hS2); (try clear hU1); (try clear hU2); (try clear hV); (try clear hW); (try clear hX1); (try clear hX2); (try clear hY1); (try clear hY2); (try clear hl); (try clear hn); grind
  have eR : R = l * W := by
    have e : R = (y2 - y1) * (Z1 * Z2 * (Z1 * Z2) * (Z1 * Z2)) := by rw [hR, hS1, hS2, hY1, hY2]; (try clear L); (try clear c2); (try clear e); (try clear eH); (try clear eH3); (try clear eR); (try clear eS1); (try clear eSH); (try clear eU1); (try clear eV); (try clear eWW); (try clear enx); (try clear h); (try clear h3); (try clear h4); (try clear hH); (try clear hH3); (try clear hR); (try clear hS1); (try clear hS2); (try clear hU1); (try clear hU2); (try clear hV); (try clear hW); (try clear hX1); (try clear hX2); (try clear hY1); (try clear hY2); (try clear hl); (try clear hn); grind
    rw [e, ← hl, hW, eH]; (try clear L); (try clear c2); (try clear e); (try clear eH); (try clear eH3); (try clear eR); (try clear eS1); (try clear eSH); (try clear eU1); (try clear eV); (try clear eWW); (try clear enx); (try clear h); (try clear h3); (try clear h4); (try clear hH); (try clear hH3); (try clear hR); (try clear hS1); (try clear hS2); (try clear hU1); (try clear hU2); (try clear hV); (try clear hW); (try clear hX1); (try clear hX2); (try clear hY1); (try clear hY2); (try clear hl); (try clear hn); grind
  have eWW : W = H * (Z1 * Z2) := by rw [hW]; (try clear L); (try clear c2); (try clear e); (try clear eH); (try clear eH3); (try clear eR); (try clear eS1); (try clear eSH); (try clear eU1); (try clear eV); (try clear eWW); (try clear enx); (try clear h); (try clear h3); (try clear h4); (try clear hH); (try clear hH3); (try clear hR); (try clear hS1); (try clear hS2); (try clear hU1); (try clear hU2); (try clear hV); (try clear hW); (try clear hX1); (try clear hX2); (try clear hY1); (try clear hY2); (try clear hl); (try clear hn); grind
  generalize Z1 * Z2 = u at *
  have eV : V = x1 * (W * W) := by rw [hV, eU1, eWW]; (try clear L); (try clear c2); (try clear e); (try clear eH); (try clear eH3); (try clear eR); (try clear eS1); (try clear eSH); (try clear eU1); (try clear eV); (try clear eWW); (try clear enx); (try clear h); (try clear h3); (try clear h4); (try clear hH); (try clear hH3); (try clear hR); (try clear hS1); (try clear hS2); (try clear hU1); (try clear hU2); (try clear hV); (try clear hW); (try clear hX1); (try clear hX2); (try clear hY1); (try clear hY2); (try clear hl); (try clear hn); grind
  have eH3 : H3 = (x2 - x1) * (W * W) := by
    have e : H3 = (H * H) * ((x2 - x1) * (u * u)) := by rw [← eH, hH3]; (try clear L); (try clear c2); (try clear e); (try clear eH); (try clear eH3); (try clear eR); (try clear eS1); (try clear eSH); (try clear eU1); (try clear eV); (try clear eWW); (try clear enx); (try clear h); (try clear h3); (try clear h4); (try clear hH); (try clear hH3); (try clear hR); (try clear hS1); (try clear hS2); (try clear hU1); (try clear hU2); (try clear hV); (try clear hW); (try clear hX1); (try clear hX2); (try clear hY1); (try clear hY2); (try clear hl); (try clear hn); grind
    rw [e, eWW]; (try clear L); (try clear c2); (try clear e); (try clear eH); (try clear eH3); (try clear eR); (try clear eS1); (try clear eSH); (try clear eU1); (try clear eV); (try clear eWW); (try clear enx); (try clear h); (try clear h3); (try clear h4); (try clear hH); (try clear hH3); (try clear hR); (try clear hS1); (try clear hS2); (try clear hU1); (try clear hU2); (try clear hV); (try clear hW); (try clear hX1); (try clear hX2); (try clear hY1); (try clear hY2); (try clear hl); (try clear hn); grind
  have eSH : S1 * H3 = y1 * (W * W * W) := by rw [eS1, hH3, eWW]; (try clear L); (try clear c2); (try clear e); (try clear eH); (try clear eH3); (try clear eR); (try clear eS1); (try clear eSH); (try clear eU1); (try clear eV); (try clear eWW); (try clear enx); (try clear h); (try clear h3); (try clear h4); (try clear hH); (try clear hH3); (try clear hR); (try clear hS1); (try clear hS2); (try clear hU1); (try clear hU2); (try clear hV); (try clear hW); (try clear hX1); (try clear hX2); (try clear hY1); (try clear hY2); (try clear hl); (try clear hn); grind
  have enx : nx = x3 * (W * W) := by
    have e : x3 = l * l - x1 - x2 := by rw [h3]; (try clear L); (try clear c2); (try clear e); (try clear eH); (try clear eH3); (try clear eR); (try clear eS1); (try clear eSH); (try clear eU1); (try clear eV); (try clear eWW); (try clear enx); (try clear h); (try clear h3); (try clear h4); (try clear hH); (try clear hH3); (try clear hR); (try clear hS1); (try clear hS2); (try clear hU1); (try clear hU2); (try clear hV); (try clear hW); (try clear hX1); (try clear hX2); (try clear hY1); (try clear hY2); (try clear hl); (try clear hn); grind
    rw [hn, eR, eH3, eV, e]; (try clear L); (try clear c2); (try clear e); (try clear eH); (try clear eH3); (try clear eR); (try clear eS1); (try clear eSH); (try clear eU1); (try clear eV); (try clear eWW); (try clear enx); (try clear h); (try clear h3); (try clear h4); (try clear hH); (try clear hH3); (try clear hR); (try clear hS1); (try clear hS2); (try clear hU1); (try clear hU2); (try clear hV); (try clear hW); (try clear hX1); (try clear hX2); (try clear hY1); (try clear hY2); (try clear hl); (try clear hn); grind
  refine ⟨enx, ?_⟩
  rw [eSH, enx, eR, eV, h4]
  (try clear L); (try clear c2); (try clear e); (try clear eH); (try clear eH3); (try clear eR); (try clear eS1); (try clear eSH); (try clear eU1); (try clear eV); (try clear eWW); (try clear enx); (try clear h); (try clear h3); (try clear h4); (try clear hH); (try clear hH3); (try clear hR); (try clear hS1); (try clear hS2); (try clear hU1); (try clear hU2); (try clear hV); (try clear hW); (try clear hX1); (try clear hX2); (try clear hY1); (try clear hY2); (try clear hl); (try clear hn)
  grind

/-- a Jacobian form of a point -/
def JR (φ : Int → K) (p : T3) : PT → Prop
  | none => p.1 = 0 ∧ p.2.1 = 0
  | some r => φ p.2.2 ≠ 0 ∧ φ p.1 = φ r.1 * (φ p.2.2 * φ p.2.2) ∧ φ p.2.1 = φ r.2 * (φ p.2.2 * φ p.2.2 * φ p.2.2)

theorem Good.y0 (F : Fld φ P) {x y : Int} (h : Good φ a c P (some (x, y))) : φ y ≠ 0 := fun e => by
  have := h.ok2 F
  apply this
  show 2 * φ y = 0
  rw [e]; (try clear L); (try clear c2); (try clear e); (try clear h); grind
theorem NoZ.mul3 (hz : NoZ K) {x y : K} (hx : x ≠ 0) (hy : y ≠ 0) : x * y ≠ 0 := fun e => (hz _ _ e).elim hx hy
theorem JR.y0 (F : Fld φ P) {p : T3} {r : Int × Int} (hs : Good φ a c P (some r)) (h : JR φ p (some r)) : φ p.2.1 ≠ 0 := by
  obtain ⟨h1, _, h3⟩ := h
  rw [h3]
  exact F.noz.mul3 (hs.y0 F) (F.noz.mul3 (F.noz.mul3 h1 h1) h1)

theorem jdbl_ok (F : Fld φ P) (hr : NoRoot φ a c) {cv : Cv} (hcP : cv.P = P) (hcA : cv.A = a) {p : T3} {s : PT} (hs : Good φ a c P s) (hp : JR φ p s) : JR φ (jdbl cv p) (lsum a P s s) := by
  cases s with
  | none =>
    unfold jdbl
    rw [if_pos hp.2]
    exact ⟨rfl, rfl⟩
  | some s =>
    have hy := hp.y0 F hs
    obtain ⟨hz, hx, hyy⟩ := hp
    have hok := hs.ok2 F
    obtain ⟨g, h⟩ := lsum_ok F hr hs hs
    obtain ⟨X, Y, Z⟩ := p
    obtain ⟨x, y⟩ := s
    generalize lsum a P (some (x, y)) (some (x, y)) = r at *
    dsimp only at *
    have hY : Y ≠ 0 := by rintro rfl; exact hy F.zero
    unfold jdbl
    dsimp only
    rw [if_neg hY, hcP, hcA]
    cases r with
    | none =>
      exfalso
      have h : (φ x, φ y) = (φ x, -φ y) := h
      injection h with _ h
      refine hok ?_
      show 2 * φ y = 0
      clear hok hy hx hyy
      grind
    | some r =>
      obtain ⟨x3, y3⟩ := r
      obtain ⟨l, m, L⟩ := h
      have y1 : φ y = l * φ x + m := L.y1
      have y3e : -φ y3 = l * φ x3 + m := L.y3
      have c2 : l * l = φ x + φ x + φ x3 := L.c2
      have hl := tan_eq y1 c2 L.c1
      have y3e' : φ y3 = l * (φ x - φ x3) - φ y := by clear hl c2 hy hx hyy L hok; grind
      have hd := dbl_k (W := φ (2 * Y * Z % P)) (M := φ ((3 * X ^ 2 + a * Z ^ 4) % P)) (S := φ (4 * X * (Y ^ 2 % P) % P)) (nx := φ ((((3 * X ^ 2 + a * Z ^ 4) % P) ^ 2 - 2 * (4 * X * (Y ^ 2 % P) % P)) % P)) hx hyy hl c2 y3e'
        (by rw [F.mod, F.mul, F.mul, F.n2]) (by rw [F.mod, F.add, F.mul, F.mul, F.p2, F.p4, F.n3]) (by rw [F.mod, F.mul, F.mul, F.mod, F.p2, F.n4]) (by rw [F.mod, F.sub, F.p2, F.mul, F.n2])
      refine ⟨?_, hd.1, ?_⟩
      · show φ (2 * Y * Z % P) ≠ 0
        rw [F.mod, F.mul, F.mul, F.n2]
        exact F.noz.mul3 (F.noz.mul3 F.two hy) hz
      · show φ (((3 * X ^ 2 + a * Z ^ 4) % P * (4 * X * (Y ^ 2 % P) % P - (((3 * X ^ 2 + a * Z ^ 4) % P) ^ 2 - 2 * (4 * X * (Y ^ 2 % P) % P)) % P) - 8 * (Y ^ 2 % P) ^ 2) % P) = _
        rw [F.mod, F.sub, F.mul, F.sub, F.mul, F.n8, F.p2, F.mod (Y ^ 2), F.p2]
        exact hd.2

theorem jadd_ok (F : Fld φ P) (hr : NoRoot φ a c) {cv : Cv} (hcP : cv.P = P) (hcA : cv.A = a) {p q : T3} {s t : PT} (hs : Good φ a c P s) (ht : Good φ a c P t) (hp : JR φ p s) (hq : JR φ q t) : JR φ (jadd cv p q) (lsum a P s t) := by
  cases s with
  | none =>
    unfold jadd
    rw [if_pos hp.2]
    exact hq
  | some s =>
    have hy1 := hp.y0 F hs
    have hY1 : p.2.1 ≠ 0 := fun e => hy1 (by rw [e, F.zero])
    cases t with
    | none =>
      unfold jadd
      rw [if_neg hY1, if_pos hq.2]
      exact hp
    | some t =>
      have hy2 := hq.y0 F ht
      have hY2 : q.2.1 ≠ 0 := fun e => hy2 (by rw [e, F.zero])
      have hdbl := jdbl_ok F hr hcP hcA hs hp
      obtain ⟨hz1, hx1, hyy1⟩ := hp
      obtain ⟨hz2, hx2, hyy2⟩ := hq
      obtain ⟨X1, Y1, Z1⟩ := p
      obtain ⟨X2, Y2, Z2⟩ := q
      obtain ⟨x1, y1⟩ := s
      obtain ⟨x2, y2⟩ := t
      dsimp only at *
      unfold jadd
      dsimp only
      rw [if_neg hY1, if_neg hY2, hcP]
      have hzz2 : φ Z1 * φ Z1 * (φ Z2 * φ Z2) ≠ 0 := F.noz.mul3 (F.noz.mul3 hz1 hz1) (F.noz.mul3 hz2 hz2)
      have hzz3 : φ Z1 * φ Z1 * φ Z1 * (φ Z2 * φ Z2 * φ Z2) ≠ 0 := F.noz.mul3 (F.noz.mul3 (F.noz.mul3 hz1 hz1) hz1) (F.noz.mul3 (F.noz.mul3 hz2 hz2) hz2)
      have hU : (X1 * Z2 ^ 2 % P = X2 * Z1 ^ 2 % P) ↔ x1 = x2 := by
        rw [F.modEq, F.mul, F.mul, F.p2, F.p2, hx1, hx2]
        constructor
        · intro e
          refine F.inj (F.noz.cancel (x := φ Z1 * φ Z1 * (φ Z2 * φ Z2)) ?_ hzz2) hs.1 hs.2.1 ht.1 ht.2.1
          clear hzz2 hzz3 hx1 hx2 hyy1 hyy2
          grind
        · rintro rfl
          clear hzz2 hzz3 hx1 hx2 hyy1 hyy2
          grind
      have hS : (Y1 * Z2 ^ 3 % P = Y2 * Z1 ^ 3 % P) ↔ y1 = y2 := by
        rw [F.modEq, F.mul, F.mul, F.p3, F.p3, hyy1, hyy2]
        constructor
        · intro e
          refine F.inj (F.noz.cancel (x := φ Z1 * φ Z1 * φ Z1 * (φ Z2 * φ Z2 * φ Z2)) ?_ hzz3) (Int.le_of_lt hs.2.2.1) hs.2.2.2.1 (Int.le_of_lt ht.2.2.1) ht.2.2.2.1
          clear hzz2 hzz3 hx1 hx2 hyy1 hyy2
          grind
        · rintro rfl
          clear hzz2 hzz3 hx1 hx2 hyy1 hyy2
          grind
      by_cases hx : x1 = x2
      · rw [if_pos (hU.mpr hx)]
        by_cases hy : y1 = y2
        · rw [if_neg (not_not_intro (hS.mpr hy))]
          subst hx; subst hy
          exact hdbl
        · rw [if_pos (fun e => hy (hS.mp e))]
          have : lsum a P (some (x1, y1)) (some (x2, y2)) = none := by unfold lsum; dsimp only; rw [if_pos ⟨hx, hy⟩]
          rw [this]
          exact ⟨rfl, rfl⟩
      · rw [if_neg (fun e => hx (hU.mp e))]
        obtain ⟨g, h⟩ := lsum_ok F hr hs ht
        generalize lsum a P (some (x1, y1)) (some (x2, y2)) = r at *
        cases r with
        | none =>
          exfalso
          have h : (φ x2, φ y2) = (φ x1, -φ y1) := h
          injection h with h _
          exact hx (F.inj h.symm hs.1 hs.2.1 ht.1 ht.2.1)
        | some r =>
          obtain ⟨x3, y3⟩ := r
          obtain ⟨l, m, L⟩ := h
          have e1 : φ y1 = l * φ x1 + m := L.y1
          have e2 : φ y2 = l * φ x2 + m := L.y2
          have e3 : -φ y3 = l * φ x3 + m := L.y3
          have c2 : l * l = φ x1 + φ x2 + φ x3 := L.c2
          have hl : l * (φ x2 - φ x1) = φ y2 - φ y1 := by rw [e1, e2]; (try clear L); (try clear c2); (try clear e); (try clear e1); (try clear e2); (try clear e3); (try clear g); (try clear h); (try clear hS); (try clear hS1); (try clear hS2); (try clear hU); (try clear hU1); (try clear hU2); (try clear hY1); (try clear hY2); (try clear hcA); (try clear hcP); (try clear hd); (try clear hdbl); (try clear hl); (try clear hp); (try clear hq); (try clear hr); (try clear hs); (try clear ht); (try clear hx); (try clear hx1); (try clear hx2); (try clear hy); (try clear hy1); (try clear hy2); (try clear hy3); (try clear hyy1); (try clear hyy2); (try clear hz1); (try clear hz2); (try clear hzz2); (try clear hzz3); grind
          have hy3 : φ y3 = l * (φ x1 - φ x3) - φ y1 := by rw [← neg0 (x := φ y3), e3, e1]; (try clear L); (try clear c2); (try clear e); (try clear e1); (try clear e2); (try clear e3); (try clear g); (try clear h); (try clear hS); (try clear hS1); (try clear hS2); (try clear hU); (try clear hU1); (try clear hU2); (try clear hY1); (try clear hY2); (try clear hcA); (try clear hcP); (try clear hd); (try clear hdbl); (try clear hl); (try clear hp); (try clear hq); (try clear hr); (try clear hs); (try clear ht); (try clear hx); (try clear hx1); (try clear hx2); (try clear hy); (try clear hy1); (try clear hy2); (try clear hy3); (try clear hyy1); (try clear hyy2); (try clear hz1); (try clear hz2); (try clear hzz2); (try clear hzz3); grind
          generalize hU1 : X1 * Z2 ^ 2 % P = U1 at *
          generalize hU2 : X2 * Z1 ^ 2 % P = U2 at *
          generalize hS1 : Y1 * Z2 ^ 3 % P = S1 at *
          generalize hS2 : Y2 * Z1 ^ 3 % P = S2 at *
          have hd := add_k (U1 := φ U1) (U2 := φ U2) (S1 := φ S1) (S2 := φ S2) (H := φ (U2 - U1)) (R := φ (S2 - S1)) (V := φ (U1 * ((U2 - U1) * (U2 - U1) % P) % P)) (H3 := φ ((U2 - U1) * ((U2 - U1) * (U2 - U1) % P) % P)) (W := φ ((U2 - U1) * Z1 * Z2 % P))
            (nx := φ (((S2 - S1) ^ 2 - (U2 - U1) * ((U2 - U1) * (U2 - U1) % P) % P - 2 * (U1 * ((U2 - U1) * (U2 - U1) % P) % P)) % P)) hx1 hyy1 hx2 hyy2 hl c2 hy3
            (by rw [← hU1, F.mod, F.mul, F.p2]) (by rw [← hU2, F.mod, F.mul, F.p2]) (by rw [← hS1, F.mod, F.mul, F.p3]) (by rw [← hS2, F.mod, F.mul, F.p3]) (F.sub _ _) (F.sub _ _) (by rw [F.mod, F.mul, F.mod, F.mul]) (by rw [F.mod, F.mul, F.mod, F.mul]) (by rw [F.mod, F.mul, F.mul])
            (by rw [F.mod, F.sub, F.sub, F.p2, F.mul 2, F.n2])
          refine ⟨?_, hd.1, ?_⟩
          · show φ ((U2 - U1) * Z1 * Z2 % P) ≠ 0
            rw [F.mod, F.mul, F.mul]
            refine F.noz.mul3 (F.noz.mul3 ?_ hz1) hz2
            intro e
            rw [F.sub] at e
            have e := of_sub0 e
            rw [← hU1, ← hU2, F.mod, F.mod] at e
            exact hx (hU.mp (by rw [← hU1, ← hU2, F.modEq]; exact e))
          · show φ (((S2 - S1) * (U1 * ((U2 - U1) * (U2 - U1) % P) % P - ((S2 - S1) ^ 2 - (U2 - U1) * ((U2 - U1) * (U2 - U1) % P) % P - 2 * (U1 * ((U2 - U1) * (U2 - U1) % P) % P)) % P) - S1 * ((U2 - U1) * ((U2 - U1) * (U2 - U1) % P) % P)) % P) = _
            rw [F.mod, F.sub, F.mul, F.sub (U1 * ((U2 - U1) * (U2 - U1) % P) % P), F.mul S1]
            exact hd.2
end

-- M6
section
variable {K : Type} [Lean.Grind.CommRing K] {φ : Int → K} {P a c : Int}

theorem nsm_none : ∀ n, nsm a P none n = none
  | 0 => rfl
  | n + 1 => by show lsum a P (nsm a P none n) none = none; rw [lsum_none, nsm_none n]

theorem jr_inf {p : T3} {s : PT} (F : Fld φ P) (hs : Good φ a c P s) (hp : JR φ p s) (h : p.2.1 = 0) : s = none := by
  cases s with
  | none => rfl
  | some r => exact absurd (by rw [h, F.zero]) (hp.y0 F hs)

theorem jmul_in (F : Fld φ P) (hr : NoRoot φ a c) {cv : Cv} (hcP : cv.P = P) (hcA : cv.A = a) {p : T3} {s : PT} (hs : Good φ a c P s) (hp : JR φ p s) : ∀ (k : Nat) (n : Nat), (n : Int) < cv.N → n < 2 ^ k → JR φ (jmul cv p k n) (nsm a P s n)
  | 0, n, _, h => by
    have : n = 0 := by simp at h; omega
    subst this
    exact ⟨rfl, rfl⟩
  | k + 1, n, hN, h => by
    unfold jmul
    by_cases h1 : p.2.1 = 0 ∨ (n : Int) = 0
    · rw [if_pos h1]
      have : nsm a P s n = none := by
        rcases h1 with h1 | h1
        · rw [jr_inf F hs hp h1, nsm_none]
        · have : n = 0 := by omega
          subst this; rfl
      rw [this]; exact ⟨rfl, rfl⟩
    · rw [if_neg h1]
      by_cases h2 : (n : Int) = 1
      · rw [if_pos h2]
        have : n = 1 := by omega
        subst this
        exact hp
      · rw [if_neg h2, if_neg (by omega)]
        have h2k : n / 2 < 2 ^ k := by rw [Nat.pow_succ] at h; omega
        have ih := jmul_in F hr hcP hcA hs hp k (n / 2) (by omega) h2k
        have hg := nsm_good F hr hs (n / 2)
        have hd := jdbl_ok F hr hcP hcA hg ih
        have e : ((n / 2 : Nat) : Int) = (n : Int) / 2 := by omega
        rw [e] at hd
        rw [← nsm_add F hr hs] at hd
        by_cases h3 : (n : Int) % 2 = 0
        · rw [if_pos h3]
          rw [show n / 2 + n / 2 = n by omega] at hd
          exact hd
        · rw [if_neg h3]
          have hj := jadd_ok F hr hcP hcA (nsm_good F hr hs _) hs hd hp
          have e2 : lsum a P (nsm a P s (n / 2 + n / 2)) s = nsm a P s n := by
            rw [show n = (n / 2 + n / 2) + 1 by omega]
            rw [show (n / 2 + n / 2 + 1) / 2 = n / 2 by omega]
            rfl
          rwa [e2] at hj

theorem jmul_top (F : Fld φ P) (hr : NoRoot φ a c) {cv : Cv} (hcP : cv.P = P) (hcA : cv.A = a) (hN2 : 2 ≤ cv.N) (hN : cv.N ≤ 2 ^ 10) {p : T3} {s : PT} (hs : Good φ a c P s) (hp : JR φ p s) (n : Int) : JR φ (jmul cv p 11 n) (nsm a P s (n % cv.N).toNat) := by
  have m0 := Int.emod_nonneg n (b := cv.N) (by omega)
  have m1 := Int.emod_lt_of_pos n (b := cv.N) (by omega)
  by_cases h : n < 0 ∨ cv.N ≤ n
  · by_cases h1 : p.2.1 = 0
    · rw [jr_inf F hs hp h1, nsm_none]
      unfold jmul
      rw [if_pos (.inl h1)]
      exact ⟨rfl, rfl⟩
    · unfold jmul
      rw [if_neg (by omega), if_neg (by omega), if_pos h]
      have := jmul_in F hr hcP hcA hs hp 10 (n % cv.N).toNat (by omega) (by omega)
      rwa [Int.toNat_of_nonneg m0] at this
  · rw [Int.emod_eq_of_lt (by omega) (by omega)]
    have := jmul_in F hr hcP hcA hs hp 11 n.toNat (by omega) (by omega)
    rwa [Int.toNat_of_nonneg (by omega)] at this

theorem from_k {X x Z i : K} (hX : X = x * (Z * Z)) (hi : Z * i = 1) : X * (i * i) = x := by
  have e : X * (i * i) = x * ((Z * i) * (Z * i)) := by rw [hX]; (try clear L); (try clear c2); (try clear e); (try clear h); (try clear hX); (try clear hi); grind
  rw [e, hi]; (try clear L); (try clear c2); (try clear e); (try clear h); (try clear hX); (try clear hi); grind
theorem from_k3 {X x Z i : K} (hX : X = x * (Z * Z * Z)) (hi : Z * i = 1) : X * (i * i * i) = x := by
  have e : X * (i * i * i) = x * ((Z * i) * (Z * i) * (Z * i)) := by rw [hX]; (try clear L); (try clear c2); (try clear e); (try clear h); (try clear hX); (try clear hi); grind
  rw [e, hi]; (try clear L); (try clear c2); (try clear e); (try clear h); (try clear hX); (try clear hi); grind
theorem fromJ_ok (F : Fld φ P) {cv : Cv} (hcP : cv.P = P) {p : T3} {s : PT} (hs : Good φ a c P s) (hp : JR φ p s) : fromJ cv p = plain s := by
  have hP := F.pos
  unfold fromJ
  rw [hcP]
  cases s with
  | none =>
    obtain ⟨h1, h2⟩ := hp
    rw [h1, h2]
    simp [plain]
  | some r =>
    obtain ⟨hz, hx, hy⟩ := hp
    have hi := F.inv _ hz
    refine Prod.ext ?_ ?_
    · refine F.inj ?_ (Int.emod_nonneg _ (by omega)) (Int.emod_lt_of_pos _ (by omega)) hs.1 hs.2.1
      rw [F.mod, F.mul, F.p2]
      exact from_k hx hi
    · refine F.inj ?_ (Int.emod_nonneg _ (by omega)) (Int.emod_lt_of_pos _ (by omega)) (Int.le_of_lt hs.2.2.1) hs.2.2.2.1
      rw [F.mod, F.mul, F.p3]
      exact from_k3 hy hi
theorem lform_ok (F : Fld φ P) {s : PT} {k : Int} (hk : φ k ≠ 0) : JR φ (lform s k P) s := by
  cases s with
  | none => exact ⟨rfl, rfl⟩
  | some r => exact ⟨hk, by show φ (r.1 * k ^ 2 % P) = _; rw [F.mod, F.mul, F.p2]; rfl, by show φ (r.2 * k ^ 3 % P) = _; rw [F.mod, F.mul, F.p3]; rfl⟩
theorem Fld.one0 (F : Fld φ P) : φ 1 ≠ 0 := fun e => by
  rw [← F.zero, F.ext] at e
  have hP := F.pos
  rw [Int.emod_eq_of_lt (by omega) (by omega), Int.zero_emod] at e
  cases e
theorem plain_ok (F : Fld φ P) (s : PT) : JR φ ((plain s).1, (plain s).2, 1) s := by
  cases s with
  | none => exact ⟨rfl, rfl⟩
  | some r =>
    refine ⟨F.one0, ?_, ?_⟩
    · show φ r.1 = φ r.1 * (φ 1 * φ 1)
      rw [F.one]; (try clear L); (try clear c2); (try clear e); (try clear h); grind
    · show φ r.2 = φ r.2 * (φ 1 * φ 1 * φ 1)
      rw [F.one]; (try clear L); (try clear c2); (try clear e); (try clear h); grind
theorem Fld.k0 (F : Fld φ P) {k : Int} (h0 : 0 < k) (h1 : k < P) : φ k ≠ 0 := fun e => by
  rw [← F.zero, F.ext] at e
  rw [Int.emod_eq_of_lt (by omega) (by omega), Int.zero_emod] at e
  omega
end

-- M7
section
variable {K : Type} [Lean.Grind.CommRing K] {φ : Int → K} {P a c : Int}

theorem rootsF_some (P : Int) : ∀ (i : Nat) (y r : Int), 1 ≤ r → r ≤ i → y = r * r % P → ∃ r', rootsF P i y = some r'
  | 0, _, _, h1, h2, _ => by omega
  | i + 1, y, r, h1, h2, h3 => by
    unfold rootsF
    by_cases h : y = (1 + i) * (1 + i) % P
    · rw [if_pos h]; exact ⟨_, rfl⟩
    · rw [if_neg h]
      refine rootsF_some P i y r h1 ?_ h3
      rcases Int.lt_or_eq_of_le h2 with h4 | h4
      · omega
      · exfalso; apply h; rw [h3, h4, show ((i + 1 : Nat) : Int) = 1 + i by omega]

theorem mem_ptsF : ∀ (i : Nat) (q : PT), q ∈ ptsF a c P i ↔ q = none ∨ ∃ j : Nat, j < i ∧ q ∈ ptsAt a c P j
  | 0, q => by
    unfold ptsF
    simp
  | i + 1, q => by
    unfold ptsF
    rw [List.mem_append, mem_ptsF i q]
    constructor
    · rintro ((h | ⟨j, hj, h⟩) | h)
      · exact .inl h
      · exact .inr ⟨j, by omega, h⟩
      · exact .inr ⟨i, by omega, h⟩
    · rintro (h | ⟨j, hj, h⟩)
      · exact .inl (.inl h)
      · by_cases hji : j = i
        · subst hji; exact .inr h
        · exact .inl (.inr ⟨j, by omega, h⟩)

theorem mem_ptsAt (F : Fld φ P) (hodd : P % 2 = 1) {x : Int} (hx0 : 0 ≤ x) (hxP : x < P) (q : PT) : q ∈ ptsAt a c P x ↔ ∃ y, q = some (x, y) ∧ Good φ a c P (some (x, y)) := by
  have hP := F.pos
  have hsq : ∀ y : Int, (x ^ 3 + a * x + c) % P = y * y % P ↔ φ y * φ y = φ x * φ x * φ x + φ a * φ x + φ c := by
    intro y
    rw [F.modEq, F.add, F.add, F.mul, F.p3, F.mul]
    exact ⟨fun e => e.symm, fun e => e.symm⟩
  have hhalf : (half P : Int) = (P + 1) / 2 - 1 := by unfold half; omega
  unfold ptsAt
  cases hr : rootsF P (half P) ((x ^ 3 + a * x + c) % P) with
  | none =>
    constructor
    · intro h; cases h
    · rintro ⟨y, rfl, _, _, h1, h2, h3⟩
      exfalso
      dsimp only at h1 h2 h3
      by_cases hy : y ≤ half P
      · obtain ⟨r, e⟩ := rootsF_some P (half P) _ y (by omega) hy ((hsq y).mpr h3)
        rw [hr] at e; cases e
      · obtain ⟨r, e⟩ := rootsF_some P (half P) _ (P - y) (by omega) (by omega) ((hsq (P - y)).mpr (by
          have e0 : φ (P - y) = -φ y := by
            rw [F.sub, show φ P = 0 from by rw [← F.zero, F.ext]; simp]
            (try clear L); (try clear c2); (try clear e); (try clear e0); (try clear e1); (try clear e2); (try clear h); (try clear hP); (try clear hhalf); (try clear hodd); (try clear hon); (try clear hsq); (try clear hx0); (try clear hxP); (try clear hy); grind
          rw [e0, ← h3]; (try clear L); (try clear c2); (try clear e); (try clear e0); (try clear e1); (try clear e2); (try clear h); (try clear hP); (try clear hhalf); (try clear hodd); (try clear hon); (try clear hsq); (try clear hx0); (try clear hxP); (try clear hy); grind))
        rw [hr] at e; cases e
  | some r =>
    obtain ⟨r1, r2, r3⟩ := rootsF_range P _ _ _ hr
    have hon := (hsq r).mp r3
    have e0 : ∀ y, φ (P - y) = -φ y := by
      intro y
      rw [F.sub, show φ P = 0 from by rw [← F.zero, F.ext]; simp]
      (try clear L); (try clear c2); (try clear e); (try clear e0); (try clear e1); (try clear e2); (try clear h); (try clear hP); (try clear hhalf); (try clear hodd); (try clear hon); (try clear hsq); (try clear hx0); (try clear hxP); (try clear hy); grind
    have hon' : φ (P - r) * φ (P - r) = φ x * φ x * φ x + φ a * φ x + φ c := by rw [e0, ← hon]; (try clear L); (try clear c2); (try clear e); (try clear e0); (try clear e1); (try clear e2); (try clear h); (try clear hP); (try clear hhalf); (try clear hodd); (try clear hon); (try clear hsq); (try clear hx0); (try clear hxP); (try clear hy); grind
    constructor
    · intro h
      simp only [List.mem_cons, List.not_mem_nil, or_false] at h
      rcases h with rfl | rfl
      · exact ⟨r, rfl, hx0, hxP, by dsimp only; omega, by dsimp only; omega, hon⟩
      · exact ⟨P - r, rfl, hx0, hxP, by dsimp only; omega, by dsimp only; omega, hon'⟩
    · rintro ⟨y, rfl, _, _, h1, h2, h3⟩
      dsimp only at h1 h2 h3
      have e : (φ y - φ r) * (φ y + φ r) = 0 := by
        have e1 : φ y * φ y = φ r * φ r := h3.trans hon.symm
        clear hon hon' h3 hsq
        grind
      rcases F.noz _ _ e with e | e
      · have := F.inj (of_sub0 e) (by omega) (by omega) (by omega) (by omega)
        subst this
        exact .head _
      · have e2 : φ y = φ (P - r) := by rw [e0]; clear hon hon' h3 hsq; grind
        have := F.inj e2 (by omega) (by omega) (by omega) (by omega)
        subst this
        exact .tail _ (.head _)

theorem mem_ptsL (F : Fld φ P) (hodd : P % 2 = 1) (q : PT) : q ∈ ptsL a c P ↔ Good φ a c P q := by
  have hP := F.pos
  rw [mem_ptsF]
  constructor
  · rintro (rfl | ⟨j, hj, h⟩)
    · trivial
    · obtain ⟨y, rfl, g⟩ := (mem_ptsAt F hodd (by omega) (by omega) q).mp h
      exact g
  · intro g
    cases q with
    | none => exact .inl rfl
    | some r =>
      obtain ⟨x, y⟩ := r
      have g' := g
      obtain ⟨h1, h2, _⟩ := g'
      dsimp only at h1 h2
      refine .inr ⟨x.toNat, by omega, ?_⟩
      rw [Int.toNat_of_nonneg h1]
      exact (mem_ptsAt F hodd h1 h2 _).mpr ⟨y, rfl, g⟩

theorem nodup_ptsF (F : Fld φ P) (hodd : P % 2 = 1) : ∀ i : Nat, (i : Int) ≤ P → (ptsF a c P i).Nodup
  | 0, _ => by unfold ptsF; simp
  | i + 1, hi => by
    have hP := F.pos
    unfold ptsF
    rw [List.nodup_append]
    refine ⟨nodup_ptsF F hodd i (by omega), ?_, ?_⟩
    · unfold ptsAt
      cases hr : rootsF P (half P) (((i : Int) ^ 3 + a * i + c) % P) with
      | none => exact List.nodup_nil
      | some r =>
        obtain ⟨r1, r2, _⟩ := rootsF_range P _ _ _ hr
        have hhalf : (half P : Int) = (P + 1) / 2 - 1 := by unfold half; omega
        rw [List.nodup_cons]
        refine ⟨?_, List.nodup_cons.mpr ⟨List.not_mem_nil, List.nodup_nil⟩⟩
        simp only [List.mem_cons, List.not_mem_nil, or_false, Option.some.injEq, Prod.mk.injEq, true_and]
        omega
    · rintro q hq r hr' rfl
      obtain ⟨y, rfl, _⟩ := (mem_ptsAt F hodd (by omega) (by omega) q).mp hr'
      rcases (mem_ptsF i _).mp hq with h | ⟨j, hj, h⟩
      · cases h
      · obtain ⟨y', e, _⟩ := (mem_ptsAt F hodd (by omega) (by omega) _).mp h
        injection e with e
        injection e with e _
        omega
end

theorem searchC_ok {a P d : Int} (hP : 1 < P) (hd : 0 ≤ d) (hdP : d < P) (hdt : (takenL a P).any (· == d) = false) : ∀ (k : Nat) (c : Int), 0 ≤ c → c < P → (d - c) % P < k + 1 →
    0 ≤ searchC a P k c ∧ searchC a P k c < P ∧ (takenL a P).any (· == searchC a P k c) = false
  | 0, c, h0, h1, h2 => by
    have hnn := Int.emod_nonneg (d - c) (b := P) (by omega)
    have e : (d - c) % P = 0 := by omega
    have : c = d := by
      obtain ⟨k, hk⟩ := Int.dvd_of_emod_eq_zero e
      have : k = 0 := by
        rcases Int.lt_trichotomy k 0 with h | h | h
        · exfalso
          have : P * k ≤ P * (-1) := Int.mul_le_mul_of_nonneg_left (by omega) (by omega)
          omega
        · exact h
        · exfalso
          have : P * 1 ≤ P * k := Int.mul_le_mul_of_nonneg_left (by omega) (by omega)
          omega
      subst this
      omega
    subst this
    exact ⟨h0, h1, hdt⟩
  | k + 1, c, h0, h1, h2 => by
    unfold searchC
    by_cases hc : (takenL a P).any (· == c) = true
    · rw [if_pos hc]
      have hne : c ≠ d := by rintro rfl; rw [hdt] at hc; cases hc
      have hs := dist_step (by omega : 0 < P) hd hdP h0 h1 hne
      exact searchC_ok hP hd hdP hdt k _ (Int.emod_nonneg _ (by omega)) (Int.emod_lt_of_pos _ (by omega)) (by omega)
    · rw [if_neg hc]
      exact ⟨h0, h1, (Bool.not_eq_true _).mp hc⟩
theorem lconst_ok {a P d : Int} (num : Int) (hP : 1 < P) (hd : 0 ≤ d) (hdP : d < P) (hdt : (takenL a P).any (· == d) = false) : 0 ≤ lconst a P num ∧ lconst a P num < P ∧ (takenL a P).any (· == lconst a P num) = false := by
  unfold lconst
  refine searchC_ok hP hd hdP hdt _ _ (Int.emod_nonneg _ (by omega)) (Int.emod_lt_of_pos _ (by omega)) ?_
  have := Int.emod_lt_of_pos (d - num % P) (b := P) (by omega)
  omega

section
variable {K : Type} [Lean.Grind.CommRing K] {φ : Int → K} {P a c : Int}
theorem noRoot_of (F : Fld φ P) (hc0 : 0 ≤ c) (hcP : c < P) (ht : (takenL a P).any (· == c) = false) : NoRoot φ a c := by
  intro x e
  have hP := F.pos
  have hx0 := Int.emod_nonneg x (b := P) (by omega)
  have hx1 := Int.emod_lt_of_pos x (b := P) (by omega)
  have e2 : takenI a P (x % P) = c := by
    unfold takenI
    refine F.inj ?_ (Int.emod_nonneg _ (by omega)) (Int.emod_lt_of_pos _ (by omega)) hc0 hcP
    rw [F.mod, F.neg, F.add, F.mul, F.p3, F.mod]
    clear ht
    grind
  have : (takenL a P).any (· == c) = true := by
    rw [List.any_eq_true]
    refine ⟨c, ?_, by simp⟩
    unfold takenL
    rw [List.mem_map]
    refine ⟨x % P, ?_, e2⟩
    rw [List.mem_map]
    exact ⟨(x % P).toNat, by rw [List.mem_range]; omega, by omega⟩
  rw [ht] at this; cases this
end

-- M8
/-- inverses -/
def chkI (p : Nat) : Bool := (List.range p).all fun r => r == 0 || (((r : Int) * pinv r p) % p == 1 && ((r : Int) * (invLoop 64 1 0 r p % p)) % p == 1)
/-- a constant that is not taken -/
def chkT (p : Nat) : Bool := (List.range p).all fun a => (a == 0 && p % 3 == 2) || (List.range p).any fun d => !((takenL a p).any (· == (d : Int)))
/-- a square on each curve -/
def chkE (p mask : Nat) : Bool := (List.range p).all fun a => (List.range p).all fun c => (List.range p).any fun x => mask.testBit ((x * x * x + a * x + c) % p)
def chkM (p mask : Nat) : Bool := (List.range p).all fun s => !(mask.testBit s) || (List.range (p / 2 + 1)).any fun r => r * r % p == s


/-- what is checked of a prime -/
structure PF (p : Nat) [NeZero p] : Prop where
  odd : p % 2 = 1
  gt : 3 < p
  lt : p < 64
  noz : ∀ x y : Fin p, x * y = 0 → x = 0 ∨ y = 0
  i : chkI p = true
  t : chkT p = true
  e : ∃ m, chkE p m = true ∧ chkM p m = true
theorem z5 : ∀ x y : Fin 5, x * y = 0 → x = 0 ∨ y = 0 := by decide +kernel
theorem i5 : chkI 5 = true := by decide +kernel
theorem t5 : chkT 5 = true := by decide +kernel
theorem e5 : chkE 5 19 = true := by decide +kernel
theorem m5 : chkM 5 19 = true := by decide +kernel
theorem pf5 : PF 5 := ⟨rfl, by decide, by decide, z5, i5, t5, _, e5, m5⟩
theorem z7 : ∀ x y : Fin 7, x * y = 0 → x = 0 ∨ y = 0 := by decide +kernel
theorem i7 : chkI 7 = true := by decide +kernel
theorem t7 : chkT 7 = true := by decide +kernel
theorem e7 : chkE 7 23 = true := by decide +kernel
theorem m7 : chkM 7 23 = true := by decide +kernel
theorem pf7 : PF 7 := ⟨rfl, by decide, by decide, z7, i7, t7, _, e7, m7⟩
theorem z11 : ∀ x y : Fin 11, x * y = 0 → x = 0 ∨ y = 0 := by decide +kernel
theorem i11 : chkI 11 = true := by decide +kernel
theorem t11 : chkT 11 = true := by decide +kernel
theorem e11 : chkE 11 571 = true := by decide +kernel
theorem m11 : chkM 11 571 = true := by decide +kernel
theorem pf11 : PF 11 := ⟨rfl, by decide, by decide, z11, i11, t11, _, e11, m11⟩
theorem z13 : ∀ x y : Fin 13, x * y = 0 → x = 0 ∨ y = 0 := by decide +kernel
theorem i13 : chkI 13 = true := by decide +kernel
theorem t13 : chkT 13 = true := by decide +kernel
theorem e13 : chkE 13 5659 = true := by decide +kernel
theorem m13 : chkM 13 5659 = true := by decide +kernel
theorem pf13 : PF 13 := ⟨rfl, by decide, by decide, z13, i13, t13, _, e13, m13⟩
theorem z17 : ∀ x y : Fin 17, x * y = 0 → x = 0 ∨ y = 0 := by decide +kernel
theorem i17 : chkI 17 = true := by decide +kernel
theorem t17 : chkT 17 = true := by decide +kernel
theorem e17 : chkE 17 107287 = true := by decide +kernel
theorem m17 : chkM 17 107287 = true := by decide +kernel
theorem pf17 : PF 17 := ⟨rfl, by decide, by decide, z17, i17, t17, _, e17, m17⟩
theorem z19 : ∀ x y : Fin 19, x * y = 0 → x = 0 ∨ y = 0 := by decide +kernel
theorem i19 : chkI 19 = true := by decide +kernel
theorem t19 : chkT 19 = true := by decide +kernel
theorem e19 : chkE 19 199411 = true := by decide +kernel
theorem m19 : chkM 19 199411 = true := by decide +kernel
theorem pf19 : PF 19 := ⟨rfl, by decide, by decide, z19, i19, t19, _, e19, m19⟩
theorem z23 : ∀ x y : Fin 23, x * y = 0 → x = 0 ∨ y = 0 := by decide +kernel
theorem i23 : chkI 23 = true := by decide +kernel
theorem t23 : chkT 23 = true := by decide +kernel
theorem e23 : chkE 23 340831 = true := by decide +kernel
theorem m23 : chkM 23 340831 = true := by decide +kernel
theorem pf23 : PF 23 := ⟨rfl, by decide, by decide, z23, i23, t23, _, e23, m23⟩
theorem z29 : ∀ x y : Fin 29, x * y = 0 → x = 0 ∨ y = 0 := by decide +kernel
theorem i29 : chkI 29 = true := by decide +kernel
theorem t29 : chkT 29 = true := by decide +kernel
theorem e29 : chkE 29 332473075 = true := by decide +kernel
theorem m29 : chkM 29 332473075 = true := by decide +kernel
theorem pf29 : PF 29 := ⟨rfl, by decide, by decide, z29, i29, t29, _, e29, m29⟩
theorem z31 : ∀ x y : Fin 31, x * y = 0 → x = 0 ∨ y = 0 := by decide +kernel
theorem i31 : chkI 31 = true := by decide +kernel
theorem t31 : chkT 31 = true := by decide +kernel
theorem e31 : chkE 31 303908791 = true := by decide +kernel
theorem m31 : chkM 31 303908791 = true := by decide +kernel
theorem pf31 : PF 31 := ⟨rfl, by decide, by decide, z31, i31, t31, _, e31, m31⟩
theorem z37 : ∀ x y : Fin 37, x * y = 0 → x = 0 ∨ y = 0 := by decide +kernel
theorem i37 : chkI 37 = true := by decide +kernel
theorem t37 : chkT 37 = true := by decide +kernel
theorem e37 : chkE 37 96068509339 = true := by decide +kernel
theorem m37 : chkM 37 96068509339 = true := by decide +kernel
theorem pf37 : PF 37 := ⟨rfl, by decide, by decide, z37, i37, t37, _, e37, m37⟩
theorem z41 : ∀ x y : Fin 41, x * y = 0 → x = 0 ∨ y = 0 := by decide +kernel
theorem i41 : chkI 41 = true := by decide +kernel
theorem t41 : chkT 41 = true := by decide +kernel
theorem e41 : chkE 41 1870503675703 = true := by decide +kernel
theorem m41 : chkM 41 1870503675703 = true := by decide +kernel
theorem pf41 : PF 41 := ⟨rfl, by decide, by decide, z41, i41, t41, _, e41, m41⟩
theorem z43 : ∀ x y : Fin 43, x * y = 0 → x = 0 ∨ y = 0 := by decide +kernel
theorem i43 : chkI 43 = true := by decide +kernel
theorem t43 : chkT 43 = true := by decide +kernel
theorem e43 : chkE 43 3678700564051 = true := by decide +kernel
theorem m43 : chkM 43 3678700564051 = true := by decide +kernel
theorem pf43 : PF 43 := ⟨rfl, by decide, by decide, z43, i43, t43, _, e43, m43⟩

theorem allP : ∀ P ∈ primes, ∃ p : Nat, ∃ _ : NeZero p, P = (p : Int) ∧ PF p := by
  intro P h
  unfold primes at h
  simp only [List.mem_cons, List.not_mem_nil, or_false] at h
  rcases h with rfl | rfl | rfl | rfl | rfl | rfl | rfl | rfl | rfl | rfl | rfl | rfl
  · exact ⟨5, ⟨by decide⟩, rfl, pf5⟩
  · exact ⟨7, ⟨by decide⟩, rfl, pf7⟩
  · exact ⟨11, ⟨by decide⟩, rfl, pf11⟩
  · exact ⟨13, ⟨by decide⟩, rfl, pf13⟩
  · exact ⟨17, ⟨by decide⟩, rfl, pf17⟩
  · exact ⟨19, ⟨by decide⟩, rfl, pf19⟩
  · exact ⟨23, ⟨by decide⟩, rfl, pf23⟩
  · exact ⟨29, ⟨by decide⟩, rfl, pf29⟩
  · exact ⟨31, ⟨by decide⟩, rfl, pf31⟩
  · exact ⟨37, ⟨by decide⟩, rfl, pf37⟩
  · exact ⟨41, ⟨by decide⟩, rfl, pf41⟩
  · exact ⟨43, ⟨by decide⟩, rfl, pf43⟩

-- M9
def phi (p : Nat) [NeZero p] (x : Int) : Fin p := @IntCast.intCast (Fin p) Lean.Grind.Ring.intCast x

theorem fld_of (p : Nat) [NeZero p] (h : PF p) : Fld (phi p) (p : Int) := by
  have hgt := h.gt
  have add : ∀ x y, phi p (x + y) = phi p x + phi p y := fun x y => Lean.Grind.Ring.intCast_add x y
  have sub : ∀ x y, phi p (x - y) = phi p x - phi p y := fun x y => Lean.Grind.Ring.intCast_sub x y
  have mul : ∀ x y, phi p (x * y) = phi p x * phi p y := fun x y => Lean.Grind.Ring.intCast_mul x y
  have one : phi p 1 = 1 := Lean.Grind.Ring.intCast_one
  have ext : ∀ x y, phi p x = phi p y ↔ x % (p : Int) = y % (p : Int) := fun x y => Lean.Grind.IsCharP.intCast_ext_iff p
  have zero : phi p 0 = 0 := by
    have := sub 0 0
    rw [Int.sub_zero] at this
    rw [this]; clear this; grind
  have mod : ∀ x, phi p (x % p) = phi p x := fun x => (ext _ _).mpr (Int.emod_emod ..)
  have key : ∀ x : Int, phi p x ≠ 0 → ((x % p) * pinv (x % p) p) % p = 1 ∧ ((x % p) * (invLoop 64 1 0 (x % p) p % p)) % p = 1 := by
    intro x hx
    have h0 := Int.emod_nonneg x (b := (p : Int)) (by omega)
    have h1 := Int.emod_lt_of_pos x (b := (p : Int)) (by omega)
    have hne : x % p ≠ 0 := by
      intro e
      apply hx
      rw [← zero, ext, e, Int.zero_emod]
    obtain ⟨r, hr⟩ := Int.eq_ofNat_of_zero_le h0
    rw [hr] at h1 hne ⊢
    have hi := h.i
    unfold chkI at hi
    rw [List.all_eq_true] at hi
    have := hi r (by rw [List.mem_range]; omega)
    rw [Bool.or_eq_true, Bool.and_eq_true] at this
    rcases this with e | ⟨e1, e2⟩
    · exfalso; apply hne; have : r = 0 := by simpa using e
      rw [this]; rfl
    · exact ⟨by simpa using e1, by simpa using e2⟩
  refine ⟨add, sub, mul, one, ext, by omega, h.noz, ?_, ?_, ?_⟩
  · intro e
    have e2 : phi p 2 = phi p 0 := by
      rw [show (2 : Int) = 1 + 1 from rfl, add, one, zero, ← e]; (try clear L); (try clear c2); (try clear e); (try clear e2); (try clear e3); (try clear ext); (try clear h); (try clear h0); (try clear h1); (try clear hgt); (try clear hi); (try clear hne); (try clear hr); (try clear hx); grind
    rw [ext, Int.zero_emod, Int.emod_eq_of_lt (by omega) (by omega)] at e2
    cases e2
  · intro x hx
    obtain ⟨e, _⟩ := key x hx
    rw [← mod x, ← mul, ← one, ext, e, Int.emod_eq_of_lt (by omega) (by omega)]
  · intro x hx
    obtain ⟨_, e⟩ := key x hx
    have h0 : x ≠ 0 := by rintro rfl; exact hx zero
    have e3 : invI x p = invLoop 64 1 0 (x % p) p % p := if_neg h0
    rw [← mod x, ← mul, ← one, ext, e3, e, Int.emod_eq_of_lt (by omega) (by omega)]

theorem ptsF_cons (a c P : Int) : ∀ i, ∃ r, ptsF a c P i = none :: r
  | 0 => ⟨[], rfl⟩
  | i + 1 => by
    obtain ⟨r, e⟩ := ptsF_cons a c P i
    exact ⟨r ++ ptsAt a c P i, by rw [ptsF, e]; rfl⟩

/-- there is a point -/
theorem some_point (p : Nat) [NeZero p] (h : PF p) {a c : Int} (ha0 : 0 ≤ a) (haP : a < p) (hc0 : 0 ≤ c) (hcP : c < p) (hr : NoRoot (phi p) a c) : ∃ q : Int × Int, Good (phi p) a c p (some q) := by
  have F := fld_of p h
  have hodd := h.odd
  have hgt := h.gt
  obtain ⟨m, he, hm⟩ := h.e
  obtain ⟨a', rfl⟩ := Int.eq_ofNat_of_zero_le ha0
  obtain ⟨c', rfl⟩ := Int.eq_ofNat_of_zero_le hc0
  unfold chkE at he
  rw [List.all_eq_true] at he
  have he := he a' (by rw [List.mem_range]; omega)
  rw [List.all_eq_true] at he
  have he := he c' (by rw [List.mem_range]; omega)
  rw [List.any_eq_true] at he
  obtain ⟨x, hx, he⟩ := he
  rw [List.mem_range] at hx
  unfold chkM at hm
  rw [List.all_eq_true] at hm
  have hm := hm ((x * x * x + a' * x + c') % p) (by rw [List.mem_range]; exact Nat.mod_lt _ (by omega))
  rw [he] at hm
  simp only [Bool.not_true, Bool.false_or] at hm
  rw [List.any_eq_true] at hm
  obtain ⟨r, hr1, hr2⟩ := hm
  rw [List.mem_range] at hr1
  have hr2 : r * r % p = (x * x * x + a' * x + c') % p := by simpa using hr2
  have e : phi p ((r * r : Nat) : Int) = phi p ((x * x * x + a' * x + c' : Nat) : Int) := by
    rw [F.ext, ← Int.natCast_emod, ← Int.natCast_emod, hr2]
  simp only [Int.natCast_mul, Int.natCast_add] at e
  rw [F.mul, F.add, F.add, F.mul, F.mul, F.mul] at e
  have hr0 : r ≠ 0 := by
    rintro rfl
    refine hr x ?_
    rw [← e, show ((0 : Nat) : Int) = 0 from rfl, F.zero]; (try clear L); (try clear c2); (try clear e); (try clear h); (try clear ha0); (try clear haP); (try clear hc0); (try clear hcP); (try clear he); (try clear hgt); (try clear hm); (try clear hodd); (try clear hr); (try clear hr0); (try clear hr1); (try clear hr2); (try clear hx); grind
  exact ⟨((x : Int), (r : Int)), by dsimp only; omega, by dsimp only; omega, by dsimp only; omega, by dsimp only; omega, e⟩

theorem pts_gen (p : Nat) [NeZero p] (h : PF p) {a c : Int} (ha0 : 0 ≤ a) (haP : a < p) (hc0 : 0 ≤ c) (hcP : c < p) (hr : NoRoot (phi p) a c) : ∃ gx gy, (ptsL a c p)[1]? = some (some (gx, gy)) := by
  have F := fld_of p h
  have hodd : (p : Int) % 2 = 1 := by have := h.odd; omega
  obtain ⟨q, hq⟩ := some_point p h ha0 haP hc0 hcP hr
  have hm := (mem_ptsL F hodd (some q)).mpr hq
  have hn := nodup_ptsF (a := a) (c := c) F hodd (p : Int).toNat (by omega)
  obtain ⟨r, e⟩ := ptsF_cons a c p (p : Int).toNat
  have e' : ptsL a c p = none :: r := e
  rw [e'] at hm ⊢
  rw [e] at hn
  rw [List.nodup_cons] at hn
  cases r with
  | nil => simp at hm
  | cons x r =>
    cases x with
    | none => exact absurd (List.Mem.head _) hn.1
    | some x => exact ⟨x.1, x.2, rfl⟩

theorem exists_const (p : Nat) [NeZero p] (h : PF p) {a : Int} (ha0 : 0 ≤ a) (haP : a < p) (hne : ¬ (a = 0 ∧ (p : Int) % 3 = 2)) : ∃ d, 0 ≤ d ∧ d < (p : Int) ∧ (takenL a p).any (· == d) = false := by
  have ht := h.t
  obtain ⟨a', rfl⟩ := Int.eq_ofNat_of_zero_le ha0
  unfold chkT at ht
  rw [List.all_eq_true] at ht
  have ht := ht a' (by rw [List.mem_range]; omega)
  rw [Bool.or_eq_true] at ht
  rcases ht with e | e
  · exfalso
    rw [Bool.and_eq_true] at e
    have e1 : a' = 0 := by simpa using e.1
    have e2 : p % 3 = 2 := by simpa using e.2
    exact hne ⟨by omega, by omega⟩
  · rw [List.any_eq_true] at e
    obtain ⟨d, hd, e⟩ := e
    rw [List.mem_range] at hd
    rw [Bool.not_eq_true'] at e
    exact ⟨d, by omega, by omega, e⟩

theorem Good.bp {K : Type} [Lean.Grind.CommRing K] {φ : Int → K} {P a c : Int} {q : PT} (h : Good φ a c P q) (hP : P < 64) : BP q := by
  cases q with
  | none => trivial
  | some r => exact ⟨Bd.ofRange (P := 64) h.1 (by have := h.2.1; omega) (by decide), Bd.ofRange (P := 64) (Int.le_of_lt h.2.2.1) (by have := h.2.2.2.1; omega) (by decide)⟩

theorem main (ns : List Int) (hns : ns.length ≤ 63) : ∃ P a c gx gy A B D M cv, LF ns P a c gx gy A B D M cv := by
  have g0 := Int.emod_nonneg (gv ns 0) (b := 12) (by decide)
  have g1 := Int.emod_lt_of_pos (gv ns 0) (b := 12) (by decide)
  have hlp : (gv ns 0 % 12).toNat < primes.length := by show _ < 12; omega
  obtain ⟨p, ne, hPp, pf⟩ := allP primes[(gv ns 0 % 12).toNat] (List.getElem_mem hlp)
  have hp : primes[(gv ns 0 % 12).toNat]? = some (p : Int) := by rw [List.getElem?_eq_getElem hlp, hPp]
  have F := fld_of p pf
  have hodd : (p : Int) % 2 = 1 := by have := pf.odd; omega
  have hgt := pf.gt
  have hlt := pf.lt
  generalize hP : (p : Int) = P at *
  have hP3 : 3 < P := by omega
  have hP64 : P < 64 := by omega
  have hP1 : 0 < P - 1 := by omega
  -- the curve
  have a0 : 0 ≤ fixA P (gv ns 1) := by
    unfold fixA
    split
    · omega
    · exact Int.emod_nonneg _ (by omega)
  have aP : fixA P (gv ns 1) < P := by
    unfold fixA
    split
    · omega
    · exact Int.emod_lt_of_pos _ (by omega)
  have ane : ¬ (fixA P (gv ns 1) = 0 ∧ P % 3 = 2) := by
    unfold fixA
    split
    · rintro ⟨h, _⟩; omega
    · assumption
  generalize ha : fixA P (gv ns 1) = a at *
  obtain ⟨d, hd0, hdP, hdt⟩ : ∃ d, 0 ≤ d ∧ d < P ∧ (takenL a P).any (· == d) = false := by
    subst hP; exact exists_const p pf a0 aP ane
  obtain ⟨c0, cP, ct⟩ := lconst_ok (gv ns 2) (by omega) hd0 hdP hdt
  generalize hc : lconst a P (gv ns 2) = c at *
  have hr := noRoot_of F c0 cP ct
  obtain ⟨gx, gy, hgen⟩ : ∃ gx gy, (ptsL a c P)[1]? = some (some (gx, gy)) := by
    subst hP; exact pts_gen p pf a0 aP c0 cP hr
  -- the points
  have hE := mem_ptsL (a := a) (c := c) F hodd
  have hnd : (ptsL a c P).Nodup := nodup_ptsF F hodd P.toNat (by omega)
  have hlen1 : 2 ≤ (ptsL a c P).length := by
    rcases Nat.lt_or_ge 1 (ptsL a c P).length with h | h
    · exact h
    · rw [List.getElem?_eq_none h] at hgen; cases hgen
  have hlen2 : (ptsL a c P).length ≤ 127 := by have := ptsF_len a c P P.toNat; show (ptsF a c P P.toNat).length ≤ 127; omega
  have pick : ∀ n : Int, ∃ q, (ptsL a c P)[(n % (ptsL a c P).length).toNat]? = some q ∧ Good (phi p) a c P q := by
    intro n
    have h0 := Int.emod_nonneg n (b := ((ptsL a c P).length : Int)) (by omega)
    have h1 := Int.emod_lt_of_pos n (b := ((ptsL a c P).length : Int)) (by omega)
    have hl : (n % (ptsL a c P).length).toNat < (ptsL a c P).length := by omega
    exact ⟨_, List.getElem?_eq_getElem hl, (hE _).mp (List.getElem_mem hl)⟩
  obtain ⟨A, hA, gA⟩ := pick (gv ns 3)
  obtain ⟨B, hB, gB⟩ := pick (gv ns 4)
  obtain ⟨D, hD, gD⟩ := pick (gv ns 5)
  have hall : ∀ {q : PT}, Good (phi p) a c P q → nsm a P q (ptsL a c P).length = none := fun g => nsm_all F hr g hnd hE
  obtain ⟨M, hM1, hM2, hM3, hM4⟩ := round_ok F hr gA (by omega) (hall gA)
  -- the order
  have hk : 0 ≤ gv ns 2 / P % 3 ∧ gv ns 2 / P % 3 < 3 := ⟨Int.emod_nonneg _ (by decide), Int.emod_lt_of_pos _ (by decide)⟩
  obtain ⟨k, hk'⟩ : ∃ k : Nat, 1 + gv ns 2 / P % 3 = (k : Int) := ⟨(1 + gv ns 2 / P % 3).toNat, by omega⟩
  have hk1 : 1 ≤ k := by omega
  have hk3 : k ≤ 3 := by omega
  have hNcast : ((ptsL a c P).length : Int) * (1 + gv ns 2 / P % 3) = (((ptsL a c P).length * k : Nat) : Int) := by rw [hk', Int.natCast_mul]
  have hN2 : 2 ≤ (ptsL a c P).length * k := Nat.le_trans hlen1 (Nat.le_mul_of_pos_right _ hk1)
  have hN10 : (ptsL a c P).length * k ≤ 381 := Nat.mul_le_mul hlen2 hk3
  have hNn : ∀ {q : PT}, Good (phi p) a c P q → nsm a P q ((ptsL a c P).length * k) = none := fun g => nsm_mul F hr g (hall g) k
  generalize hcv : (⟨P, (ptsL a c P).length * (1 + gv ns 2 / P % 3), a, c, gx, gy⟩ : Cv) = cv
  have cvP : cv.P = P := by rw [← hcv]
  have cvA : cv.A = a := by rw [← hcv]
  have cvN : cv.N = (((ptsL a c P).length * k : Nat) : Int) := by rw [← hcv]; exact hNcast
  generalize hN : (ptsL a c P).length * k = N at *
  have cvN2 : 2 ≤ cv.N := by rw [cvN]; omega
  have cvN10 : cv.N ≤ 2 ^ 10 := by rw [cvN]; omega
  -- the forms
  have sc : ∀ n : Int, phi p (1 + n % (P - 1)) ≠ 0 := by
    intro n
    have h0 := Int.emod_nonneg n (b := P - 1) (by omega)
    have h1 := Int.emod_lt_of_pos n (b := P - 1) (by omega)
    exact F.k0 (by omega) (by omega)
  have jA : JR (phi p) (lform A (1 + gv ns 6 % (P - 1)) P) A := lform_ok F (sc _)
  have jB : JR (phi p) (lform B (1 + gv ns 7 % (P - 1)) P) B := lform_ok F (sc _)
  have jD : JR (phi p) (lform D 1 P) D := lform_ok F F.one0
  have gAB := lsum_good F hr gA gB
  have gBD := lsum_good F hr gB gD
  have jAB := jadd_ok F hr cvP cvA gA gB jA jB
  have jBA := jadd_ok F hr cvP cvA gB gA jB jA
  have jBD := jadd_ok F hr cvP cvA gB gD jB jD
  have jAB_D := jadd_ok F hr cvP cvA gAB gD jAB jD
  have jA_BD := jadd_ok F hr cvP cvA gA gBD jA jBD
  have jAA := jdbl_ok F hr cvP cvA gA jA
  have pA := plain_ok F A
  have pB := plain_ok F B
  have pD := plain_ok F D
  have pAB := jadd_ok F hr cvP cvA gA gB pA pB
  rw [lsum_comm F hr gB gA] at jBA
  rw [← lsum_assoc F hr gA gB gD] at jA_BD
  have gABD := lsum_good F hr gAB gD
  have row : ∀ (n : Int) (q : PT), (roundL a P A M)[(n % (roundL a P A M).length).toNat]? = some q → nsm a P A (n % cv.N).toNat = q := by
    intro n q hq
    have hl : (roundL a P A M).length = M + 1 := by simp [roundL]
    rw [hl] at hq
    rw [cvN, hM4 N n (hNn gA) (by omega)]
    have h0 := Int.emod_nonneg n (b := ((M + 1 : Nat) : Int)) (by omega)
    have h1 := Int.emod_lt_of_pos n (b := ((M + 1 : Nat) : Int)) (by omega)
    generalize (n % ((M + 1 : Nat) : Int)).toNat = i at *
    have hi : i < M + 1 := by
      have := List.getElem?_eq_some_iff.mp hq
      obtain ⟨h, _⟩ := this
      omega
    cases i with
    | zero => unfold roundL at hq; simp at hq; exact hq
    | succ i =>
      unfold roundL at hq
      rw [List.getElem?_cons_succ, List.getElem?_map, List.getElem?_range (by omega)] at hq
      simp only [Option.map_some, Option.some.injEq] at hq
      rw [← hq, mult_nsm]
  have mul1 := fun n => jmul_top F hr cvP cvA cvN2 cvN10 gA jA n
  have mul2 := fun n => jmul_top F hr cvP cvA cvN2 cvN10 gA pA n
  refine ⟨P, a, c, gx, gy, A, B, D, M, cv, ?_⟩
  exact {
    f_p := hp
    f_p1 := hP3
    f_p2 := hP64
    f_a := ha.symm
    f_a0 := a0
    f_aP := aP
    f_tk := ⟨d, hd0, hdP, hdt⟩
    f_c := hc.symm
    f_cb := Bd.ofRange (P := 64) c0 (by omega) (by decide)
    f_gen := hgen
    f_A := hA
    f_B := hB
    f_D := hD
    f_bA := gA.bp hP64
    f_bB := gB.bp hP64
    f_bD := gD.bp hP64
    f_cv := hcv.symm
    f_m := hM2
    f_ml := hM3
    f_m9 := by omega
    f_e1 := fromJ_ok F cvP gAB jAB
    f_e2 := fromJ_ok F cvP gAB jBA
    f_e3 := fromJ_ok F cvP gABD jAB_D
    f_e4 := fromJ_ok F cvP gABD jA_BD
    f_e5 := fromJ_ok F cvP (lsum_good F hr gA gA) jAA
    f_e6 := fromJ_ok F cvP gAB pAB
    f_e7 := fun q hq => by
      have h := fromJ_ok F cvP (nsm_good F hr gA _) (mul1 (facI ns))
      rw [row _ q hq] at h
      exact h
    f_e8 := fun q hq => by
      have h := fromJ_ok F cvP (nsm_good F hr gA _) (mul2 (facI ns))
      rw [row _ q hq] at h
      exact h
    f_e9 := by
      have h := fromJ_ok F cvP (nsm_good F hr gA _) (mul2 (ptsL a c P).length)
      have e : nsm a P A (((ptsL a c P).length : Int) % cv.N).toNat = none := by
        rw [cvN, ← Int.natCast_emod, Int.toNat_natCast]
        rw [← nsm_mod F hr gA (hNn gA), hall gA]
      rw [e] at h
      exact h
    f_e10 := fromJ_ok F cvP gD pD }

end Mine

theorem PySem.Challenge.cw_iv0039_01_holds : PySem.Challenge.rw_iv0039_01.Holds := by
  exact Mine.law_top Mine.main
