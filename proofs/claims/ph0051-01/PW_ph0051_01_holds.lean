import PyProof.Rows.All
import Wide.All
import OpenK.AllK
import Wide.FinOn
import PySem.Challenge.RW_ph0051_01
set_option Elab.async false
set_option linter.unusedVariables false
set_option linter.unusedSimpArgs false

section
namespace Mine
open PySem PySem.W PySem.Calls PyProof.Rows

/-! ## Views of the heap and relations over them -/
abbrev View := Addr → Option Obj
def View.le (g g' : View) : Prop := ∀ b o, g b = some o → g' b = some o
theorem View.le_refl (g : View) : View.le g g := fun _ _ e => e
theorem View.le_trans {g g' g'' : View} (h : View.le g g') (h' : View.le g' g'') : View.le g g'' := fun b o e => h' b o (h b o e)

/-- what is known of a value: it stays true while the view grows -/
structure Rel where
  on : View → Value → Prop
  mono : ∀ {g g' : View} {v : Value}, on g v → View.le g g' → on g' v

/-- the heap without the addresses of X -/
def hide (X : List Addr) (h : Heap) : View := fun b => if b ∈ X then none else h.get? b
theorem hide_get {X : List Addr} {h : Heap} {b : Addr} {o : Obj} (e : hide X h b = some o) : h.get? b = some o ∧ b ∉ X := by
  unfold hide at e
  split at e
  · cases e
  · exact ⟨e, by assumption⟩
theorem hide_of {X : List Addr} {h : Heap} {b : Addr} {o : Obj} (e : h.get? b = some o) (hb : b ∉ X) : hide X h b = some o := by
  unfold hide; rw [if_neg hb]; exact e
/-- objects outside X stay -/
theorem hide_le {X : List Addr} {h h' : Heap} (hk : ∀ b o, b ∉ X → h.get? b = some o → h'.get? b = some o) : View.le (hide X h) (hide X h') := fun b o e =>
  hide_of (hk b o (hide_get e).2 (hide_get e).1) (hide_get e).2
/-- a smaller set hides less -/
theorem hide_sub {X X' : List Addr} {h : Heap} (hs : ∀ b ∈ X, b ∈ X') : View.le (hide X' h) (hide X h) := fun _ _ e =>
  hide_of (hide_get e).1 fun hb => (hide_get e).2 (hs _ hb)
/-- new addresses hidden besides -/
theorem hide_new {X X' : List Addr} {h h' : Heap} (hk : ∀ b o, b ∉ X → h.get? b = some o → h'.get? b = some o) (hn : ∀ b ∈ X', b ∈ X ∨ h.get? b = none) : View.le (hide X h) (hide X' h') := fun b o e =>
  hide_of (hk b o (hide_get e).2 (hide_get e).1) fun hb => by
    rcases hn b hb with h1 | h1
    · exact (hide_get e).2 h1
    · rw [(hide_get e).1] at h1; cases h1

theorem keeps_refl (s : Shared) : Keeps s s := ⟨s.heap, s.toks, rfl, fun _ _ e => e⟩
theorem keeps_trans {s s' s'' : Shared} (h : Keeps s s') (h' : Keeps s' s'') : Keeps s s'' := by
  obtain ⟨h1, t1, rfl, k1⟩ := h
  obtain ⟨h2, t2, rfl, k2⟩ := h'
  exact ⟨h2, t2, rfl, fun b o e => k2 b o (k1 b o e)⟩
theorem keeps_toks (s : Shared) (t : Nat) : Keeps s { s with toks := t } := ⟨s.heap, t, rfl, fun _ _ e => e⟩
theorem keeps_push (s : Shared) (o : Obj) : Keeps s { s with heap := s.heap.push o } := ⟨_, s.toks, rfl, fun _ _ e => Heap.get?_push_of_some _ e⟩
theorem keeps_get {s s' : Shared} (h : Keeps s s') {b : Addr} {o : Obj} (e : s.heap.get? b = some o) : s'.heap.get? b = some o := by
  obtain ⟨h1, t1, rfl, k1⟩ := h
  exact k1 b o e
theorem keeps_hide {X : List Addr} {s s' : Shared} (h : Keeps s s') : View.le (hide X s.heap) (hide X s'.heap) := hide_le fun _ _ _ e => keeps_get h e

def RI (i : Int) : Rel := ⟨fun _ v => ∃ t, v = .int i t, fun h _ => h⟩
def RB (b : Bool) : Rel := ⟨fun _ v => v = .bool b, fun h _ => h⟩
def RN : Rel := ⟨fun _ v => v = .none, fun h _ => h⟩

def AllOn (g : View) : List Rel → List Value → Prop := Paired (fun (r : Rel) v => r.on g v)
theorem AllOn.mono {g g' : View} {rs : List Rel} {vs : List Value} (h : AllOn g rs vs) (hl : View.le g g') : AllOn g' rs vs := by
  unfold AllOn at *
  induction h with
  | nil => exact .nil
  | cons h1 _ ih => exact .cons (Rel.mono _ h1 hl) ih
theorem AllOn.length {g : View} {rs : List Rel} {vs : List Value} (h : AllOn g rs vs) : rs.length = vs.length := Paired.length h
theorem AllOn.get {g : View} {rs : List Rel} {vs : List Value} (h : AllOn g rs vs) : ∀ {i : Nat} {r : Rel}, rs[i]? = some r → ∃ v, vs[i]? = some v ∧ r.on g v := by
  unfold AllOn at h
  induction h with
  | nil => intro i r e; simp at e
  | cons h1 _ ih =>
    intro i r e
    cases i with
    | zero => simp at e; subst e; exact ⟨_, by simp, h1⟩
    | succ i => simpa using ih (by simpa using e)

abbrev seqObj (n : String) (vs : List Value) (ep : Nat) : Obj := { cls := .type n, data := .seq vs.toArray ep }
/-- a tuple | list whose items are as rs say -/
def RSeq (n : String) (rs : List Rel) : Rel := ⟨fun g v => ∃ a vs ep, v = .ref a ∧ g a = some (seqObj n vs ep) ∧ AllOn g rs vs,
  fun ⟨a, vs, ep, e, h, p⟩ hl => ⟨a, vs, ep, e, hl _ _ h, p.mono hl⟩⟩
abbrev RT (rs : List Rel) : Rel := RSeq "tuple" rs
abbrev RL (rs : List Rel) : Rel := RSeq "list" rs
abbrev RLI (ns : List Int) : Rel := RL (ns.map RI)

/-! ## The program's ground -/
/-- the built-ins that the text names -/
def theBuiltins : List Str := ["range", "len", "sum", "sorted", "isinstance", "tuple"]
structure Cfg0 where
  prog : Program
  w : World
  mg : Str → Option Value
  mb : Str → Option Value
  K : Frag
  fns : List DefRec
  h0 : Heap

/-- what is known of the ground on which the law is called -/
structure BaseAt (c : Cfg0) (h : Heap) : Prop where
  g : h.Ns mainGlobals c.mg
  b : h.Ns builtinsNs c.mb
  nolimit : h.NoLimit
  fn : ∀ d ∈ c.fns, ∃ a o pm code doc, c.mg d.name = some (.ref a) ∧ h.get? a = some o ∧ o.data = .func (docDef d.name d.params d.body d.scope pm code doc) ∧ h.CodeRec code d.name
  k : c.K.In h
  bl : ∀ x ∈ theBuiltins, c.mg x = none ∧ c.mb x = bootBuiltins x
  mods : ∃ o, h.get? sysModules = some o
theorem BaseAt.keeps {c : Cfg0} {h h' : Heap} (B : BaseAt c h) (hk : ∀ b o, h.get? b = some o → h'.get? b = some o) : BaseAt c h' :=
  ⟨B.g.keeps hk, B.b.keeps hk, B.nolimit.keeps hk, fun d hd => let ⟨a, o, pm, code, doc, h1, h2, h3, h4⟩ := B.fn d hd; ⟨a, o, pm, code, doc, h1, hk _ _ h2, h3, h4.keeps hk⟩, B.k.keeps hk, B.bl, let ⟨o, e⟩ := B.mods; ⟨o, hk _ _ e⟩⟩

structure Cfg extends Cfg0 where
  ground : BaseAt toCfg0 h0
abbrev Cfg.M (c : Cfg) : Model := model c.prog c.w
/-- the ground stands, and nothing of it is hidden -/
def Bs (c : Cfg) (X : List Addr) (h : Heap) : Prop := View.le c.h0.get? (hide X h)
theorem Bs.at {c : Cfg} {X : List Addr} {h : Heap} (B : Bs c X h) : BaseAt c.toCfg0 h := c.ground.keeps fun b o e => (hide_get (B b o e)).1
theorem Bs.le {c : Cfg} {X X' : List Addr} {h h' : Heap} (B : Bs c X h) (hl : View.le (hide X h) (hide X' h')) : Bs c X' h' := View.le_trans B hl

/-- a name's value in a frame (a function's or a comprehension's) -/
def Rd (env : Env) (h : Heap) (x : Str) (v : Value) : Prop :=
  (env.kindOf x = some .local ∧ ∃ m, h.Ns env.locals m ∧ m x = some v) ∨ (env.kindOf x = some .cell ∧ ∃ a, env.cells.lookup x = some a ∧ h.IsCell a (some v))
theorem Rd.keeps {env : Env} {h h' : Heap} {x : Str} {v : Value} (r : Rd env h x v) (hk : ∀ b o, h.get? b = some o → h'.get? b = some o) : Rd env h' x v := by
  rcases r with ⟨e, m, n, q⟩ | ⟨e, a, n, q⟩
  · exact .inl ⟨e, m, n.keeps hk, q⟩
  · exact .inr ⟨e, a, n, q.keeps hk⟩

abbrev Ctxt := List (Str × Rel)
structure Here (c : Cfg) (env : Env) (X : List Addr) (ρ : Ctxt) (s : Shared) : Prop where
  base : Bs c X s.heap
  xok : ∀ b ∈ X, ∃ o, s.heap.get? b = some o
  kind : env.scope.kind = .function
  glob : env.globals = mainGlobals
  blt : env.builtins = builtinsNs
  vars : ∀ x r, ρ.lookup x = some r → ∃ v, Rd env s.heap x v ∧ r.on (hide X s.heap) v
theorem Here.keeps {c : Cfg} {env : Env} {X : List Addr} {ρ : Ctxt} {s s' : Shared} (H : Here c env X ρ s) (k : Keeps s s') : Here c env X ρ s' :=
  ⟨H.base.le (keeps_hide k), fun b hb => let ⟨o, e⟩ := H.xok b hb; ⟨o, keeps_get k e⟩, H.kind, H.glob, H.blt,
    fun x r e => let ⟨v, h1, h2⟩ := H.vars x r e; ⟨v, h1.keeps fun _ _ e => keeps_get k e, r.mono h2 (keeps_hide k)⟩⟩
theorem Here.fresh {c : Cfg} {env : Env} {X : List Addr} {ρ : Ctxt} {s : Shared} (H : Here c env X ρ s) : s.heap.objs.size ∉ X := fun hb => by
  obtain ⟨o, e⟩ := H.xok _ hb
  exact absurd (Heap.lt_size e) (Nat.lt_irrefl _)

/-! ## The judgement of an expression -/
def Ev (c : Cfg) (A : Around) (env : Env) (X : List Addr) (ρ : Ctxt) (e : Expr) (r : Rel) : Prop :=
  ∀ (s : Shared) (Q : Value → Shared → Prop) (E : Value → Shared → Prop), Here c env X ρ s → (∀ v s', Keeps s s' → r.on (hide X s'.heap) v → Q v s') → wpAny c.M A (eval e env) Q E s
/-- the judgement of a test -/
def Tr (c : Cfg) (A : Around) (env : Env) (X : List Addr) (ρ : Ctxt) (e : Expr) (b : Bool) : Prop :=
  ∀ (s : Shared) (Q : Bool → Shared → Prop) (E : Value → Shared → Prop), Here c env X ρ s → (∀ s', Keeps s s' → Q b s') → wpAny c.M A (isTrue e env (eval e env)) Q E s
/-- the judgement of a row of expressions -/
def Evs (c : Cfg) (A : Around) (env : Env) (X : List Addr) (ρ : Ctxt) (es : List Expr) (rs : List Rel) : Prop :=
  ∀ (s : Shared) (pos : Pos) (Q : List Value → Shared → Prop) (E : Value → Shared → Prop), Here c env X ρ s → (∀ vs s', Keeps s s' → AllOn (hide X s'.heap) rs vs → Q vs s') →
    wpAny c.M A (spliced (backTo pos (starEach es env))) Q E s

section
variable {c : Cfg} {A : Around} {env : Env} {X : List Addr} {ρ : Ctxt}

theorem ev_name {x : Str} {pos : Pos} {r : Rel} (hr : ρ.lookup x = some r) (hd : (x == ("__debug__" : Str)) = false := by rfl) : Ev c A env X ρ (.Name x pos) r := by
  intro s Q E H h
  obtain ⟨v, hv, hr⟩ := H.vars x r hr
  refine wpAny_Name ?_ hd
  rcases hv with ⟨k, m, n, q⟩ | ⟨k, a, n, q⟩
  · exact wpAny_loadName_local H.kind k n q (h v s (keeps_refl s) hr)
  · exact wpAny_loadName_cell H.kind k n q (h v s (keeps_refl s) hr)

theorem ev_int {i : Int} {k : Nat} {pos : Pos} : Ev c A env X ρ (.Constant (.int i) k pos) (RI i) := fun s _ _ _ h => wpAny_Constant_int (h _ _ (keeps_toks s _) ⟨_, rfl⟩)
theorem ev_bool {b : Bool} {k : Nat} {pos : Pos} : Ev c A env X ρ (.Constant (.bool b) k pos) (RB b) := fun s _ _ _ h => wpAny_Constant_bool (h _ _ (keeps_refl s) rfl)
theorem ev_neg {e : Expr} {a : Int} {pos : Pos} (h1 : Ev c A env X ρ e (RI a)) : Ev c A env X ρ (.UnaryOp .USub e pos) (RI (-a)) := fun s Q E H h =>
  wpAny_UnaryOp (h1 s _ E H fun v s' k ⟨t, e⟩ => by subst e; exact PyProof.Rows.neg_int (h _ _ (keeps_trans k (keeps_toks s' _)) ⟨_, rfl⟩))

/-- an operation on two ints -/
def IntOp (c : Cfg) (op : Operator) (a b i : Int) : Prop := ∀ (A : Around) (s : Shared) (t u : Tok) (Q : Value → Shared → Prop) (E : Value → Shared → Prop), Q (.int i s.toks) { s with toks := s.toks + 1 } → wpAny c.M A (binaryOp op (.int a t) (.int b u)) Q E s
theorem op_add {a b : Int} : IntOp c .Add a b (a + b) := fun _ _ _ _ _ _ h => PyProof.Rows.add_int h
theorem op_sub {a b : Int} : IntOp c .Sub a b (a - b) := fun _ _ _ _ _ _ h => PyProof.Rows.sub_int h
theorem op_mul {a b : Int} (hm : IntMulOk a b) : IntOp c .Mult a b (a * b) := fun _ _ _ _ _ _ h => PyProof.Rows.mul_int h hm
theorem op_floordiv {a b : Int} (hb : b ≠ 0) (hs : b.natAbs < 1073741824) : IntOp c .FloorDiv a b (a.fdiv b) := fun _ _ _ _ _ _ h => PyProof.Rows.floordiv_int hb h (.inl (PyProof.noPylong_small hs))
theorem op_mod {a b : Int} (hb : b ≠ 0) : IntOp c .Mod a b (a.fmod b) := fun _ _ _ _ _ _ h => PyProof.Rows.mod_int' hb h
theorem op_and {a b : Int} : IntOp c .BitAnd a b (Builtin.bitAnd a b) := fun _ _ _ _ _ _ h => PyProof.Rows.and_int h
theorem op_or {a b : Int} : IntOp c .BitOr a b (Builtin.bitOr a b) := fun _ _ _ _ _ _ h => PyProof.Rows.or_int h
theorem op_xor {a b : Int} : IntOp c .BitXor a b (Builtin.bitXor a b) := fun _ _ _ _ _ _ h => PyProof.Rows.xor_int h
theorem op_rshift {a b : Int} (hb : 0 ≤ b) : IntOp c .RShift a b (a.fdiv (2 ^ b.toNat)) := fun _ _ _ _ _ _ h => PyProof.Rows.rshift_int hb h
theorem op_lshift {a b : Int} (hb : 0 ≤ b) (hb2 : b ≤ 1000000) (ha : a.natAbs < 2 ^ 64) : IntOp c .LShift a b (a * 2 ^ b.toNat) := fun _ _ _ _ _ _ h => PyProof.Rows.lshift_int_small hb hb2 ha h

theorem ev_bin {l r : Expr} {op : Operator} {pos : Pos} {a b i : Int} (h1 : Ev c A env X ρ l (RI a)) (h2 : Ev c A env X ρ r (RI b)) (ho : IntOp c op a b i) : Ev c A env X ρ (.BinOp l op r pos) (RI i) := fun s Q E H h =>
  wpAny_BinOp (h1 s _ E H fun v s₁ k₁ ⟨t, e⟩ => h2 s₁ _ E (H.keeps k₁) fun v₂ s₂ k₂ ⟨u, e₂⟩ => by
    subst e e₂
    exact ho _ _ _ _ _ _ (h _ _ (keeps_trans (keeps_trans k₁ k₂) (keeps_toks s₂ _)) ⟨_, rfl⟩))

/-- a comparison of two values -/
def CmpIs (c : Cfg) (A : Around) (X : List Addr) (op : CmpOp) (r₁ r₂ : Rel) (b : Bool) : Prop :=
  ∀ (s : Shared) (v₁ v₂ : Value) (Q : Value → Shared → Prop) (E : Value → Shared → Prop), Bs c X s.heap → r₁.on (hide X s.heap) v₁ → r₂.on (hide X s.heap) v₂ → (∀ s', Keeps s s' → Q (.bool b) s') → wpAny c.M A (compareOp op v₁ v₂) Q E s
theorem cmp_lt {a b : Int} : CmpIs c A X .Lt (RI a) (RI b) (decide (a < b)) := fun s _ _ _ _ _ ⟨_, e⟩ ⟨_, e'⟩ h => by subst e e'; exact PyProof.Rows.lt_int (h s (keeps_refl s))
theorem cmp_gt {a b : Int} : CmpIs c A X .Gt (RI a) (RI b) (decide (b < a)) := fun s _ _ _ _ _ ⟨_, e⟩ ⟨_, e'⟩ h => by subst e e'; exact PyProof.Rows.gt_int (h s (keeps_refl s))
theorem cmp_eq {a b : Int} : CmpIs c A X .Eq (RI a) (RI b) (a == b) := fun s _ _ _ _ _ ⟨_, e⟩ ⟨_, e'⟩ h => by subst e e'; exact PyProof.Rows.eq_int (h s (keeps_refl s))
theorem cmp_ne {a b : Int} : CmpIs c A X .NotEq (RI a) (RI b) (a != b) := fun s _ _ _ _ _ ⟨_, e⟩ ⟨_, e'⟩ h => by subst e e'; exact PyProof.Rows.ne_int (h s (keeps_refl s))

theorem ev_cmp {l r : Expr} {op : CmpOp} {pos : Pos} {r₁ r₂ : Rel} {b : Bool} (h1 : Ev c A env X ρ l r₁) (h2 : Ev c A env X ρ r r₂) (ho : CmpIs c A X op r₁ r₂ b)
    (hm : behindInMarks op r = false := by with_unfolding_all rfl) : Ev c A env X ρ (.Compare l [op] [r] pos) (RB b) := fun s Q E H h =>
  wpAny_Compare1 (h1 s _ E H fun v s₁ k₁ e => h2 s₁ _ E (H.keeps k₁) fun v₂ s₂ k₂ e₂ =>
    ho s₂ v v₂ _ _ (H.base.le (keeps_hide (keeps_trans k₁ k₂))) (r₁.mono e (keeps_hide k₂)) e₂ fun s' k => h _ s' (keeps_trans (keeps_trans k₁ k₂) k) rfl) hm
theorem tr_cmp {l r : Expr} {op : CmpOp} {pos : Pos} {r₁ r₂ : Rel} {b : Bool} (h1 : Ev c A env X ρ l r₁) (h2 : Ev c A env X ρ r r₂) (ho : CmpIs c A X op r₁ r₂ b)
    (hm : behindInMarks op r = false := by with_unfolding_all rfl) : Tr c A env X ρ (.Compare l [op] [r] pos) b := fun s Q E H h =>
  wpAny_isTrue_Compare1 (h1 s _ E H fun v s₁ k₁ e => h2 s₁ _ E (H.keeps k₁) fun v₂ s₂ k₂ e₂ =>
    ho s₂ v v₂ _ _ (H.base.le (keeps_hide (keeps_trans k₁ k₂))) (r₁.mono e (keeps_hide k₂)) e₂ fun s' k => wpAny_truthy_bool (h s' (keeps_trans (keeps_trans k₁ k₂) k))) hm
theorem tr_not {e : Expr} {b : Bool} {pos : Pos} (h1 : Tr c A env X ρ e b) : Tr c A env X ρ (.UnaryOp .Not e pos) (!b) := fun s Q E H h => wpAny_isTrue_Not (h1 s _ E H h)
/-- a test that is a value: an int or a bool -/
theorem tr_int {e : Expr} {i : Int} (h1 : Ev c A env X ρ e (RI i)) (he : ∀ whole, isTrue e env whole = (do let v ← whole; standAt e.pos; holding [v] (truthy v)) := by intro _; rfl) : Tr c A env X ρ e (i != 0) := fun s Q E H h =>
  wpAny_isTrue_value (h1 s _ E H fun v s' k ⟨t, e⟩ => by subst e; exact PyProof.Rows.truthy_int (h s' k)) (he _)
theorem tr_bool {e : Expr} {b : Bool} (h1 : Ev c A env X ρ e (RB b)) (he : ∀ whole, isTrue e env whole = (do let v ← whole; standAt e.pos; holding [v] (truthy v)) := by intro _; rfl) : Tr c A env X ρ e b := fun s Q E H h =>
  wpAny_isTrue_value (h1 s _ E H fun v s' k e => by cases e; exact wpAny_truthy_bool (h s' k)) (he _)
theorem ev_ifexp {t b o : Expr} {k : Bool} {pos : Pos} {r : Rel} (h1 : Tr c A env X ρ t k) (h2 : k = true → Ev c A env X ρ b r) (h3 : k = false → Ev c A env X ρ o r) : Ev c A env X ρ (.IfExp t b o pos) r := fun s Q E H h => by
  refine wpAny_IfExp (h1 s _ E H fun s' k' => ?_)
  cases k with
  | true => exact h2 rfl s' Q E (H.keeps k') fun v s'' k'' => h v s'' (keeps_trans k' k'')
  | false => exact h3 rfl s' Q E (H.keeps k') fun v s'' k'' => h v s'' (keeps_trans k' k'')

theorem evs_nil : Evs c A env X ρ [] [] := fun s _ _ _ _ h => wpAny_items_nil (h [] s (keeps_refl s) .nil)
theorem evs_cons {e : Expr} {es : List Expr} {r : Rel} {rs : List Rel} (h1 : Ev c A env X ρ e r) (h2 : Evs c A env X ρ es rs) (he : starEach (e :: es) env = (false, eval e env) :: starEach es env := by rfl) :
    Evs c A env X ρ (e :: es) (r :: rs) := fun s pos Q E H h =>
  wpAny_items_cons (h1 s _ E H fun v s₁ k₁ e => h2 s₁ pos _ E (H.keeps k₁) fun vs s₂ k₂ e₂ => h _ s₂ (keeps_trans k₁ k₂) (.cons (r.mono e (keeps_hide k₂)) e₂)) he

theorem ev_tuple {es : List Expr} {rs : List Rel} {k : Nat} {pos : Pos} (h1 : Evs c A env X ρ es rs) (hl : rs.length ≤ 1000) : Ev c A env X ρ (.Tuple es k pos) (RT rs) := fun s Q E H h =>
  wpAny_Tuple (h1 s pos _ E H fun vs s₁ k₁ e₁ => ⟨by rw [← e₁.length, sizeLine_eq]; omega,
    h _ _ (keeps_trans k₁ (keeps_push s₁ _)) ⟨_, vs, 0, rfl, hide_of (Heap.get?_push_size _ rfl) (H.keeps k₁).fresh, e₁.mono (keeps_hide (keeps_push s₁ _))⟩⟩)
theorem ev_list {es : List Expr} {rs : List Rel} {pos : Pos} (h1 : Evs c A env X ρ es rs) (hl : rs.length ≤ 1000) : Ev c A env X ρ (.List es pos) (RL rs) := fun s Q E H h =>
  wpAny_List (h1 s pos _ E H fun vs s₁ k₁ e₁ => ⟨by rw [← e₁.length, sizeLine_eq]; omega,
    h _ _ (keeps_trans k₁ (keeps_push s₁ _)) ⟨_, vs, 0, rfl, hide_of (Heap.get?_push_size _ rfl) (H.keeps k₁).fresh, e₁.mono (keeps_hide (keeps_push s₁ _))⟩⟩)
end
end Mine
end

section
namespace Mine
open PySem PySem.W PySem.Calls PyProof.Rows

/-! ## A function's frame -/
structure InF (c : Cfg) (sB : Shared) (env : Env) (O X : List Addr) (ρ : Ctxt) (s : Shared) : Prop where
  here : Here c env X ρ s
  same : ∃ h tk, s = { sB with heap := h, toks := tk }
  keep : ∀ b o, b ≠ env.locals → (∀ n, env.cells.lookup n ≠ some b) → b ∉ O → sB.heap.get? b = some o → s.heap.get? b = some o
  ns : ∃ m, s.heap.Ns env.locals m
  cell : ∀ x, env.kindOf x = some .cell → ∃ a v, env.cells.lookup x = some a ∧ s.heap.IsCell a v
  apart : env.cells.Pairwise fun x y => x.2 ≠ y.2
  off : ∀ n a, env.cells.lookup n = some a → a ≠ env.locals
  hidL : env.locals ∈ X
  hidC : ∀ n a, env.cells.lookup n = some a → a ∈ X
  hidO : ∀ b ∈ O, b ∈ X

section
variable {c : Cfg} {A : Around} {env : Env} {O X : List Addr} {ρ : Ctxt} {sB s : Shared} {Q : Unit → Shared → Prop} {E : Value → Shared → Prop}

theorem InF.keeps {s' : Shared} (F : InF c sB env O X ρ s) (k : Keeps s s') : InF c sB env O X ρ s' := by
  have g := fun b o (e : s.heap.get? b = some o) => keeps_get k e
  refine ⟨F.here.keeps k, ?_, fun b o h1 h2 h3 e => g _ _ (F.keep b o h1 h2 h3 e), let ⟨m, n⟩ := F.ns; ⟨m, n.keeps g⟩, fun x hx => let ⟨a, v, h1, h2⟩ := F.cell x hx; ⟨a, v, h1, h2.keeps g⟩, F.apart, F.off, F.hidL, F.hidC, F.hidO⟩
  obtain ⟨h, tk, rfl⟩ := F.same
  obtain ⟨h', tk', rfl, _⟩ := k
  exact ⟨h', tk', rfl⟩
theorem InF.self (F : InF c sB env O X ρ s) : InF c s env O X ρ s :=
  ⟨F.here, ⟨s.heap, s.toks, rfl⟩, fun _ _ _ _ _ e => e, F.ns, F.cell, F.apart, F.off, F.hidL, F.hidC, F.hidO⟩
theorem InF.trans {s' : Shared} {ρ' : Ctxt} (F : InF c sB env O X ρ s) (F' : InF c s env O X ρ' s') : InF c sB env O X ρ' s' := by
  refine ⟨F'.here, ?_, fun b o h1 h2 h3 e => F'.keep b o h1 h2 h3 (F.keep b o h1 h2 h3 e), F'.ns, F'.cell, F'.apart, F'.off, F'.hidL, F'.hidC, F'.hidO⟩
  obtain ⟨h, tk, rfl⟩ := F.same
  obtain ⟨h', tk', rfl⟩ := F'.same
  exact ⟨h', tk', rfl⟩
/-- fewer names are known -/
def Sub (ρ' ρ : Ctxt) : Prop := ∀ x r, ρ'.lookup x = some r → ρ.lookup x = some r
theorem Here.weak {ρ' : Ctxt} (H : Here c env X ρ s) (h : Sub ρ' ρ) : Here c env X ρ' s := ⟨H.base, H.xok, H.kind, H.glob, H.blt, fun x r e => H.vars x r (h x r e)⟩
theorem InF.weak {ρ' : Ctxt} (F : InF c sB env O X ρ s) (h : Sub ρ' ρ) : InF c sB env O X ρ' s := ⟨F.here.weak h, F.same, F.keep, F.ns, F.cell, F.apart, F.off, F.hidL, F.hidC, F.hidO⟩
theorem sub_nil (ρ : Ctxt) : Sub [] ρ := fun _ _ e => by cases e
theorem sub_cons {ρ ρ' : Ctxt} {x : Str} {r : Rel} (h : ρ.lookup x = some r) (h' : Sub ρ' ρ) : Sub ((x, r) :: ρ') ρ := fun y q e => by
  rw [List.lookup_cons] at e
  cases hb : y == x with
  | true => rw [hb] at e; cases e; rw [eq_of_beq hb]; exact h
  | false => rw [hb] at e; exact h' y q e
theorem sub_refl (ρ : Ctxt) : Sub ρ ρ := fun _ _ e => e

theorem InF.stored {x : Str} {r : Rel} {v : Value} {h' : Heap} {tk : Nat} {m : Str → Option Value} (F : InF c sB env O X ρ s) (hk : env.kindOf x = some .local) (n : s.heap.Ns env.locals m)
    (hn : h'.Ns env.locals (fun y => if y = x then some v else m y)) (kp : ∀ b o, b ≠ env.locals → s.heap.get? b = some o → h'.get? b = some o) (hr : r.on (hide X h') v) :
    InF c sB env O X ((x, r) :: ρ) { s with heap := h', toks := tk } := by
  have vle : View.le (hide X s.heap) (hide X h') := hide_le fun b o hb e => kp b o (fun q => hb (q ▸ F.hidL)) e
  have cellK : ∀ a u, a ≠ env.locals → s.heap.IsCell a u → h'.IsCell a u := fun a u ha ⟨o, e1, e2⟩ => ⟨o, kp a o ha e1, e2⟩
  refine ⟨⟨F.here.base.le vle, fun b hb => ?_, F.here.kind, F.here.glob, F.here.blt, fun y q e => ?_⟩, ?_, fun b o h1 h2 h3 e => kp b o h1 (F.keep b o h1 h2 h3 e), ⟨_, hn⟩, fun y hy => ?_, F.apart, F.off, F.hidL, F.hidC, F.hidO⟩
  · by_cases hb' : b = env.locals
    · subst hb'; obtain ⟨o, _, _, ho, _⟩ := hn; exact ⟨o, ho⟩
    · obtain ⟨o, e⟩ := F.here.xok b hb; exact ⟨o, kp b o hb' e⟩
  · rw [List.lookup_cons] at e
    cases hb : y == x with
    | true =>
      rw [hb] at e; cases e
      have hy := eq_of_beq hb; subst hy
      exact ⟨v, .inl ⟨hk, _, hn, by simp⟩, hr⟩
    | false =>
      rw [hb] at e
      have hne : y ≠ x := by simpa using hb
      obtain ⟨u, hu, hq⟩ := F.here.vars y q e
      refine ⟨u, ?_, q.mono hq vle⟩
      rcases hu with ⟨k1, m1, n1, e1⟩ | ⟨k1, a, e1, e2⟩
      · exact .inl ⟨k1, _, hn, by rw [if_neg hne, n.agree n1]; exact e1⟩
      · exact .inr ⟨k1, a, e1, cellK _ _ (F.off _ _ e1) e2⟩
  · obtain ⟨h1, tk, rfl⟩ := F.same
    exact ⟨h', _, rfl⟩
  · obtain ⟨a, u, e1, e2⟩ := F.cell y hy
    exact ⟨a, u, e1, cellK _ _ (F.off _ _ e1) e2⟩

theorem store_ {x : Str} {r : Rel} {v : Value} (F : InF c sB env O X ρ s) (hk : env.kindOf x = some .local ∨ env.kindOf x = some .cell) (hr : r.on (hide X s.heap) v)
    (h : ∀ s', InF c sB env O X ((x, r) :: ρ) s' → Q () s') : wpAny c.M A (storeName env x v) Q E s := by
  rcases hk with hk | hk
  · obtain ⟨m, n⟩ := F.ns
    refine wpAny_storeName_local hk n (fun h' hn hs => h _ ?_) (by rw [F.here.kind]; rfl)
    have kp : ∀ b o, b ≠ env.locals → s.heap.get? b = some o → h'.get? b = some o := fun b o hb e => hs.extBut b o hb e
    exact F.stored hk n hn kp (r.mono hr (hide_le fun b o hb e => kp b o (fun q => hb (q ▸ F.hidL)) e))
  · obtain ⟨a, u, e1, e2⟩ := F.cell x hk
    have hne := F.off _ _ e1
    refine wpAny_storeName_cell F.here.kind hk e1 e2 (fun h' hc hs => h _ ?_)
    have kp : ∀ b o, b ≠ a → s.heap.get? b = some o → h'.get? b = some o := fun b o hb e => hs.extBut b o hb e
    have vle : View.le (hide X s.heap) (hide X h') := hide_le fun b o hb e => kp b o (fun q => hb (q ▸ F.hidC _ _ e1)) e
    refine ⟨⟨F.here.base.le vle, fun b hb => ?_, F.here.kind, F.here.glob, F.here.blt, fun y q e => ?_⟩, ?_, fun b o h1 h2 h3 e => kp b o (fun q => h2 _ (q ▸ e1)) (F.keep b o h1 h2 h3 e), ?_, fun y hy => ?_, F.apart, F.off, F.hidL, F.hidC, F.hidO⟩
    · by_cases hb' : b = a
      · subst hb'; obtain ⟨o, ho, _⟩ := hc; exact ⟨o, ho⟩
      · obtain ⟨o, e⟩ := F.here.xok b hb; exact ⟨o, kp b o hb' e⟩
    · rw [List.lookup_cons] at e
      cases hb : y == x with
      | true =>
        rw [hb] at e; cases e
        have hy := eq_of_beq hb; subst hy
        exact ⟨v, .inr ⟨hk, _, e1, hc⟩, r.mono hr vle⟩
      | false =>
        rw [hb] at e
        have hne' : y ≠ x := by simpa using hb
        obtain ⟨u, hu, hq⟩ := F.here.vars y q e
        refine ⟨u, ?_, q.mono hq vle⟩
        rcases hu with ⟨k1, m1, n1, e3⟩ | ⟨k1, a', e3, e4⟩
        · exact .inl ⟨k1, _, n1.sameBut hs (Ne.symm hne), e3⟩
        · refine .inr ⟨k1, a', e3, e4.sameBut hs fun q => hne' ?_⟩
          subst q
          exact name_of_addr F.apart (mem_of_lookup e3) (mem_of_lookup e1)
    · obtain ⟨h1, tk, rfl⟩ := F.same
      exact ⟨h', _, rfl⟩
    · obtain ⟨m, n⟩ := F.ns
      exact ⟨m, n.sameBut hs (Ne.symm hne)⟩
    · obtain ⟨a', u, e3, e4⟩ := F.cell y hy
      by_cases hq : a' = a
      · subst hq; exact ⟨a', _, e3, hc⟩
      · exact ⟨a', u, e3, e4.sameBut hs hq⟩

/-! ## Statements -/
variable {Qf : Flow → Shared → Prop} {rest : List Stmt}
theorem ex_assign {x : Str} {px pos : Pos} {e : Expr} {r : Rel} (F : InF c sB env O X ρ s) (he : Ev c A env X ρ e r) (hk : env.kindOf x = some .local ∨ env.kindOf x = some .cell)
    (h : ∀ s', InF c sB env O X ((x, r) :: ρ) s' → wpAny c.M A (execs rest env) Qf E s')
    (hs : swapsWith e (some (.Name x px)) pos.line env = pure false := by rfl) : wpAny c.M A (execs (.Assign [.Name x px] e pos :: rest) env) Qf E s :=
  wpAny_execs_cons (wpAny_Assign_Name (he s _ E F.here fun v s' k hr => store_ (F.keeps k) hk hr fun s'' F' => h s'' F') hs)
theorem ex_aug {x : Str} {px pos : Pos} {e : Expr} {a b : Int} (F : InF c sB env O X ρ s) (hx : ρ.lookup x = some (RI a)) (he : Ev c A env X ρ e (RI b)) (hk : env.kindOf x = some .local ∨ env.kindOf x = some .cell)
    (h : ∀ s', InF c sB env O X ((x, RI (a + b)) :: ρ) s' → wpAny c.M A (execs rest env) Qf E s') : wpAny c.M A (execs (.AugAssign (.Name x px) .Add e pos :: rest) env) Qf E s := by
  refine wpAny_execs_cons (wpAny_AugAssign_Name ?_)
  obtain ⟨v, hv, t, rfl⟩ := F.here.vars x _ hx
  have go : wpAny c.M A (eval e env) (fun v s₂ => wpAny c.M A (inplaceOp .Add (.int a t) v) (fun r s₃ => wpAny c.M A (storeName env x r) (fun _ s' => match Flow.next with | .next => wpAny c.M A (execs rest env) Qf E s' | f => Qf f s') E s₃) E s₂) E s :=
    he s _ E F.here fun v s' k ⟨u, q⟩ => by
      subst q
      exact wpAny_iadd_int (store_ (r := RI (a + b)) (F.keeps (keeps_trans k (keeps_toks s' _))) hk ⟨_, rfl⟩ fun s'' F' => h s'' F')
  rcases hv with ⟨k, m, n, q⟩ | ⟨k, a', n, q⟩
  · exact wpAny_loadName_local F.here.kind k n q go
  · exact wpAny_loadName_cell F.here.kind k n q go
theorem ex_return {e : Expr} {pos : Pos} {r : Rel} (F : InF c sB env O X ρ s) (he : Ev c A env X ρ e r) (h : ∀ v s', InF c sB env O X ρ s' → r.on (hide X s'.heap) v → Qf (.ret v) s') :
    wpAny c.M A (execs (.Return (some e) pos :: rest) env) Qf E s :=
  wpAny_execs_cons (wpAny_Return_some (he s _ E F.here fun v s' k hr => h v s' (F.keeps k) hr))
theorem ex_if {t : Expr} {b : Bool} {body orelse : List Stmt} {pos : Pos} (F : InF c sB env O X ρ s) (ht : Tr c A env X ρ t b)
    (h1 : b = true → ∀ s', InF c sB env O X ρ s' → wpAny c.M A (execs body env) (fun f s'' => match f with | .next => wpAny c.M A (execs rest env) Qf E s'' | f => Qf f s'') E s')
    (h2 : b = false → ∀ s', InF c sB env O X ρ s' → wpAny c.M A (execs orelse env) (fun f s'' => match f with | .next => wpAny c.M A (execs rest env) Qf E s'' | f => Qf f s'') E s') :
    wpAny c.M A (execs (.If t body orelse pos :: rest) env) Qf E s := by
  refine wpAny_execs_cons (wpAny_If (ht s _ E F.here fun s' k => ?_))
  cases b with
  | true => exact h1 rfl s' (F.keeps k)
  | false => exact h2 rfl s' (F.keeps k)
theorem ex_nil (h : Qf .next s) : wpAny c.M A (execs [] env) Qf E s := wpAny_execs_nil h

/-! ## Calls -/
structure AOk (k : Nat) (A : Around) : Prop where
  handled : A.handled = none
  depth : A.depth + k < recursionLimit
  units : A.units + 20 * k + 200 < cLine
theorem AOk.deeper {k : Nat} {A : Around} (h : AOk (k + 1) A) (env : Env) : AOk k (A.deeper env) :=
  ⟨h.handled, by have := h.depth; show A.depth + 1 + k < _; omega, by have := h.units; show A.units + 3 + 20 * k + 200 < _; omega⟩
theorem AOk.less {k j : Nat} {A : Around} (h : AOk k A) (hj : j ≤ k) : AOk j A := ⟨h.handled, by have := h.depth; omega, by have := h.units; omega⟩
theorem AOk.in1 {k : Nat} {A : Around} (h : AOk (k + 1) A) : AOk k A.in1 := ⟨h.handled, by have := h.depth; show A.depth + k < _; omega, by have := h.units; show A.units + 1 + 20 * k + 200 < _; omega⟩

/-- what a callable makes of its arguments -/
def CallIs (c : Cfg) (k : Nat) (f : Value) (rs : List Rel) (r : Rel) : Prop :=
  ∀ (A : Around) (X : List Addr) (s : Shared) (vs : List Value) (Q : Value → Shared → Prop) (E : Value → Shared → Prop), AOk k A → Bs c X s.heap → (∀ b ∈ X, ∃ o, s.heap.get? b = some o) → AllOn (hide X s.heap) rs vs →
    (∀ v s', Keeps s s' → r.on (hide X s'.heap) v → Q v s') → wpAny c.M A (call f vs) Q E s
/-- a def of the text's, by its name -/
def Fun (c : Cfg) (k : Nat) (x : Str) (rs : List Rel) (r : Rel) : Prop := ∀ a, c.mg x = some (.ref a) → CallIs c k (.ref a) rs r

theorem cells_some {names : List (Str × NameKind)} {x : Str} : ∀ {n : Nat} {acc : List (Str × Addr)}, ((names.lookup x = some .cell) ∨ (acc.lookup x).isSome = true) → ((cellsFrom n names acc).lookup x).isSome = true := by
  induction names with
  | nil =>
    intro n acc h
    rcases h with h | h
    · cases h
    · exact h
  | cons p r ih =>
    obtain ⟨y, kd⟩ := p
    intro n acc h
    unfold cellsFrom
    split
    · rename_i hk
      cases hb : x == y with
      | true => exact ih (.inr (by rw [List.lookup_cons, hb]; rfl))
      | false =>
        rcases h with h | h
        · rw [List.lookup_cons, hb] at h
          exact ih (.inl h)
        · exact ih (.inr (by rw [List.lookup_cons, hb]; exact h))
    · rename_i hk
      refine ih ?_
      rcases h with h | h
      · rw [List.lookup_cons] at h
        cases hb : x == y with
        | true => rw [hb] at h; cases h; simp at hk
        | false => rw [hb] at h; exact .inl h
      · exact .inr h

theorem bindL_get {kindOf : Str → Option NameKind} : ∀ {xs : List Str} {vs : List Value} {m : Str → Option Value} {x : Str}, kindOf x = some .local →
    bindL kindOf (xs.zip vs) m x = (((xs.zip vs).reverse.lookup x).or (m x))
  | [], _, m, x, _ => by simp [bindL]
  | _ :: _, [], m, x, _ => by simp [bindL]
  | y :: ys, v :: vs, m, x, hx => by
    rw [List.zip_cons_cons, bindL, bindL_get hx, List.reverse_cons, List.lookup_append]
    cases h1 : (ys.zip vs).reverse.lookup x with
    | some u => simp
    | none =>
      simp only [Option.none_or, Option.or_assoc]
      by_cases hy : x = y
      · subst hy; simp [hx]
      · have hb : (x == y) = false := by simpa using hy
        split <;> simp [List.lookup_cons, hy, hb]
theorem bindC_get {kindOf : Str → Option NameKind} : ∀ {xs : List Str} {vs : List Value} {m : Str → Option Value} {x : Str}, kindOf x = some .cell →
    bindC kindOf (xs.zip vs) m x = (((xs.zip vs).reverse.lookup x).or (m x))
  | [], _, m, x, _ => by simp [bindC]
  | _ :: _, [], m, x, _ => by simp [bindC]
  | y :: ys, v :: vs, m, x, hx => by
    rw [List.zip_cons_cons, bindC, bindC_get hx, List.reverse_cons, List.lookup_append]
    cases h1 : (ys.zip vs).reverse.lookup x with
    | some u => simp
    | none =>
      simp only [Option.none_or, Option.or_assoc]
      by_cases hy : x = y
      · subst hy
        rw [if_neg (by rw [hx]; decide)]
        simp
      · have hb : (x == y) = false := by simpa using hy
        split <;> simp [List.lookup_cons, hy, hb]

/-- the cells' places -/
def cellAddrs (env : Env) : List Addr := (env.cells.filter fun p => env.cells.lookup p.1 == some p.2).map (·.2)
/-- the parameters as they are bound -/
def bound (xs : List Str) (rs : List Rel) : Ctxt := (xs.zip rs).reverse
theorem bound_get {g : View} : ∀ {xs : List Str} {rs : List Rel} {vs : List Value} {x : Str} {r : Rel}, AllOn g rs vs → (bound xs rs).lookup x = some r → ∃ v, ((xs.zip vs).reverse.lookup x) = some v ∧ r.on g v
  | [], _, _, x, r, _, e => by simp [bound] at e
  | y :: ys, [], _, x, r, _, e => by simp [bound] at e
  | y :: ys, q :: rs, vs, x, r, hA, e => by
    unfold AllOn at hA
    cases hA with
    | @cons _ v _ vs h1 h2 =>
    rw [bound, List.zip_cons_cons, List.reverse_cons, List.lookup_append] at e
    rw [List.zip_cons_cons, List.reverse_cons, List.lookup_append]
    cases h3 : ((ys.zip rs).reverse.lookup x) with
    | some r' =>
      rw [h3] at e
      simp at e
      subst e
      obtain ⟨u, e1, e2⟩ := bound_get (xs := ys) h2 h3
      exact ⟨u, by rw [e1]; rfl, e2⟩
    | none =>
      rw [h3, Option.none_or, List.lookup_cons] at e
      have hn : (ys.zip vs).reverse.lookup x = none := by
        have hl : rs.length = vs.length := Paired.length h2
        rw [List.lookup_eq_none_iff] at h3 ⊢
        intro p hp
        have hp' : p.1 ∈ (ys.zip rs).map (·.1) := by
          obtain ⟨i, hi, rfl⟩ := List.getElem_of_mem (List.mem_reverse.mp hp)
          have hi' : i < (ys.zip rs).length := by rw [List.length_zip] at hi ⊢; omega
          refine List.mem_map.mpr ⟨(ys.zip rs)[i], List.getElem_mem hi', ?_⟩
          simp
        obtain ⟨q', hq, e⟩ := List.mem_map.mp hp'
        have := h3 q' (List.mem_reverse.mpr hq)
        rw [← e]; exact this
      rw [hn, Option.none_or, List.lookup_cons]
      cases hb : x == y with
      | true => rw [hb] at e; cases e; exact ⟨v, rfl, h1⟩
      | false => rw [hb] at e; cases e

/-- a def's or a method's function object -/
def FnAt (h : Heap) (a : Addr) (d : DefRec) (q : Str) : Prop :=
  ∃ o pm code doc, h.get? a = some o ∧ o.data = .func { docDef d.name d.params d.body d.scope pm code doc with qualname := q } ∧ h.CodeRec code q
theorem FnAt.keeps {h h' : Heap} {a : Addr} {d : DefRec} {q : Str} (x : FnAt h a d q) (hk : ∀ b o, h.get? b = some o → h'.get? b = some o) : FnAt h' a d q :=
  let ⟨o, pm, code, doc, e1, e2, e3⟩ := x; ⟨o, pm, code, doc, hk _ _ e1, e2, e3.keeps hk⟩

/-- the way into a body -/
theorem enter_ {d : DefRec} {q : Str} {a : Addr} {rs : List Rel} {k : Nat} (xs : List Str) (hfn : FnAt c.h0 a d q)
    (hbind : ∀ (pm cd doc : Value) (vals : List Value), vals.length = rs.length → bindArgs { docDef d.name d.params d.body d.scope pm cd doc with qualname := q } ⟨vals, []⟩ = pure (xs.zip vals))
    (hkind : (xs.all fun x => d.scope.names.lookup x == some .local || d.scope.names.lookup x == some .cell) = true)
    {A : Around} {X : List Addr} {s : Shared} {vs : List Value} {R : Result → Shared → Prop} (hA : AOk (k + 1) A) (hB : Bs c X s.heap) (hX : ∀ b ∈ X, ∃ o, s.heap.get? b = some o) (hvs : AllOn (hide X s.heap) rs vs)
    (h : ∀ (env : Env) (X' : List Addr) (s₁ : Shared), AOk k (A.deeper env) → env.scope = d.scope → (∀ b ∈ X, b ∈ X') → s.heap.get? env.locals = none → (∀ n b, env.cells.lookup n = some b → s.heap.get? b = none) → s.heap.objs.size ≤ env.locals → Keeps s s₁ → InF c s₁ env [] X' (bound xs rs) s₁ →
      wpAny c.M (A.deeper env) (execs d.body env) (fun f s' => R (.ok (.ret (match f with | .ret v => v | _ => .none))) s') (fun _ _ => False) s₁)
    (hco : d.scope.isCoroutine = false := by rfl) (hgen : d.scope.isGenerator = false := by rfl) (hk : d.scope.kind = .function := by rfl) : codeAny c.M A (.call (.ref a) ⟨vs, []⟩) R s := by
  obtain ⟨o, pm, code, doc, e2, e3, e4⟩ := hfn.keeps fun b o e => (hide_get (hB b o e)).1
  have hfresh : ∀ b, s.heap.objs.size ≤ b → s.heap.get? b = none := fun b hb => by
    cases e : s.heap.get? b with
    | none => rfl
    | some o' => exact absurd (Heap.lt_size e) (Nat.not_lt.mpr hb)
  refine codeAny_call_cells (fd := { docDef d.name d.params d.body d.scope pm code doc with qualname := q }) (by have := hA.depth; omega) e2 e3 hB.at.nolimit e4 rfl (hbind pm code doc vs hvs.length.symm) rfl ?_ ?_ hco hgen hk
  · intro p hp
    have hx := List.all_eq_true.mp hkind p.1 (List.of_mem_zip hp).1
    rcases Bool.or_eq_true_iff.mp hx with hx | hx
    · exact .inl (eq_of_beq hx)
    · exact .inr ⟨eq_of_beq hx, cells_some (.inl (eq_of_beq hx))⟩
  · intro s₁ x
    generalize henv : callEnvC ({ docDef d.name d.params d.body d.scope pm code doc with qualname := q }) s.heap.objs.size a = env at x ⊢
    have hsc : env.scope = d.scope := by rw [← henv]; rfl
    have hL : env.locals = s.heap.objs.size := by rw [← henv]; rfl
    have hcl : env.cells = cellsFrom (s.heap.objs.size + 1) d.scope.names [] := by rw [← henv]; rfl
    have hgl : env.globals = mainGlobals := by rw [← henv]; rfl
    have hbl : env.builtins = builtinsNs := by rw [← henv]; rfl
    have hg1 : ∀ b o, s.heap.get? b = some o → s₁.heap.get? b = some o := x.toInCall.keep
    have hle : View.le (hide X s.heap) (hide (env.locals :: cellAddrs env ++ X) s₁.heap) := hide_new (fun b o _ e => hg1 b o e) fun b hb => by
      rcases List.mem_append.mp hb with hb | hb
      · refine .inr (hfresh b ?_)
        rcases List.mem_cons.mp hb with rfl | hb
        · exact Nat.le_of_eq hL.symm
        · obtain ⟨p, hp, rfl⟩ := List.mem_map.mp hb
          have := x.above p.1 p.2 (List.mem_filter.mp hp).1
          rw [hL] at this
          exact Nat.le_of_lt this
      · exact .inl hb
    have hkd : env.scope.kind = .function := by rw [hsc]; exact hk
    have cellAt : ∀ y, env.kindOf y = some .cell → ∃ a, env.cells.lookup y = some a := fun y hy => by
      refine Option.isSome_iff_exists.mp ?_
      rw [hcl]
      refine cells_some (.inl ?_)
      rw [← hsc]; exact hy
    have F : InF c s₁ env [] (env.locals :: cellAddrs env ++ X) (bound xs rs) s₁ := by
      refine ⟨⟨hB.le hle, fun b hb => ?_, hkd, hgl, hbl, fun y q' e => ?_⟩, ⟨s₁.heap, s₁.toks, rfl⟩, fun _ _ _ _ _ e => e, ⟨_, x.toInCall.ns⟩, fun y hy => ?_, x.apart, fun n b hb => Nat.ne_of_gt (x.above n b (mem_of_lookup hb)), List.mem_append_left _ (List.mem_cons_self ..),
        fun n b hb => List.mem_append_left _ (List.mem_cons_of_mem _ (List.mem_map.mpr ⟨(n, b), List.mem_filter.mpr ⟨mem_of_lookup hb, by rw [hb]; exact beq_self_eq_true _⟩, rfl⟩)), fun _ h => nomatch h⟩
      · rcases List.mem_append.mp hb with hb | hb
        · rcases List.mem_cons.mp hb with rfl | hb
          · obtain ⟨o, _, _, ho, _⟩ := x.toInCall.ns; exact ⟨o, ho⟩
          · obtain ⟨p, hp, rfl⟩ := List.mem_map.mp hb
            have hl := (List.mem_filter.mp hp).2
            obtain ⟨o, ho, _⟩ := x.cell p.1 p.2 (eq_of_beq hl)
            exact ⟨o, ho⟩
        · obtain ⟨o, ho⟩ := hX b hb; exact ⟨o, hg1 b o ho⟩
      · obtain ⟨v, e5, e6⟩ := bound_get hvs e
        have hy : y ∈ xs := by
          have := mem_of_lookup e
          exact (List.of_mem_zip (List.mem_reverse.mp this)).1
        refine ⟨v, ?_, q'.mono e6 hle⟩
        have hx := List.all_eq_true.mp hkind y hy
        rcases Bool.or_eq_true_iff.mp hx with hx | hx
        · have hky : env.kindOf y = some .local := by unfold Env.kindOf; rw [hsc]; exact eq_of_beq hx
          refine .inl ⟨hky, _, x.toInCall.ns, ?_⟩
          rw [bindL_get hky, e5]; rfl
        · have hky : env.kindOf y = some .cell := by unfold Env.kindOf; rw [hsc]; exact eq_of_beq hx
          obtain ⟨b, hb⟩ := cellAt y hky
          refine .inr ⟨hky, b, hb, ?_⟩
          have := x.cell y b hb
          rw [bindC_get hky, e5] at this; exact this
      · obtain ⟨b, hb⟩ := cellAt y hy
        exact ⟨b, _, hb, x.cell y b hb⟩
    refine wpAny_mono (h env _ s₁ (hA.deeper env) hsc (fun b hb => List.mem_append_right _ hb) (by rw [hL]; exact hfresh _ (Nat.le_refl _)) (fun n b hn => ?_) (Nat.le_of_eq hL.symm) ?_ F) (fun _ _ x => x) fun _ _ f => f.elim
    · have h3 := x.above n b (mem_of_lookup hn)
      rw [hL] at h3
      exact hfresh b (Nat.le_of_lt h3)
    · obtain ⟨h1, t1, es1⟩ := x.toInCall.same
      exact ⟨h1, t1, es1, fun b o e => by have := hg1 b o e; rw [es1] at this; exact this⟩

/-- a call, by the body of what is called -/
theorem meth_intro {d : DefRec} {q : Str} {a : Addr} {rs : List Rel} {r : Rel} {k : Nat} (xs : List Str) (hfn : FnAt c.h0 a d q)
    (hbind : ∀ (pm cd doc : Value) (vals : List Value), vals.length = rs.length → bindArgs { docDef d.name d.params d.body d.scope pm cd doc with qualname := q } ⟨vals, []⟩ = pure (xs.zip vals))
    (hkind : (xs.all fun x => d.scope.names.lookup x == some .local || d.scope.names.lookup x == some .cell) = true)
    (h : ∀ (A : Around) (env : Env) (X : List Addr) (s : Shared) (Q : Flow → Shared → Prop) (E : Value → Shared → Prop), AOk k A → env.scope = d.scope → InF c s env [] X (bound xs rs) s →
      (∀ v s', InF c s env [] X [] s' → r.on (hide X s'.heap) v → Q (.ret v) s') → wpAny c.M A (execs d.body env) Q E s)
    (hco : d.scope.isCoroutine = false := by rfl) (hgen : d.scope.isGenerator = false := by rfl) (hk : d.scope.kind = .function := by rfl) : CallIs c (k + 1) (.ref a) rs r := by
  intro A X s vs Q E hA hB hX hvs hQ
  refine wpAny_call (enter_ xs hfn hbind hkind hA hB hX hvs (fun env X' s₁ hA' hsc hXX hLn hCn _ k₁ F => ?_) hco hgen hk)
  refine wpAny_mono (h (A.deeper env) env X' s₁ (fun f s' => ∃ v, f = .ret v ∧ Q v s') (fun _ _ => False) hA' hsc F fun v s' F' hr => ⟨v, rfl, hQ v s' ?_ (r.mono hr (hide_sub hXX))⟩) (fun f s' hf => ?_) fun _ _ f => f
  · obtain ⟨h1, t1, rfl, g1⟩ := k₁
    obtain ⟨h2, t2, es2⟩ := F'.same
    refine ⟨h2, t2, es2, fun b o e => ?_⟩
    have := F'.keep b o (fun q => by rw [q, hLn] at e; cases e) (fun n hn => by rw [hCn n b hn] at e; cases e) (fun h => nomatch h) (g1 b o e)
    rw [es2] at this; exact this
  · obtain ⟨v, rfl, hq⟩ := hf
    exact hq

/-- a def's call, by its body -/
theorem fun_intro {d : DefRec} {rs : List Rel} {r : Rel} {k : Nat} (xs : List Str) (hmem : d ∈ c.fns)
    (hbind : ∀ (pm cd doc : Value) (vals : List Value), vals.length = rs.length → bindArgs { docDef d.name d.params d.body d.scope pm cd doc with qualname := d.name } ⟨vals, []⟩ = pure (xs.zip vals))
    (hkind : (xs.all fun x => d.scope.names.lookup x == some .local || d.scope.names.lookup x == some .cell) = true)
    (h : ∀ (A : Around) (env : Env) (X : List Addr) (s : Shared) (Q : Flow → Shared → Prop) (E : Value → Shared → Prop), AOk k A → env.scope = d.scope → InF c s env [] X (bound xs rs) s →
      (∀ v s', InF c s env [] X [] s' → r.on (hide X s'.heap) v → Q (.ret v) s') → wpAny c.M A (execs d.body env) Q E s)
    (hco : d.scope.isCoroutine = false := by rfl) (hgen : d.scope.isGenerator = false := by rfl) (hk : d.scope.kind = .function := by rfl) : Fun c (k + 1) d.name rs r := by
  intro a ha
  obtain ⟨a', o, pm, code, doc, e1, e2, e3, e4⟩ := c.ground.fn d hmem
  rw [ha] at e1; cases e1
  exact meth_intro xs ⟨o, pm, code, doc, e2, e3, e4⟩ hbind hkind h hco hgen hk

/-- the call of a def in an expression -/
theorem ev_call {x : Str} {p pos : Pos} {e : Expr} {es : List Expr} {rs : List Rel} {r : Rel} {k : Nat} {d : DefRec} (hmem : d ∈ c.fns) (hd : d.name = x) (hf : Fun c k x rs r) (hA : AOk k A) (h1 : Evs c A env X ρ (e :: es) rs)
    (hk : env.kindOf x = some .globalImplicit) (hn : (x == ("__debug__" : Str)) = false := by rfl) (he : starEach (e :: es) env = (false, eval e env) :: starEach es env := by rfl) :
    Ev c A env X ρ (.Call (.Name x p) (e :: es) [] pos) r := by
  intro s Q E H h
  obtain ⟨a, o, pm, code, doc, e1, e2, e3, e4⟩ := H.base.at.fn d hmem
  rw [hd] at e1
  show wpAny c.M A (do callWith pos (← eval (.Name x p) env) [] (backTo pos (starEach (e :: es) env)) (backToKw pos (keywordEach [] env))) Q E s
  refine wpAny_bind (Calls.Name_function_global H.kind hk (Calls.loadGlobal_global (by rw [H.glob]; exact H.base.at.g) e1 ?_) hn)
  refine callWith_function (o := o) (fd := docDef d.name d.params d.body d.scope pm code doc) ?_
  have h2 := h1 s pos (fun vs s' => (s'.heap.get? a = some o ∧ o.data = .func (docDef d.name d.params d.body d.scope pm code doc)) ∧ wpAny c.M A (call (.ref a) ([] ++ vs) []) Q E s') E H fun vs s' k' hv =>
    ⟨⟨keeps_get k' e2, e3⟩, hf a e1 A X s' vs Q E hA (H.keeps k').base (H.keeps k').xok hv fun v s'' k'' hr => h v s'' (keeps_trans k' k'') hr⟩
  rw [he] at h2 ⊢
  exact evalArgs_plain h2
end
end Mine
end

section
namespace Mine
open PySem PySem.W PySem.Calls PyProof.Rows

section
variable {c : Cfg} {A : Around} {env : Env} {X : List Addr} {ρ : Ctxt}

/-! ## Items -/
theorem seq_get {n : String} {rs : List Rel} {h : Heap} {v : Value} (r : (RSeq n rs).on (hide X h) v) :
    ∃ a vs ep, v = .ref a ∧ h.get? a = some (seqObj n vs ep) ∧ a ∉ X ∧ AllOn (hide X h) rs vs := by
  obtain ⟨a, vs, ep, e, g, p⟩ := r
  exact ⟨a, vs, ep, e, (hide_get g).1, (hide_get g).2, p⟩
theorem isList_of {h : Heap} {a : Addr} {vs : List Value} {ep : Nat} (e : h.get? a = some (seqObj "list" vs ep)) : h.IsList a vs.toArray := ⟨_, e, rfl, ep, rfl⟩
theorem isTuple_of {h : Heap} {a : Addr} {vs : List Value} {ep : Nat} (e : h.get? a = some (seqObj "tuple" vs ep)) : h.IsTuple a vs.toArray := ⟨_, e, rfl, ep, rfl⟩
theorem ints_of {g : View} : ∀ {ns : List Int} {vs : List Value}, AllOn g (ns.map RI) vs → IntsAre vs ns
  | [], _, h => by unfold AllOn at h; cases h; exact .nil
  | n :: ns, _, h => by
    unfold AllOn at h
    cases h with
    | cons h1 h2 => obtain ⟨t, rfl⟩ := h1; exact .cons n t (ints_of h2)
theorem of_ints {g : View} : ∀ {ns : List Int} {vs : List Value}, IntsAre vs ns → AllOn g (ns.map RI) vs
  | _, _, .nil => .nil
  | _, _, .cons n t h => .cons ⟨t, rfl⟩ (of_ints h)

def ItemIs (c : Cfg) (A : Around) (X : List Addr) (r₁ r₂ r : Rel) : Prop :=
  ∀ (s : Shared) (v₁ v₂ : Value) (Q : Value → Shared → Prop) (E : Value → Shared → Prop), Bs c X s.heap → (∀ b ∈ X, ∃ o, s.heap.get? b = some o) → r₁.on (hide X s.heap) v₁ → r₂.on (hide X s.heap) v₂ → (∀ v s', Keeps s s' → r.on (hide X s'.heap) v → Q v s') →
    ∃ T id, typeLookup (.type T) "__getitem__" = pure (some (.builtin id)) ∧ s.TypeIs v₁ T ∧ wpAny c.M A (getItem v₁ v₂) Q E s

theorem subscripted_false (slice : Expr) (o i : Value) : ∃ l, subscripted slice false o i = operate l (getItem o i) := by
  cases slice <;> first | exact ⟨_, rfl⟩ | skip
  rename_i st _
  cases st <;> exact ⟨_, rfl⟩

theorem ev_sub {value slice : Expr} {pos : Pos} {r₁ r₂ r : Rel} (h1 : Ev c A env X ρ value r₁) (h2 : Ev c A env X ρ slice r₂) (hi : ItemIs c A X r₁ r₂ r) : Ev c A env X ρ (.Subscript value slice pos) r := by
  intro s Q E H h
  rw [eval_Subscript]
  refine wpAny_bind (h1 s _ E H fun o s₁ k₁ e₁ => wpAny_bind (wpAny_holding (h2 s₁ _ E (H.keeps k₁) fun i s₂ k₂ e₂ => wpAny_bind (wpAny_standAt ?_))))
  obtain ⟨T, id, hl, hT, hg⟩ := hi s₂ o i Q E ((H.keeps k₁).keeps k₂).base ((H.keeps k₁).keeps k₂).xok (r₁.mono e₁ (keeps_hide k₂)) e₂ fun v s' k hr => h v s' (keeps_trans (keeps_trans k₁ k₂) k) hr
  have fin : ∀ l, wpAny c.M A (operate l (getItem o i)) (fun r s₃ => wpAny c.M A (letTemporaryGo value o r >>= fun _ => pure r) Q E s₃) E s₂ := fun l =>
    wpAny_operating (wpAny_mono hg (fun r s₃ h₃ => wpAny_bind (wpAny_letTemporaryGo (wpAny_pure h₃))) fun _ _ x => x)
  refine wpAny_bind ?_
  rw [getitemInPython_of_ne hT.not_modules]
  refine wpAny_bind (wpAny_specialOf hT hl (wpAny_pure ?_))
  obtain ⟨l, hl⟩ := subscripted_false slice o i
  refine wpAny_bind ?_
  rw [hl]
  exact fin l

theorem item_list {rs : List Rel} {i : Int} {r : Rel} (h0 : 0 ≤ i) (hi : i < 2 ^ 62) (hr : rs[i.toNat]? = some r) : ItemIs c A X (RL rs) (RI i) r := by
  intro s v₁ v₂ Q E _ _ r₁ ⟨t, e⟩ h
  obtain ⟨a, vs, ep, rfl, ho, hX, hp⟩ := seq_get r₁
  subst e
  obtain ⟨v, hv, hr⟩ := hp.get hr
  exact ⟨"list", _, PySem.slot_list_getitem.lookup, (isList_of ho).typeIs, wpAny_getItem_list (isList_of ho) h0 (by omega) (by simpa using hv) (h v s (keeps_refl s) hr)⟩
theorem item_tuple {rs : List Rel} {i : Int} {r : Rel} (h0 : 0 ≤ i) (hi : i < 2 ^ 62) (hr : rs[i.toNat]? = some r) : ItemIs c A X (RT rs) (RI i) r := by
  intro s v₁ v₂ Q E _ _ r₁ ⟨t, e⟩ h
  obtain ⟨a, vs, ep, rfl, ho, hX, hp⟩ := seq_get r₁
  subst e
  obtain ⟨v, hv, hr⟩ := hp.get hr
  have hlt : i.toNat < vs.length := (List.getElem?_eq_some_iff.mp hv).1
  refine ⟨"tuple", _, PySem.F.slot_tuple_getitem.lookup, (isTuple_of ho).typeIs, PyProof.Rows.getItem_tuple (items := vs.toArray) (j := i.toNat) (x := v) (isTuple_of ho) (by omega) (by omega) ?_ (by simpa using hv) (h v s (keeps_refl s) hr)⟩
  unfold seqIndex?
  have h1 : ¬ i < 0 := by omega
  have h2 : i < (vs.toArray.size : Int) := by rw [List.size_toArray]; omega
  simp only [h1, if_false, h0, h2, decide_true, Bool.and_self, if_true]

/-! ## Dicts of ints -/
def DictO (c : Cfg) (o : Obj) (kvs : List (Int × Value)) : Prop :=
  o.ExactDict ∧ ∃ es ep, o.data = .dict es ep ∧ KeysOf (intKind c.prog c.w) es ∧ Pairs (intKind c.prog c.w) es.toList kvs ∧ (kvs.map (·.1)).Nodup
/-- the counts under the keys -/
def Vals (ks : List (Int × Int)) (kvs : List (Int × Value)) : Prop := Paired (fun (p : Int × Int) (q : Int × Value) => q.1 = p.1 ∧ ∃ t, q.2 = .int p.2 t) ks kvs
def RD (c : Cfg) (ks : List (Int × Int)) : Rel := ⟨fun g v => ∃ a o kvs, v = .ref a ∧ (a == sysModules) = false ∧ g a = some o ∧ DictO c o kvs ∧ Vals ks kvs,
  fun ⟨a, o, kvs, e, h1, h2, h3, h4⟩ hl => ⟨a, o, kvs, e, h1, hl _ _ h2, h3, h4⟩⟩
theorem dictOf_of {h : Heap} {a : Addr} {o : Obj} {kvs : List (Int × Value)} (e : h.get? a = some o) (d : DictO c o kvs) : h.DictOf (intKind c.prog c.w) a kvs :=
  let ⟨x, es, ep, r⟩ := d; ⟨o, es, ep, e, x, r⟩
theorem dictO_of {h : Heap} {a : Addr} {kvs : List (Int × Value)} (d : h.DictOf (intKind c.prog c.w) a kvs) : ∃ o, h.get? a = some o ∧ DictO c o kvs :=
  let ⟨o, es, ep, e, x, r⟩ := d; ⟨o, e, x, es, ep, r⟩
theorem rd_get {ks : List (Int × Int)} {h : Heap} {v : Value} (r : (RD c ks).on (hide X h) v) :
    ∃ a kvs, v = .ref a ∧ (a == sysModules) = false ∧ a ∉ X ∧ h.DictOf (intKind c.prog c.w) a kvs ∧ Vals ks kvs := by
  obtain ⟨a, o, kvs, e, h1, h2, h3, h4⟩ := r
  exact ⟨a, kvs, e, h1, (hide_get h2).2, dictOf_of (hide_get h2).1 h3, h4⟩
theorem rd_of {ks : List (Int × Int)} {h : Heap} {a : Addr} {kvs : List (Int × Value)} (h1 : (a == sysModules) = false) (hX : a ∉ X) (d : h.DictOf (intKind c.prog c.w) a kvs) (hv : Vals ks kvs) : (RD c ks).on (hide X h) (.ref a) := by
  obtain ⟨o, e, d⟩ := dictO_of d
  exact ⟨a, o, kvs, rfl, h1, hide_of e hX, d, hv⟩
theorem Bs.notModules {h : Heap} (B : Bs c X h) {a : Addr} (ha : h.objs.size ≤ a) : (a == sysModules) = false := by
  have h1 : mainGlobals < h.objs.size := B.at.g.lt
  have h2 : sysModules < mainGlobals := by decide
  simp only [beq_eq_false_iff_ne, ne_eq]
  intro q
  subst q
  exact absurd (Nat.lt_of_lt_of_le (Nat.lt_trans h2 h1) ha) (Nat.lt_irrefl _)
theorem Vals.length {ks : List (Int × Int)} {kvs : List (Int × Value)} (h : Vals ks kvs) : ks.length = kvs.length := Paired.length h
theorem Vals.keys {ks : List (Int × Int)} {kvs : List (Int × Value)} (h : Vals ks kvs) : kvs.map (·.1) = ks.map (·.1) := by
  unfold Vals at h
  induction h with
  | nil => rfl
  | cons h1 _ ih => rw [List.map_cons, List.map_cons, ih, h1.1]
/-- the count under a key -/
def look (ks : List (Int × Int)) (k : Int) : Option Int := (ks.find? fun p => p.1 = k).map (·.2)
theorem Vals.look {ks : List (Int × Int)} {kvs : List (Int × Value)} (h : Vals ks kvs) (k : Int) : (∃ i t, Mine.look ks k = some i ∧ valueAt kvs k = some (.int i t)) ∨ (Mine.look ks k = none ∧ valueAt kvs k = none) := by
  unfold Vals at h
  induction h with
  | nil => exact .inr ⟨rfl, rfl⟩
  | @cons p q _ _ h1 _ ih =>
    obtain ⟨h1, t, h2⟩ := h1
    unfold Mine.look valueAt at *
    rw [List.find?_cons, List.find?_cons, h1]
    by_cases hk : p.1 = k
    · simp only [hk, decide_true]
      exact .inl ⟨p.2, t, rfl, by rw [Option.map_some, h2]⟩
    · simp only [hk, decide_false]
      exact ih

theorem item_dict {ks : List (Int × Int)} {k i : Int} (hk : look ks k = some i) : ItemIs c A X (RD c ks) (RI k) (RI i) := by
  intro s v₁ v₂ Q E _ _ r₁ ⟨t, e⟩ h
  obtain ⟨a, kvs, rfl, hm, hX, hd, hv⟩ := rd_get r₁
  subst e
  rcases hv.look k with ⟨i', t', e1, e2⟩ | ⟨e1, _⟩
  · rw [hk] at e1; cases e1
    exact ⟨"dict", _, PySem.slot_dict_getitem.lookup, hd.typeIs, wpAny_getItem_of (k := k) (by simp [intKind, Value.isInt]) hd.mapOf e2 (h _ _ (keeps_toks s _) ⟨_, rfl⟩)⟩
  · rw [hk] at e1; cases e1

theorem cmp_inDict {ks : List (Int × Int)} {k : Int} : CmpIs c A X .In (RI k) (RD c ks) (look ks k).isSome := by
  intro s v₁ v₂ Q E _ ⟨t, e⟩ r₁ h
  obtain ⟨a, kvs, rfl, hm, hX, hd, hv⟩ := rd_get r₁
  subst e
  refine wpAny_in_of (k := k) (by simp [intKind, Value.isInt]) hm hd.mapOf ?_
  rcases hv.look k with ⟨i', t', e1, e2⟩ | ⟨e1, e2⟩
  · rw [e2]; rw [e1] at h; exact h _ (keeps_toks s _)
  · rw [e2]; rw [e1] at h; exact h _ (keeps_toks s _)
theorem cmp_inList {ns : List Int} {k : Int} : CmpIs c A X .In (RI k) (RLI ns) (ns.any (· == k)) := by
  intro s v₁ v₂ Q E _ ⟨t, e⟩ r₁ h
  obtain ⟨a, vs, ep, rfl, ho, hX, hp⟩ := seq_get r₁
  subst e
  exact PyProof.Rows.in_list_ints (isList_of ho) (ints_of hp) (h s (keeps_refl s))
theorem cmp_eqList {ns ms : List Int} (hA : AOk 0 A) : CmpIs c A X .Eq (RLI ns) (RLI ms) (decide (ns = ms)) := by
  intro s v₁ v₂ Q E _ r₁ r₂ h
  obtain ⟨a, vs, ep, rfl, ho, hX, hp⟩ := seq_get r₁
  obtain ⟨a', vs', ep', rfl, ho', hX', hp'⟩ := seq_get r₂
  exact eq_intsK (isList_of ho) (ints_of hp) (isList_of ho') (ints_of hp') (by have := hA.units; omega) (h s (keeps_refl s))

/-! ## Slices -/
def Pt (c : Cfg) (A : Around) (env : Env) (X : List Addr) (ρ : Ctxt) (x : Option Expr) (k : Option Int) : Prop :=
  ∀ (s : Shared) (Q : Value → Shared → Prop) (E : Value → Shared → Prop), Here c env X ρ s → (∀ v s', Keeps s s' → IsPart v k → Q v s') → wpAny c.M A (evalPart x env) Q E s
theorem pt_none : Pt c A env X ρ none none := fun s Q E H h => wpAny_of_eq (evalPart_none env) (h _ s (keeps_refl s) .none)
theorem pt_some {e : Expr} {i : Int} (h1 : Ev c A env X ρ e (RI i)) : Pt c A env X ρ (some e) (some i) := fun s Q E H h => by
  rw [evalPart_some]
  exact h1 s Q E H fun v s' k ⟨t, e⟩ => h v s' k (e ▸ .int i t)
def RSl (lo hi st : Option Int) : Rel := ⟨fun g v => ∃ a l u t, v = .ref a ∧ g a = some { cls := .type "slice", data := .fields #[l, u, t] } ∧ IsPart l lo ∧ IsPart u hi ∧ IsPart t st,
  fun ⟨a, l, u, t, e, h1, r⟩ hl => ⟨a, l, u, t, e, hl _ _ h1, r⟩⟩
theorem ev_slice {l u t : Option Expr} {lo hi st : Option Int} {p : Pos} (h1 : Pt c A env X ρ l lo) (h2 : Pt c A env X ρ u hi) (h3 : Pt c A env X ρ t st) : Ev c A env X ρ (.Slice l u t p) (RSl lo hi st) := fun s Q E H h =>
  wpAny_Slice (h1 s _ E H fun vl s₁ k₁ e₁ => h2 s₁ _ E (H.keeps k₁) fun vu s₂ k₂ e₂ => h3 s₂ _ E ((H.keeps k₁).keeps k₂) fun vt s₃ k₃ e₃ =>
    h _ _ (keeps_trans (keeps_trans (keeps_trans k₁ k₂) k₃) (keeps_push s₃ _)) ⟨_, vl, vu, vt, rfl, hide_of (Heap.get?_push_size _ rfl) (((H.keeps k₁).keeps k₂).keeps k₃).fresh, e₁, e₂, e₃⟩)
/-- the items that a slice picks -/
def pickL {α : Type} (l : List α) (lo hi st : Option Int) : List α :=
  (sliceRange (sliceBounds lo hi st l.length).1 (sliceBounds lo hi st l.length).2.1 (sliceBounds lo hi st l.length).2.2).filterMap (l[·]?)
theorem AllOn.pick {g : View} {rs : List Rel} {vs : List Value} (h : AllOn g rs vs) : ∀ is : List Nat, AllOn g (is.filterMap (rs[·]?)) (is.filterMap (vs[·]?))
  | [] => .nil
  | i :: is => by
    rw [List.filterMap_cons, List.filterMap_cons]
    cases hr : rs[i]? with
    | none =>
      have : vs[i]? = none := by
        rw [List.getElem?_eq_none_iff] at hr ⊢
        rw [← h.length]; exact hr
      rw [this]; exact h.pick is
    | some r =>
      obtain ⟨v, hv, hr'⟩ := h.get hr
      rw [hv]; exact .cons hr' (h.pick is)
theorem pick_map {α β : Type} (f : α → β) (l : List α) (lo hi st : Option Int) : pickL (l.map f) lo hi st = (pickL l lo hi st).map f := by
  unfold pickL
  rw [List.length_map, List.map_filterMap]
  congr 1
  funext i
  rw [List.getElem?_map]
theorem item_slice {rs : List Rel} {lo hi st : Option Int} (h0 : st ≠ some 0) (hn : rs.length ≤ 1000) : ItemIs c A X (RL rs) (RSl lo hi st) (RL (pickL rs lo hi st)) := by
  intro s v₁ v₂ Q E B hx r₁ r₂ h
  obtain ⟨a, vs, ep, rfl, ho, hX, hp⟩ := seq_get r₁
  obtain ⟨b, l, u, t, rfl, hb, p1, p2, p3⟩ := r₂
  have hl := hp.length
  refine ⟨"list", _, PySem.slot_list_getitem.lookup, (isList_of ho).typeIs, wpAny_getItem_list_slice (isList_of ho) ⟨_, (hide_get hb).1, rfl, rfl⟩ p1 p2 p3 h0 (h _ _ (keeps_push s _) ?_) (by rw [List.size_toArray, ← hl, sizeLine_eq]; omega)⟩
  have hf : s.heap.objs.size ∉ X := fun hb => by obtain ⟨o, e⟩ := hx _ hb; exact absurd (Heap.lt_size e) (Nat.lt_irrefl _)
  refine ⟨_, (slicePick vs.toArray lo hi st).toList, 0, rfl, hide_of (Heap.get?_push_size _ rfl) hf, ?_⟩
  have e : (slicePick vs.toArray lo hi st).toList = pickL vs lo hi st := by
    unfold slicePick pickL
    simp
  rw [e]
  have e2 : pickL vs lo hi st = (sliceRange (sliceBounds lo hi st rs.length).1 (sliceBounds lo hi st rs.length).2.1 (sliceBounds lo hi st rs.length).2.2).filterMap (vs[·]?) := by
    unfold pickL; rw [hl]
  rw [e2]
  exact (hp.pick _).mono (keeps_hide (keeps_push s _))

/-! ## Built-ins -/
theorem ev_builtin {x : Str} {p pos : Pos} {e : Expr} {es : List Expr} {rs : List Rel} {r : Rel} {k : Nat} {f : Value} (hx : x ∈ theBuiltins) (hb : bootBuiltins x = some f) (hf : (∃ id, f = .builtin id) ∨ ∃ T, f = .type T)
    (hc : CallIs c k f rs r) (hA : AOk k A) (h1 : Evs c A env X ρ (e :: es) rs)
    (hk : env.kindOf x = some .globalImplicit) (hn : (x == ("__debug__" : Str)) = false := by rfl) (he : starEach (e :: es) env = (false, eval e env) :: starEach es env := by rfl)
    (hp : (backTo pos (starEach es env)).any (·.1) = false := by rfl) :
    Ev c A env X ρ (.Call (.Name x p) (e :: es) [] pos) r := by
  intro s Q E H h
  obtain ⟨m1, m2⟩ := H.base.at.bl x hx
  show wpAny c.M A (do callWith pos (← eval (.Name x p) env) [] (backTo pos (starEach (e :: es) env)) (backToKw pos (keywordEach [] env))) Q E s
  refine wpAny_bind (Calls.Name_function_global H.kind hk (Calls.loadGlobal_builtin (by rw [H.glob]; exact H.base.at.g) m1 (by rw [H.blt]; exact H.base.at.b) (m2.trans hb) ?_) hn)
  have h2 := h1 s pos (fun vs s' => wpAny c.M A (call f ([] ++ vs) []) Q E s') E H fun vs s' k' hv =>
    hc A X s' vs Q E hA (H.keeps k').base (H.keeps k').xok hv fun v s'' k'' hr => h v s'' (keeps_trans k' k'') hr
  rw [he] at h2 ⊢
  have hp' : (backTo pos ((false, eval e env) :: starEach es env)).any (·.1) = false := by
    show (false || (backTo pos (starEach es env)).any (·.1)) = false
    rw [hp]; rfl
  rcases hf with ⟨id, rfl⟩ | ⟨T, rfl⟩
  · exact callWith_builtin hp' (evalArgs_plain h2)
  · exact PyProof.Rows.callWith_type hp' (evalArgs_plain h2)

theorem call_len {rs : List Rel} (hn : rs.length ≤ 1000) : CallIs c 0 (.builtin "len") [RL rs] (RI rs.length) := by
  intro A X s vs Q E hA B hx hv h
  unfold AllOn at hv
  cases hv with
  | cons h1 h2 =>
  cases h2
  obtain ⟨a, vs, ep, rfl, ho, hX, hp⟩ := seq_get h1
  have hl := hp.length
  refine call_len_list (isList_of ho) (by rw [List.size_toArray]; omega) (h _ _ (keeps_toks s _) ?_)
  rw [List.size_toArray, hl]
  exact ⟨_, rfl⟩
theorem call_sum {ns : List Int} : CallIs c 0 (.builtin "sum") [RLI ns] (RI ns.sum) := by
  intro A X s vs Q E hA B hx hv h
  unfold AllOn at hv
  cases hv with
  | cons h1 h2 =>
  cases h2
  obtain ⟨a, vs, ep, rfl, ho, hX, hp⟩ := seq_get h1
  obtain ⟨m, hm⟩ : ∃ m, s.heap.Ns mainGlobals m := ⟨_, B.at.g⟩
  obtain ⟨xs, e⟩ := (ints_of hp).allInts.items
  refine sum_intListG hA.handled (e ▸ isList_of ho) fun h' tk t' hk => ?_
  have hs : preSum (numAt xs) xs.size = ns.sum := by
    rw [preSum_eq, List.take_of_length_le (by simp), ← nums_intItems, ← e]
    have := (ints_of hp).numsOf
    rw [show vs.toArray.toList = vs from rfl, this]
  rw [hs]
  exact h _ _ ⟨h', tk, rfl, hk⟩ ⟨_, rfl⟩
/-- range(n) -/
def RRg (n : Int) : Rel := ⟨fun g v => ∃ a t u w, v = .ref a ∧ g a = some { cls := .type "range", data := .fields #[.int 0 t, .int n u, .int 1 w] },
  fun ⟨a, t, u, w, e, h⟩ hl => ⟨a, t, u, w, e, hl _ _ h⟩⟩
theorem call_range {n : Int} : CallIs c 0 (.type "range") [RI n] (RRg n) := by
  intro A X s vs Q E hA B hx hv h
  unfold AllOn at hv
  cases hv with
  | cons h1 h2 =>
  cases h2
  obtain ⟨t, rfl⟩ := h1
  have hf : s.heap.objs.size ∉ X := fun hb => by obtain ⟨o, e⟩ := hx _ hb; exact absurd (Heap.lt_size e) (Nat.lt_irrefl _)
  exact call_range_1 (h _ _ (keeps_trans (keeps_push s _) (keeps_toks _ _)) ⟨_, _, _, _, rfl, hide_of (Heap.get?_push_size _ rfl) hf⟩)
end
end Mine
end

section
namespace Mine
open PySem PySem.W PySem.Calls PyProof.Rows

/-! ## Iterators -/
/-- an iterator that keeps no tuple to hand out again -/
def NotOwner (h : Heap) (I : Addr) : Prop := ∃ o T, h.get? I = some o ∧ o.cls = .type T ∧ (["enumerate", "zip", "dict_itemiterator", "dict_reverseitemiterator", "odict_iterator", "itertools.zip_longest", "itertools.pairwise"].contains T) = false
structure Walk (c : Cfg) (A : Around) (X : List Addr) (rs : List Rel) (I : Addr) (fp : List Addr) (P : Nat → Value → Prop) (St : Nat → Heap → Prop) (s' : Shared) : Prop where
  w : Walks c.prog c.w A I fp [I] rs.length P St
  st : St 0 s'.heap
  lt : ∀ b ∈ fp, b < s'.heap.objs.size
  off : ∀ b ∈ fp, b = I ∨ b ∉ X
  iX : I ∉ X
  has : ∀ i h, St i h → ∃ o, h.get? I = some o
  own : ∀ i h, St i h → NotOwner h I
  item : ∀ i v r, P i v → rs[i]? = some r → r.on (hide (I :: X) s'.heap) v
def IterIs (c : Cfg) (A : Around) (X : List Addr) (r : Rel) (rs : List Rel) : Prop :=
  ∀ (s : Shared) (v : Value) (Q : Value → Shared → Prop) (E : Value → Shared → Prop), Bs c X s.heap → (∀ b ∈ X, ∃ o, s.heap.get? b = some o) → r.on (hide X s.heap) v →
    (∀ I fp P St s', Keeps s s' → s.heap.get? I = none → Walk c A X rs I fp P St s' → Q (.ref I) s') → wpAny c.M A (pyIter v) Q E s

section
variable {c : Cfg} {A : Around} {env : Env} {X : List Addr} {ρ : Ctxt}

theorem fresh_of {s : Shared} (hx : ∀ b ∈ X, ∃ o, s.heap.get? b = some o) : s.heap.objs.size ∉ X := fun hb => by
  obtain ⟨o, e⟩ := hx _ hb
  exact absurd (Heap.lt_size e) (Nat.lt_irrefl _)
theorem none_of_le {h : Heap} {b : Addr} (hb : h.objs.size ≤ b) : h.get? b = none := by
  cases e : h.get? b with
  | none => rfl
  | some o' => exact absurd (Heap.lt_size e) (Nat.not_lt.mpr hb)
theorem hide_pushed {s : Shared} (o : Obj) : View.le (hide X s.heap) (hide (s.heap.objs.size :: X) (s.heap.push o)) := hide_new (fun _ _ _ e => Heap.get?_push_of_some _ e) fun b hb => by
  rcases List.mem_cons.mp hb with rfl | hb
  · exact .inr (none_of_le (Nat.le_refl _))
  · exact .inl hb

theorem it_list {rs : List Rel} (hA : AOk 0 A) : IterIs c A X (RL rs) rs := by
  intro s v Q E B hx r₁ h
  obtain ⟨a, vs, ep, rfl, ho, hX, hp⟩ := seq_get r₁
  have ha : a < s.heap.objs.size := Heap.lt_size ho
  refine wpAny_pyIter_list (isList_of ho) (h _ [s.heap.objs.size, a] (fun i v => vs.toArray[i]? = some v) (fun i h => h.IsListIter s.heap.objs.size a i ∧ h.IsList a vs.toArray) _ (keeps_push s _) (none_of_le (Nat.le_refl _)) ?_)
  refine ⟨?_, ⟨⟨_, Heap.get?_push_size _ rfl, rfl, rfl⟩, (isList_of ho).push _⟩, ?_, ?_, fresh_of hx, ?_, ?_, ?_⟩
  · have := Walks.list (prog := c.prog) (w := c.w) hA.handled s.heap.objs.size a (Nat.ne_of_lt ha) vs.toArray
    have e : vs.toArray.size = rs.length := by rw [hp.length]; simp
    rw [e] at this
    exact this
  · intro b hb
    show b < (s.heap.push _).objs.size
    rw [Heap.size_push]
    rcases List.mem_cons.mp hb with rfl | hb
    · exact Nat.lt_succ_self _
    · rw [List.mem_singleton.mp hb]; exact Nat.lt_succ_of_lt ha
  · intro b hb
    rcases List.mem_cons.mp hb with rfl | hb
    · exact .inl rfl
    · rw [List.mem_singleton.mp hb]; exact .inr hX
  · rintro i h ⟨⟨o, ho, _⟩, _⟩; exact ⟨o, ho⟩
  · rintro i h ⟨⟨o, ho, hc, _⟩, _⟩; exact ⟨o, _, ho, hc, by decide⟩
  · intro i v r hi hr
    obtain ⟨u, hu, hr⟩ := hp.get hr
    have : u = v := by
      rw [List.getElem?_toArray] at hi
      rw [hu] at hi; cases hi; rfl
    subst this
    exact r.mono hr (hide_pushed _)

/-- 0 .. n - 1 -/
def uptoN (n : Nat) : List Int := (List.range n).map fun (i : Nat) => (i : Int)
theorem ints_get {n i : Nat} {x : Int} (h : (uptoN n)[i]? = some x) : x = i := by
  unfold uptoN at h
  rw [List.getElem?_map] at h
  obtain ⟨j, hj, rfl⟩ := Option.map_eq_some_iff.mp h
  obtain ⟨h1, h2⟩ := List.getElem?_eq_some_iff.mp hj
  simp at h2; rw [h2]
theorem ints_length (n : Nat) : (uptoN n).length = n := by simp [uptoN]
theorem it_range {n : Int} (hA : AOk 0 A) (h0 : 0 ≤ n) (hn : n ≤ 1000) : IterIs c A X (RRg n) ((uptoN n.toNat).map RI) := by
  intro s v Q E B hx r₁ h
  obtain ⟨a, t, u, w, rfl, hg⟩ := r₁
  have hsz : Builtin.Range.rangeSize 0 n 1 = (n.toNat : Int) := by rw [rangeSize_nat]; omega
  refine wpAny_pyIter_range (a := 0) (b := n) (c := 1) (t := t) (u := u) (v := w) (hide_get hg).1 (small_one (by omega) (by omega) (by omega) (by omega)) (h _ [s.heap.objs.size] (fun i v => ∃ t, v = .int (0 + i * 1) t) (fun i h => IsRangeIter h s.heap.objs.size (0 + (i : Nat) * 1) ((n.toNat : Int) - (i : Nat)) 1) _ (keeps_push s _) (none_of_le (Nat.le_refl _)) ?_)
  refine ⟨?_, ?_, ?_, ?_, fresh_of hx, ?_, ?_, ?_⟩
  · have := Walks.range (prog := c.prog) (w := c.w) hA.handled s.heap.objs.size 0 1 n.toNat
    rw [List.length_map, ints_length]
    exact this
  · show IsRangeIter _ _ _ _ _
    rw [hsz]
    simp only [Int.natCast_zero, Int.zero_mul, Int.add_zero, Int.sub_zero]
    exact Heap.get?_push_size _ rfl
  · intro b hb
    rw [List.mem_singleton.mp hb]
    show _ < (s.heap.push _).objs.size
    rw [Heap.size_push]
    exact Nat.lt_succ_self _
  · intro b hb
    exact .inl (List.mem_singleton.mp hb)
  · intro i h ho; exact ⟨_, ho⟩
  · intro i h ho; exact ⟨_, _, ho, rfl, by decide⟩
  · intro i v r hi hr
    obtain ⟨t, rfl⟩ := hi
    rw [List.getElem?_map] at hr
    obtain ⟨j, hj, rfl⟩ := Option.map_eq_some_iff.mp hr
    have := ints_get hj
    subst this
    exact ⟨t, by simp⟩

theorem it_dict {ks : List (Int × Int)} (hA : AOk 0 A) : IterIs c A X (RD c ks) (ks.map fun p => RI p.1) := by
  intro s v Q E B hx r₁ h
  obtain ⟨a, kvs, rfl, hm, hX, hd, hv⟩ := rd_get r₁
  obtain ⟨ep, hd⟩ := hd.dictAt
  have ha : a < s.heap.objs.size := hd.lt_size
  refine wpAny_pyIter_dict hm hd (h _ [s.heap.objs.size, a] (fun i v => ∃ k x, kvs[i]? = some (k, x) ∧ (intKind c.prog c.w).is k v = true) (fun i h => h.IsKeyIter s.heap.objs.size a i kvs.length ep ∧ h.DictAt (intKind c.prog c.w) a kvs ep) _ (keeps_push s _) (none_of_le (Nat.le_refl _)) ?_)
  refine ⟨?_, ⟨⟨_, Heap.get?_push_size _ rfl, rfl, rfl⟩, hd.push _⟩, ?_, ?_, fresh_of hx, ?_, ?_, ?_⟩
  · have := Walks.dictKeys (knd := intKind c.prog c.w) hA.handled s.heap.objs.size a (Nat.ne_of_lt ha) kvs ep
    rw [List.length_map, hv.length]
    exact this
  · intro b hb
    show b < (s.heap.push _).objs.size
    rw [Heap.size_push]
    rcases List.mem_cons.mp hb with rfl | hb
    · exact Nat.lt_succ_self _
    · rw [List.mem_singleton.mp hb]; exact Nat.lt_succ_of_lt ha
  · intro b hb
    rcases List.mem_cons.mp hb with rfl | hb
    · exact .inl rfl
    · rw [List.mem_singleton.mp hb]; exact .inr hX
  · rintro i h ⟨⟨o, ho, _⟩, _⟩; exact ⟨o, ho⟩
  · rintro i h ⟨⟨o, ho, hc, _⟩, _⟩; exact ⟨o, _, ho, hc, by decide⟩
  · rintro i v r ⟨k, x, hi, hk⟩ hr
    rw [List.getElem?_map] at hr
    obtain ⟨p, hp, rfl⟩ := Option.map_eq_some_iff.mp hr
    have e1 : (kvs.map (·.1))[i]? = some k := by rw [List.getElem?_map, hi]; rfl
    have e2 : (ks.map (·.1))[i]? = some p.1 := by rw [List.getElem?_map, hp]; rfl
    rw [hv.keys, e2] at e1
    cases e1
    obtain ⟨t, rfl⟩ := Value.isInt_shape hk
    exact ⟨t, rfl⟩

/-! ## The names of a comprehension -/
noncomputable def closL (env : Env) : List (Str × NameKind) → List (Str × Addr) → List (Str × Addr)
  | [], acc => acc
  | (n, k) :: r, acc => if k == .free then closL env r (match env.cells.lookup n with | some a => (n, a) :: acc | none => acc) else closL env r acc
theorem closL_ok {env : Env} : ∀ {names : List (Str × NameKind)} {acc : List (Str × Addr)}, (∀ p ∈ acc, env.cells.lookup p.1 = some p.2) → ∀ p ∈ closL env names acc, env.cells.lookup p.1 = some p.2
  | [], _, h, p, hp => h p hp
  | (n, k) :: r, acc, h, p, hp => by
    unfold closL at hp
    split at hp
    · refine closL_ok ?_ p hp
      intro q hq
      split at hq
      · rename_i a ha
        rcases List.mem_cons.mp hq with rfl | hq
        · exact ha
        · exact h q hq
      · exact h q hq
    · exact closL_ok h p hp
theorem closL_acc {env : Env} {n : Str} : ∀ {names : List (Str × NameKind)} {acc : List (Str × Addr)}, (∃ a, (n, a) ∈ acc) → ∃ a, (n, a) ∈ closL env names acc
  | [], _, h => h
  | (m, k) :: r, acc, h => by
    unfold closL
    split
    · refine closL_acc ?_
      obtain ⟨a, ha⟩ := h
      split
      · exact ⟨a, List.mem_cons_of_mem _ ha⟩
      · exact ⟨a, ha⟩
    · exact closL_acc h
theorem closL_mem {env : Env} {n : Str} {a : Addr} (hc : env.cells.lookup n = some a) : ∀ {names : List (Str × NameKind)} {acc : List (Str × Addr)}, (n, NameKind.free) ∈ names → ∃ a, (n, a) ∈ closL env names acc
  | (m, k) :: r, acc, h => by
    unfold closL
    rcases List.mem_cons.mp h with h | h
    · cases h
      rw [if_pos (by rfl), hc]
      exact closL_acc ⟨a, List.mem_cons_self ..⟩
    · split <;> exact closL_mem hc h
theorem closL_lookup {env : Env} {n : Str} {a : Addr} {names : List (Str × NameKind)} (hc : env.cells.lookup n = some a) (hn : (n, NameKind.free) ∈ names) : (closL env names []).lookup n = some a := by
  obtain ⟨b, hb⟩ := closL_mem (acc := []) hc hn
  cases e : (closL env names []).lookup n with
  | none =>
    rw [List.lookup_eq_none_iff] at e
    have := e _ hb
    simp at this
  | some b' =>
    have := closL_ok (env := env) (names := names) (acc := []) (fun _ h => nomatch h) _ (mem_of_lookup e)
    rw [hc] at this; exact this.symm
theorem closureFor_eq {scope : Scope} {env : Env} (h : ∀ n, (n, NameKind.free) ∈ scope.names → ∃ a, env.cells.lookup n = some a) : closureFor scope env = pure (closL env scope.names []) := by
  have go : ∀ (names : List (Str × NameKind)) (acc : List (Str × Addr)), (∀ n, (n, NameKind.free) ∈ names → ∃ a, env.cells.lookup n = some a) →
      (forIn names acc fun (x : Str × NameKind) (cs : List (Str × Addr)) => if (x.2 == NameKind.free) = true then (do let a ← cellOf env x.1; pure (ForInStep.yield ((x.1, a) :: cs))) else pure (ForInStep.yield cs) : Sem (List (Str × Addr))) = pure (closL env names acc) := by
    intro names
    induction names with
    | nil => intro acc _; rfl
    | cons p r ih =>
      obtain ⟨n, k⟩ := p
      intro acc h
      rw [List.forIn_cons]
      unfold closL
      cases hk : (k == NameKind.free) with
      | true =>
        have hk' := eq_of_beq hk
        subst hk'
        obtain ⟨a, ha⟩ := h n (List.mem_cons_self ..)
        have hc : cellOf env n = pure a := by unfold cellOf; rw [ha]
        simp only [hk, if_true, hc, pure_bind, ha]
        exact ih _ fun m hm => h m (List.mem_cons_of_mem _ hm)
      | false =>
        simp only [hk, Bool.false_eq_true, if_false, pure_bind]
        exact ih _ fun m hm => h m (List.mem_cons_of_mem _ hm)
  have := go scope.names [] h
  exact congrArg (fun (m : Sem (List (Str × Addr))) => m >>= fun s => pure s) this

theorem relabel_free {env : Env} (hk : env.scope.kind = .function) : ∀ {names : List (Str × NameKind)} {x : Str}, names.lookup x = some .free → env.kindOf x = some .cell →
    (names.map fun (n, k) => if (k == NameKind.free && env.scope.kind == .function && env.kindOf n == some .cell) then (n, NameKind.cell) else (n, k)).lookup x = some .cell
  | [], _, h, _ => by simp at h
  | (n, k) :: r, x, h, hx => by
    have ih := @relabel_free env hk r x
    show List.lookup x ((if (k == NameKind.free && env.scope.kind == .function && env.kindOf n == some .cell) = true then (n, NameKind.cell) else (n, k)) :: _) = _
    cases hb : x == n with
    | true =>
      have := eq_of_beq hb; subst this
      simp only [List.lookup_cons, hb] at h
      cases h
      rw [if_pos (by rw [hk, hx]; rfl)]
      simp [List.lookup_cons, hb]
    | false =>
      simp only [List.lookup_cons, hb] at h
      split <;> (simp only [List.lookup_cons, hb]; exact ih h hx)
theorem relabel_other {env : Env} {kd : NameKind} (hkd : kd ≠ .free) : ∀ {names : List (Str × NameKind)} {x : Str}, names.lookup x = some kd →
    (names.map fun (n, k) => if (k == NameKind.free && env.scope.kind == .function && env.kindOf n == some .cell) then (n, NameKind.cell) else (n, k)).lookup x = some kd
  | [], _, h => by simp at h
  | (n, k) :: r, x, h => by
    have ih := @relabel_other env kd hkd r x
    show List.lookup x ((if (k == NameKind.free && env.scope.kind == .function && env.kindOf n == some .cell) = true then (n, NameKind.cell) else (n, k)) :: _) = _
    cases hb : x == n with
    | true =>
      simp only [List.lookup_cons, hb] at h
      cases h
      have : (kd == NameKind.free) = false := by simpa using hkd
      rw [if_neg (by rw [this]; simp)]
      simp [List.lookup_cons, hb]
    | false =>
      simp only [List.lookup_cons, hb] at h
      split <;> (simp only [List.lookup_cons, hb]; exact ih h)

/-- the names that a comprehension shares with its function -/
def Shares (env : Env) (scope : Scope) (x : Str) (ρf ρ : Ctxt) : Prop :=
  ∀ y r, ρf.lookup y = some r → y ≠ x ∧ scope.names.lookup y = some .free ∧ env.kindOf y = some .cell ∧ ρ.lookup y = some r
theorem shares_nil {scope : Scope} {x : Str} : Shares env scope x [] ρ := fun _ _ e => by cases e
theorem shares_cons {scope : Scope} {x y : Str} {r : Rel} {ρf : Ctxt} (h1 : y ≠ x) (h2 : scope.names.lookup y = some .free) (h3 : env.kindOf y = some .cell) (h4 : ρ.lookup y = some r) (h : Shares env scope x ρf ρ) : Shares env scope x ((y, r) :: ρf) ρ := fun z q e => by
  rw [List.lookup_cons] at e
  cases hb : z == y with
  | true => rw [hb] at e; cases e; rw [eq_of_beq hb]; exact ⟨h1, h2, h3, h4⟩
  | false => rw [hb] at e; exact h z q e

/-- the frame within a comprehension -/
theorem here_comp {scope : Scope} {x : Str} {ρf : Ctxt} {C : Addr} {X' : List Addr} {s s' : Shared} {m : Str → Option Value} {v : Value} {r : Rel} (H : Here c env X ρ s) (hsc : scope.kind = .function)
    (hsh : Shares env scope x ρf ρ) (hx : scope.names.lookup x = some .local) (hn : s'.heap.Ns C m) (hm : m x = some v) (hr : r.on (hide X' s'.heap) v)
    (hl : View.le (hide X s.heap) (hide X' s'.heap)) (hc : ∀ a u, s.heap.IsCell a u → s'.heap.IsCell a u) (hx' : ∀ b ∈ X', ∃ o, s'.heap.get? b = some o) :
    Here c (compEnvC scope (closL env scope.names []) C env) X' ((x, r) :: ρf) s' := by
  refine ⟨H.base.le hl, hx', hsc, H.glob, H.blt, fun y q e => ?_⟩
  rw [List.lookup_cons] at e
  cases hb : y == x with
  | true =>
    rw [hb] at e; cases e
    have := eq_of_beq hb; subst this
    exact ⟨v, .inl ⟨relabel_other (by decide) hx, m, hn, hm⟩, hr⟩
  | false =>
    rw [hb] at e
    obtain ⟨h1, h2, h3, h4⟩ := hsh y q e
    obtain ⟨u, hu, hq⟩ := H.vars y q h4
    refine ⟨u, ?_, q.mono hq hl⟩
    rcases hu with ⟨k1, _⟩ | ⟨k1, a, e1, e2⟩
    · rw [h3] at k1; cases k1
    · exact .inr ⟨relabel_free H.kind h2 h3, a, closL_lookup e1 (mem_of_lookup h2), hc a _ e2⟩

/-- the tests of a comprehension -/
def Trs (c : Cfg) (A : Around) (env : Env) (X : List Addr) (ρ : Ctxt) (ifs : List Expr) (b : Bool) : Prop :=
  ∀ (s : Shared) (Q : Bool → Shared → Prop) (E : Value → Shared → Prop), Here c env X ρ s → (∀ s', Keeps s s' → Q b s') →
    wpAny c.M A (forIn ifs true fun c r => if r = true then do let ok ← isTrue c env (eval c env); pure (ForInStep.yield ok) else pure (ForInStep.yield r)) Q E s
theorem trs_nil : Trs c A env X ρ [] true := fun s Q E H h => wpAny_tests_nil (h s (keeps_refl s))
theorem trs_one {t : Expr} {b : Bool} (h1 : Tr c A env X ρ t b) : Trs c A env X ρ [t] b := fun s Q E H h => wpAny_tests_one (h1 s Q E H h)

/-- how the names of a comprehension's scope stand that are the module's -/
def Globs (scope : Scope) (ce : Env) : Prop := ∀ y, scope.names.lookup y = some .globalImplicit → ce.kindOf y = some .globalImplicit

theorem comp_core {α : Type} {elt iter : Expr} {x : Str} {px : Pos} {ifs : List Expr} {scope : Scope} {pos : Pos} {xs : List α} (f : α → Rel) (p : α → Bool) (o : α → Rel) {ρf : Ctxt}
    {I : Addr} {fp : List Addr} {P : Nat → Value → Prop} {St : Nat → Heap → Prop} {s₀ s₂ : Shared} {RR : Value → Addr → Result → Shared → Prop} {E : Value → Shared → Prop}
    (H : Here c env X ρ s₀) (k : Keeps s₀ s₂) (hI : s₀.heap.get? I = none) (W : Walk c A X (xs.map f) I fp P St s₂) (hlen : xs.length ≤ 1000)
    (hcell : ∀ y ∈ scope.names, y.2 ≠ .cell) (hkind : scope.kind = .function) (hx : scope.names.lookup x = some .local) (hsh : Shares env scope x ρf ρ)
    (htest : ∀ ce X' a, a ∈ xs → Globs scope ce → Trs c A ce X' ((x, f a) :: ρf) ifs (p a))
    (helt : ∀ ce X' a, a ∈ xs → p a = true → Globs scope ce → Ev c A ce X' ((x, f a) :: ρf) elt (o a))
    (hRR : ∀ D C s' m (ys : List Value) ep, s₂.heap.get? D = none → s₂.heap.get? C = none → D ≠ C → s'.heap.Ns C m → s'.heap.get? D = some (seqObj "list" ys ep) →
      AllOn (hide (C :: D :: I :: X) s'.heap) ((xs.filter p).map o) ys → (∃ h tk, s' = { s₂ with heap := h, toks := tk }) → (∀ b o, b ≠ I → s₂.heap.get? b = some o → s'.heap.get? b = some o) → RR (.ref D) C (.ok .next) s') :
    wpAny c.M A (newList []) (fun acc s₃ => wpAny c.M A (newFunctionEnv scope env.globals (closL env scope.names []) [] env.qual none .none (some env)) (fun cenv s₄ =>
      codeAny c.M A (.compStart (.ListComp elt [⟨.Name x px, iter, ifs, 0⟩] scope pos) 0 (.ref I) acc { cenv with scope := relabel scope env }) (RR acc cenv.locals) s₄) E s₃) E s₂ := by
  refine wpAny_newObj_type (wpAny_newFunctionEnv hcell (by intro y hy; simp at hy) (fun h₁ hns₁ hsb₁ => ?_) hkind)
  dsimp only at hns₁ hsb₁ ⊢
  generalize hH2 : s₂.heap.push { cls := .type "list", dict := none, data := .seq ([] : List Value).toArray } = H2 at hns₁ hsb₁ ⊢
  generalize hDe : s₂.heap.objs.size = D at *
  have hCe : H2.objs.size = D + 1 := by rw [← hH2, Heap.size_push, hDe]
  generalize hCd : H2.objs.size = C at *
  have hDC : D ≠ C := by omega
  have hDn : s₂.heap.get? D = none := none_of_le (by omega)
  have hCn : s₂.heap.get? C = none := none_of_le (by omega)
  have below : ∀ b, b < s₂.heap.objs.size → b ≠ C ∧ b ≠ D := fun b hb => ⟨by omega, by omega⟩
  have old : ∀ b o, s₂.heap.get? b = some o → h₁.get? b = some o := fun b o e => hsb₁.extBut b o (below b (Heap.lt_size e)).1 (Heap.get?_push_of_some _ (hH2 ▸ Heap.get?_push_of_some _ e))
  have hacc : h₁.get? D = some (seqObj "list" [] 0) := hsb₁.extBut _ _ hDC (Heap.get?_push_of_some _ (by rw [← hH2, ← hDe]; exact Heap.get?_push_size _ rfl))
  have hst₁ : St 0 h₁ := W.w.frame _ _ _ W.st fun b _ o e => old b o e
  have hCf : C ∉ fp := fun hm => (below _ (W.lt _ hm)).1 rfl
  have hDf : D ∉ fp := fun hm => (below _ (W.lt _ hm)).2 rfl
  have hIC : I ≠ C := fun q => hCf (q ▸ W.w.sub I (List.mem_singleton.mpr rfl))
  have hID : I ≠ D := fun q => hDf (q ▸ W.w.sub I (List.mem_singleton.mpr rfl))
  -- what any later heap has
  have vle : ∀ h' : Heap, (∀ b o, b ≠ C → b ≠ I → b ≠ D → s₂.heap.get? b = some o → h'.get? b = some o) → View.le (hide (I :: X) s₂.heap) (hide (C :: D :: I :: X) h') := fun h' hk =>
    hide_new (fun b o hb e => hk b o (below b (Heap.lt_size e)).1 (fun q => hb (q ▸ List.mem_cons_self ..)) (below b (Heap.lt_size e)).2 e) fun b hb => by
      rcases List.mem_cons.mp hb with rfl | hb
      · exact .inr hCn
      · rcases List.mem_cons.mp hb with rfl | hb
        · exact .inr hDn
        · exact .inl hb
  have vle0 : View.le (hide X s₀.heap) (hide (I :: X) s₂.heap) := hide_new (fun b o _ e => keeps_get k e) fun b hb => by
    rcases List.mem_cons.mp hb with rfl | hb
    · exact .inr hI
    · exact .inl hb
  have hglob : Globs scope (compEnvC scope (closL env scope.names []) C env) := fun y hy => relabel_other (by decide) hy
  have frame : ∀ (s' : Shared) m v a, (∀ b o, b ≠ C → b ≠ I → b ≠ D → s₂.heap.get? b = some o → s'.heap.get? b = some o) → s'.heap.Ns C m → m x = some v → (f a).on (hide (I :: X) s₂.heap) v → (∃ o, s'.heap.get? I = some o) → (∃ o, s'.heap.get? D = some o) →
      Here c (compEnvC scope (closL env scope.names []) C env) (C :: D :: I :: X) ((x, f a) :: ρf) s' := fun s' m v a hk hn hm hr h1 h2 => by
    refine here_comp H hkind hsh hx hn hm ((f a).mono hr (vle _ hk)) (View.le_trans vle0 (vle _ hk)) (fun a u q => ?_) fun b hb => ?_
    · obtain ⟨oc, e1, e2⟩ := q
      have e3 := keeps_get k e1
      exact ⟨oc, hk a oc (below a (Heap.lt_size e3)).1 (fun q => by rw [q, hI] at e1; cases e1) (below a (Heap.lt_size e3)).2 e3, e2⟩
    · rcases List.mem_cons.mp hb with rfl | hb
      · obtain ⟨oC, _, _, e, _⟩ := hn; exact ⟨oC, e⟩
      · rcases List.mem_cons.mp hb with rfl | hb
        · exact h2
        · rcases List.mem_cons.mp hb with rfl | hb
          · exact h1
          · obtain ⟨ob, e⟩ := H.xok b hb
            have e3 := keeps_get k e
            exact ⟨ob, hk b ob (below b (Heap.lt_size e3)).1 (fun q => by rw [q, hI] at e; cases e) (below b (Heap.lt_size e3)).2 e3⟩
  have loop : ∀ s₃ : Shared, s₃ = { s₂ with heap := h₁, toks := s₂.toks + ([] : List (Str × Value)).length } →
      codeAny c.M A (.compLoop (.ListComp elt [⟨.Name x px, iter, ifs, 0⟩] scope pos) 0 (.ref I) (.ref D) (compEnvC scope (closL env scope.names []) C env)) (RR (.ref D) C) s₃ := by
    rintro s₃ rfl
    refine codeAny_compLoop_tests
      (fun j s' => ∃ i ys m ep, i ≤ xs.length ∧ j = xs.length + 1 - i ∧ (∃ h tk, s' = { s₂ with heap := h, toks := tk }) ∧ St i s'.heap ∧ s'.heap.get? D = some (seqObj "list" ys ep) ∧ s'.heap.Ns C m ∧
        AllOn (hide (C :: D :: I :: X) s'.heap) (((xs.take i).filter p).map o) ys ∧ (∀ b o, b ≠ C → b ≠ I → b ≠ D → s₂.heap.get? b = some o → s'.heap.get? b = some o)) ?_ (xs.length + 1)
      ⟨0, [], _, 0, Nat.zero_le _, rfl, ⟨h₁, _, rfl⟩, hst₁, hacc, hns₁, .nil, fun b o _ _ _ e => old b o e⟩
    rintro j s' ⟨i, ys, m, ep, hi, rfl, hsame, hst, hD, hn, hall, hk⟩
    by_cases hlt : i < xs.length
    · refine W.w.item i _ _ _ (by rw [List.length_map]; exact hlt) hst fun v h₂ tk₂ hPv hst₂ hk₂ => ?_
      have hk₂' : ∀ b o, b ≠ I → s'.heap.get? b = some o → h₂.get? b = some o := fun b o hb e => hk₂ b o (fun q => hb (List.mem_singleton.mp q)) e
      have hra : (f xs[i]).on (hide (I :: X) s₂.heap) v := W.item i v _ hPv (by simp [hlt])
      have hmem : xs[i] ∈ xs := List.getElem_mem hlt
      generalize hae : xs[i] = a at hra hmem
      refine wpAny_assign_Name (wpAny_storeName_local (lookup_relabel_local hx) (hn.at' fun o e => hk₂' _ o (Ne.symm hIC) e) (fun h₃ hn₃ hs₃ => ?_) (by simp [compEnvC, relabel, hkind]))
      have hk₃ : ∀ b o, b ≠ C → b ≠ I → s'.heap.get? b = some o → h₃.get? b = some o := fun b o h1 h2 e => hs₃.extBut b o h1 (hk₂' b o h2 e)
      have hst₃ : St (i + 1) h₃ := W.w.frame _ _ _ hst₂ fun b hb o e => hs₃.extBut b o (fun (q : b = C) => hCf (q ▸ hb)) e
      have hI₃ : ∃ o, h₃.get? I = some o := W.has _ _ hst₃
      have hD₃ := hk₃ D _ hDC (Ne.symm hID) hD
      have hall₃ : AllOn (hide (C :: D :: I :: X) h₃) (((xs.take i).filter p).map o) ys := hall.mono (hide_le fun b o hb e => hk₃ b o (fun q => hb (q ▸ List.mem_cons_self ..)) (fun q => hb (by subst q; simp)) e)
      have F₃ := frame { s' with heap := h₃, toks := tk₂ + 1 } _ v a (fun b o h1 h2 h3 e => hk₃ b o h1 h2 (hk b o h1 h2 h3 e)) hn₃ (by simp) hra hI₃ ⟨_, hD₃⟩
      have htk : (xs.take (i + 1)).filter p = (xs.take i).filter p ++ (if p a then [a] else []) := take_succ_filter p xs i a (by rw [← hae]; simp [hlt])
      refine htest _ _ a hmem hglob _ _ _ F₃ fun s₄ k₄ => ?_
      have hn₄ := hn₃.keeps fun b o e => keeps_get k₄ e
      have hst₄ : St (i + 1) s₄.heap := W.w.frame _ _ _ hst₃ fun b _ o e => keeps_get k₄ e
      have hsame₄ : ∃ h tk, s₄ = { s₂ with heap := h, toks := tk } := by
        obtain ⟨h, tk, rfl⟩ := hsame
        obtain ⟨h', tk', rfl, _⟩ := k₄
        exact ⟨h', tk', rfl⟩
      cases hpa : p a with
      | false =>
        simp only [Bool.false_eq_true, if_false]
        rw [hpa] at htk
        refine ⟨xs.length + 1 - (i + 1), by omega, i + 1, ys, _, ep, hlt, rfl, hsame₄, hst₄, keeps_get k₄ hD₃, hn₄, ?_, fun b o h1 h2 h3 e => keeps_get k₄ (hk₃ b o h1 h2 (hk b o h1 h2 h3 e))⟩
        rw [htk]
        simpa using hall₃.mono (keeps_hide k₄)
      | true =>
        simp only [if_true]
        rw [hpa] at htk
        refine helt _ _ a hmem hpa hglob _ _ _ (F₃.keeps k₄) fun y s₅ k₅ hy => ?_
        have hD₅ := keeps_get k₅ (keeps_get k₄ hD₃)
        have hys : ys.length ≤ 1000 := by
          have e1 := hall.length
          have e2 : (((xs.take i).filter p).map o).length ≤ xs.length := by
            rw [List.length_map]
            refine Nat.le_trans (List.length_filter_le _ _) ?_
            rw [List.length_take]; omega
          omega
        refine wpAny_list_append_plain (items := ys.toArray) ⟨ep, hD₅⟩ (fun h₆ hl₆ hs₆ => ?_) (by rw [List.size_toArray, sizeLine_eq]; omega)
        obtain ⟨ep₆, hl₆⟩ := hl₆
        have hk₆ : ∀ b o, b ≠ D → s₅.heap.get? b = some o → h₆.get? b = some o := fun b o hb e => hs₆.extBut b o hb e
        have vl : View.le (hide (C :: D :: I :: X) s₅.heap) (hide (C :: D :: I :: X) h₆) := hide_le fun b o hb e => hk₆ b o (fun q => hb (by subst q; simp)) e
        refine ⟨xs.length + 1 - (i + 1), by omega, i + 1, ys ++ [y], _, ep₆, hlt, rfl, ?_, W.w.frame _ _ _ hst₄ fun b hb o e => hk₆ b o (fun q => hDf (q ▸ hb)) (keeps_get k₅ e), ?_, (hn₄.keeps fun b o e => keeps_get k₅ e).sameBut hs₆ (Ne.symm hDC), ?_,
          fun b o h1 h2 h3 e => hk₆ b o h3 (keeps_get k₅ (keeps_get k₄ (hk₃ b o h1 h2 (hk b o h1 h2 h3 e))))⟩
        · obtain ⟨h, tk, rfl⟩ := hsame₄
          obtain ⟨h', tk', rfl, _⟩ := k₅
          exact ⟨h₆, tk', rfl⟩
        · simpa using hl₆
        · rw [htk]
          have h1 := (hall₃.mono (keeps_hide (keeps_trans k₄ k₅))).mono vl
          have h2 := (o a).mono hy vl
          unfold AllOn at h1 ⊢
          simpa using Paired.snoc h1 h2
    · have hin : i = xs.length := by omega
      subst hin
      refine W.w.done _ _ _ (by rw [List.length_map]; exact hst) fun h₂ tk₂ hk₂ => ?_
      have hk₂' : ∀ b o, b ≠ I → s'.heap.get? b = some o → h₂.get? b = some o := fun b o hb e => hk₂ b o (fun q => hb (List.mem_singleton.mp q)) e
      rw [List.take_length] at hall
      refine hRR D C _ m ys ep hDn hCn hDC (hn.at' fun o e => hk₂' _ o (Ne.symm hIC) e) (hk₂' _ _ (Ne.symm hID) hD) (hall.mono (hide_le fun b o hb e => hk₂' b o (fun q => hb (by subst q; simp)) e)) ?_
        fun b o hb e => hk₂' b o hb (hk b o (below b (Heap.lt_size e)).1 hb (below b (Heap.lt_size e)).2 e)
      obtain ⟨h, tk, rfl⟩ := hsame
      exact ⟨h₂, tk₂, rfl⟩
  exact codeAny_compStart_list (loop _ rfl) (W.w.self 0 _ _ _ hst₁ (loop _ rfl))

/-- what a comprehension's scope must be like: its own names local, the names it shares cells of its function -/
structure CompOk (env : Env) (scope : Scope) (x : Str) : Prop where
  cell : ∀ y ∈ scope.names, y.2 ≠ .cell
  kind : scope.kind = .function
  names : ∀ y ∈ scope.names, y.2 = .local → scope.names.lookup y.1 = some .local
  own : scope.names.lookup x = some .local
  free : ∀ n, (n, NameKind.free) ∈ scope.names → env.kindOf n = some .cell
theorem compOk_of {scope : Scope} {x : Str} (h : (scope.names.all fun y => y.2 != .cell && (y.2 != .local || scope.names.lookup y.1 == some .local) && (y.2 != .free || env.scope.names.lookup y.1 == some .cell)) = true)
    (hk : scope.kind = .function) (hx : scope.names.lookup x = some .local) : CompOk env scope x := by
  have h' := List.all_eq_true.mp h
  refine ⟨fun y hy q => ?_, hk, fun y hy q => ?_, hx, fun n hn => ?_⟩
  · have := h' y hy; rw [q] at this; simp at this
  · have := h' y hy; rw [q] at this; simp at this; exact this
  · have := h' _ hn; simp at this; exact this

theorem ev_listcomp {α : Type} {elt iter : Expr} {x : Str} {px : Pos} {ifs : List Expr} {scope : Scope} {pos : Pos} {r₀ : Rel} {xs : List α} (f : α → Rel) (p : α → Bool) (o : α → Rel) {ρf : Ctxt}
    (hC : ∀ n, env.kindOf n = some .cell → ∃ a, env.cells.lookup n = some a) (ok : CompOk env scope x) (hsh : Shares env scope x ρf ρ)
    (h1 : Ev c A env X ρ iter r₀) (hi : IterIs c A X r₀ (xs.map f)) (hlen : xs.length ≤ 1000)
    (htest : ∀ ce X' a, a ∈ xs → Globs scope ce → Trs c A ce X' ((x, f a) :: ρf) ifs (p a))
    (helt : ∀ ce X' a, a ∈ xs → p a = true → Globs scope ce → Ev c A ce X' ((x, f a) :: ρf) elt (o a))
    (hs : ∀ v, foldedSetIterable iter env v = pure v := by intro _; rfl) :
    Ev c A env X ρ (.ListComp elt [⟨.Name x px, iter, ifs, 0⟩] scope pos) (RL ((xs.filter p).map o)) := by
  intro s Q E H h
  rw [eval_ListComp]
  refine wpAny_comprehension_free (use := none) rfl hs (closureFor_eq fun n hn => hC n (ok.free n hn)) ok.kind ok.names
    (h1 s _ E H fun v s₁ k₁ e₁ => hi s₁ v _ E (H.keeps k₁).base (H.keeps k₁).xok e₁ fun I fp P St s₂ k₂ hI W => ?_)
  refine comp_core (RR := fun acc C => compPost c.M A E none Q acc C) f p o (H.keeps k₁) k₂ hI W hlen ok.cell ok.kind ok.own hsh htest helt ?_
  intro D C s' m ys ep hD hC' hDC hn hg hall hsame hk
  refine ⟨m, hn, fun h' hs' => ?_⟩
  have hk₁ : ∀ b o, s₁.heap.get? b = some o → h'.get? b = some o := fun b o e => by
    have e2 := keeps_get k₂ e
    refine hs'.extBut b o (fun q => ?_) (hk b o (fun q => ?_) e2)
    · rw [q, hC'] at e2; cases e2
    · rw [q, hI] at e; cases e
  have vl : View.le (hide (C :: D :: I :: X) s'.heap) (hide X h') := View.le_trans (hide_le fun b o hb e => hs'.extBut b o (fun q => hb (q ▸ List.mem_cons_self ..)) e) (hide_sub fun b hb => by simp [hb])
  have hDX : D ∉ X := fun hb => by
    obtain ⟨o, e⟩ := (H.keeps k₁).xok D hb
    rw [keeps_get k₂ e] at hD; cases hD
  refine h _ _ ?_ ⟨D, ys, ep, rfl, hide_of (hs'.extBut D _ hDC hg) hDX, hall.mono vl⟩
  refine keeps_trans k₁ ?_
  obtain ⟨h2, tk2, rfl, _⟩ := k₂
  obtain ⟨h3, tk3, rfl⟩ := hsame
  exact ⟨h', tk3, rfl, hk₁⟩

/-- a comprehension stored in a local name: the store comes ahead of the letting go -/
theorem ex_assign_comp {α : Type} {elt iter : Expr} {x y : Str} {px py pos spos : Pos} {ifs : List Expr} {scope : Scope} {r₀ : Rel} {xs : List α} {sB s : Shared} {rest : List Stmt} {Qf : Flow → Shared → Prop} {E : Value → Shared → Prop}
    (f : α → Rel) (p : α → Bool) (o : α → Rel) {ρf : Ctxt} {O : List Addr} (F : InF c sB env O X ρ s) (ok : CompOk env scope x) (hsh : Shares env scope x ρf ρ)
    (h1 : Ev c A env X ρ iter r₀) (hi : IterIs c A X r₀ (xs.map f)) (hlen : xs.length ≤ 1000)
    (htest : ∀ ce X' a, a ∈ xs → Globs scope ce → Trs c A ce X' ((x, f a) :: ρf) ifs (p a))
    (helt : ∀ ce X' a, a ∈ xs → p a = true → Globs scope ce → Ev c A ce X' ((x, f a) :: ρf) elt (o a))
    (hy : env.kindOf y = some .local) (hsw : swapsWith (.ListComp elt [⟨.Name x px, iter, ifs, 0⟩] scope pos) (some (.Name y py)) spos.line env = pure true)
    (h : ∀ s', InF c sB env O X ((y, RL ((xs.filter p).map o)) :: ρ) s' → wpAny c.M A (execs rest env) Qf E s')
    (hs : ∀ v, foldedSetIterable iter env v = pure v := by intro _; rfl) :
    wpAny c.M A (execs (.Assign [.Name y py] (.ListComp elt [⟨.Name x px, iter, ifs, 0⟩] scope pos) spos :: rest) env) Qf E s := by
  refine wpAny_execs_cons ?_
  rw [exec_Assign_Name_used _ _ _ _ hsw]
  refine wpAny_bind (wpAny_standAt (wpAny_bind ?_))
  show wpAny _ A (do let _ ← comprehension (.ListComp elt [⟨.Name x px, iter, ifs, 0⟩] scope pos) scope env _ (newList []) false (eval iter env) (some (assign (.Name y py) env))) _ _ s
  refine wpAny_bind (wpAny_mono (wpAny_comprehension_free (use := some (assign (.Name y py) env)) (Q := fun _ s' => wpAny c.M A (execs rest env) Qf E s') rfl hs (closureFor_eq fun n hn => (F.cell n (ok.free n hn)).elim fun a ha => ha.elim fun v hv => ⟨a, hv.1⟩) ok.kind ok.names
    (h1 s _ E F.here fun v s₁ k₁ e₁ => hi s₁ v _ E (F.here.keeps k₁).base (F.here.keeps k₁).xok e₁ fun I fp P St s₂ k₂ hI W => ?_)) (fun _ s' hq => wpAny_pure (wpAny_pure hq)) fun _ _ e => e)
  have F₁ := F.keeps k₁
  have H₁ := F₁.here
  refine comp_core (RR := fun acc C => compPost c.M A E (some (assign (.Name y py) env)) (fun _ s' => wpAny c.M A (execs rest env) Qf E s') acc C) f p o H₁ k₂ hI W hlen ok.cell ok.kind ok.own hsh htest helt ?_
  intro D C s' m ys ep hD hC' hDC hn hg hall hsame hk
  have hDX : D ∉ X := fun hb => by
    obtain ⟨o, e⟩ := H₁.xok D hb
    rw [keeps_get k₂ e] at hD; cases hD
  have hCX : C ∉ X := fun hb => by
    obtain ⟨o, e⟩ := H₁.xok C hb
    rw [keeps_get k₂ e] at hC'; cases hC'
  have k₃ : Keeps s₁ s' := by
    obtain ⟨h2, tk2, rfl, q⟩ := k₂
    obtain ⟨h3, tk3, rfl⟩ := hsame
    exact ⟨h3, tk3, rfl, fun b o e => hk b o (fun q => by rw [q, hI] at e; cases e) (q b o e)⟩
  show wpAny _ A (assign (.Name y py) env (.ref D)) _ _ _
  -- the store, with the comprehension's own names beside
  obtain ⟨m₁, n₁⟩ := F₁.ns
  have hLC : env.locals ≠ C := fun q => hCX (q ▸ F.hidL)
  have hLD : D ≠ env.locals := fun q => hDX (q ▸ F.hidL)
  refine wpAny_assign_Name (wpAny_storeName_local hy (n₁.keeps fun b o e => keeps_get k₃ e) (fun h₂ hn₂ hs₂ => ?_) (by rw [H₁.kind]; rfl))
  refine ⟨m, hn.sameBut hs₂ (Ne.symm hLC), fun h₃ hs₃ => ?_⟩
  have kp : ∀ b o, b ≠ env.locals → s₁.heap.get? b = some o → h₃.get? b = some o := fun b o hb e =>
    hs₃.extBut b o (fun q => by have e2 := keeps_get k₂ e; rw [q, hC'] at e2; cases e2) (hs₂.extBut b o hb (keeps_get k₃ e))
  have vl : View.le (hide (C :: D :: I :: X) s'.heap) (hide X h₃) := View.le_trans
    (hide_le fun b o hb e => hs₃.extBut b o (fun q => hb (q ▸ List.mem_cons_self ..)) (hs₂.extBut b o (fun (q : b = env.locals) => hb (by rw [q]; simp [F.hidL])) e)) (hide_sub fun b hb => by simp [hb])
  have := F₁.stored (x := y) (r := RL ((xs.filter p).map o)) (v := .ref D) (tk := s'.toks + 1) hy n₁ (hn₂.sameBut hs₃ hLC) kp ⟨D, ys, ep, rfl, hide_of (hs₃.extBut D _ hDC (hs₂.extBut D _ hLD hg)) hDX, hall.mono vl⟩
  refine h _ ?_
  obtain ⟨h4, tk4, rfl, _⟩ := k₃
  exact this
end
end Mine
end

section
namespace Mine
open PySem PySem.W PySem.Calls PyProof.Rows

section
variable {c : Cfg} {A : Around} {env : Env} {O X : List Addr} {ρ : Ctxt} {sB s : Shared}

/-- all but the frame's own names and one iterator stands -/
structure Turned (env : Env) (O : List Addr) (I : Addr) (s s' : Shared) : Prop where
  same : ∃ h tk, s' = { s with heap := h, toks := tk }
  keep : ∀ b o, b ≠ env.locals → (∀ n, env.cells.lookup n ≠ some b) → b ∉ O → b ≠ I → s.heap.get? b = some o → s'.heap.get? b = some o
theorem Turned.refl {I : Addr} (s : Shared) : Turned env O I s s := ⟨⟨_, _, rfl⟩, fun _ _ _ _ _ _ e => e⟩
theorem Turned.trans {I : Addr} {s' s'' : Shared} (h : Turned env O I s s') (h' : Turned env O I s' s'') : Turned env O I s s'' := by
  refine ⟨?_, fun b o h1 h2 h3 h4 e => h'.keep b o h1 h2 h3 h4 (h.keep b o h1 h2 h3 h4 e)⟩
  obtain ⟨h1, t1, rfl⟩ := h.same
  obtain ⟨h2, t2, rfl⟩ := h'.same
  exact ⟨_, _, rfl⟩
theorem Turned.weak {I : Addr} {s' : Shared} (h : Turned env [] I s s') : Turned env O I s s' := ⟨h.same, fun b o h1 h2 _ h4 e => h.keep b o h1 h2 (fun h => nomatch h) h4 e⟩
theorem turned_of_keeps {I : Addr} {s' : Shared} (k : Keeps s s') : Turned env [] I s s' := by
  obtain ⟨h, tk, rfl, q⟩ := k
  exact ⟨⟨h, tk, rfl⟩, fun b o _ _ _ _ e => q b o e⟩
/-- the same frame, others of its things its own -/
theorem InF.reown {O' : List Addr} (F : InF c sB env O X ρ s) (h : ∀ b ∈ O', b ∈ X) : InF c s env O' X ρ s :=
  ⟨F.here, ⟨s.heap, s.toks, rfl⟩, fun _ _ _ _ _ e => e, F.ns, F.cell, F.apart, F.off, F.hidL, F.hidC, h⟩
theorem InF.turned {I : Addr} {ρ' : Ctxt} {X' : List Addr} (F : InF c sB env O X' ρ' s) : Turned env O I sB s := ⟨F.same, fun b o h1 h2 h3 _ e => F.keep b o h1 h2 h3 e⟩

/-- a frame's facts where only hidden things are turned -/
theorem InF.moved {X' : List Addr} {s' : Shared} (F : InF c sB env O X ρ s) (hl : View.le (hide X s.heap) (hide X' s'.heap)) (hL : ∀ o, s.heap.get? env.locals = some o → s'.heap.get? env.locals = some o)
    (hC : ∀ n a o, env.cells.lookup n = some a → s.heap.get? a = some o → s'.heap.get? a = some o) (hX : ∀ b ∈ X, b ∈ X') (hx : ∀ b ∈ X', ∃ o, s'.heap.get? b = some o) : InF c s' env O X' ρ s' := by
  have cellK : ∀ n a u, env.cells.lookup n = some a → s.heap.IsCell a u → s'.heap.IsCell a u := fun n a u ha ⟨o, e1, e2⟩ => ⟨o, hC n a o ha e1, e2⟩
  refine ⟨⟨F.here.base.le hl, hx, F.here.kind, F.here.glob, F.here.blt, fun x r e => ?_⟩, ⟨_, _, rfl⟩, fun _ _ _ _ _ e => e, let ⟨m, n⟩ := F.ns; ⟨m, n.at' hL⟩, fun x hk => ?_, F.apart, F.off, hX _ F.hidL, fun n a h => hX _ (F.hidC n a h), fun b h => hX _ (F.hidO b h)⟩
  · obtain ⟨v, hv, hr⟩ := F.here.vars x r e
    refine ⟨v, ?_, r.mono hr hl⟩
    rcases hv with ⟨k1, m, n, q⟩ | ⟨k1, a, e1, e2⟩
    · exact .inl ⟨k1, m, n.at' hL, q⟩
    · exact .inr ⟨k1, a, e1, cellK x a _ e1 e2⟩
  · obtain ⟨a, v, e1, e2⟩ := F.cell x hk
    exact ⟨a, v, e1, cellK x a _ e1 e2⟩

/-- one turn's take: the next item, stored in the target's names -/
structure Draw (c : Cfg) (A : Around) (env : Env) (O X : List Addr) (target : Expr) (ts : List Ctxt) (I : Addr) (St : Nat → Heap → Prop) : Prop where
  iX : I ∉ X
  has : ∀ i h, St i h → ∃ o, h.get? I = some o
  frame : ∀ i s s' ρ, InF c s env O (I :: X) ρ s' → St i s.heap → St i s'.heap
  turn : ∀ i (s : Shared) ρ t (Q : Shared → Prop) (E : Value → Shared → Prop), ts[i]? = some t → St i s.heap → InF c s env O (I :: X) ρ s → (∀ s', InF c s' env O (I :: X) (t ++ ρ) s' → Turned env [] I s s' → St (i + 1) s'.heap → Q s') →
    wpAny c.M A (pyNext (.ref I)) (fun r s₁ => match r with | none => False | some v => wpAny c.M A (letOwnedTupleGo target (.ref I) v) (fun _ s₂ => wpAny c.M A (assign target env v) (fun _ s₃ => Q s₃) E s₂) E s₁) E s
  done : ∀ (s : Shared) ρ (Q : Shared → Prop) (E : Value → Shared → Prop), St ts.length s.heap → InF c s env O (I :: X) ρ s → (∀ s', InF c s' env O X ρ s' → Turned env [] I s s' → Q s') →
    wpAny c.M A (pyNext (.ref I)) (fun r s₁ => match r with | none => Q s₁ | some _ => False) E s

/-- a source of a loop's turns -/
def Draws (c : Cfg) (A : Around) (env : Env) (O X : List Addr) (ρ : Ctxt) (target iter : Expr) (ts : List Ctxt) : Prop :=
  ∀ (s : Shared) (Q : Value → Shared → Prop) (E : Value → Shared → Prop), InF c s env O X ρ s → (∀ I St s', Keeps s s' → s.heap.get? I = none → Draw c A env O X target ts I St → St 0 s'.heap → Q (.ref I) s') →
    wpAny c.M A (eval iter env) (fun x s₁ => wpAny c.M A (pyIter x) Q E s₁) E s

theorem ex_for {target iter : Expr} {body rest : List Stmt} {pos : Pos} {ts : List Ctxt} {Qf : Flow → Shared → Prop} {E : Value → Shared → Prop} (G : Nat → Ctxt) (J : Nat → Shared → Prop) (RetOk : Rel → Prop) (F : InF c sB env O X ρ s)
    (h1 : Draws c A env O X ρ target iter ts) (hG : Sub (G 0) ρ) (hJ : J 0 s) (stab : ∀ i I s s', I ∉ X → Turned env [] I s s' → J i s → J i s')
    (turn : ∀ i t X' (s : Shared) (Q : Flow → Shared → Prop) (E : Value → Shared → Prop), ts[i]? = some t → (∀ b ∈ X, b ∈ X') → J i s → InF c s env O X' (t ++ G i) s → (∀ s', InF c s env O X' (G (i + 1)) s' → J (i + 1) s' → Q .next s') →
      (∀ r v s', RetOk r → InF c s env O X' [] s' → r.on (hide X' s'.heap) v → Q (.ret v) s') → wpAny c.M A (execs body env) Q E s)
    (hret : ∀ r v s', RetOk r → InF c sB env O X [] s' → r.on (hide X s'.heap) v → Qf (.ret v) s')
    (h : ∀ s', J ts.length s' → InF c sB env O X (G ts.length) s' → wpAny c.M A (execs rest env) Qf E s')
    (hs : ∀ v, foldedSetIterable iter env v = pure v := by intro _; rfl) : wpAny c.M A (execs (.For target iter body [] pos :: rest) env) Qf E s := by
  refine wpAny_execs_cons (wpAny_For (h1 s _ E F.self fun I St s₁ k₁ hI D hst => ?_) hs)
  have F₁ := F.keeps k₁
  have hI1 : ∀ b o, s.heap.get? b = some o → b ≠ I := fun b o e q => by rw [q, hI] at e; cases e
  have FI : InF c s₁ env O (I :: X) (G 0) s₁ := by
    have hle : View.le (hide X s.heap) (hide (I :: X) s₁.heap) := hide_new (fun b o _ e => keeps_get k₁ e) fun b hb => by
      rcases List.mem_cons.mp hb with rfl | hb
      · exact .inr hI
      · exact .inl hb
    refine ((F.self.weak hG).moved hle (fun o e => keeps_get k₁ e) (fun _ _ _ _ e => keeps_get k₁ e) (fun b hb => List.mem_cons_of_mem _ hb) fun b hb => ?_)
    rcases List.mem_cons.mp hb with rfl | hb
    · exact D.has _ _ hst
    · obtain ⟨o, e⟩ := F.here.xok b hb; exact ⟨o, keeps_get k₁ e⟩
  -- back from a frame in which the iterator is hidden
  have back : ∀ s' ρ' X', (∀ b ∈ X, b ∈ X') → InF c s' env O X' ρ' s' → Turned env O I s₁ s' → InF c sB env O X ρ' s' := fun s' ρ' X' hX F' T => by
    have hx : ∀ b ∈ X, ∃ o, s'.heap.get? b = some o := fun b hb => F'.here.xok b (hX b hb)
    have hle : View.le (hide X' s'.heap) (hide X s'.heap) := hide_sub hX
    have F'' : InF c s' env O X ρ' s' := ⟨⟨F'.here.base.le hle, hx, F'.here.kind, F'.here.glob, F'.here.blt, fun x r e => let ⟨v, hv, hr⟩ := F'.here.vars x r e; ⟨v, hv, r.mono hr hle⟩⟩, F'.same, F'.keep, F'.ns, F'.cell, F'.apart, F'.off, F.hidL, F.hidC, F.hidO⟩
    refine F.trans ⟨F''.here, ?_, fun b o h1 h2 h3 e => T.keep b o h1 h2 h3 (hI1 b o e) (keeps_get k₁ e), F''.ns, F''.cell, F''.apart, F''.off, F''.hidL, F''.hidC, F''.hidO⟩
    obtain ⟨h1, t1, rfl, _⟩ := k₁
    obtain ⟨h2, t2, rfl⟩ := T.same
    exact ⟨_, _, rfl⟩
  refine codeAny_forLoop_any (fun n s' => ∃ i, i ≤ ts.length ∧ n = ts.length + 1 - i ∧ J i s' ∧ InF c s' env O (I :: X) (G i) s' ∧ Turned env O I s₁ s' ∧ St i s'.heap) ?_ (ts.length + 1) ⟨0, Nat.zero_le _, rfl, stab 0 I _ _ D.iX (turned_of_keeps k₁) hJ, FI, .refl _, hst⟩
  rintro n s' ⟨i, hi, rfl, hJi, F', T, hst'⟩
  by_cases hlt : i < ts.length
  · refine wpAny_mono (D.turn i s' (G i) ts[i] (fun s₃ => InF c s₃ env O (I :: X) (ts[i] ++ G i) s₃ ∧ Turned env [] I s' s₃ ∧ St (i + 1) s₃.heap) _ (by simp [hlt]) hst' F' fun s₂ F₂ T₂ hst₂ => ⟨F₂, T₂, hst₂⟩) (fun r s₂ hr => ?_) fun _ _ e => e
    cases r with
    | none => exact hr.elim
    | some v =>
      refine wpAny_mono hr (fun _ s₂ hr => wpAny_mono hr (fun _ s₂ hr => ?_) fun _ _ e => e) fun _ _ e => e
      obtain ⟨F₂, T₂, hst₂⟩ := hr
      refine turn i ts[i] (I :: X) s₂ _ _ (by simp [hlt]) (fun b hb => List.mem_cons_of_mem _ hb) (stab i I _ _ D.iX T₂ hJi) F₂.self (fun s₃ F₃ hJ₃ => ?_) fun r v s₃ hr F₃ hv => ?_
      · have T₃ := F₃.turned (I := I)
        exact ⟨ts.length + 1 - (i + 1), by omega, i + 1, hlt, rfl, hJ₃, F₃.self, (T.trans T₂.weak).trans T₃, D.frame _ _ _ _ F₃ hst₂⟩
      · have T₃ := F₃.turned (I := I)
        exact hret r v s₃ hr (back s₃ [] (I :: X) (fun b hb => List.mem_cons_of_mem _ hb) F₃.self ((T.trans T₂.weak).trans T₃)) (r.mono hv (hide_sub fun b hb => List.mem_cons_of_mem _ hb))
  · have hin : i = ts.length := by omega
    subst hin
    refine wpAny_mono (D.done s' (G ts.length) (fun s₂ => J ts.length s₂ ∧ InF c sB env O X (G ts.length) s₂) _ hst' F' fun s₂ F₂ T₂ => ⟨stab _ I _ _ D.iX T₂ hJi, back s₂ _ X (fun _ h => h) F₂ (T.trans T₂.weak)⟩) (fun r s₂ hr => ?_) fun _ _ e => e
    cases r with
    | none => exact wpAny_execs_nil (h s₂ hr.1 hr.2)
    | some v => exact hr.elim

theorem notOwner_go {target : Expr} {I : Addr} {v : Value} {Q : Unit → Shared → Prop} {E : Value → Shared → Prop} (h : NotOwner s.heap I) (hQ : Q () s) : wpAny c.M A (letOwnedTupleGo target (.ref I) v) Q E s := by
  obtain ⟨o, T, ho, hc, hT⟩ := h
  unfold letOwnedTupleGo
  split <;> first
    | exact wpAny_pure hQ
    | (cases v <;> first
        | exact wpAny_pure hQ
        | (refine wpAny_bind (wpAny_load ho ?_)
           rw [hc]
           cases o.data <;> first
             | exact wpAny_pure hQ
             | (dsimp only
                rw [hT, Bool.false_and]
                exact wpAny_pure hQ)))

theorem InF.view (F : InF c sB env O X ρ s) : View.le (hide X sB.heap) (hide X s.heap) := hide_le fun b o hb e => F.keep b o (fun q => hb (q ▸ F.hidL)) (fun n hn => hb (F.hidC n b hn)) (fun hn => hb (F.hidO b hn)) e

/-! ## Targets -/
def Asg (c : Cfg) (A : Around) (env : Env) (target : Expr) (r : Rel) (new : Ctxt) : Prop :=
  ∀ O X sB ρ (s : Shared) v (Q : Unit → Shared → Prop) (E : Value → Shared → Prop), InF c sB env O X ρ s → r.on (hide X s.heap) v → (∀ s', InF c sB env O X (new ++ ρ) s' → Q () s') → wpAny c.M A (assign target env v) Q E s
theorem asg_name {x : Str} {px : Pos} {r : Rel} (hk : env.kindOf x = some .local ∨ env.kindOf x = some .cell) : Asg c A env (.Name x px) r [(x, r)] := fun O X sB ρ s v Q E F hr h =>
  wpAny_assign_Name (store_ F hk hr h)
theorem ext_keeps {s : Shared} {h' : Heap} (h : Heap.ExtBut s.heap.objs.size s.heap h') : Keeps s { s with heap := h' } := ⟨h', s.toks, rfl, fun b o e => h b o (Nat.ne_of_lt (Heap.lt_size e)) e⟩
theorem asg_tuple2 {x y : Str} {px py pos : Pos} {k : Nat} {r q : Rel} (hA : AOk 0 A) (hx : env.kindOf x = some .local ∨ env.kindOf x = some .cell) (hy : env.kindOf y = some .local ∨ env.kindOf y = some .cell) :
    Asg c A env (.Tuple [.Name x px, .Name y py] k pos) (RT [r, q]) [(y, q), (x, r)] := by
  intro O X sB ρ s v Q E F hr h
  obtain ⟨a, vs, ep, rfl, ho, hX, hp⟩ := seq_get hr
  unfold AllOn at hp
  cases hp with | cons h1 hp => cases hp with | cons h2 hp => cases hp with | nil =>
  refine wpAny_assign_Tuple hA.handled (isTuple_of ho) rfl rfl fun h' he => ?_
  have k := ext_keeps he
  have F' := F.keeps k
  show wpAny _ _ (do holding [_] (assign (.Name x px) env _); do holding [] (assign (.Name y py) env _); pure ()) _ _ _
  refine wpAny_bind (wpAny_holding (wpAny_assign_Name (store_ (r := r) F'.self hx (r.mono h1 (keeps_hide k)) fun s₁ F₁ => ?_)))
  refine wpAny_bind (wpAny_holding (wpAny_assign_Name (store_ (r := q) F₁ hy (q.mono (q.mono h2 (keeps_hide k)) F₁.view) fun s₂ F₂ => wpAny_pure (h _ (F'.trans F₂)))))
theorem asg_tuple3 {x y z : Str} {px py pz pos : Pos} {k : Nat} {r q u : Rel} (hA : AOk 0 A) (hx : env.kindOf x = some .local ∨ env.kindOf x = some .cell) (hy : env.kindOf y = some .local ∨ env.kindOf y = some .cell)
    (hz : env.kindOf z = some .local ∨ env.kindOf z = some .cell) :
    Asg c A env (.Tuple [.Name x px, .Name y py, .Name z pz] k pos) (RT [r, q, u]) [(z, u), (y, q), (x, r)] := by
  intro O X sB ρ s v Q E F hr h
  obtain ⟨a, vs, ep, rfl, ho, hX, hp⟩ := seq_get hr
  unfold AllOn at hp
  cases hp with | cons h1 hp => cases hp with | cons h2 hp => cases hp with | cons h3 hp => cases hp with | nil =>
  refine wpAny_assign_Tuple hA.handled (isTuple_of ho) rfl rfl fun h' he => ?_
  have k := ext_keeps he
  have F' := F.keeps k
  show wpAny _ _ (do holding [_, _] (assign (.Name x px) env _); do holding [_] (assign (.Name y py) env _); do holding [] (assign (.Name z pz) env _); pure ()) _ _ _
  refine wpAny_bind (wpAny_holding (wpAny_assign_Name (store_ (r := r) F'.self hx (r.mono h1 (keeps_hide k)) fun s₁ F₁ => ?_)))
  refine wpAny_bind (wpAny_holding (wpAny_assign_Name (store_ (r := q) F₁ hy (q.mono (q.mono h2 (keeps_hide k)) F₁.view) fun s₂ F₂ => ?_)))
  refine wpAny_bind (wpAny_holding (wpAny_assign_Name (store_ (r := u) F₂ hz (u.mono (u.mono h3 (keeps_hide k)) F₂.view) fun s₃ F₃ => wpAny_pure (h _ (F'.trans F₃)))))

/-- a frame's facts when the iterator is done -/
theorem InF.unhide {I : Addr} {h' : Heap} {tk : Nat} (F : InF c sB env O (I :: X) ρ s) (kp : ∀ b o, b ≠ I → s.heap.get? b = some o → h'.get? b = some o) (hIL : env.locals ≠ I) (hIC : ∀ m b, env.cells.lookup m = some b → b ≠ I)
    (hL : env.locals ∈ X) (hC : ∀ n a, env.cells.lookup n = some a → a ∈ X) (hO : ∀ b ∈ O, b ∈ X) (hIX : I ∉ X) : InF c { s with heap := h', toks := tk } env O X ρ { s with heap := h', toks := tk } := by
  have vle : View.le (hide (I :: X) s.heap) (hide X h') := View.le_trans (hide_le fun b o hb e => kp b o (fun q => hb (q ▸ List.mem_cons_self ..)) e) (hide_sub fun b hb => List.mem_cons_of_mem _ hb)
  have cellK : ∀ n a u, env.cells.lookup n = some a → s.heap.IsCell a u → h'.IsCell a u := fun n a u ha ⟨o, e1, e2⟩ => ⟨o, kp a o (hIC n a ha) e1, e2⟩
  refine ⟨⟨F.here.base.le vle, fun b hb => ?_, F.here.kind, F.here.glob, F.here.blt, fun x r e => ?_⟩, ⟨_, _, rfl⟩, fun _ _ _ _ _ e => e, let ⟨m, n⟩ := F.ns; ⟨m, n.at' fun o e => kp _ o hIL e⟩, fun x hk => ?_, F.apart, F.off, hL, hC, hO⟩
  · obtain ⟨o, e⟩ := F.here.xok b (List.mem_cons_of_mem _ hb)
    exact ⟨o, kp b o (fun q => hIX (q ▸ hb)) e⟩
  · obtain ⟨v, hv, hr⟩ := F.here.vars x r e
    refine ⟨v, ?_, r.mono hr vle⟩
    rcases hv with ⟨k1, m, n, q⟩ | ⟨k1, a, e1, e2⟩
    · exact .inl ⟨k1, m, n.at' fun o e => kp _ o hIL e, q⟩
    · exact .inr ⟨k1, a, e1, cellK x a _ e1 e2⟩
  · obtain ⟨a, v, e1, e2⟩ := F.cell x hk
    exact ⟨a, v, e1, cellK x a _ e1 e2⟩

/-- a loop over a list, a range, a dict's keys .. -/
theorem draws_walk {α : Type} {target iter : Expr} {r₀ : Rel} {xs : List α} (f : α → Rel) (n : α → Ctxt) (h1 : Ev c A env X ρ iter r₀) (hi : IterIs c A X r₀ (xs.map f)) (hT : ∀ a ∈ xs, Asg c A env target (f a) (n a)) :
    Draws c A env O X ρ target iter (xs.map n) := by
  intro s Q E F h
  refine h1 s _ E F.here fun v s₁ k₁ hr => hi s₁ v _ E (F.keeps k₁).here.base (F.keeps k₁).here.xok hr fun I fp P St s₂ k₂ hI W => ?_
  have F₁ := F.keeps k₁
  have hLfp : ∀ b ∈ fp, b ≠ env.locals ∧ (∀ m, env.cells.lookup m ≠ some b) ∧ b ∉ O := fun b hb => by
    rcases W.off b hb with rfl | hX
    · exact ⟨fun q => W.iX (q ▸ F.hidL), fun m q => W.iX (F.hidC m _ q), fun q => W.iX (F.hidO _ q)⟩
    · exact ⟨fun q => hX (q ▸ F.hidL), fun m q => hX (F.hidC m _ q), fun q => hX (F.hidO _ q)⟩
  have hIs : ∀ b o, s₁.heap.get? b = some o → b ≠ I := fun b o e q => by rw [q, hI] at e; cases e
  -- the iterator's state, with what its items are
  refine h I (fun i h => St i h ∧ View.le (hide (I :: X) s₂.heap) (hide (I :: X) h)) s₂ (keeps_trans k₁ k₂) ?_ ⟨W.iX, fun i h st => W.has i h st.1, ?_, ?_, ?_⟩ ⟨W.st, View.le_refl _⟩
  · cases e : s.heap.get? I with
    | none => rfl
    | some o => rw [keeps_get k₁ e] at hI; cases hI
  · intro i s s' ρ' F' st
    exact ⟨W.w.frame _ _ _ st.1 fun b hb o e => F'.keep b o (hLfp b hb).1 (hLfp b hb).2.1 (hLfp b hb).2.2 e, View.le_trans st.2 F'.view⟩
  · intro i s ρ' t Q E ht st F' hQ
    rw [List.getElem?_map] at ht
    obtain ⟨a, ha, rfl⟩ := Option.map_eq_some_iff.mp ht
    have hlt : i < xs.length := (List.getElem?_eq_some_iff.mp ha).1
    have hmem : a ∈ xs := List.mem_of_getElem? ha
    refine W.w.item i _ _ _ (by rw [List.length_map]; exact hlt) st.1 fun v h₁ tk₁ hP hst₁ hk₁ => ?_
    have hk₁' : ∀ b o, b ≠ I → s.heap.get? b = some o → h₁.get? b = some o := fun b o hb e => hk₁ b o (fun q => hb (List.mem_singleton.mp q)) e
    have hra := W.item i v (f a) hP (by rw [List.getElem?_map, ha]; rfl)
    refine notOwner_go (W.own _ _ hst₁) ?_
    have vle : View.le (hide (I :: X) s.heap) (hide (I :: X) h₁) := hide_le fun b o hb e => hk₁' b o (fun q => hb (q ▸ List.mem_cons_self ..)) e
    have hIL : env.locals ≠ I := fun q => W.iX (q ▸ F.hidL)
    have hIC : ∀ m b, env.cells.lookup m = some b → b ≠ I := fun m b hb q => W.iX (q ▸ F.hidC m b hb)
    have F₂ : InF c { s with heap := h₁, toks := tk₁ } env O (I :: X) ρ' { s with heap := h₁, toks := tk₁ } := by
      refine F'.moved (s' := { s with heap := h₁, toks := tk₁ }) vle (fun o e => hk₁' _ o hIL e) (fun m b o hb e => hk₁' _ o (hIC m b hb) e) (fun _ h => h) fun b hb => ?_
      rcases List.mem_cons.mp hb with rfl | hb
      · exact W.has _ _ hst₁
      · obtain ⟨o, e⟩ := F'.here.xok b (List.mem_cons_of_mem _ hb)
        exact ⟨o, hk₁' b o (fun q => W.iX (q ▸ hb)) e⟩
    refine hT a hmem [] (I :: X) _ ρ' _ v _ _ (F₂.reown fun _ h => nomatch h) ((f a).mono hra (View.le_trans st.2 vle)) fun s₃ F₃ => hQ s₃ (F₃.reown F'.hidO) ?_ ⟨W.w.frame _ _ _ hst₁ fun b hb o e => F₃.keep b o (hLfp b hb).1 (hLfp b hb).2.1 (fun h => nomatch h) e, View.le_trans (View.le_trans st.2 vle) F₃.view⟩
    refine Turned.trans ⟨⟨h₁, tk₁, rfl⟩, fun b o _ _ _ h3 e => hk₁' b o h3 e⟩ F₃.turned
  · intro s ρ' Q E st F' hQ
    refine W.w.done _ _ _ (by have := st.1; rwa [List.length_map] at this ⊢) fun h₁ tk₁ hk₁ => ?_
    have hk₁' : ∀ b o, b ≠ I → s.heap.get? b = some o → h₁.get? b = some o := fun b o hb e => hk₁ b o (fun q => hb (List.mem_singleton.mp q)) e
    have hIL : env.locals ≠ I := fun q => W.iX (q ▸ F.hidL)
    have hIC : ∀ m b, env.cells.lookup m = some b → b ≠ I := fun m b hb q => W.iX (q ▸ F.hidC m b hb)
    exact hQ _ (F'.unhide hk₁' hIL hIC F.hidL F.hidC F.hidO W.iX) ⟨⟨h₁, tk₁, rfl⟩, fun b o _ _ _ h3 e => hk₁' b o h3 e⟩
end
end Mine
end

section
namespace Mine
open PySem PySem.W PySem.Calls PyProof.Rows

section
variable {c : Cfg} {A : Around} {env : Env} {X : List Addr} {ρ : Ctxt} {sB s : Shared}

/-- what a name behind a value's dot is, in a call -/
def MethIs (c : Cfg) (A : Around) (X : List Addr) (r : Rel) (name : Str) (f : Value) : Prop :=
  ∀ (s : Shared) v pl (Q : Value × List Value → Shared → Prop) (E : Value → Shared → Prop), Bs c X s.heap → r.on (hide X s.heap) v → Q (f, [v]) s → wpAny c.M A (getMethod v name pl) Q E s

theorem ev_method {o : Expr} {name : Str} {apos pos : Pos} {es : List Expr} {r₁ r : Rel} {rs : List Rel} {f : Value} {k : Nat} (h1 : Ev c A env X ρ o r₁) (hm : MethIs c A X r₁ name f)
    (hf : (∃ id, f = .builtin id) ∨ ∃ a d q, f = .ref a ∧ FnAt c.h0 a d q) (hc : CallIs c k f (r₁ :: rs) r) (hA : AOk k A) (h2 : Evs c A env X ρ es rs)
    (hbase : ∀ w, attributeBase o name env w = w := by intro _; rfl) (hform : methodCallForm (es.length + 0) (backTo pos (starEach es env)) [] = true := by rfl) (hline : (apos.endLine == pos.line) = true := by rfl)
    (hplain : (backTo pos (starEach es env)).any (·.1) = false := by rfl)
    (hlone : (es = [] ∧ rs = []) ∨ ∃ e es', es = e :: es' ∧ starEach (e :: es') env = (false, eval e env) :: starEach es' env := by first | exact .inl ⟨rfl, rfl⟩ | exact .inr ⟨_, _, rfl, rfl⟩) :
    Ev c A env X ρ (.Call (.Attribute o name apos) es [] pos) r := by
  intro s Q E H h
  rw [arm_eval_Call, hbase]
  refine wpAny_bind (h1 s _ E H fun v s₁ k₁ hr => wpAny_bind (wpAny_standAt ?_))
  show wpAny c.M A (methodCall o name apos pos env v (es.length + 0) (backTo pos (starEach es env)) []) Q E s₁
  unfold methodCall
  rw [hform]
  have H₁ := H.keeps k₁
  refine wpAny_bind (wpAny_holding (hm s₁ v _ _ E H₁.base hr ?_))
  dsimp only
  have hp : methodCallPos true o env apos pos = pure pos := by
    unfold methodCallPos
    rw [hline]; rfl
  rw [hp]
  refine wpAny_bind (wpAny_pure ?_)
  have args : ∀ (Q' : Args → Shared → Prop), (∀ vs s₂, Keeps s₁ s₂ → AllOn (hide X s₂.heap) rs vs → Q' ⟨vs, []⟩ s₂) → wpAny c.M A (evalArgs f true (backTo pos (starEach es env)) []) Q' E s₁ := fun Q' hQ' => by
    have h3 := h2 s₁ pos (fun vs s₂ => Q' ⟨vs, []⟩ s₂) E H₁ hQ'
    rcases hlone with ⟨rfl, rfl⟩ | ⟨e, es', rfl, he⟩
    · exact PySem.evalArgs_none (hQ' [] s₁ (keeps_refl _) .nil)
    · rw [he] at h3 ⊢
      exact evalArgs_plain h3
  rcases hf with ⟨id, rfl⟩ | ⟨a, d, q, rfl, hfn⟩
  · refine callWith_builtin hplain (args _ fun vs s₂ k₂ hv => ?_)
    have H₂ := H₁.keeps k₂
    exact hc A X s₂ (v :: vs) Q E hA H₂.base H₂.xok (.cons (r₁.mono hr (keeps_hide k₂)) hv) fun u s₃ k₃ hu => h u s₃ (keeps_trans (keeps_trans k₁ k₂) k₃) hu
  · obtain ⟨o', pm, code, doc, e1, e2, e3⟩ := hfn
    refine callWith_function (o := o') (args _ fun vs s₂ k₂ hv => ⟨⟨?_, e2⟩, ?_⟩)
    · exact keeps_get k₂ (hide_get (H₁.base _ _ e1)).1
    · have H₂ := H₁.keeps k₂
      exact hc A X s₂ (v :: vs) Q E hA H₂.base H₂.xok (.cons (r₁.mono hr (keeps_hide k₂)) hv) fun u s₃ k₃ hu => h u s₃ (keeps_trans (keeps_trans k₁ k₂) k₃) hu

/-! ## Built-in methods -/
theorem meth_list {rs : List Rel} {name : Str} {id : String} (slot : Slot "list" name id) (hty : typeOf (.builtin id) = pure (.type "method_descriptor")) : MethIs c A X (RL rs) name (.builtin id) := by
  intro s v pl Q E B hr h
  obtain ⟨a, vs, ep, rfl, ho, hX, hp⟩ := seq_get hr
  exact getMethod_builtin (isList_of ho).typeIs PySem.F.plainAttrs_list slot hty (fun b e => by cases e; exact ⟨_, ho, rfl⟩) h
theorem meth_dict {ks : List (Int × Int)} {name : Str} {id : String} (slot : Slot "dict" name id) (hty : typeOf (.builtin id) = pure (.type "method_descriptor")) : MethIs c A X (RD c ks) name (.builtin id) := by
  intro s v pl Q E B hr h
  obtain ⟨a, kvs, rfl, hm, hX, hd, hv⟩ := rd_get hr
  exact getMethod_builtin hd.typeIs PySem.F.plainAttrs_dict slot hty hd.mapOf.noDict h
theorem call_count {ns : List Int} {i : Int} : CallIs c 0 (.builtin "list.count") [RLI ns, RI i] (RI (ns.count i : Nat)) := by
  intro A X s vs Q E hA B hx hv h
  unfold AllOn at hv
  cases hv with | cons h1 hv => cases hv with | cons h2 hv => cases hv with | nil =>
  obtain ⟨a, us, ep, rfl, ho, hX, hp⟩ := seq_get h1
  obtain ⟨t, rfl⟩ := h2
  exact PyProof.Rows.count_list_ints (isList_of ho) (ints_of hp) (h _ _ (keeps_toks s _) ⟨_, rfl⟩)
theorem call_get {ks : List (Int × Int)} {k d : Int} : CallIs c 0 (.builtin "dict.get") [RD c ks, RI k, RI d] (RI ((look ks k).getD d)) := by
  intro A X s vs Q E hA B hx hv h
  unfold AllOn at hv
  cases hv with | cons h1 hv => cases hv with | cons h2 hv => cases hv with | cons h3 hv => cases hv with | nil =>
  obtain ⟨a, kvs, rfl, hm, hX, hd, hv⟩ := rd_get h1
  obtain ⟨t, rfl⟩ := h2
  obtain ⟨u, rfl⟩ := h3
  refine call_meetsIn PySem.F.slot_dict_get hd.typeIs PySem.F.entry_dict_get (PySem.F.args_dict_get_3 _ _ _) (meets_dict_get_default (intKind c.prog c.w) a (k := k) (by simp [intKind, Value.isInt]) hm _) ⟨_, hd.mapOf, ?_⟩
  rcases hv.look k with ⟨i', t', e1, e2⟩ | ⟨e1, e2⟩
  · rw [e2]; rw [e1] at h; exact h _ _ (keeps_toks s _) ⟨_, rfl⟩
  · rw [e2]; rw [e1] at h; exact h _ _ (keeps_toks s _) ⟨_, rfl⟩
/-- a dict's values | items, as they are handed out to be walked -/
def RView (c : Cfg) (T : String) (ks : List (Int × Int)) : Rel := ⟨fun g v => ∃ a d, v = .ref a ∧ g a = some { cls := .type T, data := .fields #[.ref d] } ∧ (RD c ks).on g (.ref d),
  fun ⟨a, d, e, h1, h2⟩ hl => ⟨a, d, e, hl _ _ h1, (RD c ks).mono h2 hl⟩⟩
theorem call_values {ks : List (Int × Int)} : CallIs c 0 (.builtin "dict.values") [RD c ks] (RView c "dict_values" ks) := by
  intro A X s vs Q E hA B hx hv h
  unfold AllOn at hv
  cases hv with | cons h1 hv => cases hv with | nil =>
  have h1' := h1
  obtain ⟨a, kvs, rfl, hm, hX, hd, hv⟩ := rd_get h1
  refine call_meetsIn PySem.F.slot_dict_values hd.typeIs PySem.F.entry_dict_values (PySem.F.args_dict_values_1 _) (meets_dict_values (intKind c.prog c.w) a hm) ⟨⟨_, hd⟩, h _ _ (keeps_push s _) ⟨_, _, rfl, hide_of (Heap.get?_push_size _ rfl) (fresh_of hx), (RD c ks).mono h1' (keeps_hide (keeps_push s _))⟩⟩
theorem call_items {ks : List (Int × Int)} : CallIs c 0 (.builtin "dict.items") [RD c ks] (RView c "dict_items" ks) := by
  intro A X s vs Q E hA B hx hv h
  unfold AllOn at hv
  cases hv with | cons h1 hv => cases hv with | nil =>
  have h1' := h1
  obtain ⟨a, kvs, rfl, hm, hX, hd, hv⟩ := rd_get h1
  refine call_meetsIn PySem.F.slot_dict_items hd.typeIs PySem.F.entry_dict_items (PySem.F.args_dict_items_1 _) (meets_dict_items (intKind c.prog c.w) a hm) ⟨⟨_, hd⟩, h _ _ (keeps_push s _) ⟨_, _, rfl, hide_of (Heap.get?_push_size _ rfl) (fresh_of hx), (RD c ks).mono h1' (keeps_hide (keeps_push s _))⟩⟩
end
end Mine
end

section
namespace Mine
open PySem PySem.W PySem.Calls PyProof.Rows

section
variable {c : Cfg} {A : Around} {env : Env} {O X : List Addr} {ρ : Ctxt} {sB s : Shared}

theorem Vals.get {ks : List (Int × Int)} {kvs : List (Int × Value)} (h : Vals ks kvs) : ∀ {i : Nat} {p : Int × Int}, ks[i]? = some p → ∃ t, kvs[i]? = some (p.1, .int p.2 t) := by
  unfold Vals at h
  induction h with
  | nil => intro i p e; simp at e
  | @cons a b _ _ h1 _ ih =>
    intro i p e
    cases i with
    | zero =>
      simp at e; subst e
      obtain ⟨e1, t, e2⟩ := h1
      exact ⟨t, by simp [← e1, ← e2]⟩
    | succ i => simpa using ih (by simpa using e)

theorem it_values {ks : List (Int × Int)} (hA : AOk 0 A) : IterIs c A X (RView c "dict_values" ks) (ks.map fun p => RI p.2) := by
  intro s v Q E B hx r₁ h
  obtain ⟨b, a, rfl, hb, r₁⟩ := r₁
  obtain ⟨a, kvs, e, hm, hX, hd, hv⟩ := rd_get r₁
  cases e
  obtain ⟨ep, hd⟩ := hd.dictAt
  have ha : a < s.heap.objs.size := hd.lt_size
  refine wpAny_pyIter_values (knd := intKind c.prog c.w) ⟨_, (hide_get hb).1, rfl, rfl⟩ hd (h _ [s.heap.objs.size, a] (fun i v => ∃ k, kvs[i]? = some (k, v)) (fun i h => h.IsValIter s.heap.objs.size a i kvs.length ep ∧ h.DictAt (intKind c.prog c.w) a kvs ep) _ (keeps_push s _) (none_of_le (Nat.le_refl _)) ?_)
  refine ⟨?_, ⟨⟨_, Heap.get?_push_size _ rfl, rfl, rfl⟩, hd.push _⟩, ?_, ?_, fresh_of hx, ?_, ?_, ?_⟩
  · have := Walks.dictValues (knd := intKind c.prog c.w) hA.handled s.heap.objs.size a (Nat.ne_of_lt ha) kvs ep
    rw [List.length_map, hv.length]
    exact this
  · intro b hb
    show b < (s.heap.push _).objs.size
    rw [Heap.size_push]
    rcases List.mem_cons.mp hb with rfl | hb
    · exact Nat.lt_succ_self _
    · rw [List.mem_singleton.mp hb]; exact Nat.lt_succ_of_lt ha
  · intro b hb
    rcases List.mem_cons.mp hb with rfl | hb
    · exact .inl rfl
    · rw [List.mem_singleton.mp hb]; exact .inr hX
  · rintro i h ⟨⟨o, ho, _⟩, _⟩; exact ⟨o, ho⟩
  · rintro i h ⟨⟨o, ho, hc, _⟩, _⟩; exact ⟨o, _, ho, hc, by decide⟩
  · rintro i v r ⟨k, hi⟩ hr
    rw [List.getElem?_map] at hr
    obtain ⟨p, hp, rfl⟩ := Option.map_eq_some_iff.mp hr
    obtain ⟨t, e⟩ := hv.get hp
    rw [hi] at e
    cases e
    exact ⟨t, rfl⟩

/-- a loop over a dict's items -/
theorem draws_items {o : Expr} {apos cpos pk pv pt : Pos} {xk xv : Str} {x1 : Nat} {ks : List (Int × Int)} (hA : AOk 0 A) (h1 : Ev c A env X ρ (.Call (.Attribute o "items" apos) [] [] cpos) (RView c "dict_items" ks))
    (hk : env.kindOf xk = some .local) (hv : env.kindOf xv = some .local) :
    Draws c A env O X ρ (.Tuple [.Name xk pk, .Name xv pv] x1 pt) (.Call (.Attribute o "items" apos) [] [] cpos) (ks.map fun p => [(xv, RI p.2), (xk, RI p.1)]) := by
  intro s Q E F h
  refine h1 s _ E F.here fun v s₁ k₁ hr => ?_
  have F₁ := F.keeps k₁
  obtain ⟨b, a, rfl, hb, r₁⟩ := hr
  obtain ⟨a, kvs, e, hm, hX, hd, hvs⟩ := rd_get r₁
  cases e
  obtain ⟨ep, hd⟩ := hd.dictAt
  have ha : a < s₁.heap.objs.size := hd.lt_size
  refine wpAny_pyIter_items (knd := intKind c.prog c.w) ⟨_, (hide_get hb).1, rfl, rfl⟩ hd ?_
  have hIX : s₁.heap.objs.size ∉ X := fresh_of F₁.here.xok
  generalize hIe : s₁.heap.objs.size = I at *
  have haI : a ≠ I := Nat.ne_of_lt ha
  have hIL : env.locals ≠ I := fun q => hIX (q ▸ F.hidL)
  have hIC : ∀ m b, env.cells.lookup m = some b → b ≠ I := fun m b hb q => hIX (q ▸ F.hidC m b hb)
  have haL : a ≠ env.locals := fun q => hX (q ▸ F.hidL)
  have haC : ∀ m, env.cells.lookup m ≠ some a := fun m q => hX (F.hidC m a q)
  have haO : a ∉ O := fun q => hX (F.hidO a q)
  have hIO : I ∉ O := fun q => hIX (F.hidO I q)
  refine h I (fun i h => ∃ ok ov, IsItemIter h I a i kvs.length ep ok ov ∧ h.DictAt (intKind c.prog c.w) a kvs ep) _ (keeps_trans k₁ (keeps_push s₁ _)) ?_ ⟨hIX, ?_, ?_, ?_, ?_⟩ ⟨.none, .none, by rw [← hIe]; exact Heap.get?_push_size _ rfl, hd.push _⟩
  · cases e : s.heap.get? I with
    | none => rfl
    | some o =>
      have := Heap.lt_size (keeps_get k₁ e)
      rw [hIe] at this
      exact absurd this (Nat.lt_irrefl _)
  · rintro i h ⟨ok, ov, e, _⟩; exact ⟨_, e⟩
  · rintro i s s' ρ' F' ⟨ok, ov, e1, e2⟩
    exact ⟨ok, ov, F'.keep _ _ (Ne.symm hIL) (fun m q => hIC m I q rfl) hIO e1, e2.at fun o e => F'.keep _ o haL haC haO e⟩
  · rintro i s ρ' t Q E ht ⟨ok, ov, hit, hd'⟩ F' hQ
    rw [List.getElem?_map] at ht
    obtain ⟨p, hp, rfl⟩ := Option.map_eq_some_iff.mp ht
    obtain ⟨tv, hkv⟩ := hvs.get hp
    refine wpAny_pyNext_items_item hit hd' hkv fun key h₁ hkey heo ht₁ hz₁ hk₁ => ?_
    obtain ⟨tk, rfl⟩ := Value.isInt_shape hkey
    refine wpAny_letOwnedTupleGo_items heo fun h₂ he₂ hs₂ => ?_
    replace hs₂ : Heap.SameBut I h₁ h₂ := hs₂
    have hiH : I < s.heap.objs.size := Heap.lt_size hit
    have kp : ∀ b o, b ≠ I → s.heap.get? b = some o → h₂.get? b = some o := fun b o hb e => hs₂.extBut b o hb (hk₁ b o hb e)
    have ht₂ : h₂.get? s.heap.objs.size = some (seqObj "tuple" [.int p.1 tk, .int p.2 tv] 0) := (hs₂.2 _ (Nat.ne_of_gt hiH)).trans ht₁
    have vle : View.le (hide (I :: X) s.heap) (hide (I :: X) h₂) := hide_le fun b o hb e => kp b o (fun q => hb (q ▸ List.mem_cons_self ..)) e
    have F₂ : InF c { s with heap := h₂ } env O (I :: X) ρ' { s with heap := h₂ } := by
      refine F'.moved (s' := { s with heap := h₂ }) vle (fun o e => kp _ o hIL e) (fun m b o hb e => kp _ o (hIC m b hb) e) (fun _ h => h) fun b hb => ?_
      rcases List.mem_cons.mp hb with rfl | hb
      · exact ⟨_, he₂⟩
      · obtain ⟨o, e⟩ := F'.here.xok b (List.mem_cons_of_mem _ hb)
        exact ⟨o, kp b o (fun q => hIX (q ▸ hb)) e⟩
    have hfr : s.heap.objs.size ∉ (I :: X) := fresh_of F'.here.xok
    refine asg_tuple2 (r := RI p.1) (q := RI p.2) hA (.inl hk) (.inl hv) [] (I :: X) _ ρ' _ (.ref s.heap.objs.size) _ _ (F₂.reown fun _ h => nomatch h) ⟨_, _, 0, rfl, hide_of ht₂ hfr, .cons ⟨tk, rfl⟩ (.cons ⟨tv, rfl⟩ .nil)⟩ fun s₃ F₃ => hQ s₃ (F₃.reown F'.hidO) ?_ ⟨.int p.1 tk, .int p.2 tv, ?_, ?_⟩
    · exact Turned.trans ⟨⟨h₂, s.toks, rfl⟩, fun b o _ _ _ h3 e => kp b o h3 e⟩ F₃.turned
    · exact F₃.keep _ _ (Ne.symm hIL) (fun m q => hIC m I q rfl) (fun h => nomatch h) he₂
    · exact (hd'.at fun o e => kp a o haI e).at fun o e => F₃.keep _ o haL haC (fun h => nomatch h) e
  · rintro s ρ' Q E ⟨ok, ov, hit, hd'⟩ F' hQ
    refine wpAny_pyNext_items_end hA.handled hit hd' ?_ fun h₁ he₁ => ?_
    · rw [List.length_map, hvs.length]; simp
    · have kp : ∀ b o, b ≠ I → s.heap.get? b = some o → h₁.get? b = some o := fun b o hb e => he₁ b o hb e
      have F₁ := F'.unhide (h' := h₁) (tk := s.toks) kp hIL hIC F.hidL F.hidC F.hidO hIX
      exact hQ _ F₁ ⟨⟨h₁, s.toks, rfl⟩, fun b o _ _ _ h3 e => kp b o h3 e⟩
end
end Mine
end

section
set_option maxRecDepth 100000
namespace Mine
open PySem PySem.W PySem.Calls PyProof.Rows

/-! ## The text's defs -/
def theFns : List DefRec := recsOf PySem.Challenge.pw_ph0051_01
def fnAt (i : Nat) (h : i < theFns.length := by decide +kernel) : DefRec := theFns[i]
theorem fnAt_mem {c : Cfg} (hc : c.fns = theFns) {i : Nat} {h : i < theFns.length} : fnAt i h ∈ c.fns := by rw [hc]; exact List.getElem_mem _

/-- a value that is this one -/
def RV (u : Value) : Rel := ⟨fun _ v => v = u, fun h _ => h⟩

section
variable {c : Cfg} {A : Around} {env : Env} {O X : List Addr} {ρ : Ctxt} {sB s : Shared}

theorem ev_bname {x : Str} {pos : Pos} {f : Value} (hx : x ∈ theBuiltins) (hb : bootBuiltins x = some f) (hk : env.kindOf x = some .globalImplicit) (hn : (x == ("__debug__" : Str)) = false := by rfl) : Ev c A env X ρ (.Name x pos) (RV f) := by
  intro s Q E H h
  obtain ⟨m1, m2⟩ := H.base.at.bl x hx
  exact Calls.Name_function_global H.kind hk (Calls.loadGlobal_builtin (by rw [H.glob]; exact H.base.at.g) m1 (by rw [H.blt]; exact H.base.at.b) (m2.trans hb) (h f s (keeps_refl s) rfl)) hn
theorem call_isTuple {i : Int} : CallIs c 0 (.builtin "isinstance") [RI i, RV (.type "tuple")] (RB false) := by
  intro A X s vs Q E hA B hx hv h
  unfold AllOn at hv
  cases hv with | cons h1 hv => cases hv with | cons h2 hv => cases hv with | nil =>
  obtain ⟨t, rfl⟩ := h1
  cases h2
  exact PySem.IsiPair.int_tuple (h _ _ (keeps_toks s _) rfl)

/-! ## A dict of the frame's own -/
def Own (c : Cfg) (D : Addr) (ks : List (Int × Int)) (s : Shared) : Prop := ∃ kvs, s.heap.DictOf (intKind c.prog c.w) D kvs ∧ Vals ks kvs
theorem Own.at {D : Addr} {ks : List (Int × Int)} {s s' : Shared} (h : Own c D ks s) (hk : ∀ o, s.heap.get? D = some o → s'.heap.get? D = some o) : Own c D ks s' := by
  obtain ⟨kvs, hd, hv⟩ := h
  obtain ⟨o, e, d⟩ := dictO_of hd
  exact ⟨kvs, dictOf_of (hk o e) d, hv⟩
theorem Own.keeps {D : Addr} {ks : List (Int × Int)} {s s' : Shared} (h : Own c D ks s) (k : Keeps s s') : Own c D ks s' := h.at fun _ e => keeps_get k e
/-- a count laid under a key -/
def put (ks : List (Int × Int)) (k x : Int) : List (Int × Int) := if ks.any (fun p => p.1 = k) then ks.map (fun p => if p.1 = k then (p.1, x) else p) else ks ++ [(k, x)]
theorem Vals.put {ks : List (Int × Int)} {kvs : List (Int × Value)} (h : Vals ks kvs) (k x : Int) (t : Tok) : Vals (Mine.put ks k x) (stored kvs k (.int x t)) := by
  have ha : kvs.any (fun kv => kv.1 = k) = ks.any (fun p => p.1 = k) := by
    have := h.keys
    have e1 : kvs.any (fun kv => decide (kv.1 = k)) = (kvs.map (·.1)).any (fun y => decide (y = k)) := by rw [List.any_map]; rfl
    have e2 : ks.any (fun kv => decide (kv.1 = k)) = (ks.map (·.1)).any (fun y => decide (y = k)) := by rw [List.any_map]; rfl
    rw [e1, e2, this]
  unfold Mine.put stored
  rw [ha]
  split
  · unfold Vals at h ⊢
    clear ha
    rename_i hh
    clear hh
    induction h with
    | nil => exact .nil
    | @cons p q _ _ h1 _ ih =>
      rw [List.map_cons, List.map_cons]
      refine .cons ?_ ih
      rw [h1.1]
      split
      · exact ⟨rfl, t, rfl⟩
      · exact h1
  · unfold Vals at h ⊢
    exact Paired.snoc h ⟨rfl, t, rfl⟩
theorem put_length (ks : List (Int × Int)) (k x : Int) : (put ks k x).length ≤ ks.length + 1 := by
  unfold put
  split
  · rw [List.length_map]; omega
  · rw [List.length_append]; simp

theorem InF.touch {D : Addr} {h' : Heap} {tk : Nat} (F : InF c sB env O X ρ s) (hD : D ∈ O) (hoff : D ≠ env.locals) (hoffC : ∀ n, env.cells.lookup n ≠ some D) (hs : Heap.SameBut D s.heap h') (hd : ∃ o, h'.get? D = some o) :
    InF c sB env O X ρ { s with heap := h', toks := tk } := by
  have kp : ∀ b o, b ≠ D → s.heap.get? b = some o → h'.get? b = some o := fun b o hb e => hs.extBut b o hb e
  have vle : View.le (hide X s.heap) (hide X h') := hide_le fun b o hb e => kp b o (fun q => hb (q ▸ F.hidO D hD)) e
  have cellK : ∀ n a u, env.cells.lookup n = some a → s.heap.IsCell a u → h'.IsCell a u := fun n a u ha ⟨o, e1, e2⟩ => ⟨o, kp a o (fun q => hoffC n (q ▸ ha)) e1, e2⟩
  refine ⟨⟨F.here.base.le vle, fun b hb => ?_, F.here.kind, F.here.glob, F.here.blt, fun x r e => ?_⟩, ?_, fun b o h1 h2 h3 e => kp b o (fun q => h3 (q ▸ hD)) (F.keep b o h1 h2 h3 e), let ⟨m, n⟩ := F.ns; ⟨m, n.sameBut hs (Ne.symm hoff)⟩, fun x hk => ?_, F.apart, F.off, F.hidL, F.hidC, F.hidO⟩
  · by_cases hb' : b = D
    · subst hb'; exact hd
    · obtain ⟨o, e⟩ := F.here.xok b hb; exact ⟨o, kp b o hb' e⟩
  · obtain ⟨v, hv, hr⟩ := F.here.vars x r e
    refine ⟨v, ?_, r.mono hr vle⟩
    rcases hv with ⟨k1, m, n, q⟩ | ⟨k1, a, e1, e2⟩
    · exact .inl ⟨k1, m, n.sameBut hs (Ne.symm hoff), q⟩
    · exact .inr ⟨k1, a, e1, cellK x a _ e1 e2⟩
  · obtain ⟨h1, t1, rfl⟩ := F.same
    exact ⟨_, _, rfl⟩
  · obtain ⟨a, v, e1, e2⟩ := F.cell x hk
    exact ⟨a, v, e1, cellK x a _ e1 e2⟩

variable {Qf : Flow → Shared → Prop} {E : Value → Shared → Prop} {rest : List Stmt}
theorem ex_setitem {D : Addr} {o i value : Expr} {pos' pos : Pos} {ks : List (Int × Int)} {k x : Int} (F : InF c sB env O X ρ s) (hD : D ∈ O) (hoff : D ≠ env.locals) (hoffC : ∀ n, env.cells.lookup n ≠ some D) (hW : Own c D ks s) (hn : ks.length ≤ 1000)
    (h1 : Ev c A env X ρ value (RI x)) (h2 : Ev c A env X ρ o (RV (.ref D))) (h3 : Ev c A env X ρ i (RI k))
    (h : ∀ s', InF c sB env O X ρ s' → Own c D (put ks k x) s' → wpAny c.M A (execs rest env) Qf E s')
    (hs : swapsWith value (some (.Subscript o i pos')) pos.line env = pure false := by rfl) : wpAny c.M A (execs (.Assign [.Subscript o i pos'] value pos :: rest) env) Qf E s := by
  refine wpAny_execs_cons (wpAny_Assign_Subscript (h1 s _ E F.here fun v s₁ k₁ e₁ => h2 s₁ _ E (F.here.keeps k₁) fun ov s₂ k₂ e₂ => h3 s₂ _ E ((F.here.keeps k₁).keeps k₂) fun iv s₃ k₃ e₃ => ?_) hs)
  obtain ⟨t, rfl⟩ := e₁
  cases e₂
  obtain ⟨u, rfl⟩ := e₃
  have k' := keeps_trans (keeps_trans k₁ k₂) k₃
  obtain ⟨kvs, hd, hv⟩ := hW.keeps k'
  refine wpAny_setItem_pairs (knd := intKind c.prog c.w) (k := k) (by simp [intKind, Value.isInt]) hd (fun h' hd' hs' => ?_) (by rw [← hv.length, sizeLine_eq]; omega)
  obtain ⟨o', e', _⟩ := dictO_of hd'
  exact h _ ((F.keeps k').touch hD hoff hoffC hs' ⟨o', e'⟩) ⟨_, hd', hv.put k x t⟩
theorem ex_augitem {D : Addr} {o value : Expr} {y : Str} {py pos' pos : Pos} {ks : List (Int × Int)} {k x a : Int} (F : InF c sB env O X ρ s) (hD : D ∈ O) (hoff : D ≠ env.locals) (hoffC : ∀ n, env.cells.lookup n ≠ some D) (hW : Own c D ks s) (hn : ks.length ≤ 1000)
    (ha : look ks k = some a) (h1 : Ev c A env X ρ value (RI x)) (h2 : Ev c A env X ρ o (RV (.ref D))) (h3 : Ev c A env X ρ (.Name y py) (RI k))
    (h : ∀ s', InF c sB env O X ρ s' → Own c D (put ks k (a + x)) s' → wpAny c.M A (execs rest env) Qf E s') : wpAny c.M A (execs (.AugAssign (.Subscript o (.Name y py) pos') .Add value pos :: rest) env) Qf E s := by
  refine wpAny_execs_cons (wpAny_AugAssign_Subscript (h2 s _ E F.here fun ov s₁ k₁ e₁ => h3 s₁ _ E (F.here.keeps k₁) fun iv s₂ k₂ e₂ => ?_))
  cases e₁
  obtain ⟨u, rfl⟩ := e₂
  have k' := keeps_trans k₁ k₂
  obtain ⟨kvs, hd, hv⟩ := hW.keeps k'
  rcases hv.look k with ⟨a', t', q1, q2⟩ | ⟨q1, _⟩
  · rw [ha] at q1; cases q1
    refine wpAny_getItem_of (knd := intKind c.prog c.w) (k := k) (by simp [intKind, Value.isInt]) hd.mapOf q2 ?_
    refine h1 _ _ E ((F.here.keeps k').keeps (keeps_toks s₂ _)) fun v s₃ k₃ e₃ => ?_
    obtain ⟨t, rfl⟩ := e₃
    refine wpAny_iadd_int ?_
    have k'' := keeps_trans (keeps_trans (keeps_trans k' (keeps_toks s₂ _)) k₃) (keeps_toks s₃ (s₃.toks + 1))
    obtain ⟨kvs', hd', hv'⟩ := hW.keeps k''
    refine wpAny_setItem_pairs (knd := intKind c.prog c.w) (k := k) (by simp [intKind, Value.isInt]) hd' (fun h' hd'' hs' => ?_) (by rw [← hv'.length, sizeLine_eq]; omega)
    obtain ⟨o', e', _⟩ := dictO_of hd''
    exact h _ ((F.keeps k'').touch hD hoff hoffC hs' ⟨o', e'⟩) ⟨_, hd'', hv'.put k (a + x) _⟩
  · rw [ha] at q1; cases q1
/-- «k in d», d the frame's own -/
theorem ex_if_in {D : Addr} {l r : Expr} {p pos : Pos} {body orelse : List Stmt} {ks : List (Int × Int)} {k : Int} (F : InF c sB env O X ρ s) (hW : Own c D ks s) (hm : (D == sysModules) = false)
    (h1 : Ev c A env X ρ l (RI k)) (h2 : Ev c A env X ρ r (RV (.ref D)))
    (h3 : (look ks k).isSome = true → ∀ s', InF c sB env O X ρ s' → Own c D ks s' → wpAny c.M A (execs body env) (fun f s'' => match f with | .next => wpAny c.M A (execs rest env) Qf E s'' | f => Qf f s'') E s')
    (h4 : (look ks k).isSome = false → ∀ s', InF c sB env O X ρ s' → Own c D ks s' → wpAny c.M A (execs orelse env) (fun f s'' => match f with | .next => wpAny c.M A (execs rest env) Qf E s'' | f => Qf f s'') E s')
    (hb : behindInMarks .In r = false := by with_unfolding_all rfl) :
    wpAny c.M A (execs (.If (.Compare l [.In] [r] p) body orelse pos :: rest) env) Qf E s := by
  refine wpAny_execs_cons (wpAny_If (wpAny_isTrue_Compare1 (h1 s _ E F.here fun v s₁ k₁ e₁ => h2 s₁ _ E (F.here.keeps k₁) fun u s₂ k₂ e₂ => ?_) hb))
  obtain ⟨t, rfl⟩ := e₁
  cases e₂
  have k' := keeps_trans k₁ k₂
  obtain ⟨kvs, hd, hv⟩ := hW.keeps k'
  have k'' := keeps_trans k' (keeps_toks s₂ (s₂.toks + 1))
  refine wpAny_in_of (knd := intKind c.prog c.w) (k := k) (by simp [intKind, Value.isInt]) hm hd.mapOf (wpAny_truthy_bool ?_)
  have he : (valueAt kvs k).isSome = (look ks k).isSome := by
    rcases hv.look k with ⟨a', t', q1, q2⟩ | ⟨q1, q2⟩ <;> rw [q1, q2] <;> rfl
  rw [he]
  cases hl : (look ks k).isSome with
  | true => exact h3 hl _ (F.keeps k'') (hW.keeps k'')
  | false => exact h4 hl _ (F.keeps k'') (hW.keeps k'')

/-- a new thing becomes the frame's own -/
theorem InF.adopt {o : Obj} (ho : o.isFreed = false) (F : InF c sB env O X ρ s) : InF c sB env (s.heap.objs.size :: O) (s.heap.objs.size :: X) ρ { s with heap := s.heap.push o } := by
  have kp : ∀ b o', s.heap.get? b = some o' → (s.heap.push o).get? b = some o' := fun b o' e => Heap.get?_push_of_some _ e
  have vle := hide_pushed (X := X) (s := s) o
  refine ⟨⟨F.here.base.le vle, fun b hb => ?_, F.here.kind, F.here.glob, F.here.blt, fun x r e => ?_⟩, ?_, fun b o' h1 h2 h3 e => kp b o' (F.keep b o' h1 h2 (fun q => h3 (List.mem_cons_of_mem _ q)) e), let ⟨m, n⟩ := F.ns; ⟨m, n.keeps kp⟩,
    fun x hk => let ⟨a, v, e1, e2⟩ := F.cell x hk; ⟨a, v, e1, e2.keeps kp⟩, F.apart, F.off, List.mem_cons_of_mem _ F.hidL, fun n a h => List.mem_cons_of_mem _ (F.hidC n a h), fun b hb => ?_⟩
  · rcases List.mem_cons.mp hb with rfl | hb
    · exact ⟨o, Heap.get?_push_size _ ho⟩
    · obtain ⟨o', e⟩ := F.here.xok b hb; exact ⟨o', kp b o' e⟩
  · obtain ⟨v, hv, hr⟩ := F.here.vars x r e
    exact ⟨v, hv.keeps kp, r.mono hr vle⟩
  · obtain ⟨h1, t1, rfl⟩ := F.same
    exact ⟨_, _, rfl⟩
  · rcases List.mem_cons.mp hb with rfl | hb
    · exact List.mem_cons_self ..
    · exact List.mem_cons_of_mem _ (F.hidO b hb)
theorem InF.widen (F : InF c sB env [] X ρ s) (h : ∀ b ∈ O, b ∈ X) : InF c sB env O X ρ s :=
  ⟨F.here, F.same, fun b o h1 h2 _ e => F.keep b o h1 h2 (fun h => nomatch h) e, F.ns, F.cell, F.apart, F.off, F.hidL, F.hidC, h⟩
/-- .. and is handed out again -/
theorem InF.release {D : Addr} (F : InF c sB env (D :: O) (D :: X) ρ s) (hD : sB.heap.get? D = none) (hL : env.locals ∈ X) (hC : ∀ n a, env.cells.lookup n = some a → a ∈ X) (hO : ∀ b ∈ O, b ∈ X) : InF c sB env O X [] s :=
  ⟨⟨F.here.base.le (hide_sub fun b hb => List.mem_cons_of_mem _ hb), fun b hb => F.here.xok b (List.mem_cons_of_mem _ hb), F.here.kind, F.here.glob, F.here.blt, fun x r e => by cases e⟩, F.same,
    fun b o h1 h2 h3 e => F.keep b o h1 h2 (fun q => by
      rcases List.mem_cons.mp q with rfl | q
      · rw [hD] at e; cases e
      · exact h3 q) e, F.ns, F.cell, F.apart, F.off, hL, hC, hO⟩

/-! ## add_callers -/
def addStep (acc : List (Int × Int)) (p : Int × Int) : List (Int × Int) := match look acc p.1 with
  | some v => put acc p.1 (v + p.2)
  | none => put acc p.1 p.2
theorem addStep_none {acc : List (Int × Int)} {p : Int × Int} (h : look acc p.1 = none) : addStep acc p = put acc p.1 p.2 := by unfold addStep; rw [h]
theorem addStep_some {acc : List (Int × Int)} {p : Int × Int} {v : Int} (h : look acc p.1 = some v) : addStep acc p = put acc p.1 (v + p.2) := by unfold addStep; rw [h]
def copyD (t : List (Int × Int)) : List (Int × Int) := t.foldl (fun acc p => put acc p.1 p.2) []
def addC (t u : List (Int × Int)) : List (Int × Int) := u.foldl addStep (copyD t)
theorem foldl_put_length (l : List (Int × Int)) : ∀ acc : List (Int × Int), (l.foldl (fun acc p => put acc p.1 p.2) acc).length ≤ acc.length + l.length := by
  induction l with
  | nil => intro acc; simp
  | cons p r ih =>
    intro acc
    rw [List.foldl_cons]
    have h1 := ih (put acc p.1 p.2)
    have h2 := put_length acc p.1 p.2
    rw [List.length_cons]
    omega
theorem addStep_length (acc : List (Int × Int)) (p : Int × Int) : (addStep acc p).length ≤ acc.length + 1 := by
  unfold addStep
  split <;> exact put_length ..
theorem foldl_add_length (l : List (Int × Int)) : ∀ acc : List (Int × Int), (l.foldl addStep acc).length ≤ acc.length + l.length := by
  induction l with
  | nil => intro acc; simp
  | cons p r ih =>
    intro acc
    rw [List.foldl_cons]
    have h1 := ih (addStep acc p)
    have h2 := addStep_length acc p
    rw [List.length_cons]
    omega
theorem foldl_take_succ {α β : Type} (f : β → α → β) (b : β) (l : List α) {i : Nat} {a : α} (h : l[i]? = some a) : (l.take (i + 1)).foldl f b = f ((l.take i).foldl f b) a := by
  rw [List.take_add_one, h, List.foldl_append]
  rfl

set_option maxHeartbeats 1000000 in
theorem fun_add (hc : c.fns = theFns) {t u : List (Int × Int)} (ht : t.length ≤ 400) (hu : u.length ≤ 400) : Fun c 1 "add_callers" [RD c t, RD c u] (RD c (addC t u)) := by
  refine fun_intro (d := fnAt 0) ["target", "source"] (fnAt_mem hc) (by intro pm cd doc vals hv; match vals, hv with | [x, y], _ => rfl) (by rfl) ?_
  intro A env X s Q E hA hsc F h
  have hk : ∀ x k, (fnAt 0).scope.names.lookup x = some k → env.kindOf x = some k := fun x k e => by unfold Env.kindOf; rw [hsc]; exact e
  have hb : (fnAt 0).body = (fnAt 0).body := rfl
  conv at hb => rhs; whnf
  rw [hb]
  refine wpAny_execs_cons (wpAny_Assign_Name (wpAny_Dict_empty ?_))
  have F₁ := F.adopt (o := { cls := .type "dict", data := .dict #[] }) rfl
  have hDn : s.heap.get? s.heap.objs.size = none := none_of_le (Nat.le_refl _)
  have hm := F.here.base.notModules (Nat.le_refl _)
  have hDX : s.heap.objs.size ∉ X := fresh_of F.here.xok
  have hW : Own c s.heap.objs.size [] { s with heap := s.heap.push { cls := .type "dict", data := .dict #[] } } := ⟨[], Heap.DictOf.new s.heap, .nil⟩
  generalize hDe : s.heap.objs.size = D at *
  have hoff : D ≠ env.locals := fun q => hDX (q ▸ F.hidL)
  have hoffC : ∀ n, env.cells.lookup n ≠ some D := fun n q => hDX (F.hidC n D q)
  refine store_ (r := RV (.ref D)) (F₁.reown (O' := []) fun _ h => nomatch h) (.inl (hk _ _ rfl)) rfl fun s₂ F₂ => ?_
  have hW₂ : Own c D [] s₂ := hW.at fun o e => F₂.keep D o hoff hoffC (fun h => nomatch h) e
  have F₃ := F₁.trans (F₂.widen (O := [D]) F₁.hidO)
  have stab : ∀ (f : Nat → List (Int × Int)) (i : Nat) (I : Addr) (s s' : Shared), I ∉ D :: X → Turned env [] I s s' → (Own c D (f i) s → Own c D (f i) s') := fun f i I s s' hI T hO =>
    hO.at fun o e => T.keep D o hoff hoffC (fun h => nomatch h) (fun q => hI (q ▸ List.mem_cons_self ..)) e
  refine ex_for (O := [D]) (fun _ => [("new_callers", RV (.ref D)), ("source", RD c u), ("target", RD c t)]) (fun i s => Own c D ((t.take i).foldl (fun acc p => put acc p.1 p.2) []) s) (fun _ => False) F₃
    (draws_items (ks := t) hA (ev_method (r₁ := RD c t) (rs := []) (ev_name rfl) (meth_dict PySem.F.slot_dict_items PySem.F.type_dict_items) (.inl ⟨_, rfl⟩) call_items hA evs_nil) (hk _ _ rfl) (hk _ _ rfl))
    (sub_cons rfl (sub_cons rfl (sub_cons rfl (sub_nil _)))) hW₂ (stab _) ?_ (fun _ _ _ f => f.elim) ?_
  · intro i tt X' s' Q' E' hi hX' hJ F' hq _
    rw [List.getElem?_map] at hi
    obtain ⟨p, hp, rfl⟩ := Option.map_eq_some_iff.mp hi
    have hlen : ((t.take i).foldl (fun acc p => put acc p.1 p.2) []).length ≤ 1000 := by
      have := foldl_put_length (t.take i) []
      rw [List.length_take] at this
      simp at this
      omega
    refine ex_setitem F' (List.mem_singleton.mpr rfl) hoff hoffC hJ hlen (x := p.2) (k := p.1) (ev_name rfl) (ev_name rfl) (ev_name rfl) fun s'' F'' hO => ex_nil (hq s'' (F''.weak (sub_cons rfl (sub_cons rfl (sub_cons rfl (sub_nil _))))) ?_)
    rw [foldl_take_succ _ _ _ hp]
    exact hO
  · intro s₄ hW₄ F₄
    rw [List.length_map, List.take_length] at hW₄
    refine ex_for (O := [D]) (fun _ => [("new_callers", RV (.ref D))]) (fun i s => Own c D ((u.take i).foldl addStep (copyD t)) s) (fun _ => False) F₄
      (draws_items (ks := u) hA (ev_method (r₁ := RD c u) (rs := []) (ev_name rfl) (meth_dict PySem.F.slot_dict_items PySem.F.type_dict_items) (.inl ⟨_, rfl⟩) call_items hA evs_nil) (hk _ _ rfl) (hk _ _ rfl))
      (sub_cons rfl (sub_nil _)) hW₄ (stab _) ?_ (fun _ _ _ f => f.elim) ?_
    · intro i tt X' s' Q' E' hi hX' hJ F' hq _
      rw [List.getElem?_map] at hi
      obtain ⟨p, hp, rfl⟩ := Option.map_eq_some_iff.mp hi
      have hlen : ((u.take i).foldl addStep (copyD t)).length ≤ 1000 := by
        have h1 := foldl_add_length (u.take i) (copyD t)
        have h2 := foldl_put_length t []
        rw [List.length_take] at h1
        unfold copyD at h1 ⊢
        simp at h2
        omega
      have fin : ∀ s'' k, InF c s' env [D] X' (([("caller", RI p.2), ("func", RI p.1)] : Ctxt) ++ ([("new_callers", RV (.ref D))] : Ctxt)) s'' → Own c D k s'' → k = addStep ((u.take i).foldl addStep (copyD t)) p → Q' .next s'' := fun s'' k F'' hO e => by
        refine hq s'' (F''.weak (sub_cons rfl (sub_nil _))) ?_
        rw [foldl_take_succ _ _ _ hp, ← e]
        exact hO
      refine ex_if_in F' hJ hm (k := p.1) (ev_name rfl) (ev_name rfl) (fun hl s'' F'' hO => ?_) (fun hl s'' F'' hO => ?_)
      · obtain ⟨a, ha⟩ := Option.isSome_iff_exists.mp hl
        refine ex_if (b := false) (F''.reown (O' := []) fun _ h => nomatch h) (tr_bool (ev_builtin (rs := [RI p.2, RV (.type "tuple")]) (f := .builtin "isinstance") (by decide) (by decide +kernel) (.inl ⟨_, rfl⟩) call_isTuple hA (evs_cons (ev_name rfl) (evs_cons (ev_bname (by decide) (by decide +kernel) (hk _ _ rfl)) evs_nil)) (hk _ _ rfl))) (fun h => nomatch h) fun _ s₅ F₅ => ?_
        have hO₅ := hO.at fun o e => F₅.keep D o hoff hoffC (fun h => nomatch h) e
        refine ex_augitem (F''.trans (F₅.widen (O := [D]) F''.hidO)) (List.mem_singleton.mpr rfl) hoff hoffC hO₅ hlen (x := p.2) (k := p.1) ha (ev_name rfl) (ev_name rfl) (ev_name rfl) fun s₆ F₆ hO₆ => ex_nil (ex_nil (ex_nil (fin s₆ _ F₆ hO₆ ?_)))
        exact (addStep_some ha).symm
      · refine ex_setitem F'' (List.mem_singleton.mpr rfl) hoff hoffC hO hlen (x := p.2) (k := p.1) (ev_name rfl) (ev_name rfl) (ev_name rfl) fun s₅ F₅ hO₅ => ex_nil (ex_nil (fin s₅ _ F₅ hO₅ ?_))
        rw [Option.isSome_eq_false_iff, Option.isNone_iff_eq_none] at hl
        exact (addStep_none hl).symm
    · intro s₅ hW₅ F₅
      rw [List.length_map, List.take_length] at hW₅
      refine ex_return (r := RV (.ref D)) (F₅.reown (O' := []) fun _ h => nomatch h) (ev_name rfl) fun v s₆ F₆ hv => ?_
      cases hv
      obtain ⟨kvs, hd, hv⟩ := hW₅.at fun o e => F₆.keep D o hoff hoffC (fun h => nomatch h) e
      exact h _ s₆ ((F₅.trans (F₆.widen (O := [D]) F₅.hidO)).release hDn F.hidL F.hidC fun _ h => nomatch h) (rd_of hm hDX hd hv)
end
end Mine
end

section
set_option maxRecDepth 100000
namespace Mine
open PySem PySem.W PySem.Calls PyProof.Rows
section
variable {c : Cfg}
theorem fun_lt (hc : c.fns = theFns) {a b : Int} : Fun c 1 "lt" [RI a, RI b] (RB (decide (a < b))) := by
  refine fun_intro (d := fnAt 2) ["a", "b"] (fnAt_mem hc) (by intro pm cd doc vals hv; match vals, hv with | [x, y], _ => rfl) (by rfl) ?_
  intro A env X s Q E hA hsc F h
  have hb : (fnAt 2).body = (fnAt 2).body := rfl
  conv at hb => rhs; whnf
  rw [hb]
  exact ex_return F (ev_cmp (r₁ := RI a) (r₂ := RI b) (ev_name rfl) (ev_name rfl) cmp_lt) fun v s' F' hr => h v s' (F'.weak (sub_nil _)) hr
theorem fun_gt (hc : c.fns = theFns) {a b : Int} : Fun c 1 "gt" [RI a, RI b] (RB (decide (b < a))) := by
  refine fun_intro (d := fnAt 3) ["a", "b"] (fnAt_mem hc) (by intro pm cd doc vals hv; match vals, hv with | [x, y], _ => rfl) (by rfl) ?_
  intro A env X s Q E hA hsc F h
  have hb : (fnAt 3).body = (fnAt 3).body := rfl
  conv at hb => rhs; whnf
  rw [hb]
  exact ex_return F (ev_cmp (r₁ := RI a) (r₂ := RI b) (ev_name rfl) (ev_name rfl) cmp_gt) fun v s' F' hr => h v s' (F'.weak (sub_nil _)) hr
theorem fun_and_ (hc : c.fns = theFns) {a b : Int} : Fun c 1 "and_" [RI a, RI b] (RI (Builtin.bitAnd a b)) := by
  refine fun_intro (d := fnAt 4) ["a", "b"] (fnAt_mem hc) (by intro pm cd doc vals hv; match vals, hv with | [x, y], _ => rfl) (by rfl) ?_
  intro A env X s Q E hA hsc F h
  have hb : (fnAt 4).body = (fnAt 4).body := rfl
  conv at hb => rhs; whnf
  rw [hb]
  exact ex_return F (ev_bin (ev_name rfl) (ev_name rfl) op_and) fun v s' F' hr => h v s' (F'.weak (sub_nil _)) hr
theorem fun_floordiv (hc : c.fns = theFns) {a b : Int} (hb0 : b ≠ 0) (hbs : b.natAbs < 1073741824) : Fun c 1 "floordiv" [RI a, RI b] (RI (a.fdiv b)) := by
  refine fun_intro (d := fnAt 5) ["a", "b"] (fnAt_mem hc) (by intro pm cd doc vals hv; match vals, hv with | [x, y], _ => rfl) (by rfl) ?_
  intro A env X s Q E hA hsc F h
  have hb : (fnAt 5).body = (fnAt 5).body := rfl
  conv at hb => rhs; whnf
  rw [hb]
  exact ex_return F (ev_bin (ev_name rfl) (ev_name rfl) (op_floordiv hb0 hbs)) fun v s' F' hr => h v s' (F'.weak (sub_nil _)) hr
theorem fun_lshift (hc : c.fns = theFns) {a b : Int} (h0 : 0 ≤ b) (h1 : b ≤ 1000000) (h2 : a.natAbs < 2 ^ 64) : Fun c 1 "lshift" [RI a, RI b] (RI (a * 2 ^ b.toNat)) := by
  refine fun_intro (d := fnAt 6) ["a", "b"] (fnAt_mem hc) (by intro pm cd doc vals hv; match vals, hv with | [x, y], _ => rfl) (by rfl) ?_
  intro A env X s Q E hA hsc F h
  have hb : (fnAt 6).body = (fnAt 6).body := rfl
  conv at hb => rhs; whnf
  rw [hb]
  exact ex_return F (ev_bin (ev_name rfl) (ev_name rfl) (op_lshift h0 h1 h2)) fun v s' F' hr => h v s' (F'.weak (sub_nil _)) hr
theorem fun_mod (hc : c.fns = theFns) {a b : Int} (hb0 : b ≠ 0) : Fun c 1 "mod" [RI a, RI b] (RI (a.fmod b)) := by
  refine fun_intro (d := fnAt 7) ["a", "b"] (fnAt_mem hc) (by intro pm cd doc vals hv; match vals, hv with | [x, y], _ => rfl) (by rfl) ?_
  intro A env X s Q E hA hsc F h
  have hb : (fnAt 7).body = (fnAt 7).body := rfl
  conv at hb => rhs; whnf
  rw [hb]
  exact ex_return F (ev_bin (ev_name rfl) (ev_name rfl) (op_mod hb0)) fun v s' F' hr => h v s' (F'.weak (sub_nil _)) hr
theorem fun_mul (hc : c.fns = theFns) {a b : Int} (hm : IntMulOk a b) : Fun c 1 "mul" [RI a, RI b] (RI (a * b)) := by
  refine fun_intro (d := fnAt 8) ["a", "b"] (fnAt_mem hc) (by intro pm cd doc vals hv; match vals, hv with | [x, y], _ => rfl) (by rfl) ?_
  intro A env X s Q E hA hsc F h
  have hb : (fnAt 8).body = (fnAt 8).body := rfl
  conv at hb => rhs; whnf
  rw [hb]
  exact ex_return F (ev_bin (ev_name rfl) (ev_name rfl) (op_mul hm)) fun v s' F' hr => h v s' (F'.weak (sub_nil _)) hr
theorem fun_neg (hc : c.fns = theFns) {a : Int} : Fun c 1 "neg" [RI a] (RI (-a)) := by
  refine fun_intro (d := fnAt 9) ["a"] (fnAt_mem hc) (by intro pm cd doc vals hv; match vals, hv with | [x], _ => rfl) (by rfl) ?_
  intro A env X s Q E hA hsc F h
  have hb : (fnAt 9).body = (fnAt 9).body := rfl
  conv at hb => rhs; whnf
  rw [hb]
  exact ex_return F (ev_neg (ev_name rfl)) fun v s' F' hr => h v s' (F'.weak (sub_nil _)) hr
theorem fun_or_ (hc : c.fns = theFns) {a b : Int} : Fun c 1 "or_" [RI a, RI b] (RI (Builtin.bitOr a b)) := by
  refine fun_intro (d := fnAt 10) ["a", "b"] (fnAt_mem hc) (by intro pm cd doc vals hv; match vals, hv with | [x, y], _ => rfl) (by rfl) ?_
  intro A env X s Q E hA hsc F h
  have hb : (fnAt 10).body = (fnAt 10).body := rfl
  conv at hb => rhs; whnf
  rw [hb]
  exact ex_return F (ev_bin (ev_name rfl) (ev_name rfl) op_or) fun v s' F' hr => h v s' (F'.weak (sub_nil _)) hr
theorem fun_rshift (hc : c.fns = theFns) {a b : Int} (h0 : 0 ≤ b) : Fun c 1 "rshift" [RI a, RI b] (RI (a.fdiv (2 ^ b.toNat))) := by
  refine fun_intro (d := fnAt 11) ["a", "b"] (fnAt_mem hc) (by intro pm cd doc vals hv; match vals, hv with | [x, y], _ => rfl) (by rfl) ?_
  intro A env X s Q E hA hsc F h
  have hb : (fnAt 11).body = (fnAt 11).body := rfl
  conv at hb => rhs; whnf
  rw [hb]
  exact ex_return F (ev_bin (ev_name rfl) (ev_name rfl) (op_rshift h0)) fun v s' F' hr => h v s' (F'.weak (sub_nil _)) hr
theorem fun_xor (hc : c.fns = theFns) {a b : Int} : Fun c 1 "xor" [RI a, RI b] (RI (Builtin.bitXor a b)) := by
  refine fun_intro (d := fnAt 12) ["a", "b"] (fnAt_mem hc) (by intro pm cd doc vals hv; match vals, hv with | [x, y], _ => rfl) (by rfl) ?_
  intro A env X s Q E hA hsc F h
  have hb : (fnAt 12).body = (fnAt 12).body := rfl
  conv at hb => rhs; whnf
  rw [hb]
  exact ex_return F (ev_bin (ev_name rfl) (ev_name rfl) op_xor) fun v s' F' hr => h v s' (F'.weak (sub_nil _)) hr
theorem fun_contains (hc : c.fns = theFns) {ns : List Int} {b : Int} : Fun c 1 "contains" [RLI ns, RI b] (RB (ns.any (· == b))) := by
  refine fun_intro (d := fnAt 13) ["a", "b"] (fnAt_mem hc) (by intro pm cd doc vals hv; match vals, hv with | [x, y], _ => rfl) (by rfl) ?_
  intro A env X s Q E hA hsc F h
  have hb : (fnAt 13).body = (fnAt 13).body := rfl
  conv at hb => rhs; whnf
  rw [hb]
  exact ex_return F (ev_cmp (r₁ := RI b) (r₂ := RLI ns) (ev_name rfl) (ev_name rfl) cmp_inList) fun v s' F' hr => h v s' (F'.weak (sub_nil _)) hr

/-- count_calls -/
def countC (ks : List (Int × Int)) : Int := ks.foldl (fun n p => n + p.2) 0
set_option maxHeartbeats 1000000 in
theorem fun_count (hc : c.fns = theFns) {ks : List (Int × Int)} : Fun c 1 "count_calls" [RD c ks] (RI (countC ks)) := by
  refine fun_intro (d := fnAt 1) ["callers"] (fnAt_mem hc) (by intro pm cd doc vals hv; match vals, hv with | [x], _ => rfl) (by rfl) ?_
  intro A env X s Q E hA hsc F h
  have hk : ∀ x k, (fnAt 1).scope.names.lookup x = some k → env.kindOf x = some k := fun x k e => by unfold Env.kindOf; rw [hsc]; exact e
  have hb : (fnAt 1).body = (fnAt 1).body := rfl
  conv at hb => rhs; whnf
  rw [hb]
  refine ex_assign F (ev_int (i := 0)) (.inl (hk _ _ rfl)) fun s₁ F₁ => ?_
  refine ex_for (O := []) (fun i => [("nc", RI ((ks.take i).foldl (fun n p => n + p.2) 0))]) (fun _ _ => True) (fun _ => False) F₁
    (draws_walk (xs := ks) (fun p => RI p.2) (fun p => [("calls", RI p.2)]) (ev_method (r₁ := RD c ks) (rs := []) (ev_name rfl) (meth_dict PySem.F.slot_dict_values PySem.F.type_dict_values) (.inl ⟨_, rfl⟩) call_values hA evs_nil) (it_values hA) fun p _ => asg_name (.inl (hk _ _ rfl)))
    (sub_cons rfl (sub_nil _)) trivial (fun _ _ _ _ _ _ h => h) ?_ (fun _ _ _ f => f.elim) ?_
  · intro i tt X' s' Q' E' hi hX' hJ F' hq _
    rw [List.getElem?_map] at hi
    obtain ⟨p, hp, rfl⟩ := Option.map_eq_some_iff.mp hi
    refine ex_aug F' (a := (ks.take i).foldl (fun n p => n + p.2) 0) (b := p.2) rfl (ev_name rfl) (.inl (hk _ _ rfl)) fun s'' F'' => ex_nil (hq s'' (F''.weak (sub_cons ?_ (sub_nil _))) trivial)
    rw [foldl_take_succ _ _ _ hp]
    rfl
  · intro s₂ _ F₂
    refine ex_return (r := RI (countC ks)) F₂ (ev_name ?_) fun v s' F' hr => h v s' (F'.weak (sub_nil _)) hr
    rw [List.length_map, List.take_length]
    rfl
end
end Mine
end

section
set_option maxRecDepth 100000
namespace Mine
open PySem PySem.W PySem.Calls PyProof.Rows

/-! ## The text's class -/
def theCls : List Stmt := match PySem.Challenge.pw_ph0051_01.main.body with
  | _ :: .ClassDef _ _ _ b _ _ _ _ _ _ _ :: _ => b
  | _ => []
def methOf : Stmt → Option DefRec
  | .FunctionDef name args body _ _ _ scope _ _ pos => some ⟨name, args, body, scope, pos⟩
  | _ => none
def theMeths : List DefRec := theCls.filterMap methOf
def methAt (i : Nat) (h : i < theMeths.length := by decide +kernel) : DefRec := theMeths[i]

structure ClsK (c : Cfg) (C fI fC : Addr) : Prop where
  makes : makesIn c.K C = true
  init : findIn c.K (.ref C) "__init__" = some (some (.ref fI))
  initF : typeIn c.K (.ref fI) = some (.type "function")
  ga : findIn c.K (.ref C) "__getattribute__" = some (some (.builtin "object.__getattribute__"))
  gat : findIn c.K (.ref C) "__getattr__" = some none
  cmp : findIn c.K (.ref C) "compare" = some (some (.ref fC))
  cmpF : typeIn c.K (.ref fC) = some (.type "function")
  hasD : hasDictIn c.K C = true
  attr : findIn c.K (.ref C) "comp_select_list" = some none
  seta : findIn c.K (.ref C) "__setattr__" = some (some (.builtin "object.__setattr__"))
  plain : plainOver c.K C = true
  taker : takerIn c.K C "comp_select_list" = some none
  fnI : FnAt c.h0 fI (methAt 0) "TupleComp.__init__"
  fnC : FnAt c.h0 fC (methAt 1) "TupleComp.compare"
  name : c.mg "TupleComp" = some (.ref C)
  keep : keepIn c.K (.ref C) = true

section
variable {c : Cfg} {A : Around} {env : Env} {O X : List Addr} {ρ : Ctxt} {sB s : Shared} {C fI fC : Addr}

/-- what the list of columns holds -/
abbrev RCols (way : Int) : Rel := RL ([0, 1].map fun i => RT [RI i, RI way])
/-- an object of the class that keeps a list of columns -/
def RJ (C : Addr) (way : Int) : Rel := ⟨fun g v => ∃ x dx l hsh tk n, v = .ref x ∧ g x = some (instObj C dx) ∧ g dx = some (dictOf [⟨hsh, .str "comp_select_list" tk, .ref l⟩] n) ∧ (RCols way).on g (.ref l),
  fun ⟨x, dx, l, hsh, tk, n, e, h1, h2, h3⟩ hl => ⟨x, dx, l, hsh, tk, n, e, hl _ _ h1, hl _ _ h2, (RCols way).mono h3 hl⟩⟩

theorem ev_cols {o : Expr} {way : Int} {pos : Pos} (hC : ClsK c C fI fC) (h1 : Ev c A env X ρ o (RJ C way)) (hbase : ∀ w, attributeBase o "comp_select_list" env w = w := by intro _; rfl) :
    Ev c A env X ρ (.Attribute o "comp_select_list" pos) (RCols way) := by
  intro s Q E H h
  rw [arm_eval_Attribute, hbase]
  refine wpAny_bind (h1 s _ E H fun v s₁ k₁ hr => wpAny_bind (wpAny_standAt (wpAny_bind (wpAny_holding ?_))))
  obtain ⟨x, dx, l, hsh, tk, n, rfl, e1, e2, e3⟩ := hr
  have H₁ := H.keeps k₁
  refine get_value H₁.base.at.k (ox := instObj C dx) (od := some (dictOf [⟨hsh, .str "comp_select_list" tk, .ref l⟩] n)) ⟨(hide_get e1).1, rfl, rfl, (hide_get e2).1⟩ hC.ga (findObj_own (v := .ref l) hC.hasD hC.attr rfl ?_) rfl ?_
  · rw [lookIn_dict]
    simp [getL, Value.isStr]
  · exact wpAny_bind (wpAny_letTemporaryGo (wpAny_pure (h _ _ (keeps_trans k₁ (keeps_toks s₁ _)) e3)))

theorem meth_compare {way : Int} (hC : ClsK c C fI fC) : MethIs c A X (RJ C way) "compare" (.ref fC) := by
  intro s v pl Q E B hr h
  obtain ⟨x, dx, l, hsh, tk, n, rfl, e1, e2, e3⟩ := hr
  refine method_fn B.at.k (ox := instObj C dx) (od := some (dictOf [⟨hsh, .str "comp_select_list" tk, .ref l⟩] n)) ⟨(hide_get e1).1, rfl, rfl, (hide_get e2).1⟩ hC.ga hC.gat hC.cmp hC.cmpF ?_ h
  with_unfolding_all rfl

/-! ## compare -/
def cmpv (way a b x y : Int) : Int := if a < x then -way else if x < a then way else if b < y then -way else if y < b then way else 0
set_option maxHeartbeats 1000000 in
theorem call_compare (hC : ClsK c C fI fC) {way a b x y : Int} : CallIs c 1 (.ref fC) [RJ C way, RT [RI a, RI b], RT [RI x, RI y]] (RI (cmpv way a b x y)) := by
  refine meth_intro (d := methAt 1) ["self", "left", "right"] hC.fnC (by intro pm cd doc vals hv; match vals, hv with | [u, v, w], _ => rfl) (by rfl) ?_
  intro A env X s Q E hA hsc F h
  have hk : ∀ x k, (methAt 1).scope.names.lookup x = some k → env.kindOf x = some k := fun x k e => by unfold Env.kindOf; rw [hsc]; exact e
  have hb : (methAt 1).body = (methAt 1).body := rfl
  conv at hb => rhs; whnf
  rw [hb]
  refine ex_for (O := []) (fun _ => [("right", RT [RI x, RI y]), ("left", RT [RI a, RI b])]) (fun i _ => (1 ≤ i → ¬ a < x ∧ ¬ x < a) ∧ (2 ≤ i → ¬ b < y ∧ ¬ y < b)) (fun r => r = RI (cmpv way a b x y)) F
    (draws_walk (xs := [0, 1]) (fun i => RT [RI i, RI way]) (fun i => [("direction", RI way), ("index", RI i)]) (ev_cols hC (ev_name rfl)) (it_list hA) fun i _ => asg_tuple2 hA (.inl (hk _ _ rfl)) (.inl (hk _ _ rfl)))
    (sub_cons rfl (sub_cons rfl (sub_nil _))) ⟨fun h => by omega, fun h => by omega⟩ (fun _ _ _ _ _ _ h => h) ?_ (fun r v s' hr F' hv => h v s' F' (by rw [hr] at hv; exact hv)) ?_
  · intro i tt X' s' Q' E' hi hX' hJ F' hq hret
    match i, hi with
    | 0, hi =>
      cases hi
      refine ex_assign (r := RI a) F' (ev_sub (r₁ := RT [RI a, RI b]) (r₂ := RI 0) (ev_name rfl) (ev_name rfl) (item_tuple (by decide) (by decide) rfl)) (.inl (hk _ _ rfl)) fun s₁ F₁ => ?_
      refine ex_assign (r := RI x) F₁ (ev_sub (r₁ := RT [RI x, RI y]) (r₂ := RI 0) (ev_name rfl) (ev_name rfl) (item_tuple (by decide) (by decide) rfl)) (.inl (hk _ _ rfl)) fun s₂ F₂ => ?_
      refine ex_if F₂ (tr_cmp (r₁ := RI a) (r₂ := RI x) (ev_name rfl) (ev_name rfl) cmp_lt) (fun hl s₃ F₃ => ?_) (fun hl s₃ F₃ => ?_)
      · refine ex_return (r := RI (-way)) F₃ (ev_neg (ev_name rfl)) fun v s₄ F₄ hv => hret _ v s₄ ?_ (F₄.weak (sub_nil _)) hv
        rw [decide_eq_true_eq] at hl
        unfold cmpv; rw [if_pos hl]
      · rw [decide_eq_false_iff_not] at hl
        refine ex_nil (ex_if F₃ (tr_cmp (r₁ := RI a) (r₂ := RI x) (ev_name rfl) (ev_name rfl) cmp_gt) (fun hg s₄ F₄ => ?_) (fun hg s₄ F₄ => ?_))
        · rw [decide_eq_true_eq] at hg
          refine ex_return (r := RI way) F₄ (ev_name rfl) fun v s₅ F₅ hv => hret _ v s₅ ?_ (F₅.weak (sub_nil _)) hv
          unfold cmpv; rw [if_neg hl, if_pos hg]
        · rw [decide_eq_false_iff_not] at hg
          exact ex_nil (ex_nil (hq s₄ (F₄.weak (sub_cons rfl (sub_cons rfl (sub_nil _)))) ⟨fun _ => ⟨hl, hg⟩, fun h => by omega⟩))
    | 1, hi =>
      cases hi
      obtain ⟨n1, n2⟩ := hJ.1 (Nat.le_refl _)
      refine ex_assign (r := RI b) F' (ev_sub (r₁ := RT [RI a, RI b]) (r₂ := RI 1) (ev_name rfl) (ev_name rfl) (item_tuple (by decide) (by decide) rfl)) (.inl (hk _ _ rfl)) fun s₁ F₁ => ?_
      refine ex_assign (r := RI y) F₁ (ev_sub (r₁ := RT [RI x, RI y]) (r₂ := RI 1) (ev_name rfl) (ev_name rfl) (item_tuple (by decide) (by decide) rfl)) (.inl (hk _ _ rfl)) fun s₂ F₂ => ?_
      refine ex_if F₂ (tr_cmp (r₁ := RI b) (r₂ := RI y) (ev_name rfl) (ev_name rfl) cmp_lt) (fun hl s₃ F₃ => ?_) (fun hl s₃ F₃ => ?_)
      · refine ex_return (r := RI (-way)) F₃ (ev_neg (ev_name rfl)) fun v s₄ F₄ hv => hret _ v s₄ ?_ (F₄.weak (sub_nil _)) hv
        rw [decide_eq_true_eq] at hl
        unfold cmpv; rw [if_neg n1, if_neg n2, if_pos hl]
      · rw [decide_eq_false_iff_not] at hl
        refine ex_nil (ex_if F₃ (tr_cmp (r₁ := RI b) (r₂ := RI y) (ev_name rfl) (ev_name rfl) cmp_gt) (fun hg s₄ F₄ => ?_) (fun hg s₄ F₄ => ?_))
        · rw [decide_eq_true_eq] at hg
          refine ex_return (r := RI way) F₄ (ev_name rfl) fun v s₅ F₅ hv => hret _ v s₅ ?_ (F₅.weak (sub_nil _)) hv
          unfold cmpv; rw [if_neg n1, if_neg n2, if_neg hl, if_pos hg]
        · rw [decide_eq_false_iff_not] at hg
          exact ex_nil (ex_nil (hq s₄ (F₄.weak (sub_cons rfl (sub_cons rfl (sub_nil _)))) ⟨fun _ => ⟨n1, n2⟩, fun _ => ⟨hl, hg⟩⟩))
    | i + 2, hi => cases hi
  · intro s₂ hJ F₂
    obtain ⟨n1, n2⟩ := hJ.1 (by simp)
    obtain ⟨n3, n4⟩ := hJ.2 (by simp)
    refine ex_return (r := RI (cmpv way a b x y)) F₂ ?_ fun v s' F' hr => h v s' (F'.weak (sub_nil _)) hr
    unfold cmpv; rw [if_neg n1, if_neg n2, if_neg n3, if_neg n4]
    exact ev_int

/-! ## An object of the class is made -/
theorem call_make (hC : ClsK c C fI fC) {way : Int} : CallIs c 3 (.ref C) [RCols way] (RJ C way) := by
  intro A X s vs Q E hA B hx hv h
  unfold AllOn at hv
  cases hv with | cons h1 hv => cases hv with | nil =>
  rename_i vl
  refine wpAny_call ?_
  obtain ⟨hh, g, d, t, os⟩ := s
  dsimp only at B hx h1
  refine make_core (makes_of B.at.k hC.makes) (looks_findIn B.at.k hC.init) (fun self => bind_fn B.at.k self hC.initF) (.inl rfl) ?_
  have hdx : hh.get? hh.objs.size = none := none_of_le (Nat.le_refl _)
  have hxx : hh.get? (hh.objs.size + 1) = none := none_of_le (Nat.le_succ _)
  have hg0 : ∀ b o, hh.get? b = some o → ((hh.push emptyDict).push (instObj C hh.objs.size)).get? b = some o := fun b o e => Heap.get?_push_of_some _ (Heap.get?_push_of_some _ e)
  have gx : ((hh.push emptyDict).push (instObj C hh.objs.size)).get? (hh.objs.size + 1) = some (instObj C hh.objs.size) := by heap_get
  have gd : ((hh.push emptyDict).push (instObj C hh.objs.size)).get? hh.objs.size = some emptyDict := by heap_get
  generalize hdxe : hh.objs.size = dx at *
  have hle : View.le (hide X hh) (hide (dx :: X) ((hh.push emptyDict).push (instObj C dx))) := hide_new (fun b o _ e => hg0 b o e) fun b hb => by
    rcases List.mem_cons.mp hb with rfl | hb
    · exact .inr hdx
    · exact .inl hb
  refine enter_ (k := 1) (d := methAt 0) (q := "TupleComp.__init__") (rs := [RV (.ref (dx + 1)), RV vl]) ["self", "comp_select_list"] hC.fnI (by intro pm cd doc vals hv; match vals, hv with | [u, v], _ => rfl) (by rfl) (X := dx :: X) ?_ (B.le hle) ?_ (.cons rfl (.cons rfl .nil)) ?_
  · exact ⟨hA.handled, by have := hA.depth; show A.depth + 1 + 2 < _; omega, by have := hA.units; show A.units + 1 + 20 * 2 + 200 < _; omega⟩
  · intro b hb
    rcases List.mem_cons.mp hb with rfl | hb
    · exact ⟨_, gd⟩
    · obtain ⟨o, e⟩ := hx b hb; exact ⟨o, hg0 b o e⟩
  · intro env X' s₁ hA' hsc hXX hLn hCn hLs k₁ F
    have hb : (methAt 0).body = (methAt 0).body := rfl
    conv at hb => rhs; whnf
    rw [hb]
    refine wpAny_execs_cons (plainObj_wpAny_Assign_Attribute (ev_name (r := RV vl) rfl rfl s₁ _ _ F.here fun v s₂ k₂ hr => ev_name (r := RV (.ref (dx + 1))) rfl rfl s₂ _ _ (F.here.keeps k₂) fun ov s₃ k₃ e => ?_))
    cases e
    cases hr
    have k' := keeps_trans k₁ (keeps_trans k₂ k₃)
    have H₃ := (F.here.keeps k₂).keeps k₃
    have gx₃ := keeps_get k' gx
    have gd₃ := keeps_get k' gd
    refine set_plain H₃.base.at.k (ox := instObj C dx) (od := some emptyDict) ⟨gx₃, rfl, rfl, gd₃⟩ hC.seta ?_
    obtain ⟨m, hn⟩ := ((F.keeps k₂).keeps k₃).ns
    have Fr3 : Fr hh env.locals s₃.heap m := ⟨hn, fun b o e => keeps_get k' (hg0 b o e), Nat.le_trans (by rw [Heap.size_push, Heap.size_push]; omega) hLs⟩
    have hne : ∀ b o, ((hh.push emptyDict).push (instObj C dx)).get? b = some o → b ≠ env.locals := fun b o e q => by rw [q] at e; rw [hLn] at e; cases e
    have N3 : News hh env.locals s₃.heap ([(dx + 1, instObj C dx)] ++ (dx, emptyDict) :: []) := by
      intro p hp
      rcases List.mem_cons.mp hp with rfl | hp
      · exact ⟨gx₃, hne _ _ gx, hxx⟩
      · rcases List.mem_cons.mp hp with rfl | hp
        · exact ⟨gd₃, hne _ _ gd, hdx⟩
        · cases hp
    refine osa_dict (s := { s₃ with toks := s₃.toks + 1 }) Fr3 N3 H₃.base.at.k (ox := instObj C dx) ⟨gx₃, rfl, rfl, gd₃⟩ rfl hC.plain hC.taker hC.hasD rfl ?_ (fun _ h => nomatch h) (es := [⟨PyData.keyHash c.w.params "comp_select_list", .str "comp_select_list" (s₃.toks + 1), vl⟩]) (n := 1) rfl rfl (by simp) fun h' F' N' => ?_
    · intro p hp
      rw [List.mem_singleton.mp hp]
      exact Nat.succ_ne_self dx
    · refine ex_nil ⟨rfl, ?_⟩
      obtain ⟨h3, t3, rfl, _⟩ := k'
      refine h _ _ ⟨h', _, rfl, fun b o e => F'.keep b o e⟩ ?_
      have vle : View.le (hide X hh) (hide X h') := hide_le fun b o _ e => F'.keep b o e
      have hdX : dx ∉ X := fun q => by obtain ⟨o, e⟩ := hx _ q; rw [hdx] at e; cases e
      have hxX : dx + 1 ∉ X := fun q => by obtain ⟨o, e⟩ := hx _ q; rw [hxx] at e; cases e
      obtain ⟨l, us, ep, rfl, e1, e2⟩ := h1
      exact ⟨dx + 1, dx, l, _, _, _, rfl, hide_of (N' _ (List.mem_cons_self ..)).1 hxX, hide_of (N' _ (List.mem_cons_of_mem _ (List.mem_cons_self ..))).1 hdX, (RCols way).mono ⟨l, us, ep, rfl, e1, e2⟩ vle⟩

/-- the class called in an expression -/
theorem ev_make {p pos : Pos} {e : Expr} {way : Int} (hC : ClsK c C fI fC) (hA : AOk 3 A) (h1 : Evs c A env X ρ [e] [RCols way]) (hk : env.kindOf "TupleComp" = some .globalImplicit)
    (he : starEach [e] env = [(false, eval e env)] := by rfl) : Ev c A env X ρ (.Call (.Name "TupleComp" p) [e] [] pos) (RJ C way) := by
  intro s Q E H h
  show wpAny c.M A (do callWith pos (← eval (.Name "TupleComp" p) env) [] (backTo pos (starEach [e] env)) (backToKw pos (keywordEach [] env))) Q E s
  refine wpAny_bind (Calls.Name_function_global H.kind hk (Calls.loadGlobal_global (by rw [H.glob]; exact H.base.at.g) hC.name ?_) rfl)
  exact callWith_K H.base.at.k hC.keep (h1 s pos _ E H fun vs s' k' hv =>
    ⟨(H.keeps k').base.at.k, call_make hC A X s' vs Q E hA (H.keeps k').base (H.keeps k').xok hv fun v s'' k'' hr => h v s'' (keeps_trans k' k'') hr⟩) he
end
end Mine
end

section
set_option maxRecDepth 100000
namespace Mine
open PySem PySem.W PySem.Calls PyProof.Rows

/-- an environment of which only the scope counts -/
def bareEnv (sc : Scope) : Env := { scope := sc, locals := 0, globals := 0, cells := [], qual := "", func := none, code := .none, frame := none, builtins := 0 }
theorem swapped_scope {env : Env} {sc : Scope} (h : env.scope = sc) (ts : List Expr) (v : Expr) : swappedStores ts v env = swappedStores ts v (bareEnv sc) := by
  subst h; rfl
theorem swaps_scope {env : Env} {sc : Scope} (h : env.scope = sc) (v : Expr) (t : Option Expr) (l : Nat) : swapsWith v t l env = swapsWith v t l (bareEnv sc) := by
  subst h; rfl

section
variable {c : Cfg} {A : Around} {env : Env} {O X : List Addr} {ρ : Ctxt} {sB s : Shared} {Qf : Flow → Shared → Prop} {E : Value → Shared → Prop} {rest : List Stmt}

theorem ev_dict0 {pos : Pos} : Ev c A env X ρ (.Dict [] [] pos) (RD c []) := fun s Q E H h =>
  wpAny_Dict_empty (h _ _ (keeps_push s _) (rd_of (H.base.notModules (Nat.le_refl _)) H.fresh (Heap.DictOf.new s.heap) .nil))
theorem ev_dict1 {e₁ e₂ : Expr} {pos : Pos} {k x : Int} (h1 : Ev c A env X ρ e₁ (RI k)) (h2 : Ev c A env X ρ e₂ (RI x)) : Ev c A env X ρ (.Dict [some e₁] [e₂] pos) (RD c [(k, x)]) := by
  intro s Q E H h
  refine wpAny_Dict_pairs (knd := intKind c.prog c.w) (pairs := [(eval e₁ env, do let x ← eval e₂ env; standAt pos; pure x)]) rfl (by simp) (by simp) ?_
  refine evalPairs_cons ?_
  have H₀ := H.keeps (keeps_push s { cls := .type "dict", data := .dict #[] })
  refine h1 _ _ E H₀ fun v s₁ k₁ e => ?_
  obtain ⟨t, rfl⟩ := e
  refine wpAny_bind (h2 s₁ _ E (H₀.keeps k₁) fun u s₂ k₂ e' => wpAny_bind (wpAny_standAt (wpAny_pure (evalPairs_nil ?_))))
  obtain ⟨t', rfl⟩ := e'
  have k' := keeps_trans k₁ k₂
  have hd0 : s₂.heap.DictOf (intKind c.prog c.w) s.heap.objs.size [] := by
    obtain ⟨o, e, d⟩ := dictO_of (c := c) (Heap.DictOf.new (knd := intKind c.prog c.w) s.heap)
    exact dictOf_of (keeps_get k' e) d
  refine ⟨[(k, .int x t')], ⟨by simp [intKind, Value.isInt], rfl, trivial⟩, hd0, fun h' hd hs => ?_⟩
  refine h _ _ ?_ (rd_of (kvs := merged [] [(k, .int x t')]) (H.base.notModules (Nat.le_refl _)) H.fresh hd ?_)
  · obtain ⟨h2', t2, rfl, q2⟩ := keeps_trans (keeps_push s { cls := .type "dict", data := .dict #[] }) k'
    exact ⟨h', _, rfl, fun b o e => hs.extBut b o (Nat.ne_of_lt (Heap.lt_size e)) (q2 b o e)⟩
  · exact .cons ⟨rfl, t', rfl⟩ .nil

/-- a row of names out of a row of values, stored one behind the other -/
theorem ex_assign_tuple {value : Expr} {elts : List Expr} {k : Nat} {tpos pos : Pos} {r : Rel} {new : Ctxt} (F : InF c sB env O X ρ s) (h1 : Ev c A env X ρ value r) (h2 : Asg c A env (.Tuple elts k tpos) r new)
    (hw : swappedStores [.Tuple elts k tpos] value env = pure none) (h : ∀ s', InF c sB env O X (new ++ ρ) s' → wpAny c.M A (execs rest env) Qf E s')
    (hs : swapsWith value (some (.Tuple elts k tpos)) pos.line env = pure false := by rfl) : wpAny c.M A (execs (.Assign [.Tuple elts k tpos] value pos :: rest) env) Qf E s := by
  refine wpAny_execs_cons (PyProof.Rows.Assign_Tuple ?_ hs hw)
  refine h1 s _ E F.here fun v s₁ k₁ hr => ?_
  exact h2 O X sB ρ s₁ v _ E (F.keeps k₁) hr fun s₂ F₂ => h s₂ F₂
/-- .. from the last to the first -/
theorem ex_assign_swapped {value : Expr} {elts : List Expr} {x y : Str} {k : Nat} {tpos pos : Pos} {r q : Rel} (F : InF c sB env O X ρ s) (hA : AOk 0 A) (h1 : Ev c A env X ρ value (RT [r, q]))
    (hx : env.kindOf x = some .local) (hy : env.kindOf y = some .local)
    (hw : swappedStores [.Tuple elts k tpos] value env = pure (some [x, y])) (h : ∀ s', InF c sB env O X ((x, r) :: (y, q) :: ρ) s' → wpAny c.M A (execs rest env) Qf E s')
    (hs : swapsWith value (some (.Tuple elts k tpos)) pos.line env = pure false := by rfl) : wpAny c.M A (execs (.Assign [.Tuple elts k tpos] value pos :: rest) env) Qf E s := by
  refine wpAny_execs_cons (PyProof.Rows.Assign_Tuple_swapped ?_ hs hw)
  refine h1 s _ E F.here fun v s₁ k₁ hr => ?_
  obtain ⟨a, vs, ep, rfl, ho, hX, hp⟩ := seq_get hr
  unfold AllOn at hp
  cases hp with | cons e1 hp => cases hp with | cons e2 hp => cases hp with | nil =>
  rename_i v1 v2
  have F₁ := F.keeps k₁
  have hu : wpAny c.M A (unpackItems (.ref a) ([v1, v2] : List Value).toArray.size none) (fun items s₂ =>
      wpAny c.M A (assignInOrder ([y, x].map fun n => bindName env n) items.reverse) (fun _ s' => wpAny c.M A (execs rest env) Qf E s') E s₂) E s₁ := by
    refine wpAny_unpackItems_tuple hA.handled (isTuple_of ho) fun h' he => ?_
    have k₂ := ext_keeps he
    have F₂ := F₁.keeps k₂
    have e : assignInOrder ([y, x].map fun n => bindName env n) ([v1, v2] : List Value).toArray.toList.reverse = (do holding [v1] (bindName env y v2); do holding [] (bindName env x v1); pure ()) := rfl
    rw [e]
    refine wpAny_bind (wpAny_holding (wpAny_bindName (store_ (r := q) F₂.self (.inl hy) (q.mono e2 (keeps_hide k₂)) fun s₃ F₃ => ?_)))
    refine wpAny_bind (wpAny_holding (wpAny_bindName (store_ (r := r) F₃ (.inl hx) (r.mono (r.mono e1 (keeps_hide k₂)) F₃.view) fun s₄ F₄ => wpAny_pure (h s₄ (F₂.trans F₄)))))
  exact hu
end
end Mine
end

section
set_option maxRecDepth 100000
namespace Mine
open PySem PySem.W PySem.Calls PyProof.Rows

/-! ## _law_moved, plain -/
def heldB (b : Int) (p : Int) : Bool := Builtin.bitAnd (b.fdiv (2 ^ p.toNat)) 1 != 0
def held (b : Int) : List Int := (uptoN 8).filter (heldB b)
def behind (n w place : Int) (k : Int) : Bool := decide (0 < cmpv w (k.fdiv n) (k.fmod n) (place.fdiv n) (place.fmod n) * w)
def ahead (n w goal : Int) (k : Int) : Bool := decide (cmpv w (k.fdiv n) (k.fmod n) (goal.fdiv n) (goal.fmod n) * w < 0)
def passed (n w b place : Int) : List Int := ((held b).filter (behind n w place)).filter (ahead n w (place + n))
def newKey (b place goal : Int) : Int := Builtin.bitXor b (Builtin.bitOr (1 * 2 ^ place.toNat) (1 * 2 ^ goal.toNat))
def cntOf (v : Int) (m : Nat) : Int := if ((m : Int).fmod 2 != 0) = true then -v else v
def moveAt (n w b v : Int) (g : List (Int × Int)) (place : Int) : List (Int × Int) :=
  if (held b).any (· == place + n) = true then g else addC g [(newKey b place (place + n), cntOf v (passed n w b place).length)]
def beadsMove (n w : Int) (g : List (Int × Int)) (p : Int × Int) : List (Int × Int) := (held p.1).foldl (moveAt n w p.1 p.2) g
def moved (t : List (Int × Int)) (n w : Int) : List (Int × Int) := t.foldl (beadsMove n w) []

theorem copyD_length (t : List (Int × Int)) : (copyD t).length ≤ t.length := by
  have := foldl_put_length t []
  simpa [copyD] using this
theorem addC_length (g : List (Int × Int)) (p : Int × Int) : (addC g [p]).length ≤ g.length + 1 := by
  unfold addC
  have h1 := foldl_add_length [p] (copyD g)
  have h2 := copyD_length g
  simp only [List.length_cons, List.length_nil] at h1
  omega
theorem moveAt_length (n w b v : Int) (g : List (Int × Int)) (place : Int) : (moveAt n w b v g place).length ≤ g.length + 1 := by
  unfold moveAt
  split
  · omega
  · exact addC_length ..
theorem foldl_len {α : Type} (f : List (Int × Int) → α → List (Int × Int)) (m : Nat) (hf : ∀ g a, (f g a).length ≤ g.length + m) : ∀ (l : List α) (g : List (Int × Int)), (l.foldl f g).length ≤ g.length + m * l.length
  | [], g => by simp
  | a :: l, g => by
    rw [List.foldl_cons, List.length_cons]
    have h1 := foldl_len f m hf l (f g a)
    have h2 := hf g a
    rw [Nat.mul_succ]
    omega
theorem held_length (b : Int) : (held b).length ≤ 8 := by
  unfold held
  refine Nat.le_trans (List.length_filter_le _ _) ?_
  rw [ints_length]; exact Nat.le_refl _
theorem beadsMove_length (n w : Int) (g : List (Int × Int)) (p : Int × Int) : (beadsMove n w g p).length ≤ g.length + 8 := by
  unfold beadsMove
  have h1 := foldl_len (moveAt n w p.1 p.2) 1 (fun g a => moveAt_length n w p.1 p.2 g a) (held p.1) g
  have h2 := held_length p.1
  omega
theorem held_mem {b p : Int} (h : p ∈ held b) : 0 ≤ p ∧ p < 8 := by
  unfold held at h
  have := (List.mem_filter.mp h).1
  unfold uptoN at this
  obtain ⟨i, hi, rfl⟩ := List.mem_map.mp this
  have := List.mem_range.mp hi
  omega
theorem uptoN_get {n : Nat} {i : Int} (h0 : 0 ≤ i) (hi : i < n) : (uptoN n)[i.toNat]? = some i := by
  unfold uptoN
  rw [List.getElem?_map, List.getElem?_range (by omega)]
  simp; omega
theorem look_of_mem {t : List (Int × Int)} {p : Int × Int} (hn : (t.map (·.1)).Nodup) (h : p ∈ t) : look t p.1 = some p.2 := by
  unfold look
  induction t with
  | nil => cases h
  | cons q r ih =>
    rw [List.map_cons, List.nodup_cons] at hn
    rw [List.find?_cons]
    rcases List.mem_cons.mp h with rfl | h
    · simp
    · have hne : q.1 ≠ p.1 := fun e => hn.1 (by rw [e]; exact List.mem_map_of_mem h)
      simp only [hne, decide_false]
      exact ih hn.2 h

section
variable {c : Cfg} {C fI fC : Addr}

abbrev RRow (n k : Int) : Rel := RT [RI (k.fdiv n), RI (k.fmod n)]

set_option maxHeartbeats 4000000 in
theorem fun_moved (hc : c.fns = theFns) (hC : ClsK c C fI fC) {t : List (Int × Int)} {n w : Int} (ht : t.length ≤ 40) (hn : 1 ≤ n) (hn2 : n ≤ 8) (hw : w.natAbs ≤ 3)
    (hnd : (t.map (·.1)).Nodup) (hgo : ∀ p ∈ t, ∀ q ∈ held p.1, q + n < 8) : Fun c 4 "_law_moved" [RD c t, RI n, RI w] (RD c (moved t n w)) := by
  refine fun_intro (d := fnAt 15) ["table", "size", "way"] (fnAt_mem hc) (by intro pm cd doc vals hv; match vals, hv with | [x, y, z], _ => rfl) (by rfl) ?_
  intro A env X s Q E hA hsc F h
  have hk : ∀ x k, (fnAt 15).scope.names.lookup x = some k → env.kindOf x = some k := fun x k e => by unfold Env.kindOf; rw [hsc]; exact e
  have hb : (fnAt 15).body = (fnAt 15).body := rfl
  conv at hb => rhs; whnf
  rw [hb]
  have hA0 : AOk 0 A := hA.less (by decide)
  have hA1 : AOk 1 A := hA.less (by decide)
  have hn0 : n ≠ 0 := by omega
  have hcell : ∀ m, env.kindOf m = some .cell → ∃ a, env.cells.lookup m = some a := fun m hm => (F.cell m hm).elim fun a ha => ha.elim fun v hv => ⟨a, hv.1⟩
  refine ex_assign_tuple (r := RT [RJ C w, RD c []]) (new := [("grown", RD c []), ("judge", RJ C w)]) F
    (ev_tuple (evs_cons (ev_make hC hA (evs_cons (ev_list (evs_cons (ev_tuple (evs_cons ev_int (evs_cons (ev_name rfl) evs_nil)) (by simp)) (evs_cons (ev_tuple (evs_cons ev_int (evs_cons (ev_name rfl) evs_nil)) (by simp)) evs_nil)) (by simp)) evs_nil) (hk _ _ rfl)) (evs_cons ev_dict0 evs_nil)) (by simp))
    (asg_tuple2 hA0 (.inr (hk _ _ rfl)) (.inl (hk _ _ rfl))) (by rw [swapped_scope hsc]; rfl) fun s₁ F₁ => ?_
  refine ex_assign (r := RL ((((uptoN 8).filter fun _ => true)).map (RRow n))) F₁
    (ev_listcomp (ρf := [("size", RI n)]) RI (fun _ => true) (RRow n) hcell (compOk_of (by rw [hsc]; rfl) rfl rfl)
      (shares_cons (by decide) rfl (hk _ _ rfl) rfl shares_nil)
      (ev_builtin (rs := [RI 8]) (f := .type "range") (by decide) (by decide +kernel) (.inr ⟨_, rfl⟩) call_range hA0 (evs_cons ev_int evs_nil) (hk _ _ rfl))
      (it_range hA0 (by decide) (by decide)) (by decide) (fun ce X' a ha hg => trs_nil)
      (fun ce X' a ha _ hg => ev_tuple (evs_cons (ev_call (d := fnAt 5) (fnAt_mem hc) rfl (fun_floordiv hc hn0 (by omega)) hA1 (evs_cons (ev_name rfl) (evs_cons (ev_name rfl) evs_nil)) (hg _ rfl))
        (evs_cons (ev_call (d := fnAt 7) (fnAt_mem hc) rfl (fun_mod hc hn0) hA1 (evs_cons (ev_name rfl) (evs_cons (ev_name rfl) evs_nil)) (hg _ rfl)) evs_nil)) (by simp)))
    (.inr (hk _ _ rfl)) (fun s₂ F₂ => ?_) (by rw [swaps_scope hsc]; rfl)
  rw [show ((uptoN 8).filter fun _ => true) = uptoN 8 from rfl] at F₂
  have hrow : ∀ k : Int, 0 ≤ k → k < 8 → ((uptoN 8).map (RRow n))[k.toNat]? = some (RRow n k) := fun k h0 h8 => by rw [List.getElem?_map, uptoN_get h0 h8]; rfl
  have hmul : ∀ a b x y : Int, IntMulOk (cmpv w a b x y) w := fun a b x y => IntMulOk.of_right (intBits_le_64 (by omega) (by omega))
  refine ex_for (O := []) (fun i => [("grown", RD c ((t.take i).foldl (beadsMove n w) [])), ("rows", RL ((uptoN 8).map (RRow n))), ("judge", RJ C w), ("way", RI w), ("size", RI n), ("table", RD c t)]) (fun _ _ => True) (fun _ => False) F₂
    (draws_walk (xs := t) (fun p => RI p.1) (fun p => [("beads", RI p.1)]) (ev_name rfl) (it_dict hA0) fun p _ => asg_name (.inr (hk _ _ rfl)))
    (sub_cons rfl (sub_cons rfl (sub_cons rfl (sub_cons rfl (sub_cons rfl (sub_cons rfl (sub_nil _))))))) trivial (fun _ _ _ _ _ _ h => h) ?_ (fun _ _ _ f => f.elim) ?_
  · intro i tt X₁ s₃ Q₁ E₁ hi hX₁ _ F₃ hq _
    rw [List.getElem?_map] at hi
    obtain ⟨p, hp, rfl⟩ := Option.map_eq_some_iff.mp hi
    have hpm : p ∈ t := List.mem_of_getElem? hp
    have hlk := look_of_mem hnd hpm
    have hgl : ((t.take i).foldl (beadsMove n w) []).length ≤ 320 := by
      have h1 := foldl_len (beadsMove n w) 8 (beadsMove_length n w) (t.take i) []
      rw [List.length_take, List.length_nil] at h1
      omega
    refine ex_assign_comp (ρf := [("beads", RI p.1)]) RI (heldB p.1) RI F₃ (compOk_of (by rw [hsc]; rfl) rfl rfl)
      (shares_cons (by decide) rfl (hk _ _ rfl) rfl shares_nil)
      (ev_builtin (rs := [RI 8]) (f := .type "range") (by decide) (by decide +kernel) (.inr ⟨_, rfl⟩) call_range hA0 (evs_cons ev_int evs_nil) (hk _ _ rfl))
      (it_range hA0 (by decide) (by decide)) (by decide)
      (fun ce X' a ha hg => trs_one (tr_int (ev_call (d := fnAt 4) (fnAt_mem hc) rfl (fun_and_ hc) hA1 (evs_cons (ev_call (d := fnAt 11) (fnAt_mem hc) rfl (fun_rshift hc ?_) hA1 (evs_cons (ev_name rfl) (evs_cons (ev_name rfl) evs_nil)) (hg _ rfl)) (evs_cons ev_int evs_nil)) (hg _ rfl))))
      (fun ce X' a ha _ hg => ev_name rfl) (hk _ _ rfl) (by rw [swaps_scope hsc]; rfl) fun s₄ F₄ => ?_
    · obtain ⟨j, _, rfl⟩ := List.mem_map.mp ha
      omega
    refine ex_for (O := []) (fun j => [("grown", RD c (((held p.1).take j).foldl (moveAt n w p.1 p.2) ((t.take i).foldl (beadsMove n w) []))), ("held", RLI (held p.1)), ("beads", RI p.1), ("rows", RL ((uptoN 8).map (RRow n))), ("judge", RJ C w), ("way", RI w), ("size", RI n), ("table", RD c t)])
      (fun _ _ => True) (fun _ => False) F₄ (draws_walk (xs := held p.1) RI (fun q => [("place", RI q)]) (ev_name rfl) (it_list hA0) fun q _ => asg_name (.inr (hk _ _ rfl)))
      (sub_cons rfl (sub_cons rfl (sub_cons rfl (sub_cons rfl (sub_cons rfl (sub_cons rfl (sub_cons rfl (sub_cons rfl (sub_nil _))))))))) trivial (fun _ _ _ _ _ _ h => h) ?_ (fun _ _ _ f => f.elim) ?_
    · intro j tt X₂ s₅ Q₂ E₂ hj hX₂ _ F₅ hq₂ _
      rw [List.getElem?_map] at hj
      obtain ⟨q, hqj, rfl⟩ := Option.map_eq_some_iff.mp hj
      have hqm : q ∈ held p.1 := List.mem_of_getElem? hqj
      obtain ⟨hq0, hq8⟩ := held_mem hqm
      have hg8 := hgo p hpm q hqm
      have hgl₂ : (((held p.1).take j).foldl (moveAt n w p.1 p.2) ((t.take i).foldl (beadsMove n w) [])).length ≤ 330 := by
        have h1 := foldl_len (moveAt n w p.1 p.2) 1 (fun g a => moveAt_length n w p.1 p.2 g a) ((held p.1).take j) ((t.take i).foldl (beadsMove n w) [])
        have h2 := held_length p.1
        rw [List.length_take] at h1
        omega
      have hstep : ∀ g, g = moveAt n w p.1 p.2 (((held p.1).take j).foldl (moveAt n w p.1 p.2) ((t.take i).foldl (beadsMove n w) [])) q → ((held p.1).take (j + 1)).foldl (moveAt n w p.1 p.2) ((t.take i).foldl (beadsMove n w) []) = g := fun g e => by
        rw [foldl_take_succ _ _ _ hqj, e]
      refine ex_assign (r := RI (q + n)) F₅ (ev_bin (ev_name rfl) (ev_name rfl) op_add) (.inr (hk _ _ rfl)) fun s₆ F₆ => ?_
      refine ex_if F₆ (tr_not (tr_bool (ev_call (d := fnAt 13) (rs := [RLI (held p.1), RI (q + n)]) (fnAt_mem hc) rfl (fun_contains hc) hA1 (evs_cons (ev_name rfl) (evs_cons (ev_name rfl) evs_nil)) (hk _ _ rfl)))) (fun hin s₇ F₇ => ?_) (fun hin s₇ F₇ => ?_)
      · refine ex_assign_comp (ρf := [("judge", RJ C w), ("place", RI q), ("rows", RL ((uptoN 8).map (RRow n))), ("way", RI w)]) RI (behind n w q) (RRow n) F₇ (compOk_of (by rw [hsc]; rfl) rfl rfl)
          (shares_cons (by decide) rfl (hk _ _ rfl) rfl (shares_cons (by decide) rfl (hk _ _ rfl) rfl (shares_cons (by decide) rfl (hk _ _ rfl) rfl (shares_cons (by decide) rfl (hk _ _ rfl) rfl shares_nil))))
          (ev_name rfl) (it_list (rs := (held p.1).map RI) hA0) (by have := held_length p.1; omega)
          (fun ce X' a ha hg => trs_one (tr_bool (ev_call (d := fnAt 3) (rs := [RI (cmpv w (a.fdiv n) (a.fmod n) (q.fdiv n) (q.fmod n) * w), RI 0]) (fnAt_mem hc) rfl (fun_gt hc) hA1
            (evs_cons (ev_call (d := fnAt 8) (rs := [RI (cmpv w (a.fdiv n) (a.fmod n) (q.fdiv n) (q.fmod n)), RI w]) (fnAt_mem hc) rfl (fun_mul hc (hmul _ _ _ _)) hA1
              (evs_cons (ev_method (r₁ := RJ C w) (rs := [RRow n a, RRow n q]) (ev_name rfl) (meth_compare hC) (.inr ⟨_, _, _, rfl, hC.fnC⟩) (call_compare hC) hA1
                (evs_cons (ev_sub (r₁ := RL ((uptoN 8).map (RRow n))) (r₂ := RI a) (ev_name rfl) (ev_name rfl) (item_list (held_mem ha).1 (by have := (held_mem ha).2; omega) (hrow a (held_mem ha).1 (held_mem ha).2)))
                  (evs_cons (ev_sub (r₁ := RL ((uptoN 8).map (RRow n))) (r₂ := RI q) (ev_name rfl) (ev_name rfl) (item_list hq0 (by omega) (hrow q hq0 hq8))) evs_nil)))
                (evs_cons (ev_name rfl) evs_nil)) (hg _ rfl)) (evs_cons ev_int evs_nil)) (hg _ rfl))))
          (fun ce X' a ha _ hg => ev_sub (r₁ := RL ((uptoN 8).map (RRow n))) (r₂ := RI a) (ev_name rfl) (ev_name rfl) (item_list (held_mem ha).1 (by have := (held_mem ha).2; omega) (hrow a (held_mem ha).1 (held_mem ha).2)))
          (hk _ _ rfl) (by rw [swaps_scope hsc]; rfl) fun s₈ F₈ => ?_
        refine ex_assign_comp (xs := (held p.1).filter (behind n w q)) (ρf := [("goal", RI (q + n)), ("judge", RJ C w), ("rows", RL ((uptoN 8).map (RRow n))), ("way", RI w)]) (RRow n) (ahead n w (q + n)) (RRow n) F₈ (compOk_of (by rw [hsc]; rfl) rfl rfl)
          (shares_cons (by decide) rfl (hk _ _ rfl) rfl (shares_cons (by decide) rfl (hk _ _ rfl) rfl (shares_cons (by decide) rfl (hk _ _ rfl) rfl (shares_cons (by decide) rfl (hk _ _ rfl) rfl shares_nil))))
          (ev_name rfl) (it_list hA0) (by have := held_length p.1; have := List.length_filter_le (behind n w q) (held p.1); omega)
          (fun ce X' a ha hg => trs_one (tr_bool (ev_call (d := fnAt 2) (rs := [RI (cmpv w (a.fdiv n) (a.fmod n) ((q + n).fdiv n) ((q + n).fmod n) * w), RI 0]) (fnAt_mem hc) rfl (fun_lt hc) hA1
            (evs_cons (ev_call (d := fnAt 8) (rs := [RI (cmpv w (a.fdiv n) (a.fmod n) ((q + n).fdiv n) ((q + n).fmod n)), RI w]) (fnAt_mem hc) rfl (fun_mul hc (hmul _ _ _ _)) hA1
              (evs_cons (ev_method (r₁ := RJ C w) (rs := [RRow n a, RRow n (q + n)]) (ev_name rfl) (meth_compare hC) (.inr ⟨_, _, _, rfl, hC.fnC⟩) (call_compare hC) hA1
                (evs_cons (ev_name rfl)
                  (evs_cons (ev_sub (r₁ := RL ((uptoN 8).map (RRow n))) (r₂ := RI (q + n)) (ev_name rfl) (ev_name rfl) (item_list (by omega) (by omega) (hrow (q + n) (by omega) hg8))) evs_nil)))
                (evs_cons (ev_name rfl) evs_nil)) (hg _ rfl)) (evs_cons ev_int evs_nil)) (hg _ rfl))))
          (fun ce X' a ha _ hg => ev_name rfl) (hk _ _ rfl) (by rw [swaps_scope hsc]; rfl) fun s₉ F₉ => ?_
        have hpl : (((held p.1).filter (behind n w q)).filter (ahead n w (q + n))).length ≤ 1000 := by
          have h1 := List.length_filter_le (ahead n w (q + n)) ((held p.1).filter (behind n w q))
          have h2 := List.length_filter_le (behind n w q) (held p.1)
          have h3 := held_length p.1
          omega
        refine ex_assign (r := RI (cntOf p.2 (passed n w p.1 q).length)) F₉
          (ev_ifexp (tr_int (ev_bin (ev_builtin (rs := [RL ((((held p.1).filter (behind n w q)).filter (ahead n w (q + n))).map (RRow n))]) (f := .builtin "len") (by decide) (by decide +kernel) (.inl ⟨_, rfl⟩) (call_len (by rw [List.length_map]; exact hpl)) hA0 (evs_cons (ev_name rfl) evs_nil) (hk _ _ rfl)) ev_int (op_mod (by decide))))
            (fun hb => ?_) (fun hb => ?_)) (.inl (hk _ _ rfl)) fun s₁₀ F₁₀ => ?_
        · have : cntOf p.2 (passed n w p.1 q).length = -p.2 := by unfold cntOf passed; rw [List.length_map] at hb; rw [if_pos hb]
          rw [this]
          exact ev_call (d := fnAt 9) (rs := [RI p.2]) (fnAt_mem hc) rfl (fun_neg hc) hA1 (evs_cons (ev_sub (r₁ := RD c t) (r₂ := RI p.1) (ev_name rfl) (ev_name rfl) (item_dict hlk)) evs_nil) (hk _ _ rfl)
        · have : cntOf p.2 (passed n w p.1 q).length = p.2 := by unfold cntOf passed; rw [List.length_map] at hb; rw [if_neg (by rw [hb]; decide)]
          rw [this]
          exact ev_sub (r₁ := RD c t) (r₂ := RI p.1) (ev_name rfl) (ev_name rfl) (item_dict hlk)
        refine ex_assign (r := RD c (addC (((held p.1).take j).foldl (moveAt n w p.1 p.2) ((t.take i).foldl (beadsMove n w) [])) [(newKey p.1 q (q + n), cntOf p.2 (passed n w p.1 q).length)])) F₁₀
          (ev_call (d := fnAt 0) (fnAt_mem hc) rfl (fun_add hc (by omega) (by simp)) hA1
            (evs_cons (ev_name rfl) (evs_cons (ev_dict1 (ev_call (d := fnAt 12) (fnAt_mem hc) rfl (fun_xor hc) hA1
              (evs_cons (ev_name rfl) (evs_cons (ev_call (d := fnAt 10) (fnAt_mem hc) rfl (fun_or_ hc) hA1
                (evs_cons (ev_call (d := fnAt 6) (fnAt_mem hc) rfl (fun_lshift hc hq0 (by omega) (by decide)) hA1 (evs_cons ev_int (evs_cons (ev_name rfl) evs_nil)) (hk _ _ rfl))
                  (evs_cons (ev_call (d := fnAt 6) (fnAt_mem hc) rfl (fun_lshift hc (by omega) (by omega) (by decide)) hA1 (evs_cons ev_int (evs_cons (ev_name rfl) evs_nil)) (hk _ _ rfl)) evs_nil)) (hk _ _ rfl)) evs_nil)) (hk _ _ rfl)) (ev_name rfl)) evs_nil)) (hk _ _ rfl))
          (.inl (hk _ _ rfl)) fun s₁₁ F₁₁ => ?_
        refine ex_nil (ex_nil (hq₂ s₁₁ (F₁₁.weak (sub_cons ?_ (sub_cons rfl (sub_cons rfl (sub_cons rfl (sub_cons rfl (sub_cons rfl (sub_cons rfl (sub_cons rfl (sub_nil _)))))))))) trivial))
        rw [hstep _ rfl]
        unfold moveAt
        rw [if_neg (by intro q'; rw [q'] at hin; cases hin)]
        rfl
      · refine ex_nil (ex_nil (hq₂ s₇ (F₇.weak (sub_cons ?_ (sub_cons rfl (sub_cons rfl (sub_cons rfl (sub_cons rfl (sub_cons rfl (sub_cons rfl (sub_cons rfl (sub_nil _)))))))))) trivial))
        rw [hstep _ rfl]
        unfold moveAt
        rw [if_pos (by simpa using hin)]
        rfl
    · intro s₅ _ F₅
      refine ex_nil (hq s₅ (F₅.weak (sub_cons ?_ (sub_cons rfl (sub_cons rfl (sub_cons rfl (sub_cons rfl (sub_cons rfl (sub_nil _)))))))) trivial)
      rw [foldl_take_succ _ _ _ hp, List.length_map, List.take_length]
      rfl
  · intro s₃ _ F₃
    refine ex_return (r := RD c (moved t n w)) F₃ (ev_name ?_) fun v s' F' hr => h v s' (F'.weak (sub_nil _)) hr
    rw [List.length_map, List.take_length]
    rfl
end
end Mine
end

section
set_option maxRecDepth 100000
namespace Mine
open PySem PySem.W PySem.Calls PyProof.Rows

/-- the ints of a row of values -/
def intOf : Value → Int
  | .int i _ => i
  | _ => 0
def putAll (fv : Int → Int) (l : List Int) : List (Int × Int) := l.foldl (fun acc k => put acc k (fv k)) []
theorem putAll_snoc (fv : Int → Int) (l : List Int) (k : Int) : putAll fv (l ++ [k]) = put (putAll fv l) k (fv k) := by
  unfold putAll
  rw [List.foldl_append]; rfl
theorem storedAll_vals {fv : Int → Int} {l : List Value} {kvs : List (Int × Value)} (h : StoredAll (fun v k => intOf v = k) (fun v y => ∃ u, y = .int (fv (intOf v)) u) l kvs) : Vals (putAll fv (l.map intOf)) kvs := by
  induction h with
  | nil => exact .nil
  | @snoc l kvs v k y _ h1 h2 ih =>
    rw [List.map_append, List.map_cons, List.map_nil, putAll_snoc]
    obtain ⟨u, rfl⟩ := h2
    subst h1
    exact ih.put _ _ _

section
variable {c : Cfg} {A : Around} {env : Env} {O X : List Addr} {ρ : Ctxt} {sB s : Shared}

theorem ev_dictcomp {kx vx iter : Expr} {x : Str} {px : Pos} {ifs : List Expr} {scope : Scope} {pos : Pos} {r₀ : Rel} {xs : List Int} (p : Int → Bool) (fv : Int → Int) {ρf : Ctxt}
    (hC : ∀ n, env.kindOf n = some .cell → ∃ a, env.cells.lookup n = some a) (ok : CompOk env scope x) (hsh : Shares env scope x ρf ρ)
    (h1 : Ev c A env X ρ iter r₀) (hi : IterIs c A X r₀ (xs.map RI)) (hlen : xs.length ≤ 1000)
    (htest : ∀ ce X' a, a ∈ xs → Globs scope ce → Trs c A ce X' ((x, RI a) :: ρf) ifs (p a))
    (hkey : ∀ ce X' a, a ∈ xs → p a = true → Globs scope ce → Ev c A ce X' ((x, RI a) :: ρf) kx (RI a))
    (hval : ∀ ce X' a, a ∈ xs → p a = true → Globs scope ce → Ev c A ce X' ((x, RI a) :: ρf) vx (RI (fv a)))
    (hs : ∀ v, foldedSetIterable iter env v = pure v := by intro _; rfl) :
    Ev c A env X ρ (.DictComp kx vx [⟨.Name x px, iter, ifs, 0⟩] scope pos) (RD c (putAll fv (xs.filter p))) := by
  intro s Q E H h
  refine wpAny_DictComp_free (intKind c.prog c.w) (fun v => p (intOf v)) (fun v k => intOf v = k) (fun v y => ∃ u, y = .int (fv (intOf v)) u) (closureFor_eq fun n hn => hC n (ok.free n hn)) ok.cell ok.kind ok.names ok.own
    (h1 s _ E H fun v s₁ k₁ e₁ => hi s₁ v _ E (H.keeps k₁).base (H.keeps k₁).xok e₁ fun I fp P St s₂ k₂ hI W => ?_) hs
  have H₁ := H.keeps k₁
  have hP : ∀ i v, i < xs.length → P i v → ∃ t, v = .int (xs.getD i 0) t := fun i v hlt hp => by
    have := W.item i v (RI (xs.getD i 0)) hp (by rw [List.getElem?_map, List.getElem?_eq_getElem hlt]; simp [List.getD, hlt])
    exact this
  have hglob : ∀ C, Globs scope (compEnvC scope (closL env scope.names []) C env) := fun C y hy => relabel_other (by decide) hy
  have frame : ∀ (C : Addr) (s₃ : Shared) m a t, s₃.heap.Ns C m → m x = some (.int a t) → (∀ b o, b ∉ [I] → s₂.heap.get? b = some o → s₃.heap.get? b = some o) →
      Here c (compEnvC scope (closL env scope.names []) C env) X ((x, RI a) :: ρf) s₃ := fun C s₃ m a t hn hm hk => by
    have kp : ∀ b o, s₁.heap.get? b = some o → s₃.heap.get? b = some o := fun b o e => hk b o (fun q => by rw [List.mem_singleton.mp q, hI] at e; cases e) (keeps_get k₂ e)
    exact here_comp H₁ ok.kind hsh ok.own hn hm ⟨t, rfl⟩ (hide_le fun b o _ e => kp b o e) (fun a u ⟨o, e1, e2⟩ => ⟨o, kp a o e1, e2⟩) fun b hb => let ⟨o, e⟩ := H₁.xok b hb; ⟨o, kp b o e⟩
  refine ⟨I, fp, [I], xs.length, (fun i v => i < xs.length ∧ P i v), St, rfl, ?_, by rw [sizeLine_eq]; omega, W.st, W.lt, ⟨?_, ?_, ?_⟩, ?_⟩
  · have := W.w.bound
    rw [List.length_map] at this
    exact this
  · rintro C i v s₃ m₃ E' ⟨hlt, hp⟩ hn hm hk
    obtain ⟨t, rfl⟩ := hP i v hlt hp
    have hmem : xs.getD i 0 ∈ xs := by simp [List.getD, hlt]
    exact htest _ X _ hmem (hglob C) s₃ _ E' (frame C s₃ m₃ _ t hn hm hk) fun s' k' => ⟨rfl, k'⟩
  · rintro C i v s₃ m₃ E' ⟨hlt, hp⟩ hpv hn hm hk
    obtain ⟨t, rfl⟩ := hP i v hlt hp
    have hmem : xs.getD i 0 ∈ xs := by simp [List.getD, hlt]
    exact hkey _ X _ hmem hpv (hglob C) s₃ _ E' (frame C s₃ m₃ _ t hn hm hk) fun u s' k' ⟨t', e⟩ => by subst e; exact ⟨⟨xs.getD i 0, by simp [intKind, Value.isInt], rfl⟩, k'⟩
  · rintro C i v s₃ m₃ E' ⟨hlt, hp⟩ hpv hn hm hk
    obtain ⟨t, rfl⟩ := hP i v hlt hp
    have hmem : xs.getD i 0 ∈ xs := by simp [List.getD, hlt]
    exact hval _ X _ hmem hpv (hglob C) s₃ _ E' (frame C s₃ m₃ _ t hn hm hk) fun u s' k' ⟨t', e⟩ => ⟨⟨t', e⟩, k'⟩
  · intro D h' tk kvs vs hD hd hl hPs hst hk
    have hxs : vs.map intOf = xs := by
      apply List.ext_getElem
      · rw [List.length_map, hl]
      · intro j h1 h2
        rw [List.getElem_map]
        obtain ⟨t, e⟩ := hP j vs[j] h2 (hPs j _ (by rw [List.getElem?_eq_getElem])).2
        rw [e]
        simp [intOf, List.getD, h2]
    have hf : (vs.filter fun v => p (intOf v)).map intOf = xs.filter p := by
      rw [← hxs, List.filter_map]; rfl
    have hv := storedAll_vals hst
    rw [hf] at hv
    have hDX : D ∉ X := fun hb => by
      obtain ⟨o, e⟩ := H₁.xok D hb
      rw [keeps_get k₂ e] at hD; cases hD
    have hmod : (D == sysModules) = false := by
      simp only [beq_eq_false_iff_ne, ne_eq]
      intro q
      obtain ⟨o, e⟩ := H₁.base.at.mods
      rw [← q] at e
      rw [keeps_get k₂ e] at hD; cases hD
    refine h _ _ ?_ (rd_of hmod hDX hd hv)
    refine keeps_trans k₁ ?_
    obtain ⟨h2, t2, rfl, q2⟩ := k₂
    exact ⟨h', tk, rfl, fun b o e => hk b o (fun q => by rw [List.mem_singleton.mp q, hI] at e; cases e) (q2 b o e)⟩

/-! ## _law_told -/
def goodMove (t : List (Int × Int)) (n : Int) : Prop := t.length ≤ 40 ∧ 1 ≤ n ∧ n ≤ 8 ∧ (t.map (·.1)).Nodup ∧ ∀ p ∈ t, ∀ q ∈ held p.1, q + n < 8
def toldT (ns : List Int) (w sh : Int) : List (Int × Int) := ns.foldl (fun t n => moved t n w) [(15, sh)]
def told (ns : List Int) (w sh : Int) : List (Int × Int) := putAll (fun k => (look (toldT ns w sh) k).getD 0) (((toldT ns w sh).map (·.1)).filter fun k => (look (toldT ns w sh) k).getD 0 != 0)
theorem look_some_of_mem {t : List (Int × Int)} {k : Int} (h : k ∈ t.map (·.1)) : look t k = some ((look t k).getD 0) := by
  unfold look
  cases e : t.find? (fun p => decide (p.1 = k)) with
  | some p => rfl
  | none =>
    obtain ⟨p, hp, rfl⟩ := List.mem_map.mp h
    have := List.find?_eq_none.mp e p hp
    simp at this
variable {C fI fC : Addr}
set_option maxHeartbeats 4000000 in
theorem fun_told (hc : c.fns = theFns) (hC : ClsK c C fI fC) {ns : List Int} {w sh : Int} (hw : w.natAbs ≤ 3) (hl : ns.length ≤ 8) (hlen : (toldT ns w sh).length ≤ 1000)
    (hgood : ∀ i n, ns[i]? = some n → goodMove (toldT (ns.take i) w sh) n) : Fun c 5 "_law_told" [RLI ns, RI w, RI sh] (RD c (told ns w sh)) := by
  refine fun_intro (d := fnAt 16) ["sizes", "way", "share"] (fnAt_mem hc) (by intro pm cd doc vals hv; match vals, hv with | [x, y, z], _ => rfl) (by rfl) ?_
  intro A env X s Q E hA hsc F h
  have hk : ∀ x k, (fnAt 16).scope.names.lookup x = some k → env.kindOf x = some k := fun x k e => by unfold Env.kindOf; rw [hsc]; exact e
  have hb : (fnAt 16).body = (fnAt 16).body := rfl
  conv at hb => rhs; whnf
  rw [hb]
  have hA0 : AOk 0 A := hA.less (by decide)
  have hcell : ∀ m, env.kindOf m = some .cell → ∃ a, env.cells.lookup m = some a := fun m hm => (F.cell m hm).elim fun a ha => ha.elim fun v hv => ⟨a, hv.1⟩
  refine ex_assign (r := RD c [(15, sh)]) F (ev_dict1 ev_int (ev_name rfl)) (.inr (hk _ _ rfl)) fun s₁ F₁ => ?_
  refine ex_for (O := []) (fun i => [("table", RD c (toldT (ns.take i) w sh)), ("way", RI w)]) (fun _ _ => True) (fun _ => False) F₁
    (draws_walk (xs := ns) RI (fun n => [("size", RI n)]) (ev_name rfl) (it_list hA0) fun p _ => asg_name (.inl (hk _ _ rfl)))
    (sub_cons rfl (sub_cons rfl (sub_nil _))) trivial (fun _ _ _ _ _ _ h => h) ?_ (fun _ _ _ f => f.elim) ?_
  · intro i tt X₁ s₃ Q₁ E₁ hi hX₁ _ F₃ hq _
    rw [List.getElem?_map] at hi
    obtain ⟨n, hn, rfl⟩ := Option.map_eq_some_iff.mp hi
    obtain ⟨g1, g2, g3, g4, g5⟩ := hgood i n hn
    refine ex_assign (r := RD c (moved (toldT (ns.take i) w sh) n w)) F₃ (ev_call (d := fnAt 15) (fnAt_mem hc) rfl (fun_moved hc hC g1 g2 g3 hw g4 g5) hA (evs_cons (ev_name rfl) (evs_cons (ev_name rfl) (evs_cons (ev_name rfl) evs_nil))) (hk _ _ rfl)) (.inr (hk _ _ rfl)) fun s₄ F₄ => ?_
    refine ex_nil (hq s₄ (F₄.weak (sub_cons ?_ (sub_cons rfl (sub_nil _)))) trivial)
    have : toldT (ns.take (i + 1)) w sh = moved (toldT (ns.take i) w sh) n w := by unfold toldT; rw [foldl_take_succ _ _ _ hn]
    rw [this]
    rfl
  · intro s₂ _ F₂
    rw [List.length_map, List.take_length] at F₂
    refine ex_return (r := RD c (told ns w sh)) F₂ (ev_dictcomp (xs := (toldT ns w sh).map (·.1)) (ρf := [("table", RD c (toldT ns w sh))]) (fun k => (look (toldT ns w sh) k).getD 0 != 0) (fun k => (look (toldT ns w sh) k).getD 0) hcell (compOk_of (by rw [hsc]; rfl) rfl rfl)
      (shares_cons (by decide) rfl (hk _ _ rfl) rfl shares_nil) (ev_name rfl) (by have := it_dict (c := c) (X := X) (ks := toldT ns w sh) hA0; rw [List.map_map]; exact this) (by rw [List.length_map]; exact hlen)
      (fun ce X' a ha hg => trs_one (tr_cmp (r₁ := RI ((look (toldT ns w sh) a).getD 0)) (r₂ := RI 0) (ev_sub (r₁ := RD c (toldT ns w sh)) (r₂ := RI a) (ev_name rfl) (ev_name rfl) (item_dict (look_some_of_mem ha))) ev_int cmp_ne))
      (fun ce X' a ha _ hg => ev_name rfl)
      (fun ce X' a ha _ hg => ev_sub (r₁ := RD c (toldT ns w sh)) (r₂ := RI a) (ev_name rfl) (ev_name rfl) (item_dict (look_some_of_mem ha)))) fun v s' F' hr => h v s' (F'.weak (sub_nil _)) hr
end
end Mine
end

section
set_option maxRecDepth 100000
namespace Mine
open PySem PySem.W PySem.Calls PyProof.Rows

section
variable {c : Cfg} {A : Around} {env : Env} {O X : List Addr} {ρ : Ctxt} {sB s : Shared} {Qf : Flow → Shared → Prop} {E : Value → Shared → Prop} {rest : List Stmt}

theorem ex_augmul {x : Str} {px pos : Pos} {e : Expr} {a b : Int} (F : InF c sB env O X ρ s) (hx : ρ.lookup x = some (RI a)) (he : Ev c A env X ρ e (RI b)) (hk : env.kindOf x = some .local ∨ env.kindOf x = some .cell) (hm : IntMulOk a b)
    (h : ∀ s', InF c sB env O X ((x, RI (a * b)) :: ρ) s' → wpAny c.M A (execs rest env) Qf E s') : wpAny c.M A (execs (.AugAssign (.Name x px) .Mult e pos :: rest) env) Qf E s := by
  refine wpAny_execs_cons (wpAny_AugAssign_Name ?_)
  obtain ⟨v, hv, t, rfl⟩ := F.here.vars x _ hx
  have go : wpAny c.M A (eval e env) (fun v s₂ => wpAny c.M A (inplaceOp .Mult (.int a t) v) (fun r s₃ => wpAny c.M A (storeName env x r) (fun _ s' => match Flow.next with | .next => wpAny c.M A (execs rest env) Qf E s' | f => Qf f s') E s₃) E s₂) E s :=
    he s _ E F.here fun v s' k ⟨u, q⟩ => by
      subst q
      exact PyProof.Rows.imul_int (store_ (r := RI (a * b)) (F.keeps (keeps_trans k (keeps_toks s' _))) hk ⟨_, rfl⟩ fun s'' F' => h s'' F') hm
  rcases hv with ⟨k, m, n, q⟩ | ⟨k, a', n, q⟩
  · exact wpAny_loadName_local F.here.kind k n q go
  · exact wpAny_loadName_cell F.here.kind k n q go

theorem ev_pick {value slice : Expr} {pos : Pos} {ns : List Int} {lo hi st : Option Int} (h1 : Ev c A env X ρ value (RLI ns)) (h2 : Ev c A env X ρ slice (RSl lo hi st)) (h0 : st ≠ some 0) (hn : ns.length ≤ 1000) : Ev c A env X ρ (.Subscript value slice pos) (RLI (pickL ns lo hi st)) := by
  have := ev_sub (pos := pos) h1 h2 (item_slice h0 (by rw [List.length_map]; exact hn))
  rw [pick_map] at this
  exact this
def cnt1 (ns : List Int) (k : Int) : Int := 1 + ((pickL ns none (some k) none).count (ns.getD k.toNat 0) : Nat)
def sameF (ns : List Int) : Int := (uptoN ns.length).foldl (fun w k => w * (ns.getD k.toNat 0 * cnt1 ns k)) 1
theorem mul_of_right {a b : Int} (h : b.natAbs < 2 ^ 60) : IntMulOk a b := .of_right (PySem.intBits_le_64 (by omega) (by omega))

set_option maxHeartbeats 1000000 in
theorem fun_same (hc : c.fns = theFns) {ns : List Int} (hl : ns.length ≤ 8) (hm : ∀ k ∈ uptoN ns.length, (cnt1 ns k).natAbs < 2 ^ 60 ∧ (ns.getD k.toNat 0 * cnt1 ns k).natAbs < 2 ^ 60) : Fun c 1 "_law_same" [RLI ns] (RI (sameF ns)) := by
  refine fun_intro (d := fnAt 17) ["sizes"] (fnAt_mem hc) (by intro pm cd doc vals hv; match vals, hv with | [x], _ => rfl) (by rfl) ?_
  intro A env X s Q E hA hsc F h
  have hk : ∀ x k, (fnAt 17).scope.names.lookup x = some k → env.kindOf x = some k := fun x k e => by unfold Env.kindOf; rw [hsc]; exact e
  have hb : (fnAt 17).body = (fnAt 17).body := rfl
  conv at hb => rhs; whnf
  rw [hb]
  have hA0 : AOk 0 A := hA.less (by decide)
  refine ex_assign (r := RI 1) F ev_int (.inl (hk _ _ rfl)) fun s₁ F₁ => ?_
  have hlen : ((ns.map RI).length : Int) = (ns.length : Int) := by rw [List.length_map]
  refine ex_for (O := []) (fun i => [("ways", RI (((uptoN ns.length).take i).foldl (fun w k => w * (ns.getD k.toNat 0 * cnt1 ns k)) 1)), ("sizes", RLI ns)]) (fun _ _ => True) (fun _ => False) F₁
    (draws_walk (xs := uptoN ns.length) RI (fun n => [("k", RI n)])
      (ev_builtin (r := RRg ns.length) (rs := [RI ns.length]) (f := .type "range") (by decide) (by decide +kernel) (.inr ⟨_, rfl⟩) call_range hA0
        (evs_cons (by rw [← hlen]; exact ev_builtin (rs := [RLI ns]) (f := .builtin "len") (by decide) (by decide +kernel) (.inl ⟨_, rfl⟩) (call_len (by rw [List.length_map]; omega)) hA0 (evs_cons (ev_name rfl) evs_nil) (hk _ _ rfl)) evs_nil) (hk _ _ rfl))
      (by have := it_range (c := c) (A := A) (X := X) (n := ns.length) hA0 (by omega) (by omega); rw [Int.toNat_natCast] at this; exact this) fun p _ => asg_name (.inl (hk _ _ rfl)))
    (sub_cons rfl (sub_cons rfl (sub_nil _))) trivial (fun _ _ _ _ _ _ h => h) ?_ (fun _ _ _ f => f.elim) ?_
  · intro i tt X₁ s₃ Q₁ E₁ hi hX₁ _ F₃ hq _
    rw [List.getElem?_map] at hi
    obtain ⟨n, hn, rfl⟩ := Option.map_eq_some_iff.mp hi
    have hmem := List.mem_of_getElem? hn
    obtain ⟨m1, m2⟩ := hm n hmem
    have hni := ints_get hn
    have hlt : i < ns.length := by have := (List.getElem?_eq_some_iff.mp hn).1; rwa [ints_length] at this
    have hget : (ns.map RI)[n.toNat]? = some (RI (ns.getD n.toNat 0)) := by
      subst hni
      rw [Int.toNat_natCast, List.getElem?_map, List.getElem?_eq_getElem hlt]
      simp [List.getD, hlt]
    have h0 : 0 ≤ n := by omega
    have h1 : n < 2 ^ 62 := by omega
    refine ex_augmul F₃ rfl (ev_bin (a := ns.getD n.toNat 0) (b := cnt1 ns n) (ev_sub (r₁ := RLI ns) (r₂ := RI n) (ev_name rfl) (ev_name rfl) (item_list h0 h1 hget))
      (ev_bin (a := 1) ev_int (ev_method (r₁ := RLI (pickL ns none (some n) none)) (rs := [RI (ns.getD n.toNat 0)]) (ev_pick (ev_name rfl) (ev_slice pt_none (pt_some (ev_name rfl)) pt_none) (by decide) (by omega)) (meth_list PySem.F.slot_list_count PySem.F.type_list_count) (.inl ⟨_, rfl⟩) call_count hA0
        (evs_cons (ev_sub (r₁ := RLI ns) (r₂ := RI n) (ev_name rfl) (ev_name rfl) (item_list h0 h1 hget)) evs_nil)) op_add) (op_mul (mul_of_right m1))) (.inl (hk _ _ rfl)) (mul_of_right m2) fun s₄ F₄ => ?_
    refine ex_nil (hq s₄ (F₄.weak (sub_cons ?_ (sub_cons rfl (sub_nil _)))) trivial)
    rw [foldl_take_succ _ _ _ hn]
    rfl
  · intro s₂ _ F₂
    rw [List.length_map, List.take_length] at F₂
    exact ex_return (r := RI (sameF ns)) F₂ (ev_name rfl) fun v s' F' hr => h v s' (F'.weak (sub_nil _)) hr
end
end Mine
end

section
set_option maxRecDepth 100000
namespace Mine
open PySem PySem.W PySem.Calls PyProof.Rows

section
variable {c : Cfg} {A : Around} {env : Env} {O X : List Addr} {ρ : Ctxt} {sB s : Shared}

theorem tr_and_nil {pos : Pos} : Tr c A env X ρ (.BoolOp .And [] pos) true := fun s Q E H h => wpAny_isTrue_BoolOp (wpAny_allTrue_And_nil (h s (keeps_refl s)))
theorem tr_and_cons {t : Expr} {ts : List Expr} {pos : Pos} {a b : Bool} (h1 : Tr c A env X ρ t a) (h2 : a = true → Tr c A env X ρ (.BoolOp .And ts pos) b) : Tr c A env X ρ (.BoolOp .And (t :: ts) pos) (a && b) := fun s Q E H h => by
  refine wpAny_isTrue_BoolOp (wpAny_allTrue_And_cons (h1 s _ E H fun s' k => ?_))
  cases a with
  | false => exact h s' k
  | true =>
    have := h2 rfl s' Q E (H.keeps k) fun s'' k' => h s'' (keeps_trans k k')
    rw [arm_isTrue_BoolOp] at this
    exact this
theorem tr_or_nil {pos : Pos} : Tr c A env X ρ (.BoolOp .Or [] pos) false := fun s Q E H h => wpAny_isTrue_BoolOp (wpAny_allTrue_Or_nil (h s (keeps_refl s)))
theorem tr_or_cons {t : Expr} {ts : List Expr} {pos : Pos} {a b : Bool} (h1 : Tr c A env X ρ t a) (h2 : a = false → Tr c A env X ρ (.BoolOp .Or ts pos) b) : Tr c A env X ρ (.BoolOp .Or (t :: ts) pos) (a || b) := fun s Q E H h => by
  refine wpAny_isTrue_BoolOp (wpAny_allTrue_Or_cons (h1 s _ E H fun s' k => ?_))
  cases a with
  | true => exact h s' k
  | false =>
    have := h2 rfl s' Q E (H.keeps k) fun s'' k' => h s'' (keeps_trans k k')
    rw [arm_isTrue_BoolOp] at this
    exact this

def DrawsS (c : Cfg) (A : Around) (env : Env) (O X : List Addr) (ρ : Ctxt) (target iter : Expr) (ts : List Ctxt) : Prop :=
  ∀ (s : Shared) (Q : Value → Shared → Prop) (E : Value → Shared → Prop), InF c s env O X ρ s → (∀ I St s', Keeps s s' → s.heap.get? I = none → Draw c A env O X target ts I St → St 0 s'.heap →
    (∀ (s : Shared) (Q : Value → Shared → Prop) (E : Value → Shared → Prop), St 0 s.heap → Q (.ref I) s → wpAny c.M A (pyIter (.ref I)) Q E s) → Q (.ref I) s') →
    wpAny c.M A (eval iter env) (fun x s₁ => wpAny c.M A (pyIter x) Q E s₁) E s

/-- what an iterator hands out, stored -/
theorem draw_of_walk {α : Type} {target : Expr} {xs : List α} {I : Addr} {fp : List Addr} {P : Nat → Value → Prop} {St : Nat → Heap → Prop} {s₂ : Shared} (f : α → Rel) (n : α → Ctxt) (W : Walk c A X (xs.map f) I fp P St s₂)
    (hL : env.locals ∈ X) (hC : ∀ n a, env.cells.lookup n = some a → a ∈ X) (hO : ∀ b ∈ O, b ∈ X) (hT : ∀ a ∈ xs, Asg c A env target (f a) (n a)) :
    Draw c A env O X target (xs.map n) I (fun i h => St i h ∧ View.le (hide (I :: X) s₂.heap) (hide (I :: X) h)) := by
  have hLfp : ∀ b ∈ fp, b ≠ env.locals ∧ (∀ m, env.cells.lookup m ≠ some b) ∧ b ∉ O := fun b hb => by
    rcases W.off b hb with rfl | hX
    · exact ⟨fun q => W.iX (q ▸ hL), fun m q => W.iX (hC m _ q), fun q => W.iX (hO _ q)⟩
    · exact ⟨fun q => hX (q ▸ hL), fun m q => hX (hC m _ q), fun q => hX (hO _ q)⟩
  refine ⟨W.iX, fun i h st => W.has i h st.1, ?_, ?_, ?_⟩
  · intro i s s' ρ' F' st
    exact ⟨W.w.frame _ _ _ st.1 fun b hb o e => F'.keep b o (hLfp b hb).1 (hLfp b hb).2.1 (hLfp b hb).2.2 e, View.le_trans st.2 F'.view⟩
  · intro i s ρ' t Q E ht st F' hQ
    rw [List.getElem?_map] at ht
    obtain ⟨a, ha, rfl⟩ := Option.map_eq_some_iff.mp ht
    have hlt : i < xs.length := (List.getElem?_eq_some_iff.mp ha).1
    have hmem : a ∈ xs := List.mem_of_getElem? ha
    refine W.w.item i _ _ _ (by rw [List.length_map]; exact hlt) st.1 fun v h₁ tk₁ hP hst₁ hk₁ => ?_
    have hk₁' : ∀ b o, b ≠ I → s.heap.get? b = some o → h₁.get? b = some o := fun b o hb e => hk₁ b o (fun q => hb (List.mem_singleton.mp q)) e
    have hra := W.item i v (f a) hP (by rw [List.getElem?_map, ha]; rfl)
    refine notOwner_go (W.own _ _ hst₁) ?_
    have vle : View.le (hide (I :: X) s.heap) (hide (I :: X) h₁) := hide_le fun b o hb e => hk₁' b o (fun q => hb (q ▸ List.mem_cons_self ..)) e
    have hIL : env.locals ≠ I := fun q => W.iX (q ▸ hL)
    have hIC : ∀ m b, env.cells.lookup m = some b → b ≠ I := fun m b hb q => W.iX (q ▸ hC m b hb)
    have F₂ : InF c { s with heap := h₁, toks := tk₁ } env O (I :: X) ρ' { s with heap := h₁, toks := tk₁ } := by
      refine F'.moved (s' := { s with heap := h₁, toks := tk₁ }) vle (fun o e => hk₁' _ o hIL e) (fun m b o hb e => hk₁' _ o (hIC m b hb) e) (fun _ h => h) fun b hb => ?_
      rcases List.mem_cons.mp hb with rfl | hb
      · exact W.has _ _ hst₁
      · obtain ⟨o, e⟩ := F'.here.xok b (List.mem_cons_of_mem _ hb)
        exact ⟨o, hk₁' b o (fun q => W.iX (q ▸ hb)) e⟩
    refine hT a hmem [] (I :: X) _ ρ' _ v _ _ (F₂.reown fun _ h => nomatch h) ((f a).mono hra (View.le_trans st.2 vle)) fun s₃ F₃ => hQ s₃ (F₃.reown F'.hidO) ?_ ⟨W.w.frame _ _ _ hst₁ fun b hb o e => F₃.keep b o (hLfp b hb).1 (hLfp b hb).2.1 (fun h => nomatch h) e, View.le_trans (View.le_trans st.2 vle) F₃.view⟩
    refine Turned.trans ⟨⟨h₁, tk₁, rfl⟩, fun b o _ _ _ h3 e => hk₁' b o h3 e⟩ F₃.turned
  · intro s ρ' Q E st F' hQ
    refine W.w.done _ _ _ (by have := st.1; rwa [List.length_map] at this ⊢) fun h₁ tk₁ hk₁ => ?_
    have hk₁' : ∀ b o, b ≠ I → s.heap.get? b = some o → h₁.get? b = some o := fun b o hb e => hk₁ b o (fun q => hb (List.mem_singleton.mp q)) e
    have hIL : env.locals ≠ I := fun q => W.iX (q ▸ hL)
    have hIC : ∀ m b, env.cells.lookup m = some b → b ≠ I := fun m b hb q => W.iX (q ▸ hC m b hb)
    exact hQ _ (F'.unhide hk₁' hIL hIC hL hC hO W.iX) ⟨⟨h₁, tk₁, rfl⟩, fun b o _ _ _ h3 e => hk₁' b o h3 e⟩

theorem draws_self {α : Type} {target iter : Expr} {r₀ : Rel} {xs : List α} (f : α → Rel) (n : α → Ctxt) (h1 : Ev c A env X ρ iter r₀) (hi : IterIs c A X r₀ (xs.map f)) (hT : ∀ a ∈ xs, Asg c A env target (f a) (n a)) :
    DrawsS c A env O X ρ target iter (xs.map n) := by
  intro s Q E F h
  refine h1 s _ E F.here fun v s₁ k₁ hr => hi s₁ v _ E (F.keeps k₁).here.base (F.keeps k₁).here.xok hr fun I fp P St s₂ k₂ hI W => ?_
  refine h I _ s₂ (keeps_trans k₁ k₂) ?_ (draw_of_walk f n W F.hidL F.hidC F.hidO hT) ⟨W.st, View.le_refl _⟩ (fun s Q E st hq => W.w.self 0 s Q E st.1 hq)
  cases e : s.heap.get? I with
  | none => rfl
  | some o => rw [keeps_get k₁ e] at hI; cases hI
/-- the same walk, where new things are hidden -/
theorem Walk.later {rs : List Rel} {I : Addr} {fp : List Addr} {P : Nat → Value → Prop} {St : Nat → Heap → Prop} {s₂ s' : Shared} {X' : List Addr} (W : Walk c A X rs I fp P St s₂) (hk : ∀ b o, s₂.heap.get? b = some o → s'.heap.get? b = some o)
    (hX : ∀ b ∈ X', b ∈ X ∨ s₂.heap.objs.size ≤ b) (hsz : s₂.heap.objs.size ≤ s'.heap.objs.size) : Walk c A X' rs I fp P St s' := by
  have hI : I ∈ fp := W.w.sub I (List.mem_singleton.mpr rfl)
  refine ⟨W.w, W.w.frame _ _ _ W.st fun b _ o e => hk b o e, fun b hb => ?_, fun b hb => ?_, fun h => ?_, W.has, W.own, fun i v r hp hr => r.mono (W.item i v r hp hr) ?_⟩
  · exact Nat.lt_of_lt_of_le (W.lt b hb) hsz
  · rcases W.off b hb with h | h
    · exact .inl h
    · refine .inr fun h' => ?_
      rcases hX b h' with h2 | h2
      · exact h h2
      · exact absurd (W.lt b hb) (Nat.not_lt.mpr h2)
  · rcases hX I h with h2 | h2
    · exact W.iX h2
    · exact absurd (W.lt I hI) (Nat.not_lt.mpr h2)
  · refine hide_new (fun b o _ e => hk b o e) fun b hb => ?_
    rcases List.mem_cons.mp hb with rfl | hb
    · exact .inl (List.mem_cons_self ..)
    · rcases hX b hb with h2 | h2
      · exact .inl (List.mem_cons_of_mem _ h2)
      · exact .inr (none_of_le h2)

/-! ## Comprehensions of several clauses -/
/-- an action, by what must hold ahead of it -/
abbrev Ahead := (Fin → Shared → Prop) → (Value → Shared → Prop) → Shared → Prop
/-- the tests come out by what the names hold -/
def TestsTo (c : Cfg) (A : Around) (env : Env) (ifs : List Expr) (Q : Bool → Shared → Prop) (s : Shared) : Prop :=
  ∃ X ρ b, Trs c A env X ρ ifs b ∧ Here c env X ρ s ∧ ∀ s', Keeps s s' → Q b s'
/-- one turn of a clause; W: what its inside asks -/
def TurnBy (c : Cfg) (A : Around) (env : Env) (target : Expr) (ifs : List Expr) (it : Value) (cd : Code) (m : Sem Fin) (W : Ahead) : Prop :=
  ∀ (Q : Fin → Shared → Prop) (E : Value → Shared → Prop) (s : Shared),
    wpAny c.M A (pyNext it) (fun r s₁ => match r with
      | none => Q (.done .next) s₁
      | some v => wpAny c.M A (letOwnedTupleGo target it v) (fun _ s₂ => wpAny c.M A (assign target env v) (fun _ s₃ => TestsTo c A env ifs (fun b s₄ => if b = true then W Q E s₄ else Q (.again cd) s₄) s₃) E s₂) E s₁) E s →
    wpAny c.M A m Q E s
/-- the inside: the next clause -/
def askNest (c : Cfg) (A : Around) (env : Env) (e : Expr) (depth : Nat) (iter : Expr) (acc : Value) (cd : Code) : Ahead := fun Q E s =>
  wpAny c.M A (eval iter env) (fun x s₁ => wpAny c.M A (pyIter x) (fun it s₂ => wpAny c.M A (runOwn (.compStart e depth it acc env) env) (fun _ s₃ => Q (.again cd) s₃) E s₂) E s₁) E s
/-- the inside: the element -/
def askEmit (c : Cfg) (A : Around) (env : Env) (elt : Expr) (acc : Value) (cd : Code) : Ahead := fun Q E s =>
  wpAny c.M A (eval elt env) (fun x s₁ => wpAny c.M A (call (.builtin "list.append") [acc, x]) (fun _ s₂ => Q (.again cd) s₂) E s₁) E s

theorem turn_nest {elt target iter target' iter' : Expr} {ifs ifs' : List Expr} {gens : List Comprehension} {scope : Scope} {pos : Pos} {depth : Nat} {it acc : Value} (hg : gens[depth]? = some ⟨target, iter, ifs, 0⟩) (hg' : gens[depth + 1]? = some ⟨target', iter', ifs', 0⟩)
    (hs : ∀ v, foldedSetIterable iter' env v = pure v) :
    TurnBy c A env target ifs it (.compLoop (.ListComp elt gens scope pos) depth it acc env) (compTurn (.ListComp elt gens scope pos) depth it acc env) (askNest c A env (.ListComp elt gens scope pos) (depth + 1) iter' acc (.compLoop (.ListComp elt gens scope pos) depth it acc env)) := by
  intro Q E s h
  unfold compTurn
  dsimp only
  rw [hg, hg']
  refine wpAny_bind (wpAny_standAt (wpAny_bind (wpAny_mono h (fun r s₁ h₁ => ?_) fun _ _ e => e)))
  cases r with
  | none => exact wpAny_pure h₁
  | some v =>
    refine wpAny_bind (wpAny_mono h₁ (fun _ s₂ h₂ => wpAny_bind (wpAny_mono h₂ (fun _ s₃ h₃ => wpAny_bind ?_) fun _ _ e => e)) fun _ _ e => e)
    obtain ⟨X, ρ, b, ht, hh, hq⟩ := h₃
    refine ht s₃ _ _ hh fun s₄ k => ?_
    have h₄ := hq s₄ k
    cases b with
    | false => exact wpAny_pure h₄
    | true =>
      exact wpAny_bind (wpAny_mono h₄ (fun x s₅ h₅ => wpAny_bind (wpAny_standAt (wpAny_bind (wpAny_of_eq (hs x) (wpAny_bind (wpAny_holding (wpAny_mono h₅ (fun it' s₆ h₆ => wpAny_bind (wpAny_mono h₆ (fun _ s₇ h₇ => wpAny_pure h₇) fun _ _ e => e)) fun _ _ e => e))))))) fun _ _ e => e)
theorem turn_emit {elt target iter : Expr} {ifs : List Expr} {gens : List Comprehension} {scope : Scope} {pos : Pos} {depth : Nat} {it acc : Value} (hg : gens[depth]? = some ⟨target, iter, ifs, 0⟩) (hg' : gens[depth + 1]? = none) :
    TurnBy c A env target ifs it (.compLoop (.ListComp elt gens scope pos) depth it acc env) (compTurn (.ListComp elt gens scope pos) depth it acc env) (askEmit c A env elt acc (.compLoop (.ListComp elt gens scope pos) depth it acc env)) := by
  intro Q E s h
  unfold compTurn
  dsimp only
  rw [hg, hg']
  refine wpAny_bind (wpAny_standAt (wpAny_bind (wpAny_mono h (fun r s₁ h₁ => ?_) fun _ _ e => e)))
  cases r with
  | none => exact wpAny_pure h₁
  | some v =>
    refine wpAny_bind (wpAny_mono h₁ (fun _ s₂ h₂ => wpAny_bind (wpAny_mono h₂ (fun _ s₃ h₃ => wpAny_bind ?_) fun _ _ e => e)) fun _ _ e => e)
    obtain ⟨X, ρ, b, ht, hh, hq⟩ := h₃
    refine ht s₃ _ _ hh fun s₄ k => ?_
    have h₄ := hq s₄ k
    cases b with
    | false => exact wpAny_pure h₄
    | true => exact wpAny_bind (wpAny_bind (wpAny_mono h₄ (fun x s₅ h₅ => wpAny_bind (wpAny_mono h₅ (fun _ s₆ h₆ => wpAny_pure (wpAny_pure h₆)) fun _ _ e => e)) fun _ _ e => e))

/-- the list that grows -/
def OwnL (D : Addr) (X : List Addr) (rs : List Rel) (h : Heap) : Prop := ∃ ys ep, h.get? D = some (seqObj "list" ys ep) ∧ AllOn (hide X h) rs ys
theorem OwnL.to {D : Addr} {X' : List Addr} {rs : List Rel} {h h' : Heap} (H : OwnL D X rs h) (hD : ∀ o, h.get? D = some o → h'.get? D = some o) (hl : View.le (hide X h) (hide X' h')) : OwnL D X' rs h' :=
  let ⟨ys, ep, e, q⟩ := H; ⟨ys, ep, hD _ e, q.mono hl⟩
theorem OwnL.keeps {D : Addr} {rs : List Rel} {s s' : Shared} (H : OwnL D X rs s.heap) (k : Keeps s s') : OwnL D X rs s'.heap := H.to (fun o e => keeps_get k e) (keeps_hide k)

/-- the action of one turn: it makes the list longer by `new` -/
def Grows (c : Cfg) (env : Env) (D : Addr) (ρ : Ctxt) (W : Ahead) (cd : Code) (new : List Rel) (X : List Addr) (room : Nat) : Prop :=
  ∀ X' (s : Shared) rs (Q : Fin → Shared → Prop) (E : Value → Shared → Prop), (∀ b ∈ X, b ∈ X') → rs.length ≤ room → InF c s env [D] X' ρ s → OwnL D X' rs s.heap → (∀ s', InF c s env [D] X' ρ s' → OwnL D X' (rs ++ new) s'.heap → Q (.again cd) s') → W Q E s

theorem under_loop {A : Around} {elt : Expr} {gens : List Comprehension} {scope : Scope} {pos : Pos} {depth : Nat} {it acc : Value} {env : Env} : A.under (.compLoop (.ListComp elt gens scope pos) depth it acc env) = A := by rfl

theorem nest_loop {α : Type} {xs : List α} {elt : Expr} {gens : List Comprehension} {scope : Scope} {pos : Pos} {depth : Nat} {target : Expr} {ifs : List Expr} {W : Ahead} {D I : Addr} {St : Nat → Heap → Prop} {R : Result → Shared → Prop} (room lim : Nat)
    (n : α → Ctxt) (p : α → Bool) (new : α → List Rel) (hnew : ∀ t ∈ xs, (new t).length ≤ room)
    (hturn : TurnBy c A env target ifs (.ref I) (.compLoop (.ListComp elt gens scope pos) depth (.ref I) (.ref D) env) (compTurn (.ListComp elt gens scope pos) depth (.ref I) (.ref D) env) W)
    (Dr : Draw c A env [D] X target (xs.map n) I St) (hDI : D ≠ I) (hDL : D ≠ env.locals) (hDC : ∀ n, env.cells.lookup n ≠ some D)
    (htest : ∀ t ∈ xs, ∀ X', Trs c A env X' (n t ++ ρ) ifs (p t))
    (hin : ∀ t ∈ xs, p t = true → Grows c env D (n t ++ ρ) W (.compLoop (.ListComp elt gens scope pos) depth (.ref I) (.ref D) env) (new t) X lim)
    {rs : List Rel} (hrs : rs.length + xs.length * room ≤ lim) (hsub : ∀ t ∈ xs, Sub ρ (n t ++ ρ)) (F : InF c s env [D] (I :: X) ρ s) (hO : OwnL D (I :: X) rs s.heap) (hst : St 0 s.heap)
    (hR : ∀ s', InF c s' env [D] X ρ s' → Turned env [D] I s s' → OwnL D X (rs ++ ((xs.filter p).map new).flatten) s'.heap → R (.ok .next) s') :
    codeAny c.M A (.compLoop (.ListComp elt gens scope pos) depth (.ref I) (.ref D) env) R s := by
  have hlen : ∀ i, i ≤ xs.length → (((xs.take i).filter p).map new).flatten.length ≤ i * room := fun i => by
    induction i with
    | zero => intro _; simp
    | succ i ih =>
      intro hi
      have hlt : i < xs.length := hi
      rw [take_succ_filter p xs i xs[i] (by simp [hlt])]
      have h1 := ih (by omega)
      have h2 := hnew xs[i] (List.getElem_mem hlt)
      rw [Nat.succ_mul]
      cases hp : p xs[i] with
      | true => rw [if_pos rfl, List.map_append, List.flatten_append, List.length_append]; simp only [List.map_cons, List.map_nil, List.flatten_cons, List.flatten_nil, List.append_nil]; omega
      | false => simp only [Bool.false_eq_true, if_false, List.append_nil]; omega
  refine codeAny_loop (by rfl) (fun j s' => ∃ i, i ≤ xs.length ∧ j = xs.length + 1 - i ∧ InF c s' env [D] (I :: X) ρ s' ∧ Turned env [D] I s s' ∧ St i s'.heap ∧ OwnL D (I :: X) (rs ++ (((xs.take i).filter p).map new).flatten) s'.heap) ?_ (xs.length + 1)
    ⟨0, Nat.zero_le _, rfl, F, .refl _, hst, by simpa using hO⟩
  rintro j s' ⟨i, hi, rfl, F', T, hst', hO'⟩
  show wpAny _ A ((compTurn (.ListComp elt gens scope pos) depth (.ref I) (.ref D) env).onRaise (fun x => do noteFrame x env; theTreesLotGoes x)) _ _ s'
  refine wpAny_noted (hturn _ _ _ ?_)
  have own : ∀ {s₁ s₂ : Shared} {rs : List Rel}, Turned env [] I s₁ s₂ → OwnL D (I :: X) rs s₁.heap → OwnL D (I :: X) rs s₂.heap := fun T h => h.to (fun o e => T.keep D o hDL hDC (fun h => nomatch h) hDI e)
    (hide_le fun b o hb e => T.keep b o (fun q => hb (q ▸ F.hidL)) (fun m q => hb (F.hidC m b q)) (fun h => nomatch h) (fun q => hb (q ▸ List.mem_cons_self ..)) e)
  by_cases hlt : i < xs.length
  · have hmem : xs[i] ∈ xs := List.getElem_mem hlt
    refine wpAny_mono (Dr.turn i s' ρ (n xs[i]) (fun s₃ => InF c s₃ env [D] (I :: X) (n xs[i] ++ ρ) s₃ ∧ Turned env [] I s' s₃ ∧ St (i + 1) s₃.heap) _ (by simp [hlt]) hst' F' fun s₂ F₂ T₂ hst₂ => ⟨F₂, T₂, hst₂⟩) (fun r s₂ hr => ?_) fun _ _ e => e
    cases r with
    | none => exact hr.elim
    | some v =>
      refine wpAny_mono hr (fun _ s₂ hr => wpAny_mono hr (fun _ s₂ hr => ?_) fun _ _ e => e) fun _ _ e => e
      obtain ⟨F₂, T₂, hst₂⟩ := hr
      have hO₂ := own T₂ hO'
      have htk : (xs.take (i + 1)).filter p = (xs.take i).filter p ++ (if p xs[i] then [xs[i]] else []) := take_succ_filter p xs i xs[i] (by simp [hlt])
      refine ⟨_, _, _, htest xs[i] hmem (I :: X), F₂.here, fun s₃ k₃ => ?_⟩
      have F₃ := F₂.keeps k₃
      have hO₃ := hO₂.keeps k₃
      have T₃ : Turned env [D] I s s₃ := (T.trans T₂.weak).trans (turned_of_keeps k₃).weak
      have hst₃ := Dr.frame _ _ _ _ F₃ hst₂
      cases hp : p xs[i] with
      | false =>
        rw [hp] at htk
        dsimp only
        rw [if_neg (by decide)]
        refine ⟨rfl, xs.length + 1 - (i + 1), by omega, i + 1, hlt, rfl, F₃.self.weak (hsub _ hmem), T₃, hst₃, ?_⟩
        · rw [htk]; simpa using hO₃
      | true =>
        rw [hp] at htk
        dsimp only
        rw [if_pos rfl]
        refine (hin xs[i] hmem hp (I :: X) s₃ _ _ _ (fun b hb => List.mem_cons_of_mem _ hb) ?_ F₃.self hO₃ fun s₄ F₄ hO₄ => ⟨rfl, xs.length + 1 - (i + 1), by omega, i + 1, hlt, rfl, F₄.self.weak (hsub _ hmem), T₃.trans F₄.turned, Dr.frame _ _ _ _ F₄ hst₃, ?_⟩)
        · have := hlen i (by omega)
          rw [List.length_append]
          have h2 : i * room ≤ xs.length * room := Nat.mul_le_mul_right _ hi
          omega
        · rw [htk]; simpa using hO₄
  · have hin : i = xs.length := by omega
    subst hin
    refine wpAny_mono (Dr.done s' ρ (fun s₂ => R (.ok .next) s₂) _ (by rw [List.length_map]; exact hst') F' fun s₂ F₂ T₂ => hR s₂ F₂ (T.trans T₂.weak) ?_) (fun r s₂ hr => ?_) fun _ _ e => e
    · rw [List.take_length] at hO'
      exact (own T₂ hO').to (fun _ e => e) (hide_sub fun b hb => List.mem_cons_of_mem _ hb)
    · cases r with
      | none => exact hr
      | some v => exact hr.elim

theorem start_comp {elt target iter : Expr} {ifs : List Expr} {gens : List Comprehension} {scope : Scope} {pos : Pos} {depth : Nat} {it acc : Value} {R : Result → Shared → Prop} (hg : gens[depth]? = some ⟨target, iter, ifs, 0⟩)
    (h0 : codeAny c.M A (.compLoop (.ListComp elt gens scope pos) depth it acc env) R s)
    (h : wpAny c.M A (pyIter it) (fun it' s' => codeAny c.M A (.compLoop (.ListComp elt gens scope pos) depth it' acc env) R s') (notedBy c.M A env fun x s' => R (.error x) s') s) :
    codeAny c.M A (.compStart (.ListComp elt gens scope pos) depth it acc env) R s := by
  refine codeAny_of_tree ?_
  show wpAny _ _ ((compStart (.ListComp elt gens scope pos) depth it acc env).onRaise (fun x => do noteFrame x env; standAt theWindowsPlace)) _ _ s
  refine wpAny_notedAt ?_
  unfold compStart
  have hc : clausesOf (.ListComp elt gens scope pos) = gens := rfl
  rw [hc, hg]
  show wpAny _ _ (ask >>= _) _ _ s
  refine wpAny_bind (wpAny_askSetting (wpAny_ite ?_))
  split
  · first
      | exact wpAny_bind (wpAny_pure (wpAny_pure (And.intro rfl h0)))
      | exact wpAny_pure (And.intro rfl h0)
  · first
      | exact wpAny_bind (wpAny_rule (wpAny_bind (wpAny_standAt (wpAny_bind (wpAny_mono h (fun it' s' h' => wpAny_pure (And.intro rfl h')) fun _ _ x => x)))))
      | (refine wpAny_bind (wpAny_rule ?_); show wpAny _ _ (standAt iter.pos >>= _) _ _ s; exact wpAny_bind (wpAny_standAt (wpAny_bind (wpAny_mono h (fun it' s' h' => wpAny_pure (And.intro rfl h')) fun _ _ x => x))))

/-- a clause within a clause -/
theorem nest_in {α : Type} {xs : List α} {elt : Expr} {gens : List Comprehension} {scope : Scope} {pos : Pos} {depth : Nat} {target iter : Expr} {ifs : List Expr} {W : Value → Ahead} {D : Addr} {cd : Code} (room lim lim' : Nat) (hlim : lim' + xs.length * room ≤ lim)
    (hg : gens[depth]? = some ⟨target, iter, ifs, 0⟩)
    (n : α → Ctxt) (p : α → Bool) (new : α → List Rel) (hnew : ∀ t ∈ xs, (new t).length ≤ room)
    (hturn : ∀ it, TurnBy c A env target ifs it (.compLoop (.ListComp elt gens scope pos) depth it (.ref D) env) (compTurn (.ListComp elt gens scope pos) depth it (.ref D) env) (W it))
    (hd : ∀ X', (∀ b ∈ X, b ∈ X') → DrawsS c A env [D] X' ρ target iter (xs.map n)) (hDL : D ≠ env.locals) (hDC : ∀ n, env.cells.lookup n ≠ some D)
    (htest : ∀ t ∈ xs, ∀ X', Trs c A env X' (n t ++ ρ) ifs (p t))
    (hin : ∀ t ∈ xs, p t = true → ∀ it, Grows c env D (n t ++ ρ) (W it) (.compLoop (.ListComp elt gens scope pos) depth it (.ref D) env) (new t) X lim)
    (hsub : ∀ t ∈ xs, Sub ρ (n t ++ ρ)) :
    Grows c env D ρ (askNest c A env (.ListComp elt gens scope pos) depth iter (.ref D) cd) cd ((xs.filter p).map new).flatten X lim' := by
  intro X' s rs Q E hX hrs F hO h
  refine hd X' hX s _ E F fun I St s₁ k₁ hI Dr hst self => ?_
  have hI1 : ∀ b o, s.heap.get? b = some o → b ≠ I := fun b o e q => by rw [q, hI] at e; cases e
  have hle : View.le (hide X' s.heap) (hide (I :: X') s₁.heap) := hide_new (fun b o _ e => keeps_get k₁ e) fun b hb => by
    rcases List.mem_cons.mp hb with rfl | hb
    · exact .inr hI
    · exact .inl hb
  have FI : InF c s₁ env [D] (I :: X') ρ s₁ := by
    refine (F.moved hle (fun o e => keeps_get k₁ e) (fun _ _ _ _ e => keeps_get k₁ e) (fun b hb => List.mem_cons_of_mem _ hb) fun b hb => ?_)
    rcases List.mem_cons.mp hb with rfl | hb
    · exact Dr.has _ _ hst
    · obtain ⟨o, e⟩ := F.here.xok b hb; exact ⟨o, keeps_get k₁ e⟩
  have hDI : D ≠ I := by obtain ⟨ys, ep, e, _⟩ := hO; exact hI1 D _ e
  have hOI : OwnL D (I :: X') rs s₁.heap := hO.to (fun o e => keeps_get k₁ e) hle
  refine wpAny_runOwn (h := none) ?_
  have hA : A.mark none = A := rfl
  rw [hA]
  have loop : codeAny c.M A (.compLoop (.ListComp elt gens scope pos) depth (.ref I) (.ref D) env) (fun r s' => match r with | .ok f => Q (.again cd) s' | .error e => cameBackBy c.M A env E e s') s₁ := by
    refine nest_loop (X := X') room lim n p new hnew (hturn _) Dr hDI hDL hDC htest (fun t ht hp => ?_) (by omega) hsub FI hOI hst fun s' F' T hO' => ?_
    · intro X₁ s₃ rs₃ Q₃ E₃ hX₃
      exact hin t ht hp _ X₁ s₃ rs₃ Q₃ E₃ fun b hb => hX₃ b (hX b hb)
    · refine (h s' ⟨F'.here, ?_, fun b o h1 h2 h3 e => T.keep b o h1 h2 h3 (hI1 b o e) (keeps_get k₁ e), F'.ns, F'.cell, F'.apart, F'.off, F'.hidL, F'.hidC, F'.hidO⟩ hO')
      obtain ⟨h1, t1, rfl, _⟩ := k₁
      obtain ⟨h2, t2, rfl⟩ := T.same
      exact ⟨_, _, rfl⟩
  exact start_comp hg loop (self s₁ _ _ hst loop)

/-- the innermost action -/
theorem nest_emit {elt : Expr} {D : Addr} {r : Rel} {cd : Code} (hDL : D ≠ env.locals) (hDC : ∀ n, env.cells.lookup n ≠ some D) (h1 : ∀ X', Ev c A env X' ρ elt r) :
    Grows c env D ρ (askEmit c A env elt (.ref D) cd) cd [r] X 1000 := by
  intro X' s rs Q E hX hrs F hO h
  refine h1 X' s _ E F.here fun v s₁ k₁ hr => ?_
  have F₁ := F.keeps k₁
  obtain ⟨ys, ep, e, q⟩ := hO.keeps k₁
  have hl := q.length
  refine wpAny_list_append_plain (items := ys.toArray) ⟨ep, e⟩ (fun h₂ hl₂ hs₂ => ?_) (by rw [List.size_toArray, sizeLine_eq]; omega)
  obtain ⟨ep₂, hl₂⟩ := hl₂
  have hk : ∀ b o, b ≠ D → s₁.heap.get? b = some o → h₂.get? b = some o := fun b o hb e => hs₂.extBut b o hb e
  have hDX : D ∈ X' := F.hidO D (List.mem_singleton.mpr rfl)
  have vl : View.le (hide X' s₁.heap) (hide X' h₂) := hide_le fun b o hb e => hk b o (fun q => hb (q ▸ hDX)) e
  refine h _ ?_ ⟨ys ++ [v], ep₂, by simpa using hl₂, ?_⟩
  · have F₂ : InF c { s₁ with heap := h₂ } env [D] X' ρ { s₁ with heap := h₂ } := F₁.self.moved (s' := { s₁ with heap := h₂ }) vl (fun o e => hk _ o (Ne.symm hDL) e) (fun n a o ha e => hk a o (fun q => hDC n (q ▸ ha)) e) (fun _ h => h) fun b hb => by
      by_cases hb' : b = D
      · subst hb'; exact ⟨_, hl₂⟩
      · obtain ⟨o, e⟩ := F₁.here.xok b hb; exact ⟨o, hk b o hb' e⟩
    refine F₁.trans ⟨F₂.here, ⟨_, _, rfl⟩, fun b o _ _ h3 e => hk b o (fun q => h3 (List.mem_singleton.mpr q)) e, F₂.ns, F₂.cell, F₂.apart, F₂.off, F₂.hidL, F₂.hidC, F₂.hidO⟩
  · have h2 := q.mono vl
    unfold AllOn at h2 ⊢
    exact Paired.snoc h2 (r.mono hr vl)

theorem relabel_plain {scope : Scope} (h : (scope.names.all fun y => y.2 != .free) = true) : (relabel scope env).names = scope.names := by
  have : ∀ l : List (Str × NameKind), (l.all fun y => y.2 != .free) = true → (l.map fun (n, k) => if (k == NameKind.free && env.scope.kind == .function && env.kindOf n == some .cell) then (n, NameKind.cell) else (n, k)) = l := fun l => by
    induction l with
    | nil => intro _; rfl
    | cons y r ih =>
      intro hl
      rw [List.all_cons, Bool.and_eq_true] at hl
      obtain ⟨n, k⟩ := y
      have hk : (k == NameKind.free) = false := by
        have := hl.1
        simpa using this
      rw [List.map_cons, ih hl.2]
      simp only [hk, Bool.false_and, Bool.false_eq_true, if_false]
  exact this _ h
theorem closL_plain {env : Env} : ∀ {l : List (Str × NameKind)}, (l.all fun y => y.2 != .free) = true → closL env l [] = []
  | [], _ => rfl
  | (n, k) :: r, h => by
    rw [List.all_cons, Bool.and_eq_true] at h
    have hk : (k == NameKind.free) = false := by simpa using h.1
    unfold closL
    rw [hk]
    exact closL_plain h.2

/-- all that a comprehension of three clauses makes -/
def trip {β : Type} (l : List Int) (p : Int → Int → Int → Bool) (o : Int → Int → Int → β) : List β :=
  ((l.filter fun _ => true).map fun a => ((l.filter fun _ => true).map fun b => ((l.filter fun d => p a b d).map fun d => [o a b d]).flatten).flatten).flatten

theorem sub_skip {x : Str} {r : Rel} {ρ : Ctxt} (h : ρ.lookup x = none) : Sub ρ ((x, r) :: ρ) := fun y q e => by
  rw [List.lookup_cons]
  cases hb : y == x with
  | true => rw [eq_of_beq hb, h] at e; cases e
  | false => exact e

theorem flatten_length_le {α β : Type} (f : α → List β) (k : Nat) : ∀ l : List α, (∀ a ∈ l, (f a).length ≤ k) → (l.map f).flatten.length ≤ l.length * k
  | [], _ => by simp
  | a :: r, h => by
    have h1 := h a (List.mem_cons_self ..)
    have h2 := flatten_length_le f k r fun x hx => h x (List.mem_cons_of_mem _ hx)
    rw [List.map_cons, List.flatten_cons, List.length_append, List.length_cons, Nat.succ_mul]
    omega

theorem ev_comp3 {elt i0 i1 i2 : Expr} {x0 x1 x2 : Str} {p0 p1 p2 : Pos} {f2 : List Expr} {scope : Scope} {pos : Pos} (p : Int → Int → Int → Bool) (o : Int → Int → Int → Rel) (hA : AOk 0 A)
    (hno : (scope.names.all fun y => y.2 != .free) = true) (hnc : ∀ y ∈ scope.names, y.2 ≠ .cell) (hnm : ∀ y ∈ scope.names, y.2 = .local → scope.names.lookup y.1 = some .local) (hk : scope.kind = .function)
    (hx0 : scope.names.lookup x0 = some .local) (hx1 : scope.names.lookup x1 = some .local) (hx2 : scope.names.lookup x2 = some .local) (h01 : (x1 == x0) = false) (h02 : (x2 == x0) = false) (h12 : (x2 == x1) = false)
    (h0 : Ev c A env X ρ i0 (RRg 4)) (h1 : ∀ ce X' a, Globs scope ce → Ev c A ce X' [(x0, RI a)] i1 (RRg 4)) (h2 : ∀ ce X' a b, Globs scope ce → Ev c A ce X' [(x1, RI b), (x0, RI a)] i2 (RRg 4))
    (htest : ∀ ce X' a b d, Globs scope ce → Trs c A ce X' [(x2, RI d), (x1, RI b), (x0, RI a)] f2 (p a b d))
    (helt : ∀ ce X' a b d, Globs scope ce → Ev c A ce X' [(x2, RI d), (x1, RI b), (x0, RI a)] elt (o a b d))
    (hs0 : ∀ v, foldedSetIterable i0 env v = pure v := by intro _; rfl) (hs1 : ∀ env v, foldedSetIterable i1 env v = pure v := by intro _ _; rfl) (hs2 : ∀ env v, foldedSetIterable i2 env v = pure v := by intro _ _; rfl) :
    Ev c A env X ρ (.ListComp elt [⟨.Name x0 p0, i0, [], 0⟩, ⟨.Name x1 p1, i1, [], 0⟩, ⟨.Name x2 p2, i2, f2, 0⟩] scope pos) (RL (trip (uptoN 4) p o)) := by
  have hcl : ∀ y, scope.names.lookup y ≠ some .cell := fun y e => hnc _ (mem_of_lookup e) rfl
  intro s Q E H h
  rw [eval_ListComp]
  have hclos : closureFor scope env = pure (closL env scope.names []) := closureFor_eq fun n hn => by
    have := List.all_eq_true.mp hno _ hn
    simp at this
  refine wpAny_comprehension_free (use := none) rfl hs0 hclos hk hnm
    (h0 s _ E H fun v s₁ k₁ e₁ => it_range hA (by decide) (by decide) s₁ v _ E (H.keeps k₁).base (H.keeps k₁).xok e₁ fun I fp P St s₂ k₂ hI W => ?_)
  have H₁ := H.keeps k₁
  rw [closL_plain hno]
  refine wpAny_newObj_type (wpAny_newFunctionEnv hnc (by intro y hy; simp at hy) (fun h₁ hns₁ hsb₁ => ?_) hk)
  dsimp only at hns₁ hsb₁ ⊢
  generalize hH2 : s₂.heap.push { cls := .type "list", dict := none, data := .seq ([] : List Value).toArray } = H2 at hns₁ hsb₁ ⊢
  generalize hDe : s₂.heap.objs.size = D at *
  have hCe : H2.objs.size = D + 1 := by rw [← hH2, Heap.size_push, hDe]
  generalize hCd : H2.objs.size = C at *
  have hDC : D ≠ C := by omega
  have hDn : s₂.heap.get? D = none := none_of_le (by omega)
  have hCn : s₂.heap.get? C = none := none_of_le (by omega)
  have below : ∀ b, b < s₂.heap.objs.size → b ≠ C ∧ b ≠ D := fun b hb => ⟨by omega, by omega⟩
  have old : ∀ b o, s₂.heap.get? b = some o → h₁.get? b = some o := fun b o e => hsb₁.extBut b o (below b (Heap.lt_size e)).1 (Heap.get?_push_of_some _ (hH2 ▸ Heap.get?_push_of_some _ e))
  have hacc : h₁.get? D = some (seqObj "list" [] 0) := hsb₁.extBut _ _ hDC (Heap.get?_push_of_some _ (by rw [← hH2, ← hDe]; exact Heap.get?_push_size _ rfl))
  generalize hs₄ : ({ s₂ with heap := h₁, toks := s₂.toks + ([] : List (Str × Value)).length } : Shared) = s₄
  have hh₄ : s₄.heap = h₁ := by rw [← hs₄]
  have hX' : ∀ b ∈ C :: D :: X, b ∈ X ∨ s₂.heap.objs.size ≤ b := fun b hb => by
    rcases List.mem_cons.mp hb with rfl | hb
    · right; omega
    · rcases List.mem_cons.mp hb with rfl | hb
      · right; omega
      · exact .inl hb
  have hsz : s₂.heap.objs.size ≤ s₄.heap.objs.size := by
    rw [hDe]
    exact Nat.le_of_lt (Heap.lt_size (h := s₄.heap) (by rw [hh₄]; exact hacc))
  have W' : Walk c A (C :: D :: X) ((uptoN 4).map RI) I fp P St s₄ := W.later (fun b o e => by rw [hh₄]; exact old b o e) hX' hsz
  have hce : ∀ y, Env.kindOf (compEnvC scope [] C env) y = scope.names.lookup y := fun y => by
    show (relabel scope env).names.lookup y = _
    rw [relabel_plain hno]
  have hglob : Globs scope (compEnvC scope [] C env) := fun y hy => (hce y).trans hy
  have vle : View.le (hide X s₁.heap) (hide (I :: C :: D :: X) s₄.heap) := hide_new (fun b o _ e => by rw [hh₄]; exact old b o (keeps_get k₂ e)) fun b hb => by
    rcases List.mem_cons.mp hb with rfl | hb
    · exact .inr hI
    · rcases List.mem_cons.mp hb with rfl | hb
      · right
        cases e : s₁.heap.get? b with
        | none => rfl
        | some o => rw [keeps_get k₂ e] at hCn; cases hCn
      · rcases List.mem_cons.mp hb with rfl | hb
        · right
          cases e : s₁.heap.get? b with
          | none => rfl
          | some o => rw [keeps_get k₂ e] at hDn; cases hDn
        · exact .inl hb
  have F : InF c s₄ (compEnvC scope [] C env) [D] (I :: C :: D :: X) [] s₄ := by
    refine ⟨⟨H₁.base.le vle, fun b hb => ?_, hk, H.glob, H.blt, fun x r e => by cases e⟩, ⟨_, _, rfl⟩, fun _ _ _ _ _ e => e, ⟨_, by rw [hh₄]; exact hns₁⟩, fun x hx => absurd ((hce x).symm.trans hx) (hcl x), List.Pairwise.nil, (fun n a e => by cases e), ?_, (fun n a e => by cases e), fun b hb => ?_⟩
    · rcases List.mem_cons.mp hb with rfl | hb
      · exact W'.has _ _ W'.st
      · rcases List.mem_cons.mp hb with rfl | hb
        · obtain ⟨oC, _, _, e, _⟩ := hns₁; exact ⟨oC, by rw [hh₄]; exact e⟩
        · rcases List.mem_cons.mp hb with rfl | hb
          · exact ⟨_, by rw [hh₄]; exact hacc⟩
          · obtain ⟨o, e⟩ := H₁.xok b hb
            exact ⟨o, by rw [hh₄]; exact old b o (keeps_get k₂ e)⟩
    · show C ∈ _; simp
    · rw [List.mem_singleton.mp hb]; simp
  have hDL : D ≠ (compEnvC scope [] C env).locals := hDC
  have hDCc : ∀ n, (compEnvC scope [] C env).cells.lookup n ≠ some D := fun n e => by cases e
  have hDI : D ≠ I := fun q => W'.iX (q ▸ (by simp))
  have hK : ∀ x, scope.names.lookup x = some .local → Env.kindOf (compEnvC scope [] C env) x = some .local ∨ Env.kindOf (compEnvC scope [] C env) x = some .cell := fun x hx => .inl ((hce x).trans hx)
  have u4 : (uptoN 4).length = 4 := rfl
  have rg : ∀ X', IterIs c A X' (RRg 4) ((uptoN 4).map RI) := fun X' => it_range hA (by decide) (by decide)
  have hO : OwnL D (I :: C :: D :: X) [] s₄.heap := ⟨[], 0, by rw [hh₄]; exact hacc, .nil⟩
  have len2 : ∀ a b, ((((uptoN 4).filter fun d => p a b d).map fun d => [o a b d]).flatten).length ≤ 4 := fun a b => by
    refine Nat.le_trans (flatten_length_le (fun d => [o a b d]) 1 _ fun _ _ => by simp) ?_
    have := List.length_filter_le (fun d => p a b d) (uptoN 4)
    rw [u4] at this; omega
  have len1 : ∀ a, ((((uptoN 4).filter fun _ => true).map fun b => (((uptoN 4).filter fun d => p a b d).map fun d => [o a b d]).flatten).flatten).length ≤ 16 := fun a => by
    refine Nat.le_trans (flatten_length_le _ 4 _ fun b _ => len2 a b) ?_
    have := List.length_filter_le (fun _ => true) (uptoN 4)
    rw [u4] at this; omega
  have lk : ∀ {x y : Str} {r : Rel}, (x == y) = false → List.lookup x [(y, r)] = none := fun {x y r} h => by rw [List.lookup_cons, h]; rfl
  have loop : codeAny c.M A (.compLoop (.ListComp elt [⟨.Name x0 p0, i0, [], 0⟩, ⟨.Name x1 p1, i1, [], 0⟩, ⟨.Name x2 p2, i2, f2, 0⟩] scope pos) 0 (.ref I) (.ref D) (compEnvC scope [] C env)) (compPost c.M A E none Q (.ref D) C) s₄ := by
    refine nest_loop (X := C :: D :: X) (xs := uptoN 4) 16 800 (fun a => [(x0, RI a)]) (fun _ => true) (fun a => (((uptoN 4).filter fun _ => true).map fun b => (((uptoN 4).filter fun d => p a b d).map fun d => [o a b d]).flatten).flatten) (fun a _ => len1 a) (turn_nest rfl rfl (hs1 _))
      (draw_of_walk RI (fun a => [(x0, RI a)]) W' (by show C ∈ _; simp) (fun n a e => by cases e) (fun b hb => by rw [List.mem_singleton.mp hb]; simp) fun a _ => asg_name (hK x0 hx0)) hDI hDL hDCc (fun t _ X' => trs_nil)
      (fun a ha _ => nest_in (xs := uptoN 4) 4 900 800 (by rw [u4]; omega) rfl (fun b => [(x1, RI b)]) (fun _ => true) (fun b => (((uptoN 4).filter fun d => p a b d).map fun d => [o a b d]).flatten) (fun b _ => len2 a b) (fun it => turn_nest rfl rfl (hs2 _))
        (fun X' _ => draws_self RI (fun b => [(x1, RI b)]) (h1 _ X' a hglob) (rg X') fun b _ => asg_name (hK x1 hx1)) hDL hDCc (fun t _ X' => trs_nil)
        (fun b hb _ it => nest_in (xs := uptoN 4) 1 1000 900 (by rw [u4]; omega) rfl (fun d => [(x2, RI d)]) (fun d => p a b d) (fun d => [o a b d]) (fun d _ => by simp) (fun it => turn_emit rfl rfl)
          (fun X' _ => draws_self RI (fun d => [(x2, RI d)]) (h2 _ X' a b hglob) (rg X') fun d _ => asg_name (hK x2 hx2)) hDL hDCc (fun d _ X' => htest _ X' a b d hglob)
          (fun d _ _ it => nest_emit hDL hDCc fun X' => helt _ X' a b d hglob) (fun d _ => sub_skip (by show List.lookup x2 [(x1, RI b), (x0, RI a)] = none; rw [List.lookup_cons, h12]; exact lk h02))) (fun b _ => sub_skip (lk h01)))
      (by rw [u4]; decide) (fun a _ => sub_skip rfl) F hO ⟨W'.st, View.le_refl _⟩ fun s' F' T hO' => ?_
    obtain ⟨ys, ep, hg, hall⟩ := hO'
    obtain ⟨m, hn⟩ := F'.ns
    refine ⟨m, hn, fun h' hs' => ?_⟩
    have hk₁ : ∀ b o, s₁.heap.get? b = some o → h'.get? b = some o := fun b o e => by
      have e2 := keeps_get k₂ e
      have hb := below b (Heap.lt_size e2)
      refine hs'.extBut b o hb.1 (T.keep b o hb.1 (fun n q => by cases q) (fun q => hb.2 (List.mem_singleton.mp q)) (fun q => by rw [q, hI] at e; cases e) (by rw [hh₄]; exact old b o e2))
    have hDX : D ∉ X := fun hb => by
      obtain ⟨o, e⟩ := H₁.xok D hb
      rw [keeps_get k₂ e] at hDn; cases hDn
    have vl : View.le (hide (C :: D :: X) s'.heap) (hide X h') := View.le_trans (hide_le fun b o hb e => hs'.extBut b o (fun q => hb (q ▸ List.mem_cons_self ..)) e) (hide_sub fun b hb => by simp [hb])
    refine h _ _ ?_ ⟨D, ys, ep, rfl, hide_of (hs'.extBut D _ hDC hg) hDX, hall.mono vl⟩
    refine keeps_trans k₁ ?_
    obtain ⟨h3, t3, rfl⟩ := T.same
    rw [← hs₄]
    obtain ⟨h2', tk2, rfl, _⟩ := k₂
    exact ⟨h', t3, rfl, hk₁⟩
  exact start_comp rfl loop (W'.w.self 0 _ _ _ W'.st loop)
end
end Mine
end

section
set_option maxRecDepth 100000
namespace Mine
open PySem PySem.W PySem.Calls PyProof.Rows

section
variable {c : Cfg} {A : Around} {env : Env} {O X : List Addr} {ρ : Ctxt} {sB s : Shared}

theorem ev_addlist {l r : Expr} {pos : Pos} {ns ms : List Int} (h1 : Ev c A env X ρ l (RLI ns)) (h2 : Ev c A env X ρ r (RLI ms)) (hl : ns.length + ms.length ≤ 1000) : Ev c A env X ρ (.BinOp l .Add r pos) (RLI (ns ++ ms)) := fun s Q E H h =>
  wpAny_BinOp (h1 s _ E H fun v s₁ k₁ e => h2 s₁ _ E (H.keeps k₁) fun v₂ s₂ k₂ e₂ => by
    obtain ⟨a, vs, ep, rfl, ho, hX, hp⟩ := seq_get ((RLI ns).mono e (keeps_hide k₂))
    obtain ⟨a', vs', ep', rfl, ho', hX', hp'⟩ := seq_get e₂
    have e1 := hp.length
    have e2 := hp'.length
    rw [List.length_map] at e1 e2
    have hx := ((H.keeps k₁).keeps k₂).fresh
    refine PySem.P.add_list (items := vs.toArray) (items2 := vs'.toArray) ho ho' (h _ _ (keeps_trans (keeps_trans k₁ k₂) (keeps_push s₂ _)) ⟨_, vs ++ vs', 0, rfl, hide_of (by rw [Heap.get?_push_size _ rfl]; simp [seqObj]) hx, ?_⟩) (by rw [List.size_toArray, List.size_toArray, sizeLine_eq]; omega)
    have hh := keeps_hide (X := X) (keeps_push s₂ { cls := .type "list", data := .seq (vs.toArray ++ vs'.toArray) })
    exact of_ints ((ints_of (hp.mono hh)).append (ints_of (hp'.mono hh))))

theorem ev_ints {α : Type} {e : Expr} {f : α → Int} {l : List α} (h : Ev c A env X ρ e (RL (l.map fun k => RI (f k)))) : Ev c A env X ρ e (RLI (l.map f)) := by
  have : (l.map f).map RI = l.map fun k => RI (f k) := List.map_map
  unfold RLI
  rw [this]
  exact h
/-! ## _law_roots -/
def ringStep (rs : List Int) (size : Int) : List Int := rs ++ ((uptoN size.toNat).filter fun _ => true).map fun k => (rs.length : Int) + (k + 1).fmod size
def rings (ns : List Int) : List Int := ns.foldl ringStep []
def trips : List (Int × Int × Int) := trip (uptoN 4) (fun a b d => (a != b) && ((a != d) && ((b != d) && true))) fun a b d => (a, b, d)
def onceT (t : Int × Int × Int) : List Int := [t.1, t.2.1, t.2.2, 6 - t.1 - t.2.1 - t.2.2]
def twiceT (t : Int × Int × Int) : List Int := ((onceT t).filter fun _ => true).map fun k => (onceT t).getD k.toNat 0
def rootStep (rg : List Int) (n : Int) (t : Int × Int × Int) : Int := if decide (twiceT t = rg) then n + 1 else n
def rootsF (ns : List Int) : Int := trips.foldl (rootStep (rings ns)) 0
def tripR (t : Int × Int × Int) : Rel := RT [RI t.1, RI t.2.1, RI t.2.2]
theorem trip_map {β γ : Type} (f : β → γ) (l : List Int) (p : Int → Int → Int → Bool) (o : Int → Int → Int → β) : trip l p (fun a b d => f (o a b d)) = (trip l p o).map f := by
  unfold trip
  simp only [List.map_flatten, List.map_map, Function.comp_def, List.map_cons, List.map_nil]
theorem once_ok : ∀ t ∈ trips, ∀ k ∈ onceT t, 0 ≤ k ∧ k < 4 := by decide +kernel
theorem trips_len : trips.length = 24 := by decide +kernel

set_option maxHeartbeats 2000000 in
theorem fun_roots (hc : c.fns = theFns) {ns : List Int} (hn : ∀ n ∈ ns, 1 ≤ n ∧ n ≤ 8) (hr : ∀ i, (rings (ns.take i)).length ≤ 500) : Fun c 1 "_law_roots" [RLI ns] (RI (rootsF ns)) := by
  refine fun_intro (d := fnAt 18) ["sizes"] (fnAt_mem hc) (by intro pm cd doc vals hv; match vals, hv with | [x], _ => rfl) (by rfl) ?_
  intro A env X s Q E hA hsc F h
  have hk : ∀ x k, (fnAt 18).scope.names.lookup x = some k → env.kindOf x = some k := fun x k e => by unfold Env.kindOf; rw [hsc]; exact e
  have hb : (fnAt 18).body = (fnAt 18).body := rfl
  conv at hb => rhs; whnf
  rw [hb]
  have hA0 : AOk 0 A := hA.less (by decide)
  have hcell : ∀ m, env.kindOf m = some .cell → ∃ a, env.cells.lookup m = some a := fun m hm => (F.cell m hm).elim fun a ha => ha.elim fun v hv => ⟨a, hv.1⟩
  refine ex_assign_tuple (r := RT [RLI [], RI 0]) (new := [("roots", RI 0), ("rings", RLI [])]) F
    (ev_tuple (evs_cons (ev_list evs_nil (by simp)) (evs_cons ev_int evs_nil)) (by simp))
    (asg_tuple2 hA0 (.inr (hk _ _ rfl)) (.inl (hk _ _ rfl))) (by rw [swapped_scope hsc]; rfl) fun s₁ F₁ => ?_
  refine ex_for (O := []) (fun i => [("rings", RLI (rings (ns.take i))), ("roots", RI 0)]) (fun _ _ => True) (fun _ => False) F₁
    (draws_walk (xs := ns) RI (fun n => [("size", RI n)]) (ev_name rfl) (it_list hA0) fun p _ => asg_name (.inr (hk _ _ rfl)))
    (sub_cons rfl (sub_cons rfl (sub_nil _))) trivial (fun _ _ _ _ _ _ h => h) ?_ (fun _ _ _ f => f.elim) ?_
  · intro i tt X₁ s₃ Q₁ E₁ hi hX₁ _ F₃ hq _
    rw [List.getElem?_map] at hi
    obtain ⟨n, hni, rfl⟩ := Option.map_eq_some_iff.mp hi
    obtain ⟨n1, n2⟩ := hn n (List.mem_of_getElem? hni)
    have hlen := hr i
    have hu : ((uptoN n.toNat).filter fun _ => true).length ≤ 8 := by
      refine Nat.le_trans (List.length_filter_le ..) ?_
      rw [ints_length]; omega
    refine ex_assign (r := RLI (ringStep (rings (ns.take i)) n)) F₃
      (ev_addlist (ev_name rfl) (ms := ((uptoN n.toNat).filter fun _ => true).map fun k => ((rings (ns.take i)).length : Int) + (k + 1).fmod n) (by
        refine ev_ints (ev_listcomp (xs := uptoN n.toNat) (ρf := [("rings", RLI (rings (ns.take i))), ("size", RI n)]) RI (fun _ => true) (fun k => RI (((rings (ns.take i)).length : Int) + (k + 1).fmod n)) hcell (compOk_of (by rw [hsc]; rfl) rfl rfl)
          (shares_cons (by decide) rfl (hk _ _ rfl) rfl (shares_cons (by decide) rfl (hk _ _ rfl) rfl shares_nil))
          (ev_builtin (rs := [RI n]) (f := .type "range") (by decide) (by decide +kernel) (.inr ⟨_, rfl⟩) call_range hA0 (evs_cons (ev_name rfl) evs_nil) (hk _ _ rfl))
          (it_range hA0 (by omega) (by omega)) (by rw [ints_length]; omega) (fun ce X' a ha hg => trs_nil)
          (fun ce X' a ha _ hg => ev_bin ?_ (ev_bin (ev_bin (ev_name rfl) ev_int op_add) (ev_name rfl) (op_mod (by omega))) op_add))
        rw [show ((rings (ns.take i)).length : Int) = (((rings (ns.take i)).map RI).length : Int) from by rw [List.length_map]]
        exact ev_builtin (rs := [RLI (rings (ns.take i))]) (f := .builtin "len") (by decide) (by decide +kernel) (.inl ⟨_, rfl⟩) (call_len (by rw [List.length_map]; omega)) hA0 (evs_cons (ev_name rfl) evs_nil) (hg _ rfl)) (by rw [List.length_map]; omega)) (.inr (hk _ _ rfl)) (fun s₄ F₄ => ?_) (by rw [swaps_scope hsc]; rfl)
    refine ex_nil (hq s₄ (F₄.weak (sub_cons ?_ (sub_cons rfl (sub_nil _)))) trivial)
    have : rings (ns.take (i + 1)) = ringStep (rings (ns.take i)) n := by unfold rings; rw [foldl_take_succ _ _ _ hni]
    rw [this]
    rfl
  · intro s₂ _ F₂
    rw [List.length_map, List.take_length] at F₂
    have hmap : trip (uptoN 4) (fun a b d => (a != b) && ((a != d) && ((b != d) && true))) (fun a b d => tripR (a, b, d)) = trips.map tripR := trip_map tripR _ _ _
    refine ex_for (O := []) (fun i => [("roots", RI ((trips.take i).foldl (rootStep (rings ns)) 0)), ("rings", RLI (rings ns))]) (fun _ _ => True) (fun _ => False) F₂
      (draws_walk (xs := trips) tripR (fun t => [("c", RI t.2.2), ("b", RI t.2.1), ("a", RI t.1)]) (by
        rw [← hmap]
        exact ev_comp3 (fun a b d => (a != b) && ((a != d) && ((b != d) && true))) (fun a b d => tripR (a, b, d)) hA0 (by decide) (by decide) (by decide) rfl rfl rfl rfl rfl rfl rfl
          (ev_builtin (rs := [RI 4]) (f := .type "range") (by decide) (by decide +kernel) (.inr ⟨_, rfl⟩) call_range hA0 (evs_cons ev_int evs_nil) (hk _ _ rfl))
          (fun ce X' a hg => ev_builtin (rs := [RI 4]) (f := .type "range") (by decide) (by decide +kernel) (.inr ⟨_, rfl⟩) call_range hA0 (evs_cons ev_int evs_nil) (hg _ rfl))
          (fun ce X' a b hg => ev_builtin (rs := [RI 4]) (f := .type "range") (by decide) (by decide +kernel) (.inr ⟨_, rfl⟩) call_range hA0 (evs_cons ev_int evs_nil) (hg _ rfl))
          (fun ce X' a b d hg => trs_one (tr_and_cons (tr_cmp (r₁ := RI a) (r₂ := RI b) (ev_name rfl) (ev_name rfl) cmp_ne) fun _ => tr_and_cons (tr_cmp (r₁ := RI a) (r₂ := RI d) (ev_name rfl) (ev_name rfl) cmp_ne) fun _ => tr_and_cons (tr_cmp (r₁ := RI b) (r₂ := RI d) (ev_name rfl) (ev_name rfl) cmp_ne) fun _ => tr_and_nil))
          (fun ce X' a b d hg => ev_tuple (evs_cons (ev_name rfl) (evs_cons (ev_name rfl) (evs_cons (ev_name rfl) evs_nil))) (by simp))) (it_list hA0) fun t _ => asg_tuple3 hA0 (.inl (hk _ _ rfl)) (.inl (hk _ _ rfl)) (.inl (hk _ _ rfl)))
      (sub_cons rfl (sub_cons rfl (sub_nil _))) trivial (fun _ _ _ _ _ _ h => h) ?_ (fun _ _ _ f => f.elim) ?_
    · intro i tt X₁ s₃ Q₁ E₁ hi hX₁ _ F₃ hq _
      rw [List.getElem?_map] at hi
      obtain ⟨t, ht, rfl⟩ := Option.map_eq_some_iff.mp hi
      have hok := once_ok t (List.mem_of_getElem? ht)
      refine ex_assign (r := RLI (onceT t)) F₃ (ev_list (evs_cons (ev_name rfl) (evs_cons (ev_name rfl) (evs_cons (ev_name rfl) (evs_cons (ev_bin (ev_bin (ev_bin ev_int (ev_name rfl) op_sub) (ev_name rfl) op_sub) (ev_name rfl) op_sub) evs_nil)))) (by simp [onceT])) (.inr (hk _ _ rfl)) (fun s₄ F₄ => ?_)
      refine ex_if (b := decide (twiceT t = rings ns)) F₄ (tr_cmp (r₁ := RLI (twiceT t)) (r₂ := RLI (rings ns)) (by
          unfold twiceT
          refine ev_ints (ev_listcomp (xs := onceT t) (ρf := [("once", RLI (onceT t))]) RI (fun _ => true) (fun k => RI ((onceT t).getD k.toNat 0)) hcell (compOk_of (by rw [hsc]; rfl) rfl rfl)
            (shares_cons (by decide) rfl (hk _ _ rfl) rfl shares_nil) (ev_name rfl) (it_list hA0) (by simp [onceT]) (fun ce X' a ha hg => trs_nil)
            (fun ce X' a ha _ hg => ev_sub (r₁ := RLI (onceT t)) (r₂ := RI a) (ev_name rfl) (ev_name rfl) (item_list (hok a ha).1 (by have := (hok a ha).2; omega) ?_)))
          obtain ⟨a0, a4⟩ := hok a ha
          have hlt : a.toNat < (onceT t).length := by simp [onceT]; omega
          rw [List.getElem?_map, List.getElem?_eq_getElem hlt]
          simp [List.getD, hlt]) (ev_name rfl) (cmp_eqList hA0)) (fun hb s₅ F₅ => ?_) (fun hb s₅ F₅ => ?_)
      · refine ex_aug F₅ rfl ev_int (.inl (hk _ _ rfl)) fun s₆ F₆ => ex_nil (ex_nil (hq s₆ (F₆.weak (sub_cons ?_ (sub_cons rfl (sub_nil _)))) trivial))
        rw [foldl_take_succ _ _ _ ht, rootStep, if_pos hb]
        rfl
      · refine ex_nil (ex_nil (hq s₅ (F₅.weak (sub_cons ?_ (sub_cons rfl (sub_nil _)))) trivial))
        rw [foldl_take_succ _ _ _ ht, rootStep, if_neg (by rw [hb]; simp)]
        rfl
    · intro s₃ _ F₃
      rw [List.length_map, List.take_length] at F₃
      exact ex_return (r := RI (rootsF ns)) F₃ (ev_name rfl) fun v s' F' hr => h v s' (F'.weak (sub_nil _)) hr
end
end Mine
end

section
set_option maxRecDepth 100000
namespace Mine
open PySem PySem.W PySem.Calls PyProof.Rows

section
variable {c : Cfg} {A : Around} {env : Env} {O X : List Addr} {ρ : Ctxt} {sB s : Shared} {Qf : Flow → Shared → Prop} {E : Value → Shared → Prop} {rest : List Stmt}

/-- a list of ints that is the frame's own -/
def OwnI (D : Addr) (ns : List Int) (h : Heap) : Prop := ∃ vs ep, h.get? D = some (seqObj "list" vs ep) ∧ IntsAre vs ns
theorem OwnI.at {D : Addr} {ns : List Int} {h h' : Heap} (H : OwnI D ns h) (hk : ∀ o, h.get? D = some o → h'.get? D = some o) : OwnI D ns h' := let ⟨vs, ep, e, q⟩ := H; ⟨vs, ep, hk _ e, q⟩
theorem OwnI.keeps {D : Addr} {ns : List Int} {s s' : Shared} (H : OwnI D ns s.heap) (k : Keeps s s') : OwnI D ns s'.heap := H.at fun o e => keeps_get k e
theorem ints_len : ∀ {vs : List Value} {ns : List Int}, IntsAre vs ns → vs.length = ns.length
  | _, _, .nil => rfl
  | _, _, .cons _ _ h => by rw [List.length_cons, List.length_cons, ints_len h]
theorem ints_set : ∀ {vs : List Value} {ns : List Int} (i : Nat) (n : Int) (t : Tok), IntsAre vs ns → IntsAre (vs.set i (.int n t)) (ns.set i n)
  | _, _, _, _, _, .nil => .nil
  | _, _, 0, n, t, .cons _ _ h => .cons n t h
  | _, _, i + 1, n, t, .cons m u h => .cons m u (ints_set i n t h)
theorem ints_at : ∀ {vs : List Value} {ns : List Int} {i : Nat}, IntsAre vs ns → i < ns.length → ∃ t, vs[i]? = some (.int (ns.getD i 0) t)
  | _, _, _, .nil, h => by simp at h
  | _, _, 0, .cons n t _, _ => ⟨t, rfl⟩
  | _, _, i + 1, .cons n t h, hi => by
    have := ints_at h (by simpa using hi)
    simpa using this

theorem setItem_last {D : Addr} {vs : List Value} {ep : Nat} {t : Tok} {v : Value} {Q : Unit → Shared → Prop} (hl : s.heap.get? D = some (seqObj "list" vs ep)) (hne : 0 < vs.length)
    (hQ : ∀ h' ep', h'.get? D = some (seqObj "list" (vs.set (vs.length - 1) v) ep') → Heap.SameBut D s.heap h' → Q () { s with heap := h' }) : wpAny c.M A (setItem (.ref D) (.int (-1) t) v) Q E s := by
  have hL : s.heap.IsList D vs.toArray := isList_of hl
  obtain ⟨o, ho, hc, ne, hd⟩ := id hL
  unfold setItem
  try with_reducible refine wpAny_holding ?_
  first | refine wpAny_bind (wpAny_pure ?_) | skip
  refine wpAny_bind (wpAny_sequenceKey hL.typeIs (by decide) ?_)
  refine wpAny_bind (wpAny_callSpecial?_slot (name := Str.ofString "__setitem__") hL.typeIs slot_list_setitem
    (wpAny_call_entry slot_list_setitem hL.typeIs entry_list_setitem ?_ (args_list_setitem _ _ _)))
  show wpAny _ _ (Builtin.List.listSubscript? (.int (-1) t) >>= _) _ _ s
  refine wpAny_bind (wpAny_listSubscript_int (fitsIndex_neg (by decide) (by decide)) ?_)
  have hidx : seqIndex? (Int.negSucc 0) vs.toArray.size = some (vs.length - 1) := seqIndex?_neg_one (by rw [List.size_toArray]; exact hne)
  have hlt : vs.length - 1 < vs.length := by omega
  show wpAny _ _ ((Builtin.List.listItems (.ref D) >>= fun xs => pure ((seqIndex? (Int.negSucc 0) xs.size).bind fun i => xs[i]?.map (i, ·))) >>= _) _ _ s
  refine wpAny_bind (wpAny_bind ?_)
  show wpAny _ _ (seqItems? (.ref D) >>= _) _ _ s
  refine wpAny_bind (wpAny_seqItems ho hd (wpAny_pure (wpAny_pure ?_)))
  rw [hidx]
  have hx : vs.toArray[vs.length - 1]? = some vs[vs.length - 1] := by simp
  simp only [Option.bind_some, hx, Option.map_some]
  show wpAny _ _ (setSeqItemAt D (vs.length - 1) v >>= _) _ _ s
  have hfin : ∃ ep', (s.heap.update D (Obj.mapSeq (·.setIfInBounds (vs.length - 1) v))).get? D = some (seqObj "list" (vs.set (vs.length - 1) v) ep') := by
    have := (IsL.update (h := s.heap) (l := D) (items := vs.toArray) (n := ep) hl (·.setIfInBounds (vs.length - 1) v))
    refine ⟨ep, this.trans ?_⟩
    simp [seqObj]
  obtain ⟨ep', hfin⟩ := hfin
  refine wpAny_bind (wpAny_setSeqItemAt ho hd ?_)
  first
    | exact wpAny_bind (wpAny_pure (wpAny_pure ⟨.none, rfl, wpAny_pure (hQ _ _ hfin (Heap.SameBut.update ..))⟩))
    | exact wpAny_pure ⟨.none, rfl, wpAny_pure (hQ _ _ hfin (Heap.SameBut.update ..))⟩

def lastUp (ns : List Int) : List Int := ns.set (ns.length - 1) (ns.getD (ns.length - 1) 0 + 1)
/-- l[-1] += 1 -/
theorem ex_auglast {D : Addr} {x : Str} {px p1 p2 p3 p4 p5 : Pos} {k1 k2 : Nat} {ns : List Int} (F : InF c sB env O X ρ s) (hD : D ∈ O) (hoff : D ≠ env.locals) (hoffC : ∀ n, env.cells.lookup n ≠ some D) (hW : OwnI D ns s.heap) (hn : 0 < ns.length)
    (hx : ρ.lookup x = some (RV (.ref D))) (hdb : (x == ("__debug__" : Str)) = false)
    (h : ∀ s', InF c sB env O X ρ s' → OwnI D (lastUp ns) s'.heap → wpAny c.M A (execs rest env) Qf E s') :
    wpAny c.M A (execs (.AugAssign (.Subscript (.Name x px) (.UnaryOp .USub (.Constant (.int 1) k1 p1) p2) p3) .Add (.Constant (.int 1) k2 p4) p5 :: rest) env) Qf E s := by
  refine wpAny_execs_cons (wpAny_AugAssign_SubscriptAny (ev_name hx hdb s _ E F.here fun ov s₁ k₁ e₁ => ev_neg ev_int s₁ _ E (F.here.keeps k₁) fun iv s₂ k₂ e₂ => ?_))
  cases e₁
  obtain ⟨u, rfl⟩ := e₂
  have k' := keeps_trans k₁ k₂
  obtain ⟨vs, ep, hl, hi⟩ := hW.keeps k'
  have hlen := ints_len hi
  obtain ⟨t, ht⟩ := ints_at (i := ns.length - 1) hi (by omega)
  refine wpAny_getItem_list_neg (isList_of hl) (by decide) (by rw [List.size_toArray]; omega) (by decide) (x := .int (ns.getD (ns.length - 1) 0) t) ?_ ?_
  · have : ((-1 : Int) + (vs.toArray.size : Int)).toNat = ns.length - 1 := by rw [List.size_toArray]; omega
    rw [this]
    simpa using ht
  · refine ev_int s₂ _ E (F.here.keeps k') fun v s₃ k₃ e₃ => ?_
    obtain ⟨t', rfl⟩ := e₃
    refine wpAny_iadd_int ?_
    have k'' := keeps_trans (keeps_trans k' k₃) (keeps_toks s₃ (s₃.toks + 1))
    obtain ⟨vs', ep', hl', hi'⟩ := hW.keeps k''
    have hlen' := ints_len hi'
    refine setItem_last hl' (by omega) fun h' ep'' hg hs => ?_
    refine h _ ((F.keeps k'').touch hD hoff hoffC hs ⟨_, hg⟩) ⟨_, ep'', hg, ?_⟩
    rw [hlen']
    exact ints_set _ _ _ hi'

/-- l.append(1) -/
theorem ex_append {D : Addr} {x : Str} {px apos pos spos p1 : Pos} {k1 : Nat} {i : Int} {ns : List Int} (F : InF c sB env O X ρ s) (hD : D ∈ O) (hoff : D ≠ env.locals) (hoffC : ∀ n, env.cells.lookup n ≠ some D) (hW : OwnI D ns s.heap) (hn : ns.length ≤ 1000)
    (hx : ρ.lookup x = some (RV (.ref D))) (hdb : (x == ("__debug__" : Str)) = false)
    (hbase : ∀ w, attributeBase (.Name x px) "append" env w = w := by intro _; rfl) (hline : (apos.endLine == pos.line) = true := by rfl)
    (hint : interactive env = false := by rfl) (hs : swapsWith (.Call (.Attribute (.Name x px) "append" apos) [.Constant (.int i) k1 p1] [] pos) none spos.line env = pure false := by rfl)
    (h : ∀ s', InF c sB env O X ρ s' → OwnI D (ns ++ [i]) s'.heap → wpAny c.M A (execs rest env) Qf E s') :
    wpAny c.M A (execs (.Expr (.Call (.Attribute (.Name x px) "append" apos) [.Constant (.int i) k1 p1] [] pos) spos :: rest) env) Qf E s := by
  refine wpAny_execs_cons (wpAny_Expr_any ?_ hint hs)
  rw [arm_eval_Call, hbase]
  refine wpAny_bind (ev_name hx hdb s _ E F.here fun v s₁ k₁ hr => wpAny_bind (wpAny_standAt ?_))
  cases hr
  show wpAny c.M A (methodCall (.Name x px) "append" apos pos env (.ref D) 1 (backTo pos (starEach [.Constant (.int i) k1 p1] env)) []) _ E s₁
  unfold methodCall
  have hform : methodCallForm 1 (backTo pos (starEach [.Constant (.int i) k1 p1] env)) [] = true := rfl
  rw [hform]
  obtain ⟨vs, ep, hl, hi⟩ := hW.keeps k₁
  refine wpAny_bind (wpAny_holding (getMethod_builtin (isList_of hl).typeIs PySem.F.plainAttrs_list PySem.F.slot_list_append PySem.F.type_list_append (fun b e => by cases e; exact ⟨_, hl, rfl⟩) ?_))
  dsimp only
  have hp : methodCallPos true (.Name x px) env apos pos = pure pos := by
    unfold methodCallPos
    rw [hline]; rfl
  rw [hp]
  refine wpAny_bind (wpAny_pure ?_)
  refine callWith_builtin rfl ?_
  have h3 := evs_cons (c := c) (A := A) (env := env) (X := X) (ρ := ρ) (ev_int (i := i) (k := k1) (pos := p1)) evs_nil rfl s₁ pos
    (fun us s₂ => wpAny c.M A (call (.builtin "list.append") ([.ref D] ++ us) []) (fun _ s' => wpAny c.M A (execs rest env) Qf E s') E s₂) E (F.here.keeps k₁) fun us s₂ k₂ hu => by
      unfold AllOn at hu
      cases hu with | cons hu1 hu => cases hu with | nil =>
      obtain ⟨t, rfl⟩ := hu1
      have k' := keeps_trans k₁ k₂
      obtain ⟨vs, ep, hl, hi⟩ := hW.keeps k'
      have hlen := ints_len hi
      refine wpAny_list_append_plain (items := vs.toArray) ⟨ep, hl⟩ (fun h₂ hl₂ hs₂ => ?_) (by rw [List.size_toArray, sizeLine_eq]; omega)
      obtain ⟨ep₂, hl₂⟩ := hl₂
      exact h _ ((F.keeps k').touch hD hoff hoffC hs₂ ⟨_, hl₂⟩) ⟨vs ++ [.int i t], ep₂, by simpa using hl₂, hi.append (.cons i t .nil)⟩
  exact evalArgs_plain h3

/-! ## _law_sizes -/
def sizeStep (cuts : Int) (ns : List Int) (gap : Int) : List Int := if (Builtin.bitAnd (cuts.fdiv (2 ^ gap.toNat)) 1 != 0) = true then ns ++ [1] else lastUp ns
def sizesF (cuts : Int) : List Int := (uptoN 3).foldl (sizeStep cuts) [1]
theorem lastUp_len (ns : List Int) : (lastUp ns).length = ns.length := by unfold lastUp; rw [List.length_set]
theorem sizes_len (cuts : Int) : ∀ (l : List Int) (ns : List Int), 0 < ns.length → 0 < (l.foldl (sizeStep cuts) ns).length ∧ (l.foldl (sizeStep cuts) ns).length ≤ ns.length + l.length
  | [], ns, h => ⟨h, by simp⟩
  | g :: r, ns, h => by
    rw [List.foldl_cons]
    have h1 : 0 < (sizeStep cuts ns g).length ∧ (sizeStep cuts ns g).length ≤ ns.length + 1 := by
      unfold sizeStep
      split
      · rw [List.length_append]; simp
      · rw [lastUp_len]; omega
    have h2 := sizes_len cuts r (sizeStep cuts ns g) h1.1
    rw [List.length_cons]
    omega

set_option maxHeartbeats 1000000 in
theorem fun_sizes (hc : c.fns = theFns) {cuts : Int} : Fun c 1 "_law_sizes" [RI cuts] (RLI (sizesF cuts)) := by
  refine fun_intro (d := fnAt 14) ["cuts"] (fnAt_mem hc) (by intro pm cd doc vals hv; match vals, hv with | [x], _ => rfl) (by rfl) ?_
  intro A env X s Q E hA hsc F h
  have hk : ∀ x k, (fnAt 14).scope.names.lookup x = some k → env.kindOf x = some k := fun x k e => by unfold Env.kindOf; rw [hsc]; exact e
  have hb : (fnAt 14).body = (fnAt 14).body := rfl
  conv at hb => rhs; whnf
  rw [hb]
  have hA0 : AOk 0 A := hA.less (by decide)
  have hint : interactive env = false := by unfold interactive; rw [hsc]; rfl
  refine wpAny_execs_cons (wpAny_Assign_Name (wpAny_List (evs_cons (ev_int (i := 1)) evs_nil rfl s _ _ E F.here fun vs s₁ k₁ hv => ⟨by rw [← hv.length, sizeLine_eq]; simp, ?_⟩)))
  have F₀ := F.keeps k₁
  have hi1 : IntsAre vs [1] := ints_of hv
  have F₁ := F₀.adopt (o := { cls := .type "list", data := .seq vs.toArray }) rfl
  have hDn : s.heap.get? s₁.heap.objs.size = none := by
    cases e : s.heap.get? s₁.heap.objs.size with
    | none => rfl
    | some o => exact absurd (Heap.lt_size (keeps_get k₁ e)) (Nat.lt_irrefl _)
  have hDX : s₁.heap.objs.size ∉ X := fresh_of F₀.here.xok
  have hW : OwnI s₁.heap.objs.size [1] (s₁.heap.push { cls := .type "list", data := .seq vs.toArray }) := ⟨vs, 0, Heap.get?_push_size _ rfl, hi1⟩
  generalize hDe : s₁.heap.objs.size = D at *
  have hoff : D ≠ env.locals := fun q => hDX (q ▸ F.hidL)
  have hoffC : ∀ n, env.cells.lookup n ≠ some D := fun n q => hDX (F.hidC n D q)
  refine store_ (r := RV (.ref D)) (F₁.reown (O' := []) fun _ h => nomatch h) (.inl (hk _ _ rfl)) rfl fun s₂ F₂ => ?_
  have hW₂ : OwnI D [1] s₂.heap := hW.at fun o e => F₂.keep D o hoff hoffC (fun h => nomatch h) e
  have F₃ := F₁.trans (F₂.widen (O := [D]) F₁.hidO)
  have stab : ∀ (f : Nat → List Int) (i : Nat) (I : Addr) (s s' : Shared), I ∉ D :: X → Turned env [] I s s' → (OwnI D (f i) s.heap → OwnI D (f i) s'.heap) := fun f i I s s' hI T hO =>
    hO.at fun o e => T.keep D o hoff hoffC (fun h => nomatch h) (fun q => hI (q ▸ List.mem_cons_self ..)) e
  refine ex_for (O := [D]) (fun _ => [("sizes", RV (.ref D)), ("cuts", RI cuts)]) (fun i s => OwnI D (((uptoN 3).take i).foldl (sizeStep cuts) [1]) s.heap) (fun _ => False) F₃
    (draws_walk (xs := uptoN 3) RI (fun n => [("gap", RI n)]) (ev_builtin (rs := [RI 3]) (f := .type "range") (by decide) (by decide +kernel) (.inr ⟨_, rfl⟩) call_range hA0 (evs_cons ev_int evs_nil) (hk _ _ rfl))
      (it_range hA0 (by decide) (by decide)) fun p _ => asg_name (.inl (hk _ _ rfl)))
    (sub_cons rfl (sub_cons rfl (sub_nil _))) hW₂ (stab _) ?_ (fun _ _ _ f => f.elim) ?_
  · intro i tt X' s' Q' E' hi hX' hJ F' hq _
    rw [List.getElem?_map] at hi
    obtain ⟨g, hg, rfl⟩ := Option.map_eq_some_iff.mp hi
    have hgi := ints_get hg
    have hlen := sizes_len cuts ((uptoN 3).take i) [1] (by simp)
    have hl3 : ((uptoN 3).take i).length ≤ 3 := by rw [List.length_take, ints_length]; omega
    refine ex_if (b := Builtin.bitAnd (cuts.fdiv (2 ^ g.toNat)) 1 != 0) (F'.reown (O' := []) fun _ h => nomatch h) (tr_int (ev_bin (ev_bin (ev_name rfl) (ev_name rfl) (op_rshift (by omega))) ev_int op_and)) (fun hb s₅ F₅ => ?_) (fun hb s₅ F₅ => ?_)
    · have hO₅ := hJ.at fun o e => F₅.keep D o hoff hoffC (fun h => nomatch h) e
      refine ex_append (F'.trans (F₅.widen (O := [D]) F'.hidO)) (List.mem_singleton.mpr rfl) hoff hoffC hO₅ (by have h9 := hlen.2; rw [List.length_singleton] at h9; omega) rfl rfl (hint := hint) (h := fun s₆ F₆ hO₆ => ex_nil (ex_nil (hq s₆ (F₆.weak (sub_cons rfl (sub_cons rfl (sub_nil _)))) ?_)))
      rw [foldl_take_succ _ _ _ hg, sizeStep, if_pos hb]
      exact hO₆
    · have hO₅ := hJ.at fun o e => F₅.keep D o hoff hoffC (fun h => nomatch h) e
      refine ex_auglast (F'.trans (F₅.widen (O := [D]) F'.hidO)) (List.mem_singleton.mpr rfl) hoff hoffC hO₅ hlen.1 rfl rfl fun s₆ F₆ hO₆ => ex_nil (ex_nil (hq s₆ (F₆.weak (sub_cons rfl (sub_cons rfl (sub_nil _)))) ?_))
      rw [foldl_take_succ _ _ _ hg, sizeStep, if_neg (by rw [hb]; simp)]
      exact hO₆
  · intro s₅ hW₅ F₅
    rw [List.length_map, List.take_length] at hW₅
    refine ex_return (r := RV (.ref D)) (F₅.reown (O' := []) fun _ h => nomatch h) (ev_name rfl) fun v s₆ F₆ hv => ?_
    cases hv
    obtain ⟨vs', ep', hg', hi'⟩ := hW₅.at fun o e => F₆.keep D o hoff hoffC (fun h => nomatch h) e
    exact h _ s₆ ((F₅.trans (F₆.widen (O := [D]) F₅.hidO)).release hDn F.hidL F.hidC fun _ h => nomatch h) ⟨D, vs', ep', rfl, hide_of hg' hDX, of_ints hi'⟩
end
end Mine
end

section
set_option maxRecDepth 100000
namespace Mine
open PySem PySem.W PySem.Calls PyProof.Rows

section
variable {c : Cfg} {A : Around} {env : Env} {O X : List Addr} {ρ : Ctxt} {sB s : Shared}

theorem hits_all (hu : A.in1.units + 64 < cLine) {ms : List (Int × Int)} {kb : List (Int × Value)} (hm : Vals ms kb) : ∀ {ks : List (Int × Int)} {ka : List (Int × Value)}, Vals ks ka → (∀ p ∈ ks, look ms p.1 = some p.2) → KeqHits A.in1 s kb ka true := by
  intro ks ka h
  unfold Vals at h
  induction h with
  | nil => intro _; exact .nil
  | @cons p q _ _ h1 _ ih =>
    intro hl
    obtain ⟨k, v⟩ := q
    obtain ⟨e1, t, e2⟩ := h1
    dsimp only at e1 e2
    subst e2
    have hp := hl p (List.mem_cons_self ..)
    rcases hm.look p.1 with ⟨i, t', q1, q2⟩ | ⟨q1, _⟩
    · rw [hp] at q1
      cases q1
      have he := keq_at (A := A) (s := s) (Reads.int p.2 t) (Reads.int p.2 t') rfl rfl hu
      have : KeqHits A.in1 s kb ((k, .int p.2 t) :: _) (_ && true) := .hit (by rw [e1]; exact q2) he (ih fun p' hp' => hl p' (List.mem_cons_of_mem _ hp'))
      simpa [PyData.eqv] using this
    · rw [hp] at q1; cases q1
theorem cmp_neDict {ks ms : List (Int × Int)} (hA : AOk 0 A) (hlen : ks.length = ms.length) (hall : ∀ p ∈ ks, look ms p.1 = some p.2) : CmpIs c A X .NotEq (RD c ks) (RD c ms) false := by
  intro s v₁ v₂ Q E _ r₁ r₂ h
  obtain ⟨a, kvs, rfl, hm, hX, hd, hv⟩ := rd_get r₁
  obtain ⟨a', kvs', rfl, hm', hX', hd', hv'⟩ := rd_get r₂
  have hu := hA.units
  refine keq_ne hm hm' hd hd' (by omega) (r := true) (fun _ => hits_all (A := A) (by show A.units + 1 + 64 < cLine; omega) hv' hv hall) ?_
  rw [← hv.length, ← hv'.length, hlen]
  simpa using h s (keeps_refl s)

theorem call_sorted {ns : List Int} (hl : ns.length < 64) : CallIs c 0 (.builtin "sorted") [RLI ns] (RLI (sortI ns)) := by
  intro A X s vs Q E hA B hx hv h
  unfold AllOn at hv
  cases hv with | cons h1 hv => cases hv with | nil =>
  obtain ⟨a, us, ep, rfl, ho, hX, hp⟩ := seq_get h1
  have hi := ints_of hp
  refine sorted_ints (isList_of ho) hi (by rw [ints_len hi]; exact hl) fun out ns' a1 a2 a3 => ?_
  have e := eq_sortI a2 a3
  subst e
  obtain ⟨ep', he⟩ := sortedAll_at s.heap us out
  have hk : Keeps s { s with heap := sortedAll s.heap us out } := ⟨_, s.toks, rfl, fun b o e => sortedAll_old e⟩
  have hfr : s.heap.objs.size + 1 ∉ X := fun hb => by
    obtain ⟨o, e⟩ := hx _ hb
    exact absurd (Heap.lt_size e) (Nat.not_lt.mpr (Nat.le_succ _))
  exact h _ _ hk ⟨_, out.toList, ep', rfl, hide_of he hfr, of_ints a1⟩

/-- «x and y» of two tests -/
theorem ev_and2 {x y : Expr} {pos : Pos} {a b : Bool} (h1 : Ev c A env X ρ x (RB a)) (h2 : a = true → Ev c A env X ρ y (RB b)) : Ev c A env X ρ (.BoolOp .And [x, y] pos) (RB (a && b)) := fun s Q E H h => by
  refine wpAny_And2 (h1 s _ E H fun v s₁ k₁ e₁ => ?_)
  cases e₁
  refine wpAny_truthy_bool ?_
  cases a with
  | false => exact h _ s₁ k₁ rfl
  | true =>
    exact h2 rfl s₁ _ E (H.keeps k₁) fun v s₂ k₂ e₂ => h v s₂ (keeps_trans k₁ k₂) e₂
end
end Mine
end

section
set_option maxRecDepth 100000
namespace Mine
open PySem PySem.W PySem.Calls PyProof.Rows

/-! ## The counts, multiplied by a share -/
def scale (s : Int) (t : List (Int × Int)) : List (Int × Int) := t.map fun p => (p.1, p.2 * s)
theorem scale_keys (s : Int) (t : List (Int × Int)) : (scale s t).map (·.1) = t.map (·.1) := by
  unfold scale; rw [List.map_map]; rfl
theorem scale_length (s : Int) (t : List (Int × Int)) : (scale s t).length = t.length := List.length_map ..
theorem scale_look (s : Int) (t : List (Int × Int)) (k : Int) : look (scale s t) k = (look t k).map (· * s) := by
  unfold look scale
  rw [List.find?_map, Option.map_map, Option.map_map]
  rfl
theorem scale_put (s : Int) (t : List (Int × Int)) (k x : Int) : put (scale s t) k (x * s) = scale s (put t k x) := by
  unfold put
  have h : (scale s t).any (fun p => decide (p.1 = k)) = t.any (fun p => decide (p.1 = k)) := by
    unfold scale; rw [List.any_map]; rfl
  rw [h]
  split
  · unfold scale
    rw [List.map_map, List.map_map]
    refine List.map_congr_left fun p _ => ?_
    show (if p.1 = k then (p.1, x * s) else (p.1, p.2 * s)) = ((if p.1 = k then (p.1, x) else p).1, (if p.1 = k then (p.1, x) else p).2 * s)
    split <;> rfl
  · unfold scale; rw [List.map_append]; rfl
theorem scale_addStep (s : Int) (t : List (Int × Int)) (p : Int × Int) : addStep (scale s t) (p.1, p.2 * s) = scale s (addStep t p) := by
  unfold addStep
  show (match look (scale s t) p.1 with | some v => put (scale s t) p.1 (v + p.2 * s) | none => put (scale s t) p.1 (p.2 * s)) = _
  rw [scale_look]
  cases look t p.1 with
  | none => exact scale_put s t p.1 p.2
  | some v =>
    show put (scale s t) p.1 (v * s + p.2 * s) = _
    rw [← Int.add_mul]
    exact scale_put s t p.1 (v + p.2)
theorem foldl_scale {α : Type} (s : Int) (f g : List (Int × Int) → α → List (Int × Int)) (h : ∀ t a, f (scale s t) a = scale s (g t a)) : ∀ (l : List α) (t : List (Int × Int)), l.foldl f (scale s t) = scale s (l.foldl g t)
  | [], _ => rfl
  | a :: l, t => by rw [List.foldl_cons, List.foldl_cons, h, foldl_scale s f g h l]
theorem scale_copyD (s : Int) (t : List (Int × Int)) : copyD (scale s t) = scale s (copyD t) := by
  unfold copyD
  have : (scale s t).foldl (fun acc p => put acc p.1 p.2) [] = t.foldl (fun acc p => put acc p.1 (p.2 * s)) (scale s []) := by
    unfold scale; rw [List.foldl_map]; rfl
  rw [this]
  exact foldl_scale s _ _ (fun u p => scale_put s u p.1 p.2) t []
theorem scale_addC1 (s : Int) (t : List (Int × Int)) (k x : Int) : addC (scale s t) [(k, x * s)] = scale s (addC t [(k, x)]) := by
  unfold addC
  rw [scale_copyD]
  exact scale_addStep s (copyD t) (k, x)
theorem scale_cnt (s v : Int) (m : Nat) : cntOf (v * s) m = cntOf v m * s := by
  unfold cntOf
  split
  · rw [Int.neg_mul]
  · rfl
theorem scale_moveAt (s n w b v : Int) (g : List (Int × Int)) (place : Int) : moveAt n w b (v * s) (scale s g) place = scale s (moveAt n w b v g place) := by
  unfold moveAt
  split
  · rfl
  · rw [scale_cnt]; exact scale_addC1 ..
theorem scale_moved (s : Int) (t : List (Int × Int)) (n w : Int) : moved (scale s t) n w = scale s (moved t n w) := by
  unfold moved
  have : (scale s t).foldl (beadsMove n w) [] = t.foldl (fun g p => beadsMove n w g (p.1, p.2 * s)) (scale s []) := by
    unfold scale; rw [List.foldl_map]; rfl
  rw [this]
  refine foldl_scale s _ _ (fun g p => ?_) t []
  unfold beadsMove
  exact foldl_scale s _ _ (fun g' a => scale_moveAt s n w p.1 p.2 g' a) (held p.1) g
theorem scale_toldT (s : Int) (ns : List Int) (w : Int) : toldT ns w s = scale s (toldT ns w 1) := by
  unfold toldT
  have : [((15 : Int), s)] = scale s [(15, 1)] := by show _ = [((15 : Int), 1 * s)]; rw [Int.one_mul]
  rw [this]
  exact foldl_scale s _ _ (fun t n => scale_moved s t n w) ns _
theorem scale_putAll (s : Int) (fv : Int → Int) (l : List Int) : putAll (fun k => fv k * s) l = scale s (putAll fv l) := by
  unfold putAll
  exact foldl_scale s _ _ (fun t k => scale_put s t k (fv k)) l []
theorem scale_told (s : Int) (hs : s ≠ 0) (ns : List Int) (w : Int) : told ns w s = scale s (told ns w 1) := by
  unfold told
  have hl : ∀ k, (look (toldT ns w s) k).getD 0 = (look (toldT ns w 1) k).getD 0 * s := fun k => by
    rw [scale_toldT, scale_look]
    cases look (toldT ns w 1) k with
    | none => simp
    | some v => rfl
  have hk : (toldT ns w s).map (·.1) = (toldT ns w 1).map (·.1) := by rw [scale_toldT, scale_keys]
  have hf : (fun k => (look (toldT ns w s) k).getD 0) = fun k => (look (toldT ns w 1) k).getD 0 * s := funext hl
  have hp : (fun k => (look (toldT ns w s) k).getD 0 != 0) = fun k => (look (toldT ns w 1) k).getD 0 != 0 := funext fun k => by
    rw [hl]
    by_cases h : (look (toldT ns w 1) k).getD 0 = 0
    · rw [h]; simp
    · have h2 : (look (toldT ns w 1) k).getD 0 * s ≠ 0 := Int.mul_ne_zero h hs
      rw [bne_iff_ne.mpr h, bne_iff_ne.mpr h2]
  rw [hf, hp, hk]
  exact scale_putAll ..
end Mine
end

section
set_option maxRecDepth 100000
namespace Mine
open PySem PySem.W PySem.Calls PyProof.Rows

/-! ## The tables, written out -/
def comps : List (List Int) := [[4], [1, 3], [2, 2], [1, 1, 2], [3, 1], [1, 2, 1], [2, 1, 1], [1, 1, 1, 1]]
def ways : List Int := [-1, 1, 2, -3]
def tab : List Int → List (Int × Int)
  | [4] => [(30, -1), (45, 1), (75, -1), (135, 1)]
  | [1, 3] => [(30, 1), (51, -1), (135, 1)]
  | [2, 2] => [(30, 1), (51, 2), (75, -1), (45, -1), (135, 1)]
  | [1, 1, 2] => [(30, -1), (75, 1), (45, -1), (135, 1)]
  | [3, 1] => [(30, 1), (51, -1), (135, 1)]
  | [1, 2, 1] => [(30, -1), (45, -1), (75, 1), (135, 1)]
  | [2, 1, 1] => [(30, -1), (45, -1), (75, 1), (135, 1)]
  | [1, 1, 1, 1] => [(30, 1), (45, 3), (51, 2), (75, 3), (135, 1)]
  | _ => []
theorem tab_told : ∀ w ∈ ways, ∀ ns ∈ comps, told ns w 1 = tab ns := by decide +kernel
def goodB (t : List (Int × Int)) (n : Int) : Bool :=
  decide (t.length ≤ 40) && decide (1 ≤ n) && decide (n ≤ 8) && decide ((t.map (·.1)).Nodup) && t.all fun p => (held p.1).all fun q => decide (q + n < 8)
theorem good_of {t : List (Int × Int)} {n : Int} (h : goodB t n = true) : goodMove t n := by
  unfold goodB at h
  simp only [Bool.and_eq_true, decide_eq_true_eq, List.all_eq_true] at h
  obtain ⟨⟨⟨⟨h1, h2⟩, h3⟩, h4⟩, h5⟩ := h
  exact ⟨h1, h2, h3, h4, h5⟩
theorem tab_good : ∀ w ∈ ways, ∀ ns ∈ comps, (toldT ns w 1).length ≤ 1000 ∧ ∀ i ∈ [0, 1, 2, 3], ∀ n ∈ ns[i]?.toList, goodB (toldT (ns.take i) w 1) n = true := by decide +kernel
theorem scale_good {t : List (Int × Int)} {n : Int} (s : Int) (h : goodMove t n) : goodMove (scale s t) n := by
  obtain ⟨h1, h2, h3, h4, h5⟩ := h
  refine ⟨by rw [scale_length]; exact h1, h2, h3, by rw [scale_keys]; exact h4, fun p hp q hq => ?_⟩
  unfold scale at hp
  obtain ⟨p', hp', rfl⟩ := List.mem_map.mp hp
  exact h5 p' hp' q hq
theorem comps_len : ∀ ns ∈ comps, ns.length ≤ 4 ∧ ∀ n ∈ ns, 1 ≤ n ∧ n ≤ 8 := by decide +kernel
theorem comps_rev : ∀ ns ∈ comps, pickL ns none none (some (-1)) ∈ comps := by decide +kernel
theorem comps_rings : ∀ ns ∈ comps, ∀ i ∈ [0, 1, 2, 3, 4], (rings (ns.take i)).length ≤ 500 := by decide +kernel
theorem comps_same : ∀ ns ∈ comps, ∀ k ∈ uptoN ns.length, (cnt1 ns k).natAbs < 2 ^ 60 ∧ (ns.getD k.toNat 0 * cnt1 ns k).natAbs < 2 ^ 60 := by decide +kernel
theorem sizes_in : ∀ m ∈ uptoN 8, sizesF m ∈ comps := by decide +kernel
/-! ## The law of the tables at share 1 -/
theorem tab_rev : ∀ ns ∈ comps, (tab ns).length = (tab (pickL ns none none (some (-1)))).length ∧ ∀ p ∈ tab ns, look (tab (pickL ns none none (some (-1)))) p.1 = some p.2 := by decide +kernel
theorem tab_roots : ∀ ns ∈ comps, countC (tab ns) = rootsF ns ∧ (rootsF ns).natAbs < 2 ^ 60 := by decide +kernel
def sqs (t : List (Int × Int)) : Int := ((t.filter fun _ => true).map fun p => p.2 * p.2).sum
def crs (t u : List (Int × Int)) : Int := ((t.filter fun _ => true).map fun p => p.2 * (look u p.1).getD 0).sum
theorem tab_same : ∀ ns ∈ comps, sqs (tab ns) = sameF ns ∧ (sameF ns).natAbs < 2 ^ 60 := by decide +kernel
theorem tab_cross : ∀ ns ∈ comps, ∀ ms ∈ comps, crs (tab ns) (tab ms) = if sortI ns = sortI ms then sqs (tab ns) else 0 := by decide +kernel
theorem tab_small : ∀ ns ∈ comps, (tab ns).length ≤ 5 ∧ ((tab ns).map (·.1)).Nodup ∧ ∀ p ∈ tab ns, p.2.natAbs ≤ 3 := by decide +kernel
end Mine
end

section
set_option maxRecDepth 100000
namespace Mine
open PySem PySem.W PySem.Calls PyProof.Rows

theorem sum_scale {α : Type} (f : α → Int) (k : Int) : ∀ l : List α, (l.map fun a => f a * k).sum = (l.map f).sum * k
  | [] => by simp
  | a :: l => by rw [List.map_cons, List.map_cons, List.sum_cons, List.sum_cons, sum_scale f k l, Int.add_mul]
theorem filter_all {α : Type} (l : List α) : (l.filter fun _ => true) = l := List.filter_eq_self.mpr fun _ _ => rfl
theorem scale_count (s : Int) (t : List (Int × Int)) : countC (scale s t) = s * countC t := by
  have h : ∀ (l : List (Int × Int)) (n : Int), (scale s l).foldl (fun n p => n + p.2) (s * n) = s * l.foldl (fun n p => n + p.2) n := by
    intro l
    induction l with
    | nil => intro n; rfl
    | cons p r ih =>
      intro n
      show (scale s r).foldl (fun n p => n + p.2) (s * n + p.2 * s) = s * r.foldl (fun n p => n + p.2) (n + p.2)
      rw [← ih, Int.mul_add, Int.mul_comm p.2 s]
  have := h t 0
  rw [Int.mul_zero] at this
  exact this
theorem scale_sqs (s : Int) (t : List (Int × Int)) : sqs (scale s t) = s * s * sqs t := by
  unfold sqs scale
  rw [filter_all, filter_all, List.map_map, Int.mul_comm (s * s), ← sum_scale]
  congr 1
  refine List.map_congr_left fun p _ => ?_
  show p.2 * s * (p.2 * s) = p.2 * p.2 * (s * s)
  simp only [Int.mul_assoc, Int.mul_left_comm, Int.mul_comm]
theorem scale_crs (s : Int) (t u : List (Int × Int)) : crs (scale s t) (scale s u) = s * s * crs t u := by
  unfold crs
  rw [filter_all, filter_all]
  have : ((scale s t).map fun p => p.2 * (look (scale s u) p.1).getD 0) = t.map fun p => p.2 * (look u p.1).getD 0 * (s * s) := by
    unfold scale
    rw [List.map_map]
    refine List.map_congr_left fun p _ => ?_
    show p.2 * s * (look (scale s u) p.1).getD 0 = _
    rw [scale_look]
    have e : ((look u p.1).map (· * s)).getD 0 = (look u p.1).getD 0 * s := by
      cases look u p.1 with
      | none => simp
      | some v => rfl
    rw [e]
    simp only [Int.mul_assoc, Int.mul_left_comm, Int.mul_comm]
  rw [this, sum_scale, Int.mul_comm]
theorem look_mem {t : List (Int × Int)} {k v : Int} (h : look t k = some v) : ∃ p ∈ t, p.2 = v := by
  unfold look at h
  obtain ⟨p, hp, rfl⟩ := Option.map_eq_some_iff.mp h
  exact ⟨p, List.mem_of_find?_eq_some hp, rfl⟩
/-- the products that the law makes are not too long -/
theorem mul_scaled {a b s : Int} {m : Nat} (hs : Builtin.Int.intBits s ≤ m) (ha : a.natAbs ≤ 3) (hb : b.natAbs ≤ 3) (hm : m ≤ 2000000) : IntMulOk (a * s) (b * s) := by
  have h2 : ∀ a : Int, a.natAbs ≤ 3 → Builtin.Int.intBits a ≤ 2 := fun a h => intBits_le_iff.mpr (by omega)
  exact IntMulOk.of_le (intBits_mul_le (h2 a ha) hs) (intBits_mul_le (h2 b hb) hs) (by omega)

variable {c : Cfg} {C fI fC : Addr}
theorem fun_tab (hc : c.fns = theFns) (hC : ClsK c C fI fC) {ns : List Int} {w sh : Int} (hn : ns ∈ comps) (hw : w ∈ ways) (hs : sh ≠ 0) : Fun c 5 "_law_told" [RLI ns, RI w, RI sh] (RD c (scale sh (tab ns))) := by
  have hw3 : w.natAbs ≤ 3 := by revert w; decide
  have hg := tab_good w hw ns hn
  rw [← tab_told w hw ns hn, ← scale_told sh hs]
  have hl4 := (comps_len ns hn).1
  refine fun_told hc hC hw3 (by omega) (by rw [scale_toldT, scale_length]; exact hg.1) fun i n hi => ?_
  rw [scale_toldT]
  refine scale_good sh (good_of (hg.2 i ?_ n (by rw [hi]; simp)))
  have hlt := (List.getElem?_eq_some_iff.mp hi).1
  have h4 : i < 4 := by omega
  match i, h4 with
  | 0, _ => decide
  | 1, _ => decide
  | 2, _ => decide
  | 3, _ => decide
theorem fun_rootsT (hc : c.fns = theFns) {ns : List Int} (hn : ns ∈ comps) : Fun c 1 "_law_roots" [RLI ns] (RI (rootsF ns)) := by
  refine fun_roots hc (comps_len ns hn).2 fun i => ?_
  have hr := comps_rings ns hn
  by_cases h4 : i < 4
  · refine hr i ?_
    match i, h4 with
    | 0, _ => decide
    | 1, _ => decide
    | 2, _ => decide
    | 3, _ => decide
  · have := hr 4 (by decide)
    have hl4 := (comps_len ns hn).1
    rw [List.take_of_length_le hl4] at this
    rw [List.take_of_length_le (by omega)]
    exact this
theorem fun_sameT (hc : c.fns = theFns) {ns : List Int} (hn : ns ∈ comps) : Fun c 1 "_law_same" [RLI ns] (RI (sameF ns)) :=
  fun_same hc (by have := (comps_len ns hn).1; omega) (comps_same ns hn)
end Mine
end

section
set_option maxRecDepth 100000
namespace Mine
open PySem PySem.W PySem.Calls PyProof.Rows

section
variable {c : Cfg} {A : Around} {env : Env} {O X : List Addr} {ρ : Ctxt} {sB s : Shared} {C fI fC : Addr}

theorem ev_sum {e : Expr} {p pos : Pos} {ns : List Int} (hA : AOk 0 A) (h : Ev c A env X ρ e (RLI ns)) (hk : env.kindOf "sum" = some .globalImplicit)
    (he : starEach [e] env = (false, eval e env) :: starEach [] env := by rfl) : Ev c A env X ρ (.Call (.Name "sum" p) [e] [] pos) (RI ns.sum) :=
  ev_builtin (rs := [RLI ns]) (f := .builtin "sum") (by decide) (by decide +kernel) (.inl ⟨_, rfl⟩) call_sum hA (evs_cons h evs_nil he) hk rfl he

/-! ## law, plain -/
def totalF (xs : List Int) : Int := (pickL xs none (some 63) none).sum
def shareF (xs : List Int) : Int := (totalF xs).fdiv 4 * 2 - 3
def wayF (xs : List Int) : Int := ways.getD ((totalF xs).fmod 4).toNat 0
def firstF (xs : List Int) : List Int := sizesF ((6 + (pickL xs (some 0) (some 60) (some 2)).sum).fmod 8)
def secondF (xs : List Int) : List Int := sizesF ((2 + (pickL xs (some 1) (some 60) (some 2)).sum).fmod 8)
theorem fmod_in {n : Nat} (hn : 0 < n) (a : Int) : 0 ≤ a.fmod n ∧ a.fmod n < n := ⟨Int.fmod_nonneg_of_pos _ (by omega), Int.fmod_lt_of_pos _ (by omega)⟩
theorem sizes_comps (a : Int) : sizesF (a.fmod 8) ∈ comps := by
  have h := fmod_in (n := 8) (by decide) a
  refine sizes_in _ (List.mem_of_getElem? (uptoN_get h.1 h.2))
theorem way_at (xs : List Int) : ways[((totalF xs).fmod 4).toNat]? = some (wayF xs) := by
  have h : 0 ≤ (totalF xs).fmod 4 ∧ (totalF xs).fmod 4 < 4 := fmod_in (n := 4) (by decide) (totalF xs)
  unfold wayF
  have hlt : ((totalF xs).fmod 4).toNat < ways.length := by show _ < 4; omega
  rw [List.getElem?_eq_getElem hlt]
  simp [List.getD, hlt]
theorem way_in (xs : List Int) : wayF xs ∈ ways := List.mem_of_getElem? (way_at xs)
theorem share_ne (xs : List Int) : shareF xs ≠ 0 := by unfold shareF; omega

set_option maxHeartbeats 4000000 in
theorem fun_law (hc : c.fns = theFns) (hC : ClsK c C fI fC) {xs : List Int} (hx : xs.length ≤ 63) (hbits : Builtin.Int.intBits (shareF xs) ≤ 2000000) : Fun c 6 "law" [RLI xs] (RB true) := by
  refine fun_intro (d := fnAt 19) ["script"] (fnAt_mem hc) (by intro pm cd doc vals hv; match vals, hv with | [x], _ => rfl) (by rfl) ?_
  intro A env X s Q E hA hsc F h
  have hk : ∀ x k, (fnAt 19).scope.names.lookup x = some k → env.kindOf x = some k := fun x k e => by unfold Env.kindOf; rw [hsc]; exact e
  have hb : (fnAt 19).body = (fnAt 19).body := rfl
  conv at hb => rhs; whnf
  rw [hb]
  have hA0 : AOk 0 A := hA.less (by decide)
  have hA1 : AOk 1 A := hA.less (by decide)
  have hcell : ∀ m, env.kindOf m = some .cell → ∃ a, env.cells.lookup m = some a := fun m hm => (F.cell m hm).elim fun a ha => ha.elim fun v hv => ⟨a, hv.1⟩
  have hm4 : 0 ≤ (totalF xs).fmod 4 ∧ (totalF xs).fmod 4 < 4 := fmod_in (n := 4) (by decide) (totalF xs)
  have h1 : firstF xs ∈ comps := sizes_comps _
  have h2 : secondF xs ∈ comps := sizes_comps _
  have hw := way_in xs
  have hs := share_ne xs
  have hl1 := (comps_len _ h1).1
  have hl2 := (comps_len _ h2).1
  have hway : (ways.map RI)[((totalF xs).fmod 4).toNat]? = some (RI (wayF xs)) := by rw [List.getElem?_map, way_at]; rfl
  -- total
  refine ex_assign (r := RI (totalF xs)) F (ev_sum hA0 (ev_pick (ev_name rfl) (ev_slice pt_none (pt_some ev_int) pt_none) (by decide) (by omega)) (hk _ _ rfl)) (.inl (hk _ _ rfl)) (fun s₁ F₁ => ?_)
  -- way, share
  refine ex_assign_swapped (r := RI (wayF xs)) (q := RI (shareF xs)) F₁ hA0
    (ev_tuple (evs_cons (ev_sub (r₁ := RT (ways.map RI)) (r₂ := RI ((totalF xs).fmod 4)) (ev_tuple (evs_cons (ev_neg ev_int) (evs_cons ev_int (evs_cons ev_int (evs_cons (ev_neg ev_int) evs_nil)))) (by simp [ways]))
        (ev_bin (ev_name rfl) ev_int (op_mod (by decide))) (item_tuple hm4.1 (by omega) hway))
      (evs_cons (ev_bin (ev_bin (ev_bin (ev_name rfl) ev_int (op_floordiv (by decide) (by decide))) ev_int (op_mul (mul_of_right (by decide)))) ev_int op_sub) evs_nil)) (by simp))
    (hk _ _ rfl) (hk _ _ rfl) (by rw [swapped_scope hsc]; rfl) fun s₂ F₂ => ?_
  -- first, second
  refine ex_assign_swapped (r := RLI (firstF xs)) (q := RLI (secondF xs)) F₂ hA0
    (ev_tuple (evs_cons (ev_call (d := fnAt 14) (fnAt_mem hc) rfl (fun_sizes hc) hA1 (evs_cons (ev_bin (ev_bin ev_int (ev_sum hA0 (ev_pick (ns := xs) (ev_name rfl) (ev_slice (pt_some ev_int) (pt_some ev_int) (pt_some ev_int)) (by decide) (by omega)) (hk _ _ rfl)) op_add) ev_int (op_mod (by decide))) evs_nil) (hk _ _ rfl))
      (evs_cons (ev_call (d := fnAt 14) (fnAt_mem hc) rfl (fun_sizes hc) hA1 (evs_cons (ev_bin (ev_bin ev_int (ev_sum hA0 (ev_pick (ns := xs) (ev_name rfl) (ev_slice (pt_some ev_int) (pt_some ev_int) (pt_some ev_int)) (by decide) (by omega)) (hk _ _ rfl)) op_add) ev_int (op_mod (by decide))) evs_nil) (hk _ _ rfl)) evs_nil)) (by simp))
    (hk _ _ rfl) (hk _ _ rfl) (by rw [swapped_scope hsc]; rfl) fun s₃ F₃ => ?_
  -- told, other
  refine ex_assign_tuple (r := RT [RD c (scale (shareF xs) (tab (firstF xs))), RD c (scale (shareF xs) (tab (secondF xs)))]) (new := [("other", RD c (scale (shareF xs) (tab (secondF xs)))), ("told", RD c (scale (shareF xs) (tab (firstF xs))))]) F₃
    (ev_tuple (evs_cons (ev_call (d := fnAt 16) (fnAt_mem hc) rfl (fun_tab hc hC h1 hw hs) hA (evs_cons (ev_name rfl) (evs_cons (ev_name rfl) (evs_cons (ev_name rfl) evs_nil))) (hk _ _ rfl))
      (evs_cons (ev_call (d := fnAt 16) (fnAt_mem hc) rfl (fun_tab hc hC h2 hw hs) hA (evs_cons (ev_name rfl) (evs_cons (ev_name rfl) (evs_cons (ev_name rfl) evs_nil))) (hk _ _ rfl)) evs_nil)) (by simp))
    (asg_tuple2 hA0 (.inr (hk _ _ rfl)) (.inr (hk _ _ rfl))) (by rw [swapped_scope hsc]; rfl) fun s₄ F₄ => ?_
  have hrev := comps_rev _ h1
  have htr := tab_rev _ h1
  have hsm := tab_small _ h1
  have hsm2 := tab_small _ h2
  have hT1 : (scale (shareF xs) (tab (firstF xs))).length ≤ 1000 := by rw [scale_length]; have := hsm.1; omega
  have hnd : ((scale (shareF xs) (tab (firstF xs))).map (·.1)).Nodup := by rw [scale_keys]; exact hsm.2.1
  -- if told != ..
  refine ex_if (b := false) F₄ (tr_cmp (r₁ := RD c (scale (shareF xs) (tab (firstF xs)))) (r₂ := RD c (scale (shareF xs) (tab (pickL (firstF xs) none none (some (-1)))))) (ev_name rfl)
      (ev_call (d := fnAt 16) (fnAt_mem hc) rfl (fun_tab hc hC hrev hw hs) hA (evs_cons (ev_pick (ns := firstF xs) (ev_name rfl) (ev_slice pt_none pt_none (pt_some (ev_neg ev_int))) (by decide) (by omega)) (evs_cons (ev_name rfl) (evs_cons (ev_name rfl) evs_nil))) (hk _ _ rfl))
      (cmp_neDict hA0 (by rw [scale_length, scale_length]; exact htr.1) (fun p hp => ?_))) (fun h => nomatch h) (fun _ s₅ F₅ => ex_nil ?_)
  · unfold scale at hp
    obtain ⟨p', hp', rfl⟩ := List.mem_map.mp hp
    rw [scale_look]
    show (look _ p'.1).map _ = some (p'.2 * shareF xs)
    rw [htr.2 p' hp']
    rfl
  -- if count_calls ..
  have hr1 := tab_roots _ h1
  have hr2 := tab_roots _ h2
  have hne : ∀ ns, ns ∈ comps → (countC (scale (shareF xs) (tab ns)) != shareF xs * rootsF ns) = false := fun ns hn => by
    rw [scale_count, (tab_roots ns hn).1, bne_self_eq_false]
  refine ex_if (b := (countC (scale (shareF xs) (tab (firstF xs))) != shareF xs * rootsF (firstF xs)) || ((countC (scale (shareF xs) (tab (secondF xs))) != shareF xs * rootsF (secondF xs)) || false)) F₅
    (tr_or_cons (tr_cmp (r₁ := RI _) (r₂ := RI _) (ev_call (d := fnAt 1) (fnAt_mem hc) rfl (fun_count hc) hA1 (evs_cons (ev_name rfl) evs_nil) (hk _ _ rfl))
        (ev_bin (ev_name rfl) (ev_call (d := fnAt 18) (fnAt_mem hc) rfl (fun_rootsT hc h1) hA1 (evs_cons (ev_name rfl) evs_nil) (hk _ _ rfl)) (op_mul (mul_of_right hr1.2))) cmp_ne)
      fun _ => tr_or_cons (tr_cmp (r₁ := RI _) (r₂ := RI _) (ev_call (d := fnAt 1) (fnAt_mem hc) rfl (fun_count hc) hA1 (evs_cons (ev_name rfl) evs_nil) (hk _ _ rfl))
        (ev_bin (ev_name rfl) (ev_call (d := fnAt 18) (fnAt_mem hc) rfl (fun_rootsT hc h2) hA1 (evs_cons (ev_name rfl) evs_nil) (hk _ _ rfl)) (op_mul (mul_of_right hr2.2))) cmp_ne)
      fun _ => tr_or_nil)
    (fun hb => absurd hb (by rw [hne _ h1, hne _ h2]; decide)) (fun _ s₆ F₆ => ex_nil ?_)
  have hmem : ∀ p ∈ scale (shareF xs) (tab (firstF xs)), look (scale (shareF xs) (tab (firstF xs))) p.1 = some p.2 := fun p hp => look_of_mem hnd hp
  have hsmall : ∀ p ∈ scale (shareF xs) (tab (firstF xs)), ∃ a : Int, a.natAbs ≤ 3 ∧ p.2 = a * shareF xs := fun p hp => by
    unfold scale at hp
    obtain ⟨p', hp', rfl⟩ := List.mem_map.mp hp
    exact ⟨p'.2, hsm.2.2 p' hp', rfl⟩
  have hsmall2 : ∀ k : Int, ∃ a : Int, a.natAbs ≤ 3 ∧ (look (scale (shareF xs) (tab (secondF xs))) k).getD 0 = a * shareF xs := fun k => by
    rw [scale_look]
    cases e : look (tab (secondF xs)) k with
    | none => exact ⟨0, by decide, by simp⟩
    | some v =>
      obtain ⟨p, hp, rfl⟩ := look_mem e
      exact ⟨p.2, hsm2.2.2 p hp, rfl⟩
  -- alike
  refine ex_assign (r := RI (sqs (scale (shareF xs) (tab (firstF xs))))) F₆ (ev_sum hA0 (ev_ints
      (ev_listcomp (xs := scale (shareF xs) (tab (firstF xs))) (ρf := [("told", RD c (scale (shareF xs) (tab (firstF xs))))]) (fun p => RI p.1) (fun _ => true) (fun p => RI (p.2 * p.2)) hcell (compOk_of (by rw [hsc]; rfl) rfl rfl)
        (shares_cons (by decide) rfl (hk _ _ rfl) rfl shares_nil) (ev_name rfl) (it_dict hA0) hT1 (fun ce X' a ha hg => trs_nil)
        (fun ce X' a ha _ hg => ev_call (d := fnAt 8) (fnAt_mem hc) rfl (fun_mul hc ?_) hA1
          (evs_cons (ev_sub (r₁ := RD c (scale (shareF xs) (tab (firstF xs)))) (r₂ := RI a.1) (ev_name rfl) (ev_name rfl) (item_dict (hmem a ha)))
            (evs_cons (ev_sub (r₁ := RD c (scale (shareF xs) (tab (firstF xs)))) (r₂ := RI a.1) (ev_name rfl) (ev_name rfl) (item_dict (hmem a ha))) evs_nil)) (hg _ rfl)))) (hk _ _ rfl))
    (.inl (hk _ _ rfl)) (fun s₇ F₇ => ?_) (by rw [swaps_scope hsc]; rfl)
  · obtain ⟨u, hu, e⟩ := hsmall a ha
    rw [e]
    exact mul_scaled hbits hu hu (Nat.le_refl _)
  -- crossed
  refine ex_assign (r := RI (crs (scale (shareF xs) (tab (firstF xs))) (scale (shareF xs) (tab (secondF xs))))) F₇ (ev_sum hA0 (ev_ints
      (ev_listcomp (xs := scale (shareF xs) (tab (firstF xs))) (ρf := [("told", RD c (scale (shareF xs) (tab (firstF xs)))), ("other", RD c (scale (shareF xs) (tab (secondF xs))))]) (fun p => RI p.1) (fun _ => true) (fun p => RI (p.2 * (look (scale (shareF xs) (tab (secondF xs))) p.1).getD 0)) hcell (compOk_of (by rw [hsc]; rfl) rfl rfl)
        (shares_cons (by decide) rfl (hk _ _ rfl) rfl (shares_cons (by decide) rfl (hk _ _ rfl) rfl shares_nil)) (ev_name rfl) (it_dict hA0) hT1 (fun ce X' a ha hg => trs_nil)
        (fun ce X' a ha _ hg => ev_call (d := fnAt 8) (fnAt_mem hc) rfl (fun_mul hc ?_) hA1
          (evs_cons (ev_sub (r₁ := RD c (scale (shareF xs) (tab (firstF xs)))) (r₂ := RI a.1) (ev_name rfl) (ev_name rfl) (item_dict (hmem a ha)))
            (evs_cons (ev_method (r₁ := RD c (scale (shareF xs) (tab (secondF xs)))) (rs := [RI a.1, RI 0]) (ev_name rfl) (meth_dict PySem.F.slot_dict_get PySem.F.type_dict_get) (.inl ⟨_, rfl⟩) call_get hA0 (evs_cons (ev_name rfl) (evs_cons ev_int evs_nil))) evs_nil)) (hg _ rfl)))) (hk _ _ rfl))
    (.inl (hk _ _ rfl)) (fun s₈ F₈ => ?_) (by rw [swaps_scope hsc]; rfl)
  · obtain ⟨u, hu, e⟩ := hsmall a ha
    obtain ⟨u', hu', e'⟩ := hsmall2 a.1
    rw [e, e']
    exact mul_scaled hbits hu hu' (Nat.le_refl _)
  -- the answer
  have hS := tab_same _ h1
  have hX := tab_cross _ h1 _ h2
  have e1 : (sqs (scale (shareF xs) (tab (firstF xs))) == shareF xs * shareF xs * sameF (firstF xs)) = true := by
    rw [scale_sqs, hS.1]; exact beq_self_eq_true _
  have e2 : (crs (scale (shareF xs) (tab (firstF xs))) (scale (shareF xs) (tab (secondF xs))) == if sortI (firstF xs) = sortI (secondF xs) then sqs (scale (shareF xs) (tab (firstF xs))) else 0) = true := by
    rw [scale_crs, scale_sqs, hX]
    split
    · exact beq_self_eq_true _
    · rw [Int.mul_zero]; exact beq_self_eq_true _
  refine ex_return (r := RB ((sqs (scale (shareF xs) (tab (firstF xs))) == shareF xs * shareF xs * sameF (firstF xs)) && (crs (scale (shareF xs) (tab (firstF xs))) (scale (shareF xs) (tab (secondF xs))) == if sortI (firstF xs) = sortI (secondF xs) then sqs (scale (shareF xs) (tab (firstF xs))) else 0))) F₈
    (ev_and2 (ev_cmp (r₁ := RI _) (r₂ := RI _) (ev_name rfl) (ev_bin (ev_bin (ev_name rfl) (ev_name rfl) (op_mul (IntMulOk.of_le hbits hbits (by decide))))
        (ev_call (d := fnAt 17) (fnAt_mem hc) rfl (fun_sameT hc h1) hA1 (evs_cons (ev_name rfl) evs_nil) (hk _ _ rfl)) (op_mul (mul_of_right hS.2))) cmp_eq)
      fun _ => ev_cmp (r₁ := RI _) (r₂ := RI _) (ev_name rfl) (ev_ifexp (k := decide (sortI (firstF xs) = sortI (secondF xs)))
        (tr_cmp (r₁ := RLI _) (r₂ := RLI _)
          (ev_builtin (rs := [RLI (firstF xs)]) (f := .builtin "sorted") (by decide) (by decide +kernel) (.inl ⟨_, rfl⟩) (call_sorted (by omega)) hA0 (evs_cons (ev_name rfl) evs_nil) (hk _ _ rfl))
          (ev_builtin (rs := [RLI (secondF xs)]) (f := .builtin "sorted") (by decide) (by decide +kernel) (.inl ⟨_, rfl⟩) (call_sorted (by omega)) hA0 (evs_cons (ev_name rfl) evs_nil) (hk _ _ rfl))
          (cmp_eqList hA0))
        (fun hb => by rw [if_pos (of_decide_eq_true hb)]; exact ev_name rfl) (fun hb => by rw [if_neg (of_decide_eq_false hb)]; exact ev_int)) cmp_eq) fun v s' F' hr => h v s' (F'.weak (sub_nil _)) ?_
  rw [e1, e2] at hr
  exact hr
end
end Mine
end

section
open PySem PySem.W PyProof.Rows
set_option Elab.async false
set_option maxRecDepth 100000
set_option maxHeartbeats 8000000
namespace Mine
open_top hd for PySem.Challenge.rw_ph0051_01
end Mine
end

section
set_option maxRecDepth 100000
set_option maxHeartbeats 8000000
namespace Mine
open PySem PySem.W PySem.Calls PyProof.Rows

theorem fnAt_of {K : Frag} {h : Heap} {a : Addr} {o : Obj} {d : DefRec} {q : Str} {pm code doc : Value} (X : K.In h) (e1 : K.lookup a = some o) (e2 : o.data = .func { docDef d.name d.params d.body d.scope pm code doc with qualname := q }) (e3 : codeIn K code q = true) : FnAt h a d q :=
  ⟨o, pm, code, doc, X _ _ e1, e2, codeRec_of X e3⟩
section
variable (P : Params)
theorem k_makes : makesIn (hd.heap_39 P) 38 = true := by kernel_rfl
theorem k_init : findIn (hd.heap_39 P) (.ref 38) "__init__" = some (some (.ref 28)) := by kernel_rfl
theorem k_initF : typeIn (hd.heap_39 P) (.ref 28) = some (.type "function") := by kernel_rfl
theorem k_ga : findIn (hd.heap_39 P) (.ref 38) "__getattribute__" = some (some (.builtin "object.__getattribute__")) := by kernel_rfl
theorem k_gat : findIn (hd.heap_39 P) (.ref 38) "__getattr__" = some none := by kernel_rfl
theorem k_cmp : findIn (hd.heap_39 P) (.ref 38) "compare" = some (some (.ref 35)) := by kernel_rfl
theorem k_cmpF : typeIn (hd.heap_39 P) (.ref 35) = some (.type "function") := by kernel_rfl
theorem k_hasD : hasDictIn (hd.heap_39 P) 38 = true := by kernel_rfl
theorem k_attr : findIn (hd.heap_39 P) (.ref 38) "comp_select_list" = some none := by kernel_rfl
theorem k_seta : findIn (hd.heap_39 P) (.ref 38) "__setattr__" = some (some (.builtin "object.__setattr__")) := by kernel_rfl
theorem k_plain : plainOver (hd.heap_39 P) 38 = true := by kernel_rfl
theorem k_taker : takerIn (hd.heap_39 P) 38 "comp_select_list" = some none := by kernel_rfl
theorem k_keep : keepIn (hd.heap_39 P) (.ref 38) = true := by kernel_rfl
theorem k_name : nsIn (hd.heap_39 P) mainGlobals "TupleComp" = some (some (.ref 38)) := by kernel_rfl
theorem k_none : ∀ x ∈ theBuiltins, nsIn (hd.heap_39 P) mainGlobals x = some none := by
  intro x hx
  simp only [theBuiltins, List.mem_cons, List.not_mem_nil, or_false] at hx
  rcases hx with rfl | rfl | rfl | rfl | rfl | rfl <;> kernel_rfl
end
theorem view_fns : recsOf hd.view_39 = theFns := by kernel_rfl

/-! ## How long the share is -/
theorem pick_len (xs : List Int) (lo hi st : Option Int) : (pickL xs lo hi st).length ≤ xs.length := by
  have h1 : (pickL xs lo hi st).length = (pickL (xs.map fun _ => Value.none) lo hi st).length := by rw [pick_map, List.length_map]
  have h2 : pickL (xs.map fun _ => Value.none) lo hi st = (slicePick (xs.map fun _ => Value.none).toArray lo hi st).toList := by
    unfold slicePick pickL
    simp
  have h3 := slicePick_size_le (xs.map fun _ => Value.none).toArray lo hi st
  rw [h1, h2]
  simpa using h3
theorem pick_mem {xs : List Int} {lo hi st : Option Int} {x : Int} (h : x ∈ pickL xs lo hi st) : x ∈ xs := by
  unfold pickL at h
  obtain ⟨i, _, e⟩ := List.mem_filterMap.mp h
  exact List.mem_of_getElem? e
theorem sum_bits {m : Nat} : ∀ l : List Int, (∀ x ∈ l, Builtin.Int.intBits x ≤ m) → Builtin.Int.intBits l.sum ≤ m + l.length
  | [], _ => intBits_le_iff.mpr (by show (0 : Int).natAbs < _; exact Nat.pow_pos (by decide))
  | x :: l, h => by
    rw [List.sum_cons, List.length_cons]
    have h1 := intBits_add_le (h x (List.mem_cons_self ..)) (sum_bits l fun y hy => h y (List.mem_cons_of_mem _ hy))
    omega
theorem share_bits {xs : List Int} (hx : xs.length ≤ 63) (hl : PyData.layable0 (.list (xs.map .int)) = true) : Builtin.Int.intBits (shareF xs) ≤ 2000000 := by
  have h1 : Builtin.Int.intBits (totalF xs) ≤ 1048576 + 63 := by
    unfold totalF
    have h2 := sum_bits (m := 1048576) (pickL xs none (some 63) none) fun x hx => intBits_le_of_item (pick_mem hx) hl
    have h3 := pick_len xs none (some 63) none
    omega
  unfold shareF
  have h2 : Builtin.Int.intBits (2 : Int) ≤ 2 := intBits_le_iff.mpr (by decide)
  have h3 : Builtin.Int.intBits (3 : Int) ≤ 2 := intBits_le_iff.mpr (by decide)
  have h4 := intBits_sub_le (intBits_mul_le (intBits_fdiv_le (y := 4) h1) h2) h3
  omega
end Mine
end

section
set_option maxRecDepth 100000
set_option maxHeartbeats 8000000
namespace Mine
open PySem PySem.W PySem.Calls PyProof.Rows

/-! ## The ground of the call -/
noncomputable abbrev cfgAt (w : World) (mg mb : Str → Option Value) (h : Heap) : Cfg0 := ⟨PySem.Challenge.pw_ph0051_01, w, mg, mb, hd.heap_39 w.params, theFns, h⟩
theorem ground_at {w : World} {h : Heap} {mg mb : Str → Option Value} {loose : List Str} {mean : ExcName → Option Value} (T : Top hd.view_39 loose mean mg mb h) (KX : (hd.heap_39 w.params).In h) : BaseAt (cfgAt w mg mb h) h where
  g := T.g
  b := T.b
  nolimit := T.nolimit
  fn := fun d m => T.fn d (by rw [view_fns]; exact m)
  k := KX
  bl := fun x hx => ⟨ns_none_of KX T.g (k_none w.params x hx), T.builtins x (by rintro rfl; revert hx; decide)⟩
  mods := let ⟨_, ⟨o, _, _, e, _⟩, _⟩ := (T.seer (by decide +kernel)).mods; ⟨o, e⟩

/-- an object of the written part -/
def obIn (K : Frag) (a : Addr) : Obj := (K.lookup a).getD default
def fdIn (K : Frag) (a : Addr) : FuncData := match (obIn K a).data with
  | .func fd => fd
  | _ => default
section
variable (P : Params)
theorem k_ob28 : (hd.heap_39 P).lookup 28 = some (obIn (hd.heap_39 P) 28) := by kernel_rfl
theorem k_ob35 : (hd.heap_39 P).lookup 35 = some (obIn (hd.heap_39 P) 35) := by kernel_rfl
theorem k_fd28 : (obIn (hd.heap_39 P) 28).data = .func { docDef (methAt 0).name (methAt 0).params (methAt 0).body (methAt 0).scope (fdIn (hd.heap_39 P) 28).pyModule (fdIn (hd.heap_39 P) 28).code (fdIn (hd.heap_39 P) 28).doc with qualname := "TupleComp.__init__" } := by kernel_rfl
theorem k_fd35 : (obIn (hd.heap_39 P) 35).data = .func { docDef (methAt 1).name (methAt 1).params (methAt 1).body (methAt 1).scope (fdIn (hd.heap_39 P) 35).pyModule (fdIn (hd.heap_39 P) 35).code (fdIn (hd.heap_39 P) 35).doc with qualname := "TupleComp.compare" } := by kernel_rfl
theorem k_cd28 : codeIn (hd.heap_39 P) (fdIn (hd.heap_39 P) 28).code "TupleComp.__init__" = true := by kernel_rfl
theorem k_cd35 : codeIn (hd.heap_39 P) (fdIn (hd.heap_39 P) 35).code "TupleComp.compare" = true := by kernel_rfl
end

theorem cls_at {c : Cfg} {P : Params} (hK : c.K = hd.heap_39 P) (X : (hd.heap_39 P).In c.h0) (G : c.h0.Ns mainGlobals c.mg) : ClsK c 38 28 35 where
  makes := by rw [hK]; exact k_makes P
  init := by rw [hK]; exact k_init P
  initF := by rw [hK]; exact k_initF P
  ga := by rw [hK]; exact k_ga P
  gat := by rw [hK]; exact k_gat P
  cmp := by rw [hK]; exact k_cmp P
  cmpF := by rw [hK]; exact k_cmpF P
  hasD := by rw [hK]; exact k_hasD P
  attr := by rw [hK]; exact k_attr P
  seta := by rw [hK]; exact k_seta P
  plain := by rw [hK]; exact k_plain P
  taker := by rw [hK]; exact k_taker P
  fnI := fnAt_of X (k_ob28 P) (k_fd28 P) (k_cd28 P)
  fnC := fnAt_of X (k_ob35 P) (k_fd35 P) (k_cd35 P)
  name := mg_of X G (k_name P)
  keep := by rw [hK]; exact k_keep P

/-- a list of ints as the caller lays it -/
theorem script_at {P : Params} {h : Heap} {a : Addr} {ds : List PyData} {vs : List Value} {ns : List Int} (x : Well P h (.ref a) (ofPy (.list ds))) (L : h.IsList a vs.toArray) (I : IntsAre vs ns) : (RLI ns).on (hide [] h) (.ref a) := by
  have x' : Well P h (.ref a) (.list (ofPys ds)) := x
  cases x' with
  | @list _ us _ e _ =>
    obtain ⟨o, e', _, n, ed⟩ := L
    rw [e] at e'
    cases e'
    have hus : us = vs := by
      have h1 : (Data.seq us.toArray 0) = .seq vs.toArray n := ed
      injection h1 with h1 _
      simpa using congrArg Array.toList h1
    subst hus
    exact ⟨a, us, 0, rfl, hide_of e (by simp), of_ints I⟩
end Mine
end
open PySem PySem.W PySem.Calls PyProof.Rows
set_option maxRecDepth 100000 in
set_option maxHeartbeats 8000000 in
theorem PySem.Challenge.cw_ph0051_01_holds : PySem.Challenge.rw_ph0051_01.Holds := by
  refine Mine.hd ?_
  intro w s₀ s₁ mg mb G Y fa o pm cd doc dV kV ho hdd hcd hD hmg hg args vals as hpre hlay hrd hwl hlo
  have KX := kIn_of Y
  have T := G.T
  clear Y ho hdd hcd hD
  wrow_args hpre hlay hrd hwl hlo
  rename IntsAre _ _ => hI
  rename Heap.IsList _ _ _ => hL
  rename Well _ _ _ _ => hW
  rename PyData.layable0 (PyData.list (List.map PyData.int _)) = true => hlb
  rename_i hcond _
  have hlen : _ ≤ 63 := Nat.le_of_not_lt fun h => hcond (by exact_mod_cast h)
  have hC := Mine.cls_at (c := ⟨Mine.cfgAt w mg mb s₁.heap, Mine.ground_at T KX⟩) rfl KX T.g
  refine Mine.fun_law (c := ⟨Mine.cfgAt w mg mb s₁.heap, Mine.ground_at T KX⟩) rfl hC hlen (Mine.share_bits hlen hlb) fa hmg callerA [] s₁ [_] _ _ ⟨rfl, by decide, by decide⟩ (fun _ _ e => Mine.hide_of e (by simp)) (fun _ h => nomatch h) (.cons (Mine.script_at hW hL hI) .nil) fun v s' k hr => ?_
  obtain ⟨h', t', rfl, keep⟩ := k
  cases hr
  exact ⟨.inl ⟨_, _, _, rfl, raisesW_false (by wrow_none_raised), readsW_of_reads (.bool true), postW_of (by wrow_shape) (by wtm_val) (by rfl), unshared_nil⟩, .of_keep keep, rfl, .of_eq hg⟩
