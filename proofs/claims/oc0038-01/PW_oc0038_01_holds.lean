import PyProof.Rows.All
import Wide.All
import OpenK.AllK
import Wide.FinOn
import PySem.Challenge.RW_oc0038_01
open PySem PySem.W PyProof.Rows
set_option Elab.async false
namespace Mine
set_option maxRecDepth 100000
set_option maxHeartbeats 4000000

/- ** the growing heap ** -/
def Le (h h' : Heap) : Prop := ∀ b o, h.get? b = some o → h'.get? b = some o
theorem Le.refl (h : Heap) : Le h h := fun _ _ e => e
theorem Le.trans {a b c : Heap} (x : Le a b) (y : Le b c) : Le a c := fun _ _ e => y _ _ (x _ _ e)
theorem Le.push {h : Heap} (o : Obj) : Le h (h.push o) := fun _ _ e => Heap.get?_push_of_some _ e
theorem kLe {s s' : Shared} (k : Keeps s s') : Le s.heap s'.heap := by obtain ⟨h', tk, rfl, hk⟩ := k; exact hk
theorem kRefl (s : Shared) : Keeps s s := ⟨s.heap, s.toks, rfl, fun _ _ e => e⟩
theorem kTok (s : Shared) (t : Nat) : Keeps s { s with toks := t } := ⟨s.heap, t, rfl, fun _ _ e => e⟩
theorem kHeap {s : Shared} {h' : Heap} {t : Nat} (k : Le s.heap h') : Keeps s { s with heap := h', toks := t } := ⟨h', t, rfl, k⟩
theorem kHeap' {s : Shared} {h' : Heap} (k : Le s.heap h') : Keeps s { s with heap := h' } := ⟨h', s.toks, rfl, k⟩
theorem kTrans {a b c : Shared} (x : Keeps a b) (y : Keeps b c) : Keeps a c := by
  obtain ⟨h1, t1, rfl, k1⟩ := x
  obtain ⟨h2, t2, rfl, k2⟩ := y
  exact ⟨h2, t2, rfl, fun b o e => k2 b o (k1 b o e)⟩

/- ** the judgement ** -/
structure Ev {α : Type} (prog : Program) (w : World) (A : Around) (h : Heap) (t : Sem α) (P : α → Heap → Prop) : Prop where
  run : ∀ (s : Shared) (Q : α → Shared → Prop) (E : Value → Shared → Prop), Le h s.heap → (∀ v s', Keeps s s' → P v s'.heap → Q v s') → wpAny (model prog w) A t Q E s
structure Wp {α : Type} (prog : Program) (w : World) (A : Around) (t : Sem α) (Q : α → Shared → Prop) (E : Value → Shared → Prop) (s : Shared) : Prop where
  run : wpAny (model prog w) A t Q E s

def Stab {α : Type} (P : α → Heap → Prop) : Prop := ∀ v h h', Le h h' → P v h → P v h'

section
variable {α β : Type} {prog : Program} {w : World} {A : Around} {h h' : Heap} {env : Env}

theorem Ev.up {t : Sem α} {P : α → Heap → Prop} (x : Ev prog w A h t P) (k : Le h h') : Ev prog w A h' t P := ⟨fun s Q E hs hQ => x.run s Q E (k.trans hs) hQ⟩
theorem Ev.mono {t : Sem α} {P P' : α → Heap → Prop} (x : Ev prog w A h t P) (f : ∀ v h', Le h h' → P v h' → P' v h') : Ev prog w A h t P' :=
  ⟨fun s Q E hs hQ => x.run s Q E hs fun v s' k p => hQ v s' k (f v _ (hs.trans (kLe k)) p)⟩
theorem Ev.pure {a : α} {P : α → Heap → Prop} (p : ∀ h', Le h h' → P a h') : Ev prog w A h (pure a) P := ⟨fun s _ _ hs hQ => wpAny_pure (hQ _ s (kRefl s) (p _ hs))⟩
theorem Ev.bind {t : Sem α} {f : α → Sem β} {P : α → Heap → Prop} {R : β → Heap → Prop} (x : Ev prog w A h t P) (y : ∀ a h', Le h h' → P a h' → Ev prog w A h' (f a) R) : Ev prog w A h (t >>= f) R :=
  ⟨fun s Q E hs hQ => wpAny_bind (x.run s _ E hs fun a s1 k1 p1 => (y a s1.heap (hs.trans (kLe k1)) p1).run s1 Q E (Le.refl _) fun v s2 k2 p2 => hQ v s2 (kTrans k1 k2) p2)⟩
theorem Ev.use {t : Sem α} {P : α → Heap → Prop} {Q : α → Shared → Prop} {E : Value → Shared → Prop} {s : Shared} (x : Ev prog w A s.heap t P) (hQ : ∀ v s', Keeps s s' → P v s'.heap → Q v s') : Wp prog w A t Q E s := ⟨x.run s Q E (Le.refl _) hQ⟩

/- ** what a value is ** -/
def vI (n : Int) : Value → Heap → Prop := fun v _ => ∃ t, v = .int n t
def vS (x : Str) : Value → Heap → Prop := fun v _ => ∃ t, v = .str x t
def vY (b : Array UInt8) : Value → Heap → Prop := fun v _ => ∃ t, v = .bytes b t
def vB (b : Bool) : Value → Heap → Prop := fun v _ => v = .bool b
def vV (x : Value) : Value → Heap → Prop := fun v _ => v = x
def tB (b : Bool) : Bool → Heap → Prop := fun v _ => v = b
theorem sI (n : Int) : Stab (vI n) := fun _ _ _ _ p => p
theorem sS (x : Str) : Stab (vS x) := fun _ _ _ _ p => p
theorem sY (b : Array UInt8) : Stab (vY b) := fun _ _ _ _ p => p
theorem sB (b : Bool) : Stab (vB b) := fun _ _ _ _ p => p
theorem sV (x : Value) : Stab (vV x) := fun _ _ _ _ p => p

/- ** names, constants ** -/
theorem ev_local {x : Str} {pos : Pos} {m : Str → Option Value} {P : Value → Heap → Prop} (hn : h.Ns env.locals m) (hv : ∃ v, m x = some v ∧ ∀ h', Le h h' → P v h')
    (hk : env.scope.kind = .function := by rfl) (hl : env.kindOf x = some .local := by rfl) (hd : (x == ("__debug__" : Str)) = false := by decide) : Ev prog w A h (eval (.Name x pos) env) P := by
  refine ⟨fun s Q E hs hQ => ?_⟩
  obtain ⟨v, hv, hp⟩ := hv
  exact wpAny_Name (wpAny_loadName_local hk hl (hn.keeps hs) hv (hQ _ s (kRefl s) (hp _ hs))) hd
theorem ev_localI {x : Str} {pos : Pos} {m : Str → Option Value} {n : Int} {t : Tok} (hn : h.Ns env.locals m) (hv : m x = some (.int n t))
    (hk : env.scope.kind = .function := by rfl) (hl : env.kindOf x = some .local := by rfl) (hd : (x == ("__debug__" : Str)) = false := by decide) : Ev prog w A h (eval (.Name x pos) env) (vI n) :=
  ev_local hn ⟨_, hv, fun _ _ => ⟨_, rfl⟩⟩ hk hl hd
theorem ev_localV {x : Str} {pos : Pos} {m : Str → Option Value} {v : Value} (hn : h.Ns env.locals m) (hv : m x = some v)
    (hk : env.scope.kind = .function := by rfl) (hl : env.kindOf x = some .local := by rfl) (hd : (x == ("__debug__" : Str)) = false := by decide) : Ev prog w A h (eval (.Name x pos) env) (vV v) :=
  ev_local hn ⟨_, hv, fun _ _ => rfl⟩ hk hl hd
theorem ev_global {x : Str} {pos : Pos} {mg : Str → Option Value} {v : Value} (hg : h.Ns env.globals mg) (hv : mg x = some v)
    (hk : env.scope.kind = .function := by rfl) (hx : env.kindOf x = some .globalImplicit := by rfl) (hd : (x == ("__debug__" : Str)) = false := by decide) : Ev prog w A h (eval (.Name x pos) env) (vV v) :=
  ⟨fun s _ _ hs hQ => Calls.Name_function_global hk hx (Calls.loadGlobal_global (hg.keeps hs) hv (hQ _ s (kRefl s) rfl)) hd⟩
theorem ev_builtin {x : Str} {pos : Pos} {mg mb : Str → Option Value} {v : Value} (hg : h.Ns env.globals mg) (hmiss : mg x = none) (hb : h.Ns env.builtins mb) (hv : mb x = some v)
    (hk : env.scope.kind = .function := by rfl) (hx : env.kindOf x = some .globalImplicit := by rfl) (hd : (x == ("__debug__" : Str)) = false := by decide) : Ev prog w A h (eval (.Name x pos) env) (vV v) :=
  ⟨fun s _ _ hs hQ => Calls.Name_function_global hk hx (Calls.loadGlobal_builtin (hg.keeps hs) hmiss (hb.keeps hs) hv (hQ _ s (kRefl s) rfl)) hd⟩
theorem ev_int {i : Int} {k : Nat} {pos : Pos} : Ev prog w A h (eval (.Constant (.int i) k pos) env) (vI i) := ⟨fun s _ _ _ hQ => wpAny_Constant_int (hQ _ _ (kTok s _) ⟨_, rfl⟩)⟩
theorem ev_str {x : Str} {k : Nat} {pos : Pos} : Ev prog w A h (eval (.Constant (.str x) k pos) env) (vS x) := ⟨fun s _ _ _ hQ => wpAny_Constant_str (hQ _ _ (kTok s _) ⟨_, rfl⟩)⟩
theorem ev_bool {b : Bool} {k : Nat} {pos : Pos} : Ev prog w A h (eval (.Constant (.bool b) k pos) env) (vB b) := ⟨fun s _ _ _ hQ => wpAny_Constant_bool (hQ _ _ (kRefl s) rfl)⟩

/- ** operators ** -/
theorem ev_BinOp {l r : Expr} {op : Operator} {pos : Pos} {P1 P2 P : Value → Heap → Prop} (st : Stab P1) (hl : Ev prog w A h (eval l env) P1) (hr : Ev prog w A h (eval r env) P2)
    (hop : ∀ a b h', Le h h' → P1 a h' → P2 b h' → Ev prog w A h' (binaryOp op a b) P) : Ev prog w A h (eval (.BinOp l op r pos) env) P := by
  refine ⟨fun s Q E hs hQ => ?_⟩
  refine wpAny_BinOp (hl.run s _ E hs fun a s1 k1 p1 => ?_)
  refine hr.run s1 _ E (hs.trans (kLe k1)) fun b s2 k2 p2 => ?_
  exact (hop a b s2.heap ((hs.trans (kLe k1)).trans (kLe k2)) (st _ _ _ (kLe k2) p1) p2).run s2 Q E (Le.refl _) fun v s3 k3 p3 => hQ v s3 (kTrans k1 (kTrans k2 k3)) p3

theorem ev_addI {l r : Expr} {pos : Pos} {a b : Int} (hl : Ev prog w A h (eval l env) (vI a)) (hr : Ev prog w A h (eval r env) (vI b)) : Ev prog w A h (eval (.BinOp l .Add r pos) env) (vI (a + b)) :=
  ev_BinOp (sI _) hl hr fun _ _ _ _ p q => by obtain ⟨t, rfl⟩ := p; obtain ⟨u, rfl⟩ := q; exact ⟨fun s _ _ _ hQ => P.add_int (hQ _ _ (kTok s _) ⟨_, rfl⟩)⟩
theorem ev_subI {l r : Expr} {pos : Pos} {a b : Int} (hl : Ev prog w A h (eval l env) (vI a)) (hr : Ev prog w A h (eval r env) (vI b)) : Ev prog w A h (eval (.BinOp l .Sub r pos) env) (vI (a - b)) :=
  ev_BinOp (sI _) hl hr fun _ _ _ _ p q => by obtain ⟨t, rfl⟩ := p; obtain ⟨u, rfl⟩ := q; exact ⟨fun s _ _ _ hQ => P.sub_int (hQ _ _ (kTok s _) ⟨_, rfl⟩)⟩
theorem ev_mulI {l r : Expr} {pos : Pos} {a b : Int} (hl : Ev prog w A h (eval l env) (vI a)) (hr : Ev prog w A h (eval r env) (vI b)) (hm : IntMulOk a b) : Ev prog w A h (eval (.BinOp l .Mult r pos) env) (vI (a * b)) :=
  ev_BinOp (sI _) hl hr fun _ _ _ _ p q => by obtain ⟨t, rfl⟩ := p; obtain ⟨u, rfl⟩ := q; exact ⟨fun s _ _ _ hQ => P.mul_int (hQ _ _ (kTok s _) ⟨_, rfl⟩) hm⟩
theorem ev_fdivI {l r : Expr} {pos : Pos} {a b : Int} (hl : Ev prog w A h (eval l env) (vI a)) (hr : Ev prog w A h (eval r env) (vI b)) (hb : b ≠ 0) (hp : Builtin.divisionGoesByPylong a b = false) : Ev prog w A h (eval (.BinOp l .FloorDiv r pos) env) (vI (a.fdiv b)) :=
  ev_BinOp (sI _) hl hr fun _ _ _ _ p q => by obtain ⟨t, rfl⟩ := p; obtain ⟨u, rfl⟩ := q; exact ⟨fun s _ _ _ hQ => floordiv_int hb (hQ _ _ (kTok s _) ⟨_, rfl⟩) (.inl hp)⟩
theorem ev_modI {l r : Expr} {pos : Pos} {a b : Int} (hl : Ev prog w A h (eval l env) (vI a)) (hr : Ev prog w A h (eval r env) (vI b)) (hb : b ≠ 0) : Ev prog w A h (eval (.BinOp l .Mod r pos) env) (vI (a.fmod b)) :=
  ev_BinOp (sI _) hl hr fun _ _ _ _ p q => by obtain ⟨t, rfl⟩ := p; obtain ⟨u, rfl⟩ := q; exact ⟨fun s _ _ _ hQ => mod_int' hb (hQ _ _ (kTok s _) ⟨_, rfl⟩)⟩
theorem ev_andI {l r : Expr} {pos : Pos} {a b : Int} (hl : Ev prog w A h (eval l env) (vI a)) (hr : Ev prog w A h (eval r env) (vI b)) : Ev prog w A h (eval (.BinOp l .BitAnd r pos) env) (vI (Builtin.bitAnd a b)) :=
  ev_BinOp (sI _) hl hr fun _ _ _ _ p q => by obtain ⟨t, rfl⟩ := p; obtain ⟨u, rfl⟩ := q; exact ⟨fun s _ _ _ hQ => and_int (hQ _ _ (kTok s _) ⟨_, rfl⟩)⟩
theorem ev_powI {l r : Expr} {pos : Pos} {a n : Int} (hl : Ev prog w A h (eval l env) (vI a)) (hr : Ev prog w A h (eval r env) (vI n)) (hn : 0 ≤ n) (hsz : (Builtin.Int.intBits a : Int) * n ≤ 2 ^ 27) : Ev prog w A h (eval (.BinOp l .Pow r pos) env) (vI (a ^ n.toNat)) :=
  ev_BinOp (sI _) hl hr fun _ _ _ _ p q => by obtain ⟨t, rfl⟩ := p; obtain ⟨u, rfl⟩ := q; exact ⟨fun s _ _ _ hQ => pow_int hn hsz (hQ _ _ (kTok s _) ⟨_, rfl⟩)⟩

/- ** tests ** -/
theorem ev_test {l r : Expr} {op : CmpOp} {pos : Pos} {whole : Sem Value} {P1 P2 : Value → Heap → Prop} {P : Bool → Heap → Prop} (st : Stab P1) (hl : Ev prog w A h (eval l env) P1) (hr : Ev prog w A h (eval r env) P2)
    (hop : ∀ a b h', Le h h' → P1 a h' → P2 b h' → Ev prog w A h' (compareOp op a b) fun v h'' => ∃ c, v = .bool c ∧ P c h'') (hm : behindInMarks op r = false := by with_unfolding_all rfl) :
    Ev prog w A h (isTrue (.Compare l [op] [r] pos) env whole) P := by
  refine ⟨fun s Q E hs hQ => ?_⟩
  refine wpAny_isTrue_Compare1 (hl.run s _ E hs fun a s1 k1 p1 => ?_) hm
  refine hr.run s1 _ E (hs.trans (kLe k1)) fun b s2 k2 p2 => ?_
  refine (hop a b s2.heap ((hs.trans (kLe k1)).trans (kLe k2)) (st _ _ _ (kLe k2) p1) p2).run s2 _ E (Le.refl _) fun v s3 k3 p3 => ?_
  obtain ⟨c, rfl, p3⟩ := p3
  exact wpAny_truthy_bool (hQ c s3 (kTrans k1 (kTrans k2 k3)) p3)
theorem ev_eqI {l r : Expr} {pos : Pos} {whole : Sem Value} {a b : Int} (hl : Ev prog w A h (eval l env) (vI a)) (hr : Ev prog w A h (eval r env) (vI b)) (hm : behindInMarks .Eq r = false := by with_unfolding_all rfl) :
    Ev prog w A h (isTrue (.Compare l [.Eq] [r] pos) env whole) (tB (a == b)) :=
  ev_test (sI _) hl hr (fun _ _ _ _ p q => by obtain ⟨t, rfl⟩ := p; obtain ⟨u, rfl⟩ := q; exact ⟨fun s _ _ _ hQ => P.eq_int (hQ _ _ (kRefl s) ⟨_, rfl, rfl⟩)⟩) hm
theorem ev_ltI {l r : Expr} {pos : Pos} {whole : Sem Value} {a b : Int} (hl : Ev prog w A h (eval l env) (vI a)) (hr : Ev prog w A h (eval r env) (vI b)) (hm : behindInMarks .Lt r = false := by with_unfolding_all rfl) :
    Ev prog w A h (isTrue (.Compare l [.Lt] [r] pos) env whole) (tB (decide (a < b))) :=
  ev_test (sI _) hl hr (fun _ _ _ _ p q => by obtain ⟨t, rfl⟩ := p; obtain ⟨u, rfl⟩ := q; exact ⟨fun s _ _ _ hQ => P.lt_int (hQ _ _ (kRefl s) ⟨_, rfl, rfl⟩)⟩) hm
theorem ev_geI {l r : Expr} {pos : Pos} {whole : Sem Value} {a b : Int} (hl : Ev prog w A h (eval l env) (vI a)) (hr : Ev prog w A h (eval r env) (vI b)) (hm : behindInMarks .GtE r = false := by with_unfolding_all rfl) :
    Ev prog w A h (isTrue (.Compare l [.GtE] [r] pos) env whole) (tB (decide (a ≥ b))) :=
  ev_test (sI _) hl hr (fun _ _ _ _ p q => by obtain ⟨t, rfl⟩ := p; obtain ⟨u, rfl⟩ := q; exact ⟨fun s _ _ _ hQ => P.ge_int (hQ _ _ (kRefl s) ⟨_, rfl, rfl⟩)⟩) hm

theorem ev_IfExp {test body orelse : Expr} {pos : Pos} {c : Bool} {P : Value → Heap → Prop} (ht : Ev prog w A h (isTrue test env (eval test env)) (tB c))
    (hb : c = true → Ev prog w A h (eval body env) P) (ho : c = false → Ev prog w A h (eval orelse env) P) : Ev prog w A h (eval (.IfExp test body orelse pos) env) P := by
  refine ⟨fun s Q E hs hQ => ?_⟩
  refine wpAny_IfExp (ht.run s _ E hs fun b s1 k1 p1 => ?_)
  obtain rfl : b = c := p1
  cases b with
  | true => exact (hb rfl).run s1 Q E (hs.trans (kLe k1)) fun v s2 k2 p2 => hQ v s2 (kTrans k1 k2) p2
  | false => exact (ho rfl).run s1 Q E (hs.trans (kLe k1)) fun v s2 k2 p2 => hQ v s2 (kTrans k1 k2) p2
theorem ev_IfExpS {test body orelse : Expr} {pos : Pos} {c : Bool} {x y : Str} (ht : Ev prog w A h (isTrue test env (eval test env)) (tB c))
    (hb : Ev prog w A h (eval body env) (vS x)) (ho : Ev prog w A h (eval orelse env) (vS y)) : Ev prog w A h (eval (.IfExp test body orelse pos) env) (vS (if c then x else y)) := by
  refine ev_IfExp ht (fun e => ?_) (fun e => ?_)
  · subst e; exact hb
  · subst e; exact ho

/- ** lists, calls ** -/
theorem ev_items_nil {pos : Pos} : Ev prog w A h (spliced (backTo pos (starEach [] env))) (fun vs _ => vs = []) := ⟨fun s _ _ _ hQ => wpAny_items_nil (hQ _ s (kRefl s) rfl)⟩
theorem ev_items_cons {pos : Pos} {e : Expr} {rest : List Expr} {P : Value → Heap → Prop} {R : List Value → Heap → Prop} (st : Stab P) (he : Ev prog w A h (eval e env) P) (hr : Ev prog w A h (spliced (backTo pos (starEach rest env))) R)
    (hs : starEach (e :: rest) env = (false, eval e env) :: starEach rest env := by rfl) :
    Ev prog w A h (spliced (backTo pos (starEach (e :: rest) env))) (fun vs h' => ∃ v r, vs = v :: r ∧ P v h' ∧ R r h') := by
  refine ⟨fun s Q E hs' hQ => ?_⟩
  refine wpAny_items_cons (he.run s _ E hs' fun v s1 k1 p1 => ?_) hs
  exact hr.run s1 _ E (hs'.trans (kLe k1)) fun vs s2 k2 p2 => hQ _ s2 (kTrans k1 k2) ⟨v, vs, rfl, st _ _ _ (kLe k2) p1, p2⟩
theorem ev_List {pos : Pos} {elts : List Expr} {R : List Value → Heap → Prop} (st : Stab R) (h1 : Ev prog w A h (spliced (backTo pos (starEach elts env))) R) (hsz : ∀ vs h', R vs h' → vs.length ≤ sizeLine) :
    Ev prog w A h (eval (.List elts pos) env) (fun v h' => ∃ l vs, v = .ref l ∧ h'.IsList l vs.toArray ∧ h.get? l = none ∧ R vs h') := by
  refine ⟨fun s Q E hs hQ => ?_⟩
  refine wpAny_List (h1.run s _ E hs fun vs s1 k1 p1 => ⟨hsz _ _ p1, ?_⟩)
  refine hQ _ _ (kTrans k1 (kHeap' (Le.push _))) ⟨_, vs, rfl, ⟨_, Heap.get?_push_size _ rfl, rfl, _, rfl⟩, ?_, st _ _ _ (Le.push _) p1⟩
  cases e : h.get? s1.heap.objs.size with
  | none => rfl
  | some o => exact absurd (Heap.lt_size (kLe k1 _ _ (hs _ _ e))) (Nat.lt_irrefl _)

theorem ev_Call {f : Expr} {args : List Expr} {pos : Pos} {P : Value → Heap → Prop} {fv : Value}
    (hf : Ev prog w A h (eval f env) (vV fv)) (hc : Ev prog w A h (callWith pos fv [] (backTo pos (starEach args env)) []) P)
    (hn : eval (.Call f args [] pos) env = (do callWith pos (← eval f env) [] (backTo pos (starEach args env)) (backToKw pos (keywordEach [] env))) := by rfl) : Ev prog w A h (eval (.Call f args [] pos) env) P := by
  rw [hn]
  refine Ev.bind hf fun a h' k p => ?_
  obtain rfl : a = fv := p
  exact hc.up k
theorem ev_withB {pos : Pos} {id : String} {e : Expr} {rest : List Expr} {R : List Value → Heap → Prop} {P : Value → Heap → Prop} (ha : Ev prog w A h (spliced (backTo pos (starEach (e :: rest) env))) R)
    (hc : ∀ vs h', Le h h' → R vs h' → Ev prog w A h' (call (.builtin id) vs) P)
    (he : starEach (e :: rest) env = (false, eval e env) :: starEach rest env := by rfl) (hplain : (backTo pos (starEach rest env)).any (·.1) = false := by rfl) :
    Ev prog w A h (callWith pos (.builtin id) [] (backTo pos (starEach (e :: rest) env)) []) P := by
  refine ⟨fun s Q E hs hQ => ?_⟩
  refine callWith_builtin1 (ha.run s _ E hs fun vs s1 k1 p1 => ?_) he hplain
  exact (hc vs s1.heap (hs.trans (kLe k1)) p1).run s1 Q E (Le.refl _) fun v s2 k2 p2 => hQ v s2 (kTrans k1 k2) p2
theorem ev_withT {pos : Pos} {T : String} {e : Expr} {rest : List Expr} {R : List Value → Heap → Prop} {P : Value → Heap → Prop} (ha : Ev prog w A h (spliced (backTo pos (starEach (e :: rest) env))) R)
    (hc : ∀ vs h', Le h h' → R vs h' → Ev prog w A h' (call (.type T) vs) P)
    (he : starEach (e :: rest) env = (false, eval e env) :: starEach rest env := by rfl) (hplain : (backTo pos (starEach rest env)).any (·.1) = false := by rfl) :
    Ev prog w A h (callWith pos (.type T) [] (backTo pos (starEach (e :: rest) env)) []) P := by
  refine ⟨fun s Q E hs hQ => ?_⟩
  refine PyProof.Rows.callWith_type1 (ha.run s _ E hs fun vs s1 k1 p1 => ?_) he hplain
  exact (hc vs s1.heap (hs.trans (kLe k1)) p1).run s1 Q E (Le.refl _) fun v s2 k2 p2 => hQ v s2 (kTrans k1 k2) p2
theorem ev_withF {pos : Pos} {f : Addr} {o : Obj} {fd : FuncData} {e : Expr} {rest : List Expr} {R : List Value → Heap → Prop} {P : Value → Heap → Prop} (ho : h.get? f = some o) (hdat : o.data = .func fd) (ha : Ev prog w A h (spliced (backTo pos (starEach (e :: rest) env))) R)
    (hc : ∀ vs h', Le h h' → R vs h' → Ev prog w A h' (call (.ref f) vs) P)
    (he : starEach (e :: rest) env = (false, eval e env) :: starEach rest env := by rfl) :
    Ev prog w A h (callWith pos (.ref f) [] (backTo pos (starEach (e :: rest) env)) []) P := by
  refine ⟨fun s Q E hs hQ => ?_⟩
  refine callWith_def hdat (ha.run s _ E hs fun vs s1 k1 p1 => ⟨kLe k1 _ _ (hs _ _ ho), ?_⟩) he
  exact (hc vs s1.heap (hs.trans (kLe k1)) p1).run s1 Q E (Le.refl _) fun v s2 k2 p2 => hQ v s2 (kTrans k1 k2) p2

theorem ev_Sub {value slice : Expr} {pos : Pos} {P1 P2 P : Value → Heap → Prop} (st : Stab P1) (hl : Ev prog w A h (eval value env) P1) (hr : Ev prog w A h (eval slice env) P2)
    (hop : ∀ a b h', Le h h' → P1 a h' → P2 b h' → Ev prog w A h' (subscriptTail value slice a b) P) : Ev prog w A h (eval (.Subscript value slice pos) env) P := by
  refine ⟨fun s Q E hs hQ => ?_⟩
  refine Subscript_ (hl.run s _ E hs fun a s1 k1 p1 => ?_)
  refine hr.run s1 _ E (hs.trans (kLe k1)) fun b s2 k2 p2 => ?_
  exact (hop a b s2.heap ((hs.trans (kLe k1)).trans (kLe k2)) (st _ _ _ (kLe k2) p1) p2).run s2 Q E (Le.refl _) fun v s3 k3 p3 => hQ v s3 (kTrans k1 (kTrans k2 k3)) p3

/- ** a plain def's call ** -/
def retOf : Flow → Value
  | .ret v => v
  | _ => .none
theorem ev_def {name : Str} {params : Arguments} {body : List Stmt} {scope : Scope} {pm cd doc : Value} {a : Addr} {o : Obj} {args : List Value} {binds : List (Str × Value)} {P : Value → Heap → Prop}
    (hroom : A.depth < recursionLimit) (ho : h.get? a = some o) (hdata : o.data = .func (Calls.docDef name params body scope pm cd doc)) (hlim : h.NoLimit) (hcd : h.CodeRec cd name)
    (hbind : bindArgs (Calls.docDef name params body scope pm cd doc) ⟨args, []⟩ = Pure.pure binds)
    (hloc : ∀ x ∈ binds, scope.names.lookup x.1 = some .local)
    (hb : ∀ (s : Shared) L h₁, Le h s.heap → Fr s.heap L h₁ (fun x => binds.reverse.lookup x) →
      Wp prog w (A.deeper (envOf name scope L a cd)) (execs body (envOf name scope L a cd)) (fun f s' => Keeps s s' ∧ P (retOf f) s'.heap) (fun _ _ => False) ⟨h₁, s.gens, s.drawn, s.toks + binds.length, s.os⟩)
    (hco : scope.isCoroutine = false := by rfl) (hgen : scope.isGenerator = false := by rfl) (hk : scope.kind = .function := by rfl)
    (hcell : ∀ x ∈ scope.names, x.2 ≠ .cell := by decide) : Ev prog w A h (call (.ref a) args) P := by
  refine ⟨fun s Q E hs hQ => ?_⟩
  refine wpAny_call (call_plain_ret hroom (hs _ _ ho) hdata (hlim.keeps hs) (hcd.keeps hs) hbind hloc (fun h₁ F => ?_) hco hgen hk hcell)
  refine wpAny_mono (hb s _ h₁ hs F).run (fun f s' x => ?_) fun _ _ x => x
  have := hQ (retOf f) s' x.1 x.2
  cases f <;> exact this
end
end Mine

namespace Mine
set_option maxRecDepth 100000
set_option maxHeartbeats 4000000

/- ** lists of like things ** -/
def vL {α : Type} (R : α → Value → Heap → Prop) (xs : List α) : Value → Heap → Prop := fun v h => ∃ l vs, v = .ref l ∧ h.IsList l vs.toArray ∧ Paired (fun x u => R x u h) xs vs
def lL {α : Type} (R : α → Value → Heap → Prop) (xs : List α) : List Value → Heap → Prop := fun vs h => Paired (fun x u => R x u h) xs vs
theorem isListLe {h h' : Heap} {l : Addr} {vs : Array Value} (x : h.IsList l vs) (k : Le h h') : h'.IsList l vs := x.at fun o e => k _ o e
theorem sLL {α : Type} {R : α → Value → Heap → Prop} (hR : ∀ x, Stab (R x)) (xs : List α) : Stab (lL R xs) := fun _ _ _ k p => p.mono fun _ _ q => hR _ _ _ _ k q
theorem sL {α : Type} {R : α → Value → Heap → Prop} (hR : ∀ x, Stab (R x)) (xs : List α) : Stab (vL R xs) := fun _ _ _ k p => by
  obtain ⟨l, vs, e, hl, hp⟩ := p
  exact ⟨l, vs, e, isListLe hl k, sLL hR xs _ _ _ k hp⟩
theorem pairGet {α β : Type} {F : α → β → Prop} : ∀ {l₁ : List α} {l₂ : List β}, Paired F l₁ l₂ → ∀ (i : Nat) (x : α), l₁[i]? = some x → ∃ y, l₂[i]? = some y ∧ F x y
  | _, _, .nil, _, _, h => by simp at h
  | _, _, .cons q _, 0, x, h => by simp at h; subst h; exact ⟨_, by simp, q⟩
  | _, _, .cons _ t, i + 1, x, h => by
    obtain ⟨y, e, f⟩ := pairGet t i x (by simpa using h)
    exact ⟨y, by simpa using e, f⟩
theorem pairGetR {α β : Type} {F : α → β → Prop} : ∀ {l₁ : List α} {l₂ : List β}, Paired F l₁ l₂ → ∀ (i : Nat) (y : β), l₂[i]? = some y → ∃ x, l₁[i]? = some x ∧ F x y
  | _, _, .nil, _, _, h => by simp at h
  | _, _, .cons q _, 0, x, h => by simp at h; subst h; exact ⟨_, by simp, q⟩
  | _, _, .cons _ t, i + 1, x, h => by
    obtain ⟨y, e, f⟩ := pairGetR t i x (by simpa using h)
    exact ⟨y, by simpa using e, f⟩

section
variable {α : Type} {prog : Program} {w : World} {A : Around} {h : Heap} {env : Env}
theorem ev_iL_nil {pos : Pos} {R : α → Value → Heap → Prop} : Ev prog w A h (spliced (backTo pos (starEach [] env))) (lL R []) := ev_items_nil.mono fun _ _ _ p => by rw [p]; exact .nil
theorem ev_iL_cons {pos : Pos} {e : Expr} {rest : List Expr} {R : α → Value → Heap → Prop} {x : α} {xs : List α} (hR : ∀ x, Stab (R x)) (he : Ev prog w A h (eval e env) (R x)) (hr : Ev prog w A h (spliced (backTo pos (starEach rest env))) (lL R xs))
    (hs : starEach (e :: rest) env = (false, eval e env) :: starEach rest env := by rfl) : Ev prog w A h (spliced (backTo pos (starEach (e :: rest) env))) (lL R (x :: xs)) :=
  (ev_items_cons (hR x) he hr hs).mono fun _ _ _ p => by obtain ⟨v, r, rfl, p, q⟩ := p; exact .cons p q
theorem ev_ListL {pos : Pos} {elts : List Expr} {R : α → Value → Heap → Prop} {xs : List α} (hR : ∀ x, Stab (R x)) (h1 : Ev prog w A h (spliced (backTo pos (starEach elts env))) (lL R xs)) (hsz : xs.length ≤ 16777216) :
    Ev prog w A h (eval (.List elts pos) env) (vL R xs) :=
  (ev_List (sLL hR xs) h1 fun vs h' p => by rw [← p.length]; exact hsz).mono fun _ _ _ p => by obtain ⟨l, vs, e, hl, _, hp⟩ := p; exact ⟨l, vs, e, hl, hp⟩
theorem ev_subL {value slice : Expr} {pos : Pos} {R : α → Value → Heap → Prop} {xs : List α} {k : Int} {x : α} (hR : ∀ x, Stab (R x)) (hl : Ev prog w A h (eval value env) (vL R xs)) (hr : Ev prog w A h (eval slice env) (vI k))
    (h0 : 0 ≤ k) (hx : xs[k.toNat]? = some x) (hfit : xs.length ≤ 16777216)
    (hs : ∀ a u, subscripted slice false (.ref a) (.int k u) = operate [.ref a, .int k u] (getItem (.ref a) (.int k u)) := by intro _ _; with_unfolding_all rfl) : Ev prog w A h (eval (.Subscript value slice pos) env) (R x) := by
  refine ev_Sub (sL hR xs) hl hr fun a b h' k' p q => ?_
  obtain ⟨l, vs, rfl, hl, hp⟩ := p
  obtain ⟨u, rfl⟩ := q
  obtain ⟨y, e, f⟩ := pairGet hp _ _ hx
  have hlt : k.toNat < xs.length := (List.getElem?_eq_some_iff.mp hx).1
  refine ⟨fun s Q E hs' hQ => ?_⟩
  have hL := isListLe hl hs'
  exact tail_any hL.typeIs slot_list_getitem.lookup (wpAny_getItem_list hL h0 (by omega) (by simpa using e) (hQ _ s (kRefl s) (hR _ _ _ _ hs' f))) (hs l u)
end

/- ** the text's defs, by reference ** -/
def pw : Program := PySem.Challenge.pw_oc0038_01
def fName (i : Nat) : Str := match pw.main.body.getD i (.Pass default) with | .FunctionDef n _ _ _ _ _ _ _ _ _ => n | _ => ""
def fArgs (i : Nat) : Arguments := match pw.main.body.getD i (.Pass default) with | .FunctionDef _ a _ _ _ _ _ _ _ _ => a | _ => ⟨[], [], none, [], [], none, []⟩
def fBody (i : Nat) : List Stmt := match pw.main.body.getD i (.Pass default) with | .FunctionDef _ _ b _ _ _ _ _ _ _ => b | _ => []
def fScope (i : Nat) : Scope := match pw.main.body.getD i (.Pass default) with | .FunctionDef _ _ _ _ _ _ s _ _ _ => s | _ => { kind := .module, names := [], isGenerator := false, isCoroutine := false }

structure GG (mg mb : Str → Option Value) (h : Heap) : Prop where
  g : h.Ns mainGlobals mg
  b : h.Ns builtinsNs mb
  nolimit : h.NoLimit
  fn : ∀ i ∈ [1, 3, 24, 26, 28, 29, 30, 31], ∃ a o pm code doc, mg (fName i) = some (.ref a) ∧ h.get? a = some o ∧ o.data = .func (Calls.docDef (fName i) (fArgs i) (fBody i) (fScope i) pm code doc) ∧ h.CodeRec code (fName i)
  boot : ∀ x : Str, x ∈ (["len", "range", "bytearray", "bytes", "enumerate", "ValueError", "type"] : List Str) → mg x = none ∧ mb x = bootBuiltins x
  nums : ∀ x ∈ ([("S_IFREG", 32768), ("S_IFDIR", 16384), ("S_IFLNK", 40960), ("S_IFSOCK", 49152)] : List (Str × Int)), ∃ t, mg x.1 = some (.int x.2 t)

theorem GG.up {mg mb : Str → Option Value} {h h' : Heap} (G : GG mg mb h) (k : Le h h') : GG mg mb h' where
  g := G.g.keeps k
  b := G.b.keeps k
  nolimit := G.nolimit.keeps k
  fn := fun i hi => let ⟨a, o, pm, code, doc, h1, h2, h3, h4⟩ := G.fn i hi; ⟨a, o, pm, code, doc, h1, k _ _ h2, h3, h4.keeps k⟩
  boot := G.boot
  nums := G.nums

section
variable {prog : Program} {w : World} {A : Around} {h : Heap} {env : Env} {mg mb : Str → Option Value}

theorem ev_const {x : Str} {pos : Pos} {n : Int} (G : GG mg mb h) (hx : (x, n) ∈ ([("S_IFREG", 32768), ("S_IFDIR", 16384), ("S_IFLNK", 40960), ("S_IFSOCK", 49152)] : List (Str × Int)))
    (hg : env.globals = mainGlobals := by rfl) (hk : env.scope.kind = .function := by rfl) (hl : env.kindOf x = some .globalImplicit := by rfl) (hd : (x == ("__debug__" : Str)) = false := by decide) :
    Ev prog w A h (eval (.Name x pos) env) (vI n) := by
  obtain ⟨t, e⟩ := G.nums _ hx
  exact (ev_global (hg ▸ G.g) e hk hl hd).mono fun _ _ _ p => ⟨t, p⟩
theorem ev_boot {x : Str} {pos : Pos} {v : Value} (G : GG mg mb h) (hx : x ∈ (["len", "range", "bytearray", "bytes", "enumerate", "ValueError", "type"] : List Str)) (hv : bootBuiltins x = some v)
    (hg : env.globals = mainGlobals := by rfl) (hb : env.builtins = builtinsNs := by rfl) (hk : env.scope.kind = .function := by rfl) (hl : env.kindOf x = some .globalImplicit := by rfl) (hd : (x == ("__debug__" : Str)) = false := by decide) :
    Ev prog w A h (eval (.Name x pos) env) (vV v) := by
  obtain ⟨e1, e2⟩ := G.boot x hx
  exact ev_builtin (hg ▸ G.g) e1 (hb ▸ G.b) (e2.trans hv) hk hl hd

/-- a call of one of the text's defs -/
theorem ev_CallG {i : Nat} {n : Str} {np pos : Pos} {e : Expr} {rest : List Expr} {R : List Value → Heap → Prop} {P : Value → Heap → Prop} (G : GG mg mb h) (hi : i ∈ [1, 3, 24, 26, 28, 29, 30, 31]) (hname : fName i = n)
    (ha : Ev prog w A h (spliced (backTo pos (starEach (e :: rest) env))) R)
    (hc : ∀ f vs h', mg (fName i) = some (.ref f) → Le h h' → GG mg mb h' → R vs h' → Ev prog w A h' (call (.ref f) vs) P)
    (he : starEach (e :: rest) env = (false, eval e env) :: starEach rest env := by rfl)
    (hg : env.globals = mainGlobals := by rfl) (hk : env.scope.kind = .function := by rfl) (hl : env.kindOf n = some .globalImplicit := by rfl) (hd : (n == ("__debug__" : Str)) = false := by decide) :
    Ev prog w A h (eval (.Call (.Name n np) (e :: rest) [] pos) env) P := by
  subst hname
  obtain ⟨a, o, pm, code, doc, h1, h2, h3, h4⟩ := G.fn i hi
  refine ev_Call (ev_global (hg ▸ G.g) h1 hk hl hd) (ev_withF h2 h3 ha (fun vs h' k p => hc a vs h' h1 k (G.up k) p) he)

theorem ev_callG {i : Nat} {f : Addr} {args : List Value} {binds : List (Str × Value)} {P : Value → Heap → Prop} (G : GG mg mb h) (hi : i ∈ [1, 3, 24, 26, 28, 29, 30, 31]) (hf : mg (fName i) = some (.ref f))
    (hroom : A.depth < recursionLimit)
    (hbind : ∀ pm cd doc, bindArgs (Calls.docDef (fName i) (fArgs i) (fBody i) (fScope i) pm cd doc) ⟨args, []⟩ = pure binds)
    (hloc : ∀ x ∈ binds, (fScope i).names.lookup x.1 = some .local)
    (hb : ∀ (s : Shared) L h₁ cd, Le h s.heap → GG mg mb s.heap → GG mg mb h₁ → s.heap.CodeRec cd (fName i) → Fr s.heap L h₁ (fun x => binds.reverse.lookup x) →
      Wp prog w (A.deeper (envOf (fName i) (fScope i) L f cd)) (execs (fBody i) (envOf (fName i) (fScope i) L f cd)) (fun f s' => Keeps s s' ∧ P (retOf f) s'.heap) (fun _ _ => False) ⟨h₁, s.gens, s.drawn, s.toks + binds.length, s.os⟩)
    (hco : (fScope i).isCoroutine = false := by rfl) (hgen : (fScope i).isGenerator = false := by rfl) (hk : (fScope i).kind = .function := by rfl)
    (hcell : ∀ x ∈ (fScope i).names, x.2 ≠ .cell := by decide) : Ev prog w A h (call (.ref f) args) P := by
  obtain ⟨a, o, pm, code, doc, h1, h2, h3, h4⟩ := G.fn i hi
  rw [hf] at h1
  cases h1
  exact ev_def hroom h2 h3 G.nolimit h4 (hbind pm code doc) hloc (fun s L h₁ hs F => hb s L h₁ code hs (G.up hs) ((G.up hs).up F.keep) (h4.keeps hs) F) hco hgen hk hcell
end
end Mine

namespace Mine
set_option maxRecDepth 100000
set_option maxHeartbeats 4000000

/-- a range: its first int, its step, how many -/
def vR (a c : Int) (n : Nat) : Value → Heap → Prop := fun v h => ∃ r b t u t', v = .ref r ∧ IsRange h r a b c t u t' ∧ Builtin.Range.small a b c = true ∧ Builtin.Range.rangeSize a b c = (n : Int)
theorem sR (a c : Int) (n : Nat) : Stab (vR a c n) := fun _ _ _ k p => by
  obtain ⟨r, b, t, u, t', e, hr, q⟩ := p
  exact ⟨r, b, t, u, t', e, k _ _ hr, q⟩
def upd (m : Str → Option Value) (x : Str) (v : Value) : Str → Option Value := fun y => if y = x then some v else m y

section
variable {prog : Program} {w : World} {A : Around} {h₀ : Heap} {name : Str} {scope : Scope} {L f : Addr} {cd : Value} {s : Shared} {m : Str → Option Value}

theorem fresh_ne {h : Heap} {a b : Addr} {o : Obj} (x : h.get? a = some o) (y : h.get? b = none) : a ≠ b := by rintro rfl; rw [x] at y; cases y
theorem none_of_le {h h' : Heap} {b : Addr} (k : Le h h') (y : h'.get? b = none) : h.get? b = none := by
  cases e : h.get? b with
  | none => rfl
  | some o => rw [k _ _ e] at y; cases y
theorem none_size (h : Heap) : h.get? h.objs.size = none := by
  cases e : h.get? h.objs.size with
  | none => rfl
  | some o => exact absurd (Heap.lt_size e) (Nat.lt_irrefl _)

theorem stL {M : Model} {x : Str} {v : Value} {E : Value → Shared → Prop} {Q : Unit → Shared → Prop} (F : Fr h₀ L s.heap m)
    (h : ∀ h', Fr h₀ L h' (upd m x v) → Heap.SameBut L s.heap h' → Q () { s with heap := h', toks := s.toks + 1 })
    (hk : scope.kind = .function := by rfl) (hl : (envOf name scope L f cd).kindOf x = some .local := by rfl) :
    wpAny M A (storeName (envOf name scope L f cd) x v) Q E s :=
  wpAny_storeName_local hl F.ns (fun h' hn hs => h h' (F.set hn hs) hs)
    (by show (scope.kind == .class || (scope.kind == .module && L != mainGlobals)) = false; rw [hk]; rfl)

theorem for_range {x : Str} {px pos : Pos} {iter : Expr} {body : List Stmt} {a c : Int} {n : Nat} {Q : Flow → Shared → Prop} {E : Value → Shared → Prop}
    (hh : A.handled = none) (hx : scope.names.lookup x = some .local) (hk : scope.kind = .function) (F : Fr h₀ L s.heap m)
    (hit : Ev prog w A s.heap (eval iter (envOf name scope L f cd)) (vR a c n))
    (JH : Nat → Heap → Prop) (JM : Nat → (Str → Option Value) → Prop)
    (hH : ∀ i h h' I, s.heap.get? I = none → JH i h → (∀ b o, b ≠ I → b ≠ L → h.get? b = some o → h'.get? b = some o) → JH i h')
    (h0 : JH 0 s.heap) (m0 : JM 0 m)
    (step : ∀ i I tk t h m', i < n → s.heap.get? I = none → JH i h → JM i m' → Fr h₀ L h (upd m' x (.int (a + i * c) t)) →
      Wp prog w A (execs body (envOf name scope L f cd)) (fun fl s' => fl = .next ∧ ∃ h' tk' m'', s' = { s with heap := h', toks := tk' } ∧ Fr h₀ L h' m'' ∧ JH (i + 1) h' ∧ JM (i + 1) m'' ∧ (∀ o, h.get? I = some o → h'.get? I = some o))
        (fun _ _ => False) { s with heap := h, toks := tk })
    (hQ : ∀ h' tk m', Fr h₀ L h' m' → JH n h' → JM n m' → Q .next { s with heap := h', toks := tk })
    (hs : ∀ x, foldedSetIterable iter (envOf name scope L f cd) x = pure x := by intro _; rfl) :
    Wp prog w A (exec (.For (.Name x px) iter body [] pos) (envOf name scope L f cd)) Q E s := by
  refine ⟨wpAny_For (hit.run s _ E (Le.refl _) fun v s₁ k p => ?_) hs⟩
  obtain ⟨h₁, tk₁, rfl, k₁⟩ := k
  obtain ⟨r, b, t, u, t', rfl, hr, hsmall, hsz⟩ := p
  refine wpAny_pyIter_range hr hsmall ?_
  obtain ⟨I, hI⟩ : ∃ I, I = h₁.objs.size := ⟨_, rfl⟩
  have hIn : h₁.get? I = none := by rw [hI]; exact none_size _
  have hIs : s.heap.get? I = none := none_of_le k₁ hIn
  have hIL : I ≠ L := by
    obtain ⟨oL, _, _, hoL, _⟩ := F.ns
    exact (fresh_ne hoL hIs).symm
  have hp : ((envOf name scope L f cd).scope.kind == .class || ((envOf name scope L f cd).scope.kind == .module && (envOf name scope L f cd).locals != (envOf name scope L f cd).globals)) = false := by
    show (scope.kind == .class || (scope.kind == .module && L != mainGlobals)) = false; rw [hk]; rfl
  have frI : ∀ {h h' : Heap} {m'}, Fr h₀ L h m' → (∀ b o, b ≠ I → h.get? b = some o → h'.get? b = some o) → Fr h₀ L h' m' := fun {h h' m'} F' e => by
    refine ⟨F'.ns.at' fun o e' => e L o (Ne.symm hIL) e', fun b o e' => e b o ?_ (F'.keep b o e'), F'.above⟩
    exact fresh_ne (F.keep b o e') hIs
  dsimp only
  rw [← hI]
  refine codeAny_forLoop_any (fun k s' => ∃ h' tk m' i, s' = { s with heap := h', toks := tk } ∧ IsRangeIter h' I (a + (i : Nat) * c) ((n : Int) - (i : Nat)) c ∧ Fr h₀ L h' m' ∧ JH i h' ∧ JM i m' ∧ i ≤ n ∧ k = n + 1 - i) ?_ (n + 1)
    ⟨_, tk₁, m, 0, rfl, ?_, ?_, ?_, m0, Nat.zero_le _, rfl⟩
  · rintro k s' ⟨h', tk, m', i, rfl, hit', F', hJ, hJm, hi, rfl⟩
    by_cases hlt : i < n
    · refine wpAny_pyNext_range_item hit' (by omega) fun h₂ hit₂ hs₂ => ?_
      have F₂ : Fr h₀ L h₂ m' := frI F' fun b o hb e => hs₂.extBut b o hb e
      have hJ₂ : JH i h₂ := hH i _ _ I hIs hJ fun b o hb _ e => hs₂.extBut b o hb e
      refine wpAny_pure (wpAny_assign_Name (stL F₂ (fun h₃ F₃ hs₃ => ?_) hk hx))
      have hJ₃ : JH i h₃ := hH i _ _ I hIs hJ₂ fun b o _ hb e => hs₃.extBut b o hb e
      have hi₃ := hs₃.extBut I _ hIL hit₂
      refine wpAny_mono (step i I _ _ h₃ m' hlt hIs hJ₃ hJm F₃).run (fun fl s₄ q => ?_) fun _ _ q => q.elim
      obtain ⟨rfl, h₄, tk₄, m₄, rfl, F₄, hJ₄, hJm₄, hI₄⟩ := q
      refine ⟨n + 1 - (i + 1), by omega, h₄, tk₄, m₄, i + 1, rfl, ?_, F₄, hJ₄, hJm₄, hlt, rfl⟩
      have e1 : a + ((i + 1 : Nat) : Int) * c = a + (i : Int) * c + c := by push_cast; rw [Int.add_mul, Int.one_mul, Int.add_assoc]
      have e2 : (n : Int) - ((i + 1 : Nat) : Int) = (n : Int) - (i : Int) - 1 := by push_cast; omega
      rw [e1, e2]
      exact hI₄ _ hi₃
    · have hin : i = n := by omega
      subst hin
      refine wpAny_pyNext_range_end hh hit' (by omega) fun h₂ he₂ => wpAny_execs_nil ?_
      exact hQ h₂ tk m' (frI F' fun b o hb e => he₂ b o hb e) (hH i _ _ I hIs hJ fun b o hb _ e => he₂ b o hb e) hJm
  · rw [hsz]
    have : (a + ((0 : Nat) : Int) * c) = a := by simp
    rw [this, hI]
    have : ((n : Int) - ((0 : Nat) : Int)) = (n : Int) := by simp
    rw [this]
    exact Heap.get?_push_size _ rfl
  · exact frI F fun b o _ e => Heap.get?_push_of_some _ (k₁ b o e)
  · exact hH 0 _ _ I hIs h0 fun b o _ _ e => Heap.get?_push_of_some _ (k₁ b o e)
end
end Mine

namespace Mine
set_option maxRecDepth 100000
set_option maxHeartbeats 4000000

theorem frUp {h₀ h h' : Heap} {L : Addr} {m : Str → Option Value} (F : Fr h₀ L h m) (k : Le h h') : Fr h₀ L h' m := ⟨F.ns.keeps k, fun b o e => k _ _ (F.keep b o e), F.above⟩
theorem frameAt {h₀ h : Heap} {L : Addr} {m : Str → Option Value} (F : Fr h₀ L h m) : ∃ o, h.get? L = some o := let ⟨o, _, _, ho, _⟩ := F.ns; ⟨o, ho⟩
theorem updSelf {m : Str → Option Value} {x : Str} {v : Value} : upd m x v x = some v := by simp [upd]
theorem updNe {m : Str → Option Value} {x y : Str} {v : Value} (h : (y == x) = false) : upd m x v y = m y := by
  have : ¬ y = x := fun e => by rw [e, beq_self_eq_true] at h; cases h
  simp [upd, this]

section
variable {prog : Program} {w : World} {A : Around} {h : Heap} {env : Env}

/- ** texts ** -/
theorem ev_addS {l r : Expr} {pos : Pos} {x y : Str} (hl : Ev prog w A h (eval l env) (vS x)) (hr : Ev prog w A h (eval r env) (vS y)) (hsz : x.length + y.length ≤ 16777216) : Ev prog w A h (eval (.BinOp l .Add r pos) env) (vS (x ++ y)) :=
  ev_BinOp (sS _) hl hr fun _ _ _ _ p q => by obtain ⟨t, rfl⟩ := p; obtain ⟨u, rfl⟩ := q; exact ⟨fun s _ _ _ hQ => SB.add (fun _ _ => hQ _ _ (kTok s _) ⟨_, rfl⟩) hsz⟩
theorem ev_itemS {value slice : Expr} {pos : Pos} {x : Str} {k : Int} {c : Nat} (hl : Ev prog w A h (eval value env) (vS x)) (hr : Ev prog w A h (eval slice env) (vI k))
    (hk : (decide (k < -(2 ^ 63 : Int)) || decide (k ≥ 2 ^ 63)) = false) (hc : (seqIndex? k x.length).bind (x.cps[·]?) = some c)
    (hs : ∀ a u v, subscripted slice false (.str a u) (.int k v) = operate [.str a u, .int k v] (getItem (.str a u) (.int k v)) := by intro _ _ _; with_unfolding_all rfl) : Ev prog w A h (eval (.Subscript value slice pos) env) (vS ⟨#[c]⟩) := by
  refine ev_Sub (sS x) hl hr fun a b h' k' p q => ?_
  obtain ⟨t, rfl⟩ := p
  obtain ⟨u, rfl⟩ := q
  exact ⟨fun s Q E hs' hQ => tail_any (typeIs_str s x t) F.slot_str_getitem.lookup (P.getItem_str hk hc (hQ _ _ (kTok s _) ⟨_, rfl⟩)) (hs x t u)⟩

/- ** a dict display: ints to texts ** -/
def pairsOf (env : Env) (pos : Pos) : List (Option Expr) → List Expr → List (Sem Value × Sem Value)
  | some k :: ks, v :: vs => (eval k env, do let x ← eval v env; standAt pos; pure x) :: pairsOf env pos ks vs
  | _, _ => []
def lP (l : List (Int × Str)) : List (Value × Value) → Heap → Prop := fun vs _ => Paired (fun (p : Int × Str) (v : Value × Value) => ∃ t u, v = (.int p.1 t, .str p.2 u)) l vs
def Tab (l : List (Int × Str)) (f : Int → Option Value) : Prop := ∀ k, match l.lookup k with | some x => ∃ t, f k = some (.str x t) | none => f k = none
theorem ev_pairs_nil : Ev prog w A h (evalPairs []) (lP []) := ⟨fun s _ _ _ hQ => evalPairs_nil (hQ _ s (kRefl s) .nil)⟩
theorem ev_pairs_cons {k v : Expr} {pos : Pos} {rest : List (Sem Value × Sem Value)} {i : Int} {x : Str} {l : List (Int × Str)} (hk : Ev prog w A h (eval k env) (vI i)) (hv : Ev prog w A h (eval v env) (vS x)) (hr : Ev prog w A h (evalPairs rest) (lP l)) :
    Ev prog w A h (evalPairs ((eval k env, do let x ← eval v env; standAt pos; pure x) :: rest)) (lP ((i, x) :: l)) := by
  refine ⟨fun s Q E hs hQ => ?_⟩
  refine evalPairs_cons (hk.run s _ E hs fun a s1 k1 p1 => wpAny_bind (hv.run s1 _ E (hs.trans (kLe k1)) fun b s2 k2 p2 => wpAny_bind (wpAny_standAt (wpAny_pure ?_))))
  obtain ⟨t, rfl⟩ := p1
  obtain ⟨u, rfl⟩ := p2
  exact hr.run s2 _ E ((hs.trans (kLe k1)).trans (kLe k2)) fun vs s3 k3 p3 => hQ _ s3 (kTrans k1 (kTrans k2 k3)) (.cons ⟨t, u, rfl⟩ p3)
theorem carries_of : ∀ {l : List (Int × Str)} {vs : List (Value × Value)}, Paired (fun (p : Int × Str) (v : Value × Value) => ∃ t u, v = (.int p.1 t, .str p.2 u)) l vs →
    ∃ kvs : List (Int × Value), Carries (intKind prog w) vs kvs ∧ Paired (fun (p : Int × Str) (v : Int × Value) => ∃ u, v = (p.1, .str p.2 u)) l kvs
  | _, _, .nil => ⟨[], trivial, .nil⟩
  | _, _, .cons ⟨t, u, e⟩ r => by
    obtain ⟨kvs, c, q⟩ := carries_of r
    subst e
    exact ⟨_ :: kvs, ⟨by simp [intKind, Value.isInt], rfl, c⟩, .cons ⟨u, rfl⟩ q⟩
theorem keys_of : ∀ {l : List (Int × Str)} {kvs : List (Int × Value)}, Paired (fun (p : Int × Str) (v : Int × Value) => ∃ u, v = (p.1, .str p.2 u)) l kvs → kvs.map (·.1) = l.map (·.1)
  | _, _, .nil => rfl
  | _, _, .cons ⟨u, e⟩ r => by subst e; simp [keys_of r]
theorem tab_of : ∀ {l : List (Int × Str)} {kvs : List (Int × Value)}, Paired (fun (p : Int × Str) (v : Int × Value) => ∃ u, v = (p.1, .str p.2 u)) l kvs → Tab l (valueAt kvs)
  | _, _, .nil => fun _ => rfl
  | _, _, .cons (a := (i, y)) (l₁ := l) (l₂ := kvs) ⟨u, e⟩ r => by
    subst e
    intro k
    have ih := tab_of r k
    unfold valueAt at ih ⊢
    by_cases hk : k = i
    · subst hk
      simp [List.lookup_cons]
    · have h1 : (k == i) = false := by simpa using hk
      have h2 : decide (i = k) = false := by simpa using fun e => hk e.symm
      simp only [List.lookup_cons, h1, List.find?_cons, h2]
      exact ih
theorem ev_Dict {keys : List (Option Expr)} {values : List Expr} {pos : Pos} {l : List (Int × Str)} (hG : ∃ o, h.get? 3 = some o) (hnd : (l.map (·.1)).Nodup) (hp : Ev prog w A h (evalPairs (pairsOf env pos keys values)) (lP l))
    (hshape : (evalEachOpt keys env).zip ((evalEach values env).map fun v => do let x ← v; standAt pos; pure x) = (pairsOf env pos keys values).map fun p => (some p.1, p.2)) (h0 : pairsOf env pos keys values ≠ []) (hlen : (pairsOf env pos keys values).length ≤ 15) :
    Ev prog w A h (eval (.Dict keys values pos) env) (fun v h' => ∃ d f, v = .ref d ∧ h.get? d = none ∧ (d == sysModules) = false ∧ h'.MapOf (intKind prog w) d f ∧ Tab l f) := by
  refine ⟨fun s Q E hs hQ => ?_⟩
  have hpush : Le s.heap (s.heap.push { cls := .type "dict", data := .dict #[] }) := Le.push _
  have hsz : 3 < s.heap.objs.size := let ⟨o, e⟩ := hG; Heap.lt_size (hs _ _ e)
  refine wpAny_Dict_pairs (knd := intKind prog w) hshape h0 hlen (hp.run _ _ E (hs.trans hpush) fun vs s1 k1 p1 => ?_)
  obtain ⟨kvs, c, q⟩ := carries_of (prog := prog) (w := w) p1
  obtain ⟨h1, tk1, rfl, k1⟩ := k1
  refine ⟨kvs, c, ?_, fun h' hd hsb => ?_⟩
  · obtain ⟨o, es, ep, ho, r⟩ : (s.heap.push { cls := .type "dict", data := .dict #[] }).DictOf (intKind prog w) s.heap.objs.size [] := Heap.DictOf.new _
    exact ⟨o, es, ep, k1 _ _ ho, r⟩
  · rw [merged_nil_of_nodup _ (by rw [keys_of q]; exact hnd)] at hd
    refine hQ _ _ (kHeap fun b o e => hsb.extBut b o (Nat.ne_of_lt (Heap.lt_size e)) (k1 _ _ (hpush _ _ e))) ⟨_, _, rfl, none_of_le hs (none_size _), ?_, hd.mapOf, tab_of q⟩
    show (s.heap.objs.size == 1) = false
    simp; omega
theorem ev_inD {l r : Expr} {pos : Pos} {whole : Sem Value} {k : Int} {tab : List (Int × Str)} (hl : Ev prog w A h (eval l env) (vI k))
    (hr : Ev prog w A h (eval r env) (fun v h' => ∃ d f, v = .ref d ∧ (d == sysModules) = false ∧ h'.MapOf (intKind prog w) d f ∧ Tab tab f)) (hm : behindInMarks .In r = false := by with_unfolding_all rfl) :
    Ev prog w A h (isTrue (.Compare l [.In] [r] pos) env whole) (tB (tab.lookup k).isSome) := by
  refine ev_test (sI _) hl hr (fun _ _ _ _ p q => ?_) hm
  obtain ⟨t, rfl⟩ := p
  obtain ⟨d, f, rfl, hd, hf, ht⟩ := q
  refine ⟨fun s Q E hs hQ => ?_⟩
  refine wpAny_in_of (knd := intKind prog w) (k := k) (by simp [intKind, Value.isInt]) hd (f := f) ?_ (hQ _ _ (kTok s _) ⟨_, rfl, ?_⟩)
  · obtain ⟨o, es, ep, ho, r⟩ := hf
    exact ⟨o, es, ep, hs _ _ ho, r⟩
  · have := ht k
    cases e : tab.lookup k with
    | none => rw [e] at this; rw [this]; rfl
    | some x => rw [e] at this; obtain ⟨t, e'⟩ := this; rw [e']; rfl
theorem ev_getD {value slice : Expr} {pos : Pos} {k : Int} {x : Str} {tab : List (Int × Str)} (hl : Ev prog w A h (eval value env) (fun v h' => ∃ d f, v = .ref d ∧ (d == sysModules) = false ∧ h'.MapOf (intKind prog w) d f ∧ Tab tab f))
    (hr : Ev prog w A h (eval slice env) (vI k)) (hx : tab.lookup k = some x)
    (hs : ∀ a u, subscripted slice false (.ref a) (.int k u) = operate [.ref a, .int k u] (getItem (.ref a) (.int k u)) := by intro _ _; with_unfolding_all rfl) : Ev prog w A h (eval (.Subscript value slice pos) env) (vS x) := by
  refine ev_Sub ?_ hl hr fun a b h' k' p q => ?_
  · rintro v h1 h2 k ⟨d, f, e, e', ⟨o, es, ep, ho, r⟩, t⟩
    exact ⟨d, f, e, e', ⟨o, es, ep, k _ _ ho, r⟩, t⟩
  obtain ⟨d, f, rfl, hd, hf, ht⟩ := p
  obtain ⟨u, rfl⟩ := q
  refine ⟨fun s Q E hs' hQ => ?_⟩
  have hf' : s.heap.MapOf (intKind prog w) d f := by
    obtain ⟨o, es, ep, ho, r⟩ := hf
    exact ⟨o, es, ep, hs' _ _ ho, r⟩
  have := ht k
  rw [hx] at this
  obtain ⟨t, e'⟩ := this
  exact tail_any hf'.typeIs slot_dict_getitem.lookup (wpAny_getItem_of (knd := intKind prog w) (k := k) (by simp [intKind, Value.isInt]) hf' e' (hQ _ _ (kTok s _) ⟨_, rfl⟩)) (hs d u)
end

section
variable {prog : Program} {w : World} {A : Around} {h : Heap} {env : Env}
theorem ev_two {pos : Pos} {e1 e2 : Expr} {P1 P2 : Value → Heap → Prop} (s1 : Stab P1) (s2 : Stab P2) (x1 : Ev prog w A h (eval e1 env) P1) (x2 : Ev prog w A h (eval e2 env) P2)
    (hs : starEach [e1, e2] env = (false, eval e1 env) :: starEach [e2] env := by rfl) (hs' : starEach [e2] env = (false, eval e2 env) :: starEach [] env := by rfl) :
    Ev prog w A h (spliced (backTo pos (starEach [e1, e2] env))) (fun vs h' => ∃ a b, vs = [a, b] ∧ P1 a h' ∧ P2 b h') :=
  (ev_items_cons s1 x1 (ev_items_cons s2 x2 ev_items_nil hs') hs).mono fun vs h' _ p => by
    obtain ⟨a, r, rfl, pa, b, r', rfl, pb, rfl⟩ := p
    exact ⟨a, b, rfl, pa, pb⟩
theorem ev_one {pos : Pos} {e1 : Expr} {P1 : Value → Heap → Prop} (s1 : Stab P1) (x1 : Ev prog w A h (eval e1 env) P1)
    (hs : starEach [e1] env = (false, eval e1 env) :: starEach [] env := by rfl) :
    Ev prog w A h (spliced (backTo pos (starEach [e1] env))) (fun vs h' => ∃ a, vs = [a] ∧ P1 a h') :=
  (ev_items_cons s1 x1 ev_items_nil hs).mono fun vs h' _ p => by
    obtain ⟨a, r, rfl, pa, rfl⟩ := p
    exact ⟨a, rfl, pa⟩
end
/- ** statements ** -/
section
variable {prog : Program} {w : World} {A : Around} {h₀ h : Heap} {g : Array GenState} {d : Drawn} {tk : Nat} {os : OsState} {name : Str} {scope : Scope} {L f : Addr} {cd : Value} {m : Str → Option Value}
theorem Wp.cons {st : Stmt} {rest : List Stmt} {env : Env} {Q : Flow → Shared → Prop} {E : Value → Shared → Prop} {s : Shared}
    (x : Wp prog w A (exec st env) (fun fl s' => match fl with | .next => Wp prog w A (execs rest env) Q E s' | fl => Q fl s') E s) : Wp prog w A (execs (st :: rest) env) Q E s :=
  ⟨wpAny_execs_cons (wpAny_mono x.run (fun fl s' q => by cases fl <;> first | exact q.run | exact q) fun _ _ e => e)⟩
theorem Wp.nil {env : Env} {Q : Flow → Shared → Prop} {E : Value → Shared → Prop} {s : Shared} (x : Q .next s) : Wp prog w A (execs [] env) Q E s := ⟨wpAny_execs_nil x⟩
theorem Wp.mono {α : Type} {t : Sem α} {Q Q' : α → Shared → Prop} {E : Value → Shared → Prop} {s : Shared} (x : Wp prog w A t Q E s) (f : ∀ v s', Q v s' → Q' v s') : Wp prog w A t Q' E s := ⟨wpAny_mono x.run f fun _ _ e => e⟩
theorem asg {x : Str} {px pos : Pos} {value : Expr} {P : Value → Heap → Prop} {Q : Flow → Shared → Prop} {E : Value → Shared → Prop} (F : Fr h₀ L h m)
    (ev : Ev prog w A h (eval value (envOf name scope L f cd)) P)
    (hq : ∀ v h' h'' tk', Le h h' → P v h' → Fr h₀ L h'' (upd m x v) → Heap.SameBut L h' h'' → Q .next ⟨h'', g, d, tk', os⟩)
    (hk : scope.kind = .function := by rfl) (hl : (envOf name scope L f cd).kindOf x = some .local := by rfl)
    (hs : swapsWith value (some (.Name x px)) pos.line (envOf name scope L f cd) = pure false := by rfl) :
    Wp prog w A (exec (.Assign [.Name x px] value pos) (envOf name scope L f cd)) Q E ⟨h, g, d, tk, os⟩ := by
  refine ⟨wpAny_Assign_Name (ev.run ⟨h, g, d, tk, os⟩ _ E (Le.refl _) fun v s1 k p => ?_) hs⟩
  obtain ⟨h1, tk1, rfl, k1⟩ := k
  exact stL (frUp F k1) (fun h2 F2 hs2 => hq v h1 h2 _ k1 p F2 hs2) hk hl

theorem asg2 {x y : Str} {elts vals : List Expr} {j k : Nat} {tpos vpos pos : Pos} {Px Py : Value → Heap → Prop} {Q : Flow → Shared → Prop} {E : Value → Shared → Prop} (hh : A.handled = none) (F : Fr h₀ L h m)
    (ev : Ev prog w A h (spliced (backTo vpos (starEach vals (envOf name scope L f cd)))) (fun vs h' => ∃ a b, vs = [a, b] ∧ Px a h' ∧ Py b h'))
    (hq : ∀ a b h' h'' tk', Le h h' → Px a h' → Py b h' → Fr h₀ L h'' (upd (upd m y b) x a) → (∀ c o, c ≠ L → h'.get? c = some o → h''.get? c = some o) → Q .next ⟨h'', g, d, tk', os⟩)
    (hk : scope.kind = .function := by rfl) (hx : (envOf name scope L f cd).kindOf x = some .local := by rfl) (hy : (envOf name scope L f cd).kindOf y = some .local := by rfl)
    (hs : swapsWithSole [.Tuple elts k tpos] (.Tuple vals j vpos) pos.line (envOf name scope L f cd) = pure false := by rfl)
    (hw : swappedStores [.Tuple elts k tpos] (.Tuple vals j vpos) (envOf name scope L f cd) = pure (some [x, y]) := by rfl) :
    Wp prog w A (exec (.Assign [.Tuple elts k tpos] (.Tuple vals j vpos) pos) (envOf name scope L f cd)) Q E ⟨h, g, d, tk, os⟩ := by
  refine ⟨Assign_Tuple_swapped (wpAny_Tuple (ev.run ⟨h, g, d, tk, os⟩ _ E (Le.refl _) fun vs s1 k p => ?_)) hs hw⟩
  obtain ⟨h1, tk1, rfl, k1⟩ := k
  obtain ⟨a, b, rfl, pa, pb⟩ := p
  refine ⟨by simp [sizeLine_eq], ?_⟩
  have F1 := frUp (frUp F k1) (Le.push { cls := .type "tuple", data := .seq [a, b].toArray })
  refine unpackItems_tuple (items := [a, b].toArray) hh (IsTup.new _ _) fun h2 he2 => ?_
  have F2 : Fr h₀ L h2 m := F1.extBut he2 (Nat.le_refl _)
  have up2 : ∀ c o, h1.get? c = some o → h2.get? c = some o := fun c o e => he2 c o (Nat.ne_of_lt (Nat.lt_trans (Heap.lt_size e) (by simp [Heap.size_push]))) (Heap.get?_push_of_some _ e)
  show wpAny _ A (assignInOrder [bindName (envOf name scope L f cd) y, bindName (envOf name scope L f cd) x] [b, a]) _ E _
  refine assignInOrder_cons (wpAny_bindName (stL F2 (fun h3 F3 hs3 => ?_) hk hy))
  refine assignInOrder_cons (wpAny_bindName (stL F3 (fun h4 F4 hs4 => ?_) hk hx))
  refine assignInOrder_nil ?_
  exact hq a b h1 h4 _ k1 pa pb F4 fun c o hc e => hs4.extBut c o hc (hs3.extBut c o hc (up2 c o e))

theorem retE {e : Expr} {pos : Pos} {env : Env} {P : Value → Heap → Prop} {Q : Flow → Shared → Prop} {E : Value → Shared → Prop} (ev : Ev prog w A h (eval e env) P)
    (hq : ∀ v h' tk', Le h h' → P v h' → Q (.ret v) ⟨h', g, d, tk', os⟩) : Wp prog w A (exec (.Return (some e) pos) env) Q E ⟨h, g, d, tk, os⟩ := by
  refine ⟨wpAny_Return_some (ev.run ⟨h, g, d, tk, os⟩ _ E (Le.refl _) fun v s1 k p => ?_)⟩
  obtain ⟨h1, tk1, rfl, k1⟩ := k
  exact hq v h1 tk1 k1 p

theorem forR {x : Str} {px pos : Pos} {iter : Expr} {body : List Stmt} {a c : Int} {n : Nat} {Q : Flow → Shared → Prop} {E : Value → Shared → Prop}
    (hh : A.handled = none) (F : Fr h₀ L h m)
    (hit : Ev prog w A h (eval iter (envOf name scope L f cd)) (vR a c n))
    (JH : Nat → Heap → Prop) (JM : Nat → (Str → Option Value) → Prop)
    (hH : ∀ i h1 h' I, h.get? I = none → JH i h1 → (∀ b o, b ≠ I → b ≠ L → h1.get? b = some o → h'.get? b = some o) → JH i h')
    (h0 : JH 0 h) (m0 : JM 0 m)
    (step : ∀ i I tk t h1 m', i < n → h.get? I = none → JH i h1 → JM i m' → Fr h₀ L h1 (upd m' x (.int (a + i * c) t)) →
      Wp prog w A (execs body (envOf name scope L f cd)) (fun fl s' => fl = .next ∧ ∃ h' tk' m'', s' = ⟨h', g, d, tk', os⟩ ∧ Fr h₀ L h' m'' ∧ JH (i + 1) h' ∧ JM (i + 1) m'' ∧ (∀ o, h1.get? I = some o → h'.get? I = some o))
        (fun _ _ => False) ⟨h1, g, d, tk, os⟩)
    (hq : ∀ h' tk m', Fr h₀ L h' m' → JH n h' → JM n m' → Q .next ⟨h', g, d, tk, os⟩)
    (hx : scope.names.lookup x = some .local := by rfl) (hk : scope.kind = .function := by rfl)
    (hs : ∀ x, foldedSetIterable iter (envOf name scope L f cd) x = pure x := by intro _; rfl) :
    Wp prog w A (exec (.For (.Name x px) iter body [] pos) (envOf name scope L f cd)) Q E ⟨h, g, d, tk, os⟩ :=
  for_range (s := ⟨h, g, d, tk, os⟩) hh hx hk F hit JH JM hH h0 m0 step hq hs

/-- range(k) -/
theorem ev_range1 {e : Expr} {pos : Pos} {env : Env} {n : Int} (ha : Ev prog w A h (eval e env) (vI n)) (h0 : 0 ≤ n) (h1 : n < 2 ^ 62) (he : starEach [e] env = [(false, eval e env)] := by rfl) :
    Ev prog w A h (callWith pos (.type "range") [] (backTo pos (starEach [e] env)) []) (vR 0 1 n.toNat) := by
  refine ev_withT (R := lL vI [n]) (ev_iL_cons sI ha ev_iL_nil he) (fun vs h' k p => ?_) he rfl
  obtain ⟨t, rfl⟩ : ∃ t, vs = [.int n t] := by
    cases p with
    | cons p q => cases q; obtain ⟨t, rfl⟩ := p; exact ⟨t, rfl⟩
  refine ⟨fun s Q E hs hQ => ?_⟩
  refine call_range_1 (hQ _ _ (kHeap (Le.push _)) ⟨_, n, _, _, _, rfl, IsRange.new .., small_one (by decide) (by decide) (by omega) h1, ?_⟩)
  rw [rangeSize_one]; split <;> omega
end
end Mine

namespace Mine
set_option maxRecDepth 100000
set_option maxHeartbeats 4000000

def numOf (x : Int) : Int := [32768, 16384, 40960, 49152].getD (x.fmod 4).toNat 0 + (x.fdiv 4).fmod 4096
theorem numAt {k : Int} (h0 : 0 ≤ k) (h1 : k < 4) (l : List Int) (hl : l.length = 4) : l[k.toNat]? = some (l.getD k.toNat 0) := by
  have : k.toNat < l.length := by omega
  simp [List.getD_eq_getElem?_getD, this]
theorem number_ok {prog : Program} {w : World} {A : Around} {h : Heap} {mg mb : Str → Option Value} {f : Addr} (G : GG mg mb h) (hf : mg (fName 28) = some (.ref f)) (hroom : A.depth < recursionLimit) (x : Int) (t : Tok) :
    Ev prog w A h (call (.ref f) [.int x t]) (vI (numOf x)) := by
  refine ev_callG (i := 28) (binds := [("x", .int x t)]) G (by decide) hf hroom (fun _ _ _ => rfl) (locs rfl) fun s L h₁ cd hs Gs G1 hcd F => ?_
  have hm := Int.fmod_nonneg_of_pos x (b := 4) (by decide)
  have hm' := Int.fmod_lt_of_pos x (b := 4) (by decide)
  refine Wp.cons (retE (P := vI (numOf x)) ?_ fun v h' tk' k p => ⟨kHeap (Le.trans F.keep k), p⟩)
  unfold numOf
  refine ev_addI (ev_subL (R := vI) sI (ev_ListL (xs := [32768, 16384, 40960, 49152]) sI ?_ (by decide)) ?_ hm (numAt hm hm' _ rfl) (by decide)) ?_
  · refine ev_iL_cons sI ?_ (ev_iL_cons sI ?_ (ev_iL_cons sI ?_ (ev_iL_cons sI ?_ ev_iL_nil)))
    · exact ev_const G1 (by decide)
    · exact ev_const G1 (by decide)
    · exact ev_const G1 (by decide)
    · exact ev_const G1 (by decide)
  · exact ev_modI (ev_localI F.ns rfl) ev_int (by decide)
  · exact ev_modI (ev_fdivI (ev_localI F.ns rfl) ev_int (by decide) (PyProof.noPylong_of_log2 (by decide +kernel))) ev_int (by decide)
end Mine

namespace Mine
set_option maxRecDepth 100000
set_option maxHeartbeats 400000

def kTab : List (Int × Str) := [(8, "-"), (4, "d"), (10, "l"), (12, "s"), (6, "b"), (2, "c"), (1, "p")]
def kindS (k : Int) : Str := match kTab.lookup k with | some x => x | none => "?"
def sgT (n : Int) (k : Nat) : Int := (n.fdiv (8 ^ ((2 : Int) - (k : Int)).toNat)).fmod 8
def sgO (n : Int) (k : Nat) : Int := ((n.fdiv 512).fdiv (2 ^ ((2 : Int) - (k : Int)).toNat)).fmod 2
def chU (k : Nat) : Str := if k < 2 then "S" else "T"
def chL (k : Nat) : Str := if k < 2 then "s" else "t"
def sgL (n : Int) (k : Nat) : Str := (["-", "x", chU k, chL k] : List Str).getD ((sgT n k).fmod 2 + 2 * sgO n k).toNat ""
def sgAt (n : Int) : Nat → Str
  | 0 => kindS (n.fdiv 4096)
  | k + 1 => ((sgAt n k ++ (if (sgT n k).fdiv 4 == 1 then ("r" : Str) else "-")) ++ (if ((sgT n k).fdiv 2).fmod 2 == 1 then ("w" : Str) else "-")) ++ sgL n k

theorem sgIdx (n : Int) (k : Nat) : 0 ≤ (sgT n k).fmod 2 + 2 * sgO n k ∧ (sgT n k).fmod 2 + 2 * sgO n k < 4 := by
  have h1 := Int.fmod_nonneg_of_pos (sgT n k) (b := 2) (by decide)
  have h2 := Int.fmod_lt_of_pos (sgT n k) (b := 2) (by decide)
  have h3 := Int.fmod_nonneg_of_pos ((n.fdiv 512).fdiv (2 ^ ((2 : Int) - (k : Int)).toNat)) (b := 2) (by decide)
  have h4 := Int.fmod_lt_of_pos ((n.fdiv 512).fdiv (2 ^ ((2 : Int) - (k : Int)).toNat)) (b := 2) (by decide)
  unfold sgO
  omega
theorem sgL_get (n : Int) (k : Nat) : (["-", "x", chU k, chL k] : List Str)[((sgT n k).fmod 2 + 2 * sgO n k).toNat]? = some (sgL n k) := by
  obtain ⟨h0, h1⟩ := sgIdx n k
  unfold sgL
  generalize (sgT n k).fmod 2 + 2 * sgO n k = j at h0 h1
  have : j.toNat < (["-", "x", chU k, chL k] : List Str).length := by simp; omega
  rw [List.getElem?_eq_getElem this, List.getD_eq_getElem?_getD, List.getElem?_eq_getElem this]; rfl
theorem sgL_len (n : Int) (k : Nat) : (sgL n k).length = 1 := by
  have := sgL_get n k
  have hm := List.mem_of_getElem? this
  simp only [List.mem_cons, List.not_mem_nil, or_false] at hm
  rcases hm with e | e | e | e
  · rw [e]; decide
  · rw [e]; decide
  · rw [e]; unfold chU; split <;> decide
  · rw [e]; unfold chL; split <;> decide
theorem kindS_len (k : Int) : (kindS k).length = 1 := by
  unfold kindS
  split
  · rename_i x e
    unfold kTab at e
    simp only [List.lookup_cons, List.lookup_nil] at e
    repeat' split at e
    all_goals first | (cases e; decide) | cases e
  · decide
theorem sgAt_len (n : Int) : ∀ k, (sgAt n k).length = 1 + 3 * k
  | 0 => kindS_len _
  | k + 1 => by
    have h1 : ∀ b : Bool, (if b then ("r" : Str) else "-").length = 1 := by decide
    have h2 : ∀ b : Bool, (if b then ("w" : Str) else "-").length = 1 := by decide
    simp only [sgAt, Str.length_append, sgAt_len n k, sgL_len, h1, h2]
    omega

theorem signs_ok {prog : Program} {w : World} {A : Around} {h : Heap} {mg mb : Str → Option Value} {f : Addr} (G : GG mg mb h) (hf : mg (fName 29) = some (.ref f)) (hroom : A.depth < recursionLimit) (hh : A.handled = none) (n : Int) (t : Tok) :
    Ev prog w A h (call (.ref f) [.int n t]) (vS (sgAt n 3)) := by
  refine ev_callG (i := 29) (binds := [("number", .int n t)]) G (by decide) hf hroom (fun _ _ _ => rfl) (locs rfl) fun s L h₁ cd hs Gs G1 hcd F => ?_
  have hh' : (A.deeper (envOf (fName 29) (fScope 29) L f cd)).handled = none := hh
  generalize A.deeper (envOf (fName 29) (fScope 29) L f cd) = A' at hh' ⊢
  refine Wp.cons (asg F (P := fun v h' => ∃ d f, v = .ref d ∧ h₁.get? d = none ∧ (d == sysModules) = false ∧ h'.MapOf (intKind prog w) d f ∧ Tab kTab f) ?_ fun v h2 h3 tk k2 p2 F3 hs3 => ?_)
  · refine ev_Dict (l := kTab) ?_ ?_ ?_ ?_ ?_ ?_
    · obtain ⟨o, _, _, e, _⟩ := G1.g
      exact ⟨o, e⟩
    · decide
    · simp only [pairsOf]
      exact ev_pairs_cons ev_int ev_str (ev_pairs_cons ev_int ev_str (ev_pairs_cons ev_int ev_str (ev_pairs_cons ev_int ev_str (ev_pairs_cons ev_int ev_str (ev_pairs_cons ev_int ev_str (ev_pairs_cons ev_int ev_str ev_pairs_nil))))))
    · rfl
    · simp [pairsOf]
    · simp [pairsOf]
  obtain ⟨d, g, rfl, hd0, hds, hm, ht⟩ := p2
  have hdL : d ≠ L := by obtain ⟨o, e⟩ := frameAt F; exact (fresh_ne e hd0).symm
  have hm3 := hm.sameBut hs3 hdL
  dsimp only
  refine Wp.cons (asg F3 (P := vS (sgAt n 0)) ?_ fun v h4 h5 tk k4 p4 F5 hs5 => ?_)
  · have hkd : ∀ {pos}, Ev prog w A' h3 (eval (.Name "kinds" pos) (envOf (fName 29) (fScope 29) L f cd)) (fun v h' => ∃ d f, v = .ref d ∧ (d == sysModules) = false ∧ h'.MapOf (intKind prog w) d f ∧ Tab kTab f) := fun {pos} =>
      ev_local F3.ns ⟨.ref d, rfl, fun h' k => ⟨d, g, rfl, hds, let ⟨o, es, ep, ho, r⟩ := hm3; ⟨o, es, ep, k _ _ ho, r⟩, ht⟩⟩
    refine ev_IfExp (c := (kTab.lookup (n.fdiv 4096)).isSome) ?_ (fun e => ?_) (fun e => ?_)
    · refine ev_inD ?_ hkd
      exact ev_fdivI (ev_localI F3.ns rfl) ev_int (by decide) (PyProof.noPylong_of_log2 (by decide +kernel))
    · refine ev_getD hkd (k := n.fdiv 4096) ?_ ?_
      · exact ev_fdivI (ev_localI F3.ns rfl) ev_int (by decide) (PyProof.noPylong_of_log2 (by decide +kernel))
      · obtain ⟨x, e'⟩ := Option.isSome_iff_exists.mp e
        simp only [sgAt, kindS, e']
    · have e' : kTab.lookup (n.fdiv 4096) = none := by simpa using e
      have : sgAt n 0 = "?" := by simp only [sgAt, kindS, e']
      rw [this]
      exact ev_str
  obtain ⟨ts, rfl⟩ := p4
  dsimp only
  refine Wp.cons (forR (a := 0) (c := 1) (n := 3) hh' F5 ?_ (fun _ _ => True) (fun i m => ∃ t t', m "signs" = some (.str (sgAt n i) t) ∧ m "number" = some (.int n t')) (fun _ _ _ _ _ _ _ => trivial) trivial ⟨ts, t, rfl, rfl⟩ ?_ fun h' tk m' F' _ hm' => ?_)
  · have G5 : GG mg mb h5 := Gs.up F5.keep
    exact ev_Call (ev_boot G5 (by decide) (by decide +kernel)) (ev_range1 (n := 3) ev_int (by decide) (by decide))
  · intro i I tk' ti h6 m6 hi hI _ hm6 F6
    obtain ⟨t1, t2, e1, e2⟩ := hm6
    rw [show (0 + (i : Int) * 1) = (i : Int) by omega] at F6
    have eN : (upd m6 "k" (.int i ti)) "number" = some (.int n t2) := (updNe (by decide)).trans e2
    have eS : (upd m6 "k" (.int i ti)) "signs" = some (.str (sgAt n i) t1) := (updNe (by decide)).trans e1
    have eK : (upd m6 "k" (.int i ti)) "k" = some (.int i ti) := updSelf
    generalize upd m6 "k" (.int i ti) = m7 at F6 eN eS eK
    refine Wp.cons (asg2 (x := "three") (y := "own") (Px := vI (sgT n i)) (Py := vI (sgO n i)) hh' F6 ?_ fun va vb h7 h8 tk8 k7 pa pb F8 hk8 => ?_)
    · refine ev_two (sI _) (sI _) ?_ ?_
      · unfold sgT
        rcases (by omega : i = 0 ∨ i = 1 ∨ i = 2) with rfl | rfl | rfl
        all_goals exact ev_modI (ev_fdivI (ev_localI F6.ns eN) (ev_powI ev_int (ev_subI ev_int (ev_localI F6.ns eK)) (by decide) (by decide)) (by decide) (PyProof.noPylong_of_log2 (by decide +kernel))) ev_int (by decide)
      · unfold sgO
        rcases (by omega : i = 0 ∨ i = 1 ∨ i = 2) with rfl | rfl | rfl
        all_goals exact ev_modI (ev_fdivI (ev_fdivI (ev_localI F6.ns eN) ev_int (by decide) (PyProof.noPylong_of_log2 (by decide +kernel))) (ev_powI ev_int (ev_subI ev_int (ev_localI F6.ns eK)) (by decide) (by decide)) (by decide) (PyProof.noPylong_of_log2 (by decide +kernel))) ev_int (by decide)
    · obtain ⟨ta, rfl⟩ := pa
      obtain ⟨tb, rfl⟩ := pb
      dsimp only
      have hI8 : ∀ o, h6.get? I = some o → h8.get? I = some o := fun o e => hk8 I o (by obtain ⟨o', e'⟩ := frameAt F5; exact (fresh_ne e' hI).symm) (k7 _ _ e)
      refine Wp.cons (asg F8 (P := vS (sgL n i)) ?_ fun v h9 h10 tk10 k9 p9 F10 hs10 => ?_)
      · have hs3 := sgIdx n i
        refine ev_subL (R := vS) (xs := ["-", "x", chU i, chL i]) (k := (sgT n i).fmod 2 + 2 * sgO n i) sS (ev_ListL sS ?_ (by simp)) ?_ hs3.1 (sgL_get n i) (by simp)
        · refine ev_iL_cons sS ev_str (ev_iL_cons sS ev_str (ev_iL_cons sS ?_ (ev_iL_cons sS ?_ ev_iL_nil)))
          all_goals rcases (by omega : i = 0 ∨ i = 1 ∨ i = 2) with rfl | rfl | rfl
          all_goals exact ev_itemS ev_str (ev_localI F8.ns eK) (by decide) (by decide)
        · exact ev_addI (ev_modI (ev_localI F8.ns updSelf) ev_int (by decide)) (ev_mulI ev_int (ev_localI F8.ns ((updNe (by decide)).trans updSelf)) (IntMulOk.of_left (by decide)))
      · obtain ⟨t9, rfl⟩ := p9
        dsimp only
        have hI10 : ∀ o, h6.get? I = some o → h10.get? I = some o := fun o e => hs10.extBut I o (by obtain ⟨o', e'⟩ := frameAt F5; exact (fresh_ne e' hI).symm) (k9 _ _ (hI8 o e))
        refine Wp.cons (asg F10 (P := vS (sgAt n (i + 1))) ?_ fun v h11 h12 tk12 k11 p11 F12 hs12 => ?_)
        · have l0 := sgAt_len n i
          have l1 := sgL_len n i
          have h1 : ∀ b : Bool, (if b then ("r" : Str) else "-").length = 1 := by decide
          have h2 : ∀ b : Bool, (if b then ("w" : Str) else "-").length = 1 := by decide
          have eT : ∀ {pos}, Ev prog w A' h10 (eval (.Name "three" pos) (envOf (fName 29) (fScope 29) L f cd)) (vI (sgT n i)) := ev_localI F10.ns ((updNe (by decide)).trans updSelf)
          refine ev_addS (ev_addS (ev_addS (x := sgAt n i) ?_ (ev_IfExpS (c := (sgT n i).fdiv 4 == 1) ?_ ev_str ev_str) ?_) (ev_IfExpS (c := ((sgT n i).fdiv 2).fmod 2 == 1) ?_ ev_str ev_str) ?_) ?_ ?_
          · exact ev_local F10.ns ⟨_, eS, fun _ _ => ⟨_, rfl⟩⟩
          · exact ev_eqI (ev_fdivI eT ev_int (by decide) (PyProof.noPylong_of_log2 (by decide +kernel))) ev_int
          · rw [h1]; omega
          · exact ev_eqI (ev_modI (ev_fdivI eT ev_int (by decide) (PyProof.noPylong_of_log2 (by decide +kernel))) ev_int (by decide)) ev_int
          · rw [Str.length_append, h1, h2]; omega
          · exact ev_local F10.ns ⟨_, updSelf, fun _ _ => ⟨_, rfl⟩⟩
          · rw [Str.length_append, Str.length_append, h1, h2]; omega
        · obtain ⟨t11, rfl⟩ := p11
          refine Wp.nil ⟨rfl, h12, tk12, _, rfl, F12, trivial, ⟨t11, t2, updSelf, ?_⟩, fun o e => hs12.extBut I o ?_ (k11 _ _ (hI10 o e))⟩
          · exact eN
          · obtain ⟨o', e'⟩ := frameAt F5; exact (fresh_ne e' hI).symm
  · obtain ⟨t1, t2, e1, e2⟩ := hm'
    dsimp only
    refine Wp.cons (retE (P := vS (sgAt n 3)) (ev_local F'.ns ⟨_, e1, fun _ _ => ⟨_, rfl⟩⟩) fun v h'' tk'' k p => ⟨kHeap (Le.trans F'.keep k), p⟩)
end Mine

namespace Mine
set_option maxRecDepth 100000
set_option maxHeartbeats 4000000

/- ** activations that hold a bytearray ** -/
def badIds : List String := ["bytearray.__contains__", "bytearray.__mod__", "bytearray.__rmod__", "_struct.pack_into.held", "bytearray.find.held"] ++ Builtin.Bytes.decodersThatHold
def badCode : Code → Bool
  | .builtin id _ => badIds.contains id
  | _ => false
def cleanL (l : List (Code × Pos)) : Bool := l.all fun x => !badCode x.1
theorem cleanL_cons {c : Code} {p : Pos} {l : List (Code × Pos)} : cleanL ((c, p) :: l) = (!badCode c && cleanL l) := rfl

def wpC {α : Type} (M : Model) (A : Around) (t : Sem α) (Q : α → Shared → Prop) (E : Value → Shared → Prop) (s : Shared) : Prop :=
  ∀ Γ p, Γ.In A → badCode Γ.code = false → cleanL Γ.below = true → Sem.wp M Γ t (fun a _ s' => Q a s') (fun e _ s' => E e s') p s
def codeC (M : Model) (A : Around) (c : Code) (R : Result → Shared → Prop) (s : Shared) : Prop :=
  ∀ Γ p, Γ.code = c → Γ.Below A → cleanL Γ.below = true → wpCode M Γ R p s

/-- the call, but for a stack that holds one -/
def runX (f : Value) (vs : List Value) : Sem Value := .stack fun st => if cleanL st then PySem.call f vs else pure (.bool true)
def treeC (name : Str) (vs : List Value) : Sem Fin := do match ← nsGet mainNs name with
  | some f => do ret (← PySem.call f vs)
  | none => unsupported "claim.caller:no-such-global"
def treeX (name : Str) (vs : List Value) : Sem Fin := .stack fun st => if cleanL st then treeC name vs else ret (.bool true)

theorem wpAny_runX {M : Model} {A : Around} {f : Value} {vs : List Value} {Q : Value → Shared → Prop} {E : Value → Shared → Prop} {s : Shared} (h : wpC M A (PySem.call f vs) Q E s) (ht : Q (.bool true) s) : wpAny M A (runX f vs) Q E s := fun Γ p hΓ => by
  unfold runX
  rw [Sem.wp_stack, cleanL_cons]
  by_cases hc : (!badCode Γ.code && cleanL Γ.below) = true
  · rw [if_pos hc]
    have h1 := Bool.and_eq_true_iff.mp hc
    exact h Γ p hΓ (by simpa using h1.1) h1.2
  · rw [if_neg hc, Sem.wp_pure']
    exact ht
theorem wpAny_treeX {M : Model} {A : Around} {name : Str} {vs : List Value} {mg : Str → Option Value} {f : Value} {Q : Fin → Shared → Prop} {E : Value → Shared → Prop} {s : Shared} (hg : s.heap.Ns mainGlobals mg) (hf : mg name = some f)
    (h : wpAny M A (runX f vs) (fun v s' => Q (.done (.ret v)) s') E s) : wpAny M A (treeX name vs) Q E s := fun Γ p hΓ => by
  unfold treeX
  rw [Sem.wp_stack]
  by_cases hc : cleanL ((Γ.code, p) :: Γ.below) = true
  · rw [if_pos hc]
    have h0 : wpAny M A (nsGet mainNs name) (fun r s' => r = some f ∧ s' = s) E s := wpAny_nsGet hg ⟨hf, rfl⟩
    unfold treeC
    rw [Sem.wp_bind']
    refine Sem.wp_mono M Γ _ (fun r p' s' q => ?_) (fun _ _ _ e => e) p s (h0 Γ p hΓ)
    obtain ⟨rfl, rfl⟩ := q
    have h := h Γ p' hΓ
    unfold runX at h
    rw [Sem.wp_stack, if_pos (show cleanL ((Γ.code, p') :: Γ.below) = true from hc)] at h
    show Sem.wp M Γ (PySem.call f vs >>= fun v => ret v) _ _ p' s'
    rw [Sem.wp_bind']
    exact Sem.wp_mono M Γ _ (fun v _ s'' q => q) (fun _ _ _ e => e) p' s' h
  · have h := h Γ p hΓ
    unfold runX at h
    rw [Sem.wp_stack, if_neg hc, Sem.wp_pure'] at h
    rw [if_neg hc]
    exact h

/- ** the thread that looks at its stack first, and the one that does not ** -/
theorem sched_stack {pr : Program} {w : World} {s : Shared} {k : List (Code × Pos) → Sem Fin} {c : Code} {p : Pos} {o : Outcome} {s' : Shared} (hz : s.asleep) (hcalm : (⟨.stack k, c, p, []⟩ : Thread).calm = true) :
    ∀ n, schedN (denote table) pr w n (.single s ⟨.stack k, c, p, []⟩) = .halted o s' → ∃ n', schedN (denote table) pr w n' (.single s ⟨k [(c, p)], c, p, []⟩) = .halted o s'
  | 0, h => by cases h
  | n + 1, h => by
    have hs : step (denote table) pr w s ⟨.stack k, c, p, []⟩ = .go s ⟨k [(c, p)], c, p, []⟩ := by obtain ⟨hp, g, d, t, os⟩ := s; rfl
    rcases sstep_single (denote table) pr w s ⟨.stack k, c, p, []⟩ hcalm hz with e | e
    · rw [hs] at e
      simp only [schedN, e, Step.lift] at h
      exact ⟨n, h⟩
    · rw [hs] at e; cases e

theorem callFrom_plain {c : ClaimW} {name : Str} {w : World} {free : Addr → Prop} {gens : Prop} {kept : Heap → Prop} {s₀ : Shared} (hz : s₀.asleep)
    (h : c.CallFrom (fun vs => ⟨treeX name vs, .builtin "claim.caller" {}, default, []⟩) w free gens kept s₀) : c.CallFrom (fun vs => ⟨treeC name vs, .builtin "claim.caller" {}, default, []⟩) w free gens kept s₀ := by
  intro args hpre hlay ord hord
  obtain ⟨vs, s₁, hl, n, o, s', hrun, rest⟩ := h args hpre hlay ord hord
  have hz₁ : s₁.asleep := Shared.asleep_of_life (layAllW_rest _ _ _ hl).2.2.2 hz
  obtain ⟨n', hrun'⟩ := sched_stack (k := fun st => if cleanL st then treeC name vs else ret (.bool true)) hz₁ (by rfl) n hrun
  refine ⟨vs, s₁, hl, n', o, s', ?_, rest⟩
  have hc : cleanL [((.builtin "claim.caller" {} : Code), (default : Pos))] = true := by decide +kernel
  simp only [hc, if_true] at hrun'
  exact hrun'
theorem holdsOpen_plain {c : ClaimW} {name : Str} {defs keeps : List Str} {writes : Bool} (h : c.HoldsOpenBy (fun vs => ⟨treeX name vs, .builtin "claim.caller" {}, default, []⟩) defs keeps writes) :
    c.HoldsOpenBy (fun vs => ⟨treeC name vs, .builtin "claim.caller" {}, default, []⟩) defs keeps writes := by
  obtain ⟨h1, h2, h3⟩ := h
  refine ⟨h1, h2, fun w => ⟨(h3 w).1, fun s hs => ?_⟩⟩
  obtain ⟨s₀, hf, hg, s₁, hT, hd, hr, hr', hc⟩ := (h3 w).2 s hs
  have A : AfterImport (opening c.prog) w s := hs
  have z : s₀.asleep := Shared.asleep_of_life (fence_lifeW hf) A.life
  have z₁ : s₁.asleep := Shared.asleep_of_life hT.2.1 z
  exact ⟨s₀, hf, hg, s₁, hT, hd, hr, hr', callFrom_plain z₁ hc⟩
end Mine
namespace Mine
open PySem.Calls
/-- the head, for a call that looks at its stack first -/
theorem PySem.W.holds_open {r : OpenRow} {q : Program} {loose : List Str} {Xt : Shared → Bool} {XP : (Str → Option Value) → Heap → Prop} {α : Type} {Yf : Shared → α} {Ya : World → α} {YP : World → Heap → Prop} {d : DefRec} {kwd : List (Str × Expr)} {N : Nat}
    (left : LeftO r.prog q loose Xt Yf Ya N) (hY : ∀ w s, Yf s = Ya w → YP w s.heap) (hYk : ∀ w h h', YP w h → (∀ b o, h.get? b = some o → h'.get? b = some o) → YP w h')
    (hX : ∀ s, Xt s = true → XP (s.heap.nsMap mainGlobals) s.heap) (hXk : ∀ mg h h', XP mg h → (∀ b o, h.get? b = some o → h'.get? b = some o) → XP mg h')
    (hdef : defOf q r.name = some (d, kwd)) (hp : r.prog.theDef r.name = some (d.params, d.body, d.scope)) (hk : kwWritten? d.params.kwonlyargs d.params.kw_defaults = some kwd) (hRf : ∀ s, Xt s = true → RecFacts r.records s.heap) (hwr : (!r.writes || r.records.isEmpty) = true)
    (k1 : r.wellSaid = true) (ok : (chainsOk q && opensWell r.prog && (frees r.toRowW && r.within.isEmpty)) = true) (hb : r.prog.bare) (hw : r.toRowW.promised)
    (call : WalkO q loose XP YP r.toRowW d kwd runX) : r.Holds := by
  refine ⟨k1, hw, holdsOpen_plain (name := r.name) (open_anyG (r := r.toRowW) (run := runX) (tree := treeX r.name) left hY hYk hX hXk hRf hwr ok hb hw
    (fun vs w s mg f Q E hg hf h => wpAny_treeX hg hf h) (fun w s hg G n hn => ?_) fun w s₀ s₁ mg mb G Y args vs as hpre hlay L low => ?_)⟩
  · have e : n = r.name := by
      cases hq : r.pinned <;> simp [hq] at hn
      exact hn
    subst e
    exact pinned_of_view hg G hdef hp hk
  · obtain ⟨a, o, pm, cd, doc, dV, kV, h1, h2, h3, h4, h5⟩ := G.fn hdef
    exact ⟨.ref a, h1, call w s₀ s₁ mg mb G Y a o pm cd doc dV kV h2 h3 h4 h5 (defOf_name hdef ▸ h1) L.gens args vs as hpre hlay L.reads L.well (L.low low)⟩
open_top hd for PySem.Challenge.rw_oc0038_01
end Mine

namespace Mine
set_option maxRecDepth 100000
set_option maxHeartbeats 1000000

section
variable {α β : Type} {M : Model} {A : Around} {E : Value → Shared → Prop} {s : Shared}
theorem wpC_of {t : Sem α} {Q : α → Shared → Prop} (h : wpAny M A t Q E s) : wpC M A t Q E s := fun Γ p hΓ _ _ => h Γ p hΓ
theorem wpC_mono {t : Sem α} {Q Q' : α → Shared → Prop} {E' : Value → Shared → Prop} (h : wpC M A t Q E s) (hQ : ∀ a s, Q a s → Q' a s) (hE : ∀ e s, E e s → E' e s) : wpC M A t Q' E' s :=
  fun Γ p hΓ h1 h2 => Sem.wp_mono M Γ t (fun a _ s => hQ a s) (fun e _ s => hE e s) p s (h Γ p hΓ h1 h2)
theorem wpC_bind {m : Sem α} {f : α → Sem β} {Q : β → Shared → Prop} (h : wpC M A m (fun a s' => wpC M A (f a) Q E s') E s) : wpC M A (m >>= f) Q E s := fun Γ p hΓ h1 h2 => by
  rw [Sem.wp_bind']
  exact Sem.wp_mono M Γ m (fun a p' s' h' => h' Γ p' hΓ h1 h2) (fun _ _ _ h' => h') p s (h Γ p hΓ h1 h2)
theorem wpC_pure {a : α} {Q : α → Shared → Prop} (h : Q a s) : wpC M A (pure a) Q E s := fun _ _ _ _ _ => h
theorem wpC_holding {vs : List Value} {m : Sem α} {Q : α → Shared → Prop} (h : wpC M A m Q E s) : wpC M A (holding vs m) Q E s := fun Γ p hΓ h1 h2 => by rw [Sem.wp_holding]; exact h Γ p hΓ h1 h2
theorem wpC_keep {vs : List Value} {m : Sem α} {Q : α → Shared → Prop} (h : wpC M A m Q E s) : wpC M A (m.keep vs) Q E s := fun Γ p hΓ h1 h2 => by rw [Sem.wp_keep]; exact h Γ p hΓ h1 h2
theorem wpC_onRaise {m : Sem α} {k : Value → Sem Unit} {Q : α → Shared → Prop} (h : wpC M A m Q (fun _ _ => False) s) : wpC M A (m.onRaise k) Q E s := fun Γ p hΓ h1 h2 => by
  rw [Sem.wp_onRaise]
  exact Sem.wp_mono M Γ m (fun _ _ _ h' => h') (fun e p' s' h' => h'.elim) p s (h Γ p hΓ h1 h2)
theorem wpC_call {f : Value} {pos : List Value} {kw : List (Str × Value)} {Q : Value → Shared → Prop}
    (hc : codeC M A (.call f ⟨pos, kw⟩) (fun r s' => match r with | .ok (.ret v) => Q v s' | .ok _ => False | .error e => E e s') s) : wpC M A (call f pos kw) Q E s := fun Γ p hΓ h1 h2 => by
  show Sem.wp M Γ (runValue _) _ _ p s
  rw [Sem.wp_runValue]
  exact hc _ p rfl (hΓ.enter _ none p (by intro x; cases x)) (by show cleanL ((Γ.code, p) :: Γ.below) = true; rw [cleanL_cons, h1, h2]; rfl)
theorem codeC_mono {c : Code} {R R' : Result → Shared → Prop} (h : codeC M A c R s) (hR : ∀ r s, R r s → R' r s) : codeC M A c R' s := fun Γ p hc hΓ h2 => wpCode_mono hR (h Γ p hc hΓ h2)
theorem codeC_of_tree {c : Code} {R : Result → Shared → Prop} (hbad : badCode c = false)
    (h : wpC M (A.under c) (M.den c) (fun fin s' => match fin with | .done f => R (.ok f) s' | .again c' => c'.quiet = true ∧ codeC M A c' R s') (fun e s' => R (.error e) s') s) : codeC M A c R s := fun Γ p hc hΓ h2 => by
  rw [wpCode_iff_wp, hc]
  refine Sem.wp_mono M Γ _ (fun fin p' s' h' => ?_) (fun _ _ _ h' => h') p s (h Γ p (hc ▸ hΓ.in) (hc ▸ hbad) h2)
  cases fin with
  | done f => exact h'
  | again c' => exact ⟨h'.1, h'.2 (Γ.goto c') p' rfl (hΓ.goto c') h2⟩
end

section
variable {prog : Program} {w : World} {A : Around} {R : Result → Shared → Prop} {s : Shared}
theorem codeC_func {body : List Stmt} {env : Env} (h : wpC (model prog w) (A.deeper env) (execs body env) (fun f s' => R (.ok (.ret (retOf f))) s') (fun _ _ => False) s) : codeC (model prog w) A (.func body env) R s := by
  refine codeC_of_tree rfl ?_
  show wpC _ (A.deeper env) (do point; match ← (execs body env).onRaise (leaving env) with | .ret v => ret v | _ => ret .none) _ _ s
  refine wpC_bind (wpC_of (wpAny_point (wpC_bind (wpC_onRaise (wpC_mono h (fun f s' h' => ?_) fun _ _ h' => h')))))
  cases f <;> exact wpC_pure h'
theorem codeC_call_function {a : Addr} {args : Args} {o : Obj} {fd : FuncData} {body : List Stmt} (hroom : A.depth < recursionLimit) (ho : s.heap.get? a = some o)
    (hd' : o.data = .func fd) (hco : fd.scope.isCoroutine = false) (hgen : fd.scope.isGenerator = false) (hbody : fd.body = .stmts body) (hcd : s.heap.CodeRec fd.code fd.qualname)
    (h : wpAny (model prog w) A.in1 (bindArgs fd args) (fun binds s₁ =>
      wpAny (model prog w) A.in1 (newFunctionEnv fd.scope fd.globals fd.closure binds (fd.qualname ++ ".<locals>.") (some a) fd.code none fd.builtins)
        (fun env s₂ => s₂.heap.NoLimit ∧ codeC (model prog w) A (.func body env) R s₂) (fun e s' => R (.error e) s') s₁) (fun e s' => R (.error e) s') s) :
    codeC (model prog w) A (.call (.ref a) args) R s := by
  refine codeC_of_tree rfl (wpC_of ?_)
  show wpAny _ A.in1 (callAny (.ref a) args) _ _ s
  simp only [callAny]
  refine wpAny_bind (wpAny_load ho ?_)
  obtain ⟨c, oc, vs, tq, hc, hoc, hdc, hq⟩ := hcd
  simp only [hd', callFunction, hco, hgen, hbody, hc]
  rw [hc] at h
  refine wpAny_bind (m := field (.ref c) 1) (wpAny_field hoc hdc hq (wpAny_bind (wpAny_pure ?_)))
  exact wpAny_bind (wpAny_mono h (fun binds s₁ h₁ => wpAny_bind (wpAny_mono h₁ (fun env s₂ h₂ => wpAny_bind (wpAny_enterFrame h₂.1 hroom (wpAny_pure (And.intro rfl h₂.2)))) fun _ _ h' => h')) fun _ _ h' => h')
end

/- ** the judgement over clean stacks ** -/
structure EvC {α : Type} (prog : Program) (w : World) (A : Around) (h : Heap) (t : Sem α) (P : α → Heap → Prop) : Prop where
  run : ∀ (s : Shared) (Q : α → Shared → Prop) (E : Value → Shared → Prop), Le h s.heap → (∀ v s', Keeps s s' → P v s'.heap → Q v s') → wpC (model prog w) A t Q E s
structure WpC {α : Type} (prog : Program) (w : World) (A : Around) (t : Sem α) (Q : α → Shared → Prop) (E : Value → Shared → Prop) (s : Shared) : Prop where
  run : wpC (model prog w) A t Q E s
section
variable {α β : Type} {prog : Program} {w : World} {A : Around} {h h' : Heap} {env : Env}
theorem Ev.c {t : Sem α} {P : α → Heap → Prop} (x : Ev prog w A h t P) : EvC prog w A h t P := ⟨fun s Q E hs hQ => wpC_of (x.run s Q E hs hQ)⟩
theorem Wp.c {t : Sem α} {Q : α → Shared → Prop} {E : Value → Shared → Prop} {s : Shared} (x : Wp prog w A t Q E s) : WpC prog w A t Q E s := ⟨wpC_of x.run⟩
theorem EvC.up {t : Sem α} {P : α → Heap → Prop} (x : EvC prog w A h t P) (k : Le h h') : EvC prog w A h' t P := ⟨fun s Q E hs hQ => x.run s Q E (k.trans hs) hQ⟩
theorem EvC.mono {t : Sem α} {P P' : α → Heap → Prop} (x : EvC prog w A h t P) (f : ∀ v h', Le h h' → P v h' → P' v h') : EvC prog w A h t P' :=
  ⟨fun s Q E hs hQ => x.run s Q E hs fun v s' k p => hQ v s' k (f v _ (hs.trans (kLe k)) p)⟩
theorem EvC.pure {a : α} {P : α → Heap → Prop} (p : ∀ h', Le h h' → P a h') : EvC prog w A h (pure a) P := ⟨fun s _ _ hs hQ => wpC_pure (hQ _ s (kRefl s) (p _ hs))⟩
theorem EvC.bind {t : Sem α} {f : α → Sem β} {P : α → Heap → Prop} {R : β → Heap → Prop} (x : EvC prog w A h t P) (y : ∀ a h', Le h h' → P a h' → EvC prog w A h' (f a) R) : EvC prog w A h (t >>= f) R :=
  ⟨fun s Q E hs hQ => wpC_bind (x.run s _ E hs fun a s1 k1 p1 => (y a s1.heap (hs.trans (kLe k1)) p1).run s1 Q E (Le.refl _) fun v s2 k2 p2 => hQ v s2 (kTrans k1 k2) p2)⟩
theorem EvC.holding {vs : List Value} {t : Sem α} {P : α → Heap → Prop} (x : EvC prog w A h t P) : EvC prog w A h (holding vs t) P := ⟨fun s Q E hs hQ => wpC_holding (x.run s Q E hs hQ)⟩
theorem EvC.keep {vs : List Value} {t : Sem α} {P : α → Heap → Prop} (x : EvC prog w A h t P) : EvC prog w A h (t.keep vs) P := ⟨fun s Q E hs hQ => wpC_keep (x.run s Q E hs hQ)⟩
theorem evC_stand {pos : Pos} {P : Unit → Heap → Prop} (p : ∀ h', Le h h' → P () h') : EvC prog w A h (standAt pos) P := ⟨fun s _ _ hs hQ => wpC_of (wpAny_standAt (hQ _ s (kRefl s) (p _ hs)))⟩
theorem evC_point {P : Unit → Heap → Prop} (p : ∀ h', Le h h' → P () h') : EvC prog w A h point P := ⟨fun s _ _ hs hQ => wpC_of (wpAny_point (hQ _ s (kRefl s) (p _ hs)))⟩

theorem evC_items_nil {pos : Pos} : EvC prog w A h (spliced (backTo pos (starEach [] env))) (fun vs _ => vs = []) := ev_items_nil.c
theorem evC_items_cons {pos : Pos} {e : Expr} {rest : List Expr} {P : Value → Heap → Prop} {R : List Value → Heap → Prop} (st : Stab P) (he : EvC prog w A h (eval e env) P) (hr : EvC prog w A h (spliced (backTo pos (starEach rest env))) R)
    (hs : starEach (e :: rest) env = (false, eval e env) :: starEach rest env := by rfl) :
    EvC prog w A h (spliced (backTo pos (starEach (e :: rest) env))) (fun vs h' => ∃ v r, vs = v :: r ∧ P v h' ∧ R r h') := by
  rw [hs]
  show EvC prog w A h (do
    let v ← eval e env
    let here ← (Pure.pure [v] : Sem (List Value))
    return here ++ (← PySem.holding here (spliced (backTo pos (starEach rest env))))) _
  refine ⟨fun s Q E hs' hQ => wpC_bind (he.run s _ E hs' fun v s1 k1 p1 => wpC_bind (wpC_pure (wpC_bind (wpC_holding (hr.run s1 _ E (hs'.trans (kLe k1)) fun vs s2 k2 p2 => wpC_pure ?_)))))⟩
  exact hQ _ s2 (kTrans k1 k2) ⟨v, vs, rfl, st _ _ _ (kLe k2) p1, p2⟩
theorem evC_iL_nil {pos : Pos} {R : α → Value → Heap → Prop} : EvC prog w A h (spliced (backTo pos (starEach [] env))) (lL R []) := ev_iL_nil.c
theorem evC_iL_cons {pos : Pos} {e : Expr} {rest : List Expr} {R : α → Value → Heap → Prop} {x : α} {xs : List α} (hR : ∀ x, Stab (R x)) (he : EvC prog w A h (eval e env) (R x)) (hr : EvC prog w A h (spliced (backTo pos (starEach rest env))) (lL R xs))
    (hs : starEach (e :: rest) env = (false, eval e env) :: starEach rest env := by rfl) : EvC prog w A h (spliced (backTo pos (starEach (e :: rest) env))) (lL R (x :: xs)) :=
  (evC_items_cons (hR x) he hr hs).mono fun _ _ _ p => by obtain ⟨v, r, rfl, p, q⟩ := p; exact .cons p q
theorem evC_two {pos : Pos} {e1 e2 : Expr} {P1 P2 : Value → Heap → Prop} (s1 : Stab P1) (s2 : Stab P2) (x1 : EvC prog w A h (eval e1 env) P1) (x2 : EvC prog w A h (eval e2 env) P2)
    (hs : starEach [e1, e2] env = (false, eval e1 env) :: starEach [e2] env := by rfl) (hs' : starEach [e2] env = (false, eval e2 env) :: starEach [] env := by rfl) :
    EvC prog w A h (spliced (backTo pos (starEach [e1, e2] env))) (fun vs h' => ∃ a b, vs = [a, b] ∧ P1 a h' ∧ P2 b h') :=
  (evC_items_cons s1 x1 (evC_items_cons s2 x2 evC_items_nil hs') hs).mono fun vs h' _ p => by
    obtain ⟨a, r, rfl, pa, b, r', rfl, pb, rfl⟩ := p
    exact ⟨a, b, rfl, pa, pb⟩
theorem evC_ListL {pos : Pos} {elts : List Expr} {R : α → Value → Heap → Prop} {xs : List α} (hR : ∀ x, Stab (R x)) (h1 : EvC prog w A h (spliced (backTo pos (starEach elts env))) (lL R xs)) (hsz : xs.length ≤ 16777216) :
    EvC prog w A h (eval (.List elts pos) env) (fun v h' => ∃ l vs, v = .ref l ∧ h'.IsList l vs.toArray ∧ h.get? l = none ∧ Paired (fun x u => R x u h') xs vs) := by
  rw [arm_eval_List]
  refine ⟨fun s Q E hs hQ => wpC_bind (wpC_of (wpAny_standAt (wpC_bind (h1.run s _ E hs fun vs s1 k1 p1 => wpC_of (wpAny_newObj_type ?_ ?_)))))⟩
  · refine hQ _ _ (kTrans k1 (kHeap' (Le.push _))) ⟨_, vs, rfl, ⟨_, Heap.get?_push_size _ rfl, rfl, _, rfl⟩, none_of_le (hs.trans (kLe k1)) (none_size _), sLL hR xs _ _ _ (Le.push _) p1⟩
  · show vs.toArray.size ≤ sizeLine
    rw [List.size_toArray, ← p1.length]; exact hsz
theorem evC_Call {f : Expr} {args : List Expr} {pos : Pos} {P : Value → Heap → Prop} {fv : Value}
    (hf : Ev prog w A h (eval f env) (vV fv)) (hc : EvC prog w A h (callWith pos fv [] (backTo pos (starEach args env)) []) P)
    (hn : eval (.Call f args [] pos) env = (do callWith pos (← eval f env) [] (backTo pos (starEach args env)) (backToKw pos (keywordEach [] env))) := by rfl) : EvC prog w A h (eval (.Call f args [] pos) env) P := by
  rw [hn]
  refine EvC.bind hf.c fun a h' k p => ?_
  obtain rfl : a = fv := p
  exact hc.up k
theorem evC_evalArgs {f : Value} {x : Sem Value} {rest : List (Bool × Sem Value)} {R : List Value → Heap → Prop} (ha : EvC prog w A h (spliced ((false, x) :: rest)) R) : EvC prog w A h (evalArgs f true ((false, x) :: rest) []) (fun a h' => ∃ vs, a = ⟨vs, []⟩ ∧ R vs h') := by
  unfold evalArgs
  refine ⟨fun s Q E hs hQ => ?_⟩
  show wpC _ A (spliced ((false, x) :: rest) >>= _) Q E s
  refine wpC_bind (ha.run s _ E hs fun vs s1 k1 p1 => wpC_of (wpAny_holding ?_))
  exact wpAny_bind (wpAny_pure (wpAny_bind (wpAny_pure (wpAny_pure (hQ _ s1 k1 ⟨vs, rfl, p1⟩)))))
theorem evC_withF {pos : Pos} {f : Addr} {o : Obj} {fd : FuncData} {e : Expr} {rest : List Expr} {R : List Value → Heap → Prop} {P : Value → Heap → Prop} (ho : h.get? f = some o) (hdat : o.data = .func fd) (ha : EvC prog w A h (spliced (backTo pos (starEach (e :: rest) env))) R)
    (hc : ∀ vs h', Le h h' → R vs h' → EvC prog w A h' (call (.ref f) vs) P)
    (he : starEach (e :: rest) env = (false, eval e env) :: starEach rest env := by rfl) (hplain : (backTo pos (starEach rest env)).any (·.1) = false := by rfl) (hlen : (backTo pos (starEach rest env)).length < 30 := by decide) :
    EvC prog w A h (callWith pos (.ref f) [] (backTo pos (starEach (e :: rest) env)) []) P := by
  rw [he] at ha ⊢
  have hb : backTo pos ((false, eval e env) :: starEach rest env) = (false, eval e env) :: backTo pos (starEach rest env) := rfl
  rw [hb] at ha ⊢
  have hstar : ((false, eval e env) :: backTo pos (starEach rest env)).any (·.1) = false := by show (false || (backTo pos (starEach rest env)).any (·.1)) = false; rw [hplain]; rfl
  refine ⟨fun s Q E hs hQ => ?_⟩
  unfold callWith
  refine wpC_bind (wpC_holding ((evC_evalArgs ha).run s _ E hs fun a s1 k1 p1 => wpC_bind (wpC_of (wpAny_standAt ?_))))
  obtain ⟨vs, rfl, p1⟩ := p1
  have tail : ∀ {t : Sem Value}, wpC (model prog w) A t Q E s1 → wpC (model prog w) A (t >>= fun r => holding [r] point >>= fun _ => pure r) Q E s1 :=
    fun ht => wpC_bind (wpC_mono ht (fun r s₂ hr => wpC_of (wpAny_bind (wpAny_holding (wpAny_point (wpAny_pure hr))))) fun _ _ x => x)
  have body : wpC (model prog w) A (call (.ref f) ([] ++ vs) []) Q E s1 := (hc vs s1.heap (hs.trans (kLe k1)) p1).run s1 Q E (Le.refl _) fun v s2 k2 p2 => hQ v s2 (kTrans k1 k2) p2
  simp only [hstar, List.any_nil, Bool.or_false]
  refine wpC_bind (m := keeperOf (.ref f)) (wpC_of ?_)
  unfold keeperOf
  refine wpAny_bind (wpAny_load (kLe k1 _ _ (hs _ _ ho)) ?_)
  rw [hdat]
  refine wpAny_pure ?_
  have hlen' : ¬ (((false, eval e env) :: backTo pos (starEach rest env)).length + 2 * ([] : List (Option Str × Sem Value)).length > 30) := by simp; omega
  simp only [hlen', if_false]
  exact tail (by unfold callMarked; exact wpC_keep body)
end
end Mine

namespace Mine
set_option maxRecDepth 100000
set_option maxHeartbeats 1000000

theorem ba_mro : mroOf (.type "bytearray") = pure [.type "bytearray", .type "object"] := by rw [mroOf_type]; kernel_rfl
theorem ba_lookup_new : typeLookup (.type "bytearray") "__new__" = pure (some (.builtin "bytearray.__new__")) := by rw [typeLookup_type, builtinLookup_eq_fast]; kernel_rfl
theorem ba_made : Bind.madeBy (.type "bytearray") = pure (some "bytearray.__new__") := madeBy_type ba_mro ba_lookup_new (by decide +kernel)
theorem ba_sub : isSubtype (.type "bytearray") (.type "bytearray") = pure true := by rw [isSubtype_type]; kernel_rfl
theorem ba_typeCall (a : Value) : checkTypeCall "bytearray" ⟨[a], []⟩ = pure () := by kernel_rfl
theorem ba_newCall (a : Value) : checkBuiltinCall "bytearray.__new__" ⟨[.type "bytearray", a], []⟩ = pure () := by kernel_rfl
theorem ba_entry_new : entryFor table "bytearray.__new__" = some Builtin.«list.__new__» :=
  entryFor_alias (id' := "list.__new__") (by kernel_rfl) (by first | rfl | decide +kernel | (unfold String.splitOn; simp +decide [String.splitOnAux])) (by decide +kernel) (by kernel_rfl)
theorem ba_plain_new : plainId "bytearray.__new__" = true := by decide +kernel
theorem ba_can : ((Manifest.find? "bytearray").bind (·.mro.findSome? fun t => (Manifest.find? t).bind fun b => if b.noNew then some true else if b.attrs.any (·.1 == "__new__") then some false else none)).getD false = false := by decide +kernel
set_option maxRecDepth 1000000 in
theorem ba_owner : ("bytearray.__new__".splitOn ".__new__").headD "" = "bytearray" := by simp +decide [String.splitOn, String.splitOnAux]

section
variable {prog : Program} {w : World} {A : Around} {E : Value → Shared → Prop} {s : Shared}
theorem ba_new (a : Value) {Q₁ : Value → Shared → Prop} (h : Q₁ (.ref s.heap.objs.size) { s with heap := s.heap.push { cls := .type "bytearray", data := .bytearray #[] } }) :
    wpAny (model prog w) A (call (.builtin "bytearray.__new__") [.type "bytearray", a]) Q₁ E s := by
  refine wpAny_call (codeAny_of_tree ?_)
  show wpAny _ A.in1 (do checkBuiltinCall "bytearray.__new__" ⟨[.type "bytearray", a], []⟩; again (.builtin "bytearray.__new__" ⟨[.type "bytearray", a], []⟩)) _ _ s
  refine wpAny_bind (wpAny_of_eq (ba_newCall a) (wpAny_pure ⟨plainId_quiet ba_plain_new _, codeAny_builtin_stack ba_entry_new rfl fun p st => ?_⟩))
  rw [Around.under_plainId ba_plain_new _]
  have hsub := ba_sub
  have hown := ba_owner
  obtain ⟨hp, g, d, tk, os⟩ := s
  simp only [hown]
  wp_walk
  exact h
theorem ba_entry_init : entryFor table "bytearray.__init__" = some Builtin.«bytearray.__init__» := by first | exact entryFor_of_tree (by kernel_rfl) | exact entryFor_of_fast (by kernel_rfl)
theorem ba_slot_init : Slot "bytearray" "__init__" "bytearray.__init__" :=
  .of (owner := "bytearray") (n := "__init__") (by rw [typeLookup_type, builtinLookup_eq_fast]; kernel_rfl) (by decide +kernel) (by decide +kernel) (by decide +kernel)
    (by first | exact .inl (by decide +kernel) | exact .inr (by decide +kernel)) (by rw [isSubtype_type]; kernel_rfl)
theorem ba_args_init (a b : Value) : argsOk "bytearray.__init__" ⟨[a, b], []⟩ := by unfold argsOk; kernel_rfl
theorem ba_release : typeLookup (.type "bytearray") "__release_buffer__" = pure (some (.builtin "bytearray.__release_buffer__")) := by rw [typeLookup_type, builtinLookup_eq_fast]; kernel_rfl
theorem ba_buffer : typeLookup (.type "bytearray") "__buffer__" = pure (some (.builtin "bytearray.__buffer__")) := by rw [typeLookup_type, builtinLookup_eq_fast]; kernel_rfl
theorem exported_clean {self : Value} {M : Model} {Q : Bool → Shared → Prop} (h : Q false s) : wpC M A (Builtin.Bytes.exported self) Q E s := fun Γ p _ h1 h2 => by
  unfold Builtin.Bytes.exported
  rw [Sem.wp_bind']
  unfold stack
  rw [Sem.wp_stack, Sem.wp_pure, Sem.wp_pure']
  have hc : cleanL ((Γ.code, p) :: Γ.below) = true := by rw [cleanL_cons, h1, h2]; rfl
  generalize (Γ.code, p) :: Γ.below = l at hc
  have : ∀ x ∈ l, badCode x.1 = false := fun x hx => by have := List.all_eq_true.mp hc x hx; simpa using this
  refine Eq.mp (congrArg (fun b => Q b s) (Eq.symm ?_)) h
  rw [List.any_eq_false]
  intro x hx hb
  have hx := this x hx
  obtain ⟨c, q⟩ := x
  split at hb
  · rename_i e
    injection e with e1 e2
    subst e1
    exact absurd (show badIds.contains "bytearray.__contains__" = false from hx) (by decide +kernel)
  · rename_i e
    injection e with e1 e2
    subst e1
    exact absurd (show badIds.contains "bytearray.__mod__" = false from hx) (by decide +kernel)
  · rename_i e
    injection e with e1 e2
    subst e1
    exact absurd (show badIds.contains "bytearray.__rmod__" = false from hx) (by decide +kernel)
  · rename_i e
    injection e with e1 e2
    subst e1
    exact absurd (show badIds.contains "_struct.pack_into.held" = false from hx) (by decide +kernel)
  · rename_i e
    injection e with e1 e2
    subst e1
    exact absurd (show badIds.contains "bytearray.find.held" = false from hx) (by decide +kernel)
  · rename_i id v r kw q _ _ _ _ _ e
    injection e with e1 e2
    subst e1
    have h3 : badIds.contains id = false := hx
    have h4 : Builtin.Bytes.decodersThatHold.contains id = true := (Bool.and_eq_true_iff.mp hb).2
    have h5 : badIds.contains id = true := by
      rw [List.contains_iff_mem] at h4 ⊢
      exact List.mem_append_right _ h4
    rw [h5] at h3; cases h3
  · cases hb
theorem wpC_else {α : Type} {M : Model} {c : Prop} [Decidable c] {X Y : Sem α} {Q : α → Shared → Prop} (hc : ¬ c) (h : wpC M A Y Q E s) : wpC M A (if c then X else Y) Q E s := by rw [if_neg hc]; exact h
theorem wpC_then {α : Type} {M : Model} {c : Prop} [Decidable c] {X Y : Sem α} {Q : α → Shared → Prop} (hc : c) (h : wpC M A X Q E s) : wpC M A (if c then X else Y) Q E s := by rw [if_pos hc]; exact h
theorem ba_typeIs {a : Addr} {o : Obj} (ho : s.heap.get? a = some o) (hc : o.cls = .type "bytearray") : s.TypeIs (.ref a) "bytearray" := ⟨o, ho, hc⟩
theorem ba_ownRelease {M : Model} {a : Addr} {o : Obj} (ho : s.heap.get? a = some o) (hc : o.cls = .type "bytearray") {Q : Bool → Shared → Prop} (h : Q false s) : wpAny M A (Builtin.Bytes.ownRelease (.ref a)) Q E s := by
  unfold Builtin.Bytes.ownRelease Builtin.Bytes.slotIsOwn
  refine wpAny_bind (wpAny_bind (wpAny_specialOf (ba_typeIs ho hc) ba_release ?_))
  have key : ∀ x : String, x = "bytearray" → wpAny M A (isInstance (.ref a) (.type x)) (fun b s' => wpAny M A (pure !b) Q E s') E s := fun x hx => by
    rw [hx]; exact wpAny_isInstance (ba_typeIs ho hc) ba_sub (wpAny_pure h)
  dsimp only
  split
  · rename_i hx
    exact absurd hx (by decide +kernel)
  · exact key _ (by decide +kernel)
end
end Mine

namespace Mine
set_option maxRecDepth 100000
set_option maxHeartbeats 1000000
section
variable {prog : Program} {w : World} {A : Around} {E : Value → Shared → Prop} {s : Shared}
/-- a bytearray of the call's own -/
def IsBA (h : Heap) (a : Addr) (b : Array UInt8) : Prop := h.get? a = some { cls := .type "bytearray", dict := none, data := .bytearray b 0, slots := #[] }
theorem ba_write {M : Model} {a : Addr} {b : Array UInt8} {f : Array UInt8 → Array UInt8} {Q : Unit → Shared → Prop} (ho : IsBA s.heap a b) (hsz : (f b).size ≤ 16777216)
    (h : ∀ h', IsBA h' a (f b) → Heap.SameBut a s.heap h' → Q () { s with heap := h' }) : wpAny M A (Builtin.Bytes.write (.ref a) f) Q E s := by
  show wpAny M A (updateBytearray a f) Q E s
  unfold updateBytearray
  refine wpAny_bind (wpAny_load ho ?_)
  refine wpAny_bind (wpAny_update ho ?_)
  have h1 : (s.heap.update a (Obj.mapBytearray f)).get? a = some { cls := .type "bytearray", dict := none, data := .bytearray (f b) 0, slots := #[] } := Heap.get?_update_self _ ho rfl
  unfold lookBehind
  refine wpAny_bind (wpAny_loadPart h1 ?_)
  have h2 : (Data.bytearray (f b) 0).pastItsLine = none := by
    show (if (f b).size > sizeLine then some "bytearray:memory" else none) = none
    rw [if_neg]
    rw [sizeLine_eq]; omega
  dsimp only
  rw [h2]
  exact wpAny_pure (h _ h1 (Heap.SameBut.update ..))
theorem int_index : typeLookup (.type "int") "__index__" = pure (some (.builtin "int.__index__")) := by rw [typeLookup_type, builtinLookup_eq_fast]; kernel_rfl
theorem ba_bind (v : Value) : Builtin.Bytes.bindOptional "bytearray.__init__" "bytearray" ["source", "encoding", "errors"] [v] [] = pure [some v, none, none] := by kernel_rfl
theorem ba_init {a : Addr} {n : Int} {t : Tok} {Q : Fin → Shared → Prop} (ho : IsBA s.heap a #[]) (h0 : 0 ≤ n) (h1 : n ≤ 16777216)
    (h : ∀ h', IsBA h' a (Array.replicate n.toNat 0) → Heap.SameBut a s.heap h' → Q (.done (.ret .none)) { s with heap := h' }) : wpC (model prog w) A (Builtin.«bytearray.__init__» ⟨[.ref a, .int n t], []⟩) Q E s := by
  unfold Builtin.«bytearray.__init__»
  refine wpC_bind (wpC_of (ba_ownRelease ho rfl (wpC_else (by decide) ?_)))
  refine wpC_bind (wpC_of (wpAny_of_eq (ba_bind _) ?_))
  refine wpC_bind (wpC_of (wpAny_pure ?_))
  refine wpC_bind (wpC_of (wpAny_pure ?_))
  refine wpC_bind (wpC_bind (exported_clean ?_))
  refine wpC_bind (wpC_bind (wpC_of (wpAny_load ho (wpC_pure ?_))))
  refine wpC_pure (wpC_else (by decide) ?_)
  refine wpC_bind (wpC_of (ba_write ho (by simp) fun h2 ho2 hs2 => ?_))
  refine wpC_bind (wpC_of (wpAny_pure (wpC_else (by decide) ?_)))
  refine wpC_bind (wpC_else (by decide) (wpC_else (by decide) (wpC_pure ?_)))
  refine wpC_bind (wpC_of (wpAny_specialOf (typeIs_int _ n t) int_index (wpC_then (by decide) ?_)))
  refine wpC_bind (wpC_of (wpAny_attempt (wpAny_pure ?_)))
  have g1 : Builtin.Bytes.fitsIndex n = true := by unfold Builtin.Bytes.fitsIndex; rw [Bool.and_eq_true]; exact ⟨decide_eq_true (by omega), decide_eq_true (by omega)⟩
  have g2 : (n == 2 ^ 63 - 1) = false := by rw [beq_eq_false_iff_ne]; omega
  have g3 : Builtin.Bytes.tooLong n.toNat = false := KBy.tooLong_not (by omega)
  refine wpC_else (by rw [g1]; decide) (wpC_else (by omega) (wpC_else (by rw [g2]; decide) (wpC_else (by rw [g3]; decide) ?_)))
  refine wpC_bind (wpC_of (wpAny_rule ?_))
  by_cases hn : n > 0
  · refine wpC_then hn (wpC_bind (wpC_of (ba_write ho2 (by simp; omega) fun h3 ho3 hs3 => wpC_pure ?_)))
    exact h h3 ho3 (hs2.trans hs3)
  · refine wpC_else hn (wpC_pure (h h2 ?_ hs2))
    have : n.toNat = 0 := by omega
    rw [this]; exact ho2
theorem codeC_builtin {id : String} {args : Args} {b : Builtin} {R : Result → Shared → Prop} (hbad : badIds.contains id = false) (hb : entryFor table id = some b)
    (h : wpC (model prog w) (A.under (.builtin id args)) (b args) (fun fin s' => match fin with | .done f => R (.ok f) s' | .again c' => c'.quiet = true ∧ codeC (model prog w) A c' R s') (fun e s' => R (.error e) s') s) :
    codeC (model prog w) A (.builtin id args) R s := by
  refine codeC_of_tree hbad ?_
  show wpC _ _ (match entryFor table id with | some b => b args | none => unsupported ((withoutEnding? id "#data").getD id)) _ _ s
  rw [hb]; exact h
theorem ba_callInit {a : Addr} {n : Int} {t : Tok} {Q : Value → Shared → Prop} (ho : IsBA s.heap a #[]) (h0 : 0 ≤ n) (h1 : n ≤ 16777216)
    (h : ∀ h', IsBA h' a (Array.replicate n.toNat 0) → Heap.SameBut a s.heap h' → Q .none { s with heap := h' }) : wpC (model prog w) A (call (.builtin "bytearray.__init__") [.ref a, .int n t]) Q E s := by
  refine wpC_call (codeC_of_tree rfl ?_)
  show wpC _ A.in1 (do checkBuiltinCall "bytearray.__init__" ⟨[.ref a, .int n t], []⟩; again (.builtin "bytearray.__init__" ⟨[.ref a, .int n t], []⟩)) _ _ s
  refine wpC_bind (wpC_of (ba_slot_init.check _ _ _ _ _ _ _ _ (ba_typeIs ho rfl) (ba_args_init _ _) (wpC_pure ⟨plainId_quiet ba_slot_init.plain _, codeC_builtin (by decide +kernel) ba_entry_init ?_⟩)))
  exact ba_init ho h0 h1 fun h' x y => h h' x y
theorem ba_call {n : Int} {t : Tok} {h : Heap} (h0 : 0 ≤ n) (h1 : n ≤ 16777216) : EvC prog w A h (call (.type "bytearray") [.int n t]) (fun v h' => ∃ a, v = .ref a ∧ h.get? a = none ∧ IsBA h' a (Array.replicate n.toNat 0)) := by
  refine ⟨fun s Q E hs hQ => wpC_call (codeC_of_tree rfl (wpC_of (wpAny_pure ⟨Code.quiet_builtin _ (by decide +kernel), codeC_builtin (by decide +kernel) F.entry_type_call ?_⟩)))⟩
  have g1 : (Value.type "bytearray" == Value.type "type") = false := by decide +kernel
  have g2 := ba_can
  show wpC _ _ (Builtin.«type.__call__» ⟨[.type "bytearray", .int n t], []⟩) _ _ s
  unfold Builtin.«type.__call__»
  refine wpC_else (by rw [g1]; decide) ?_
  refine wpC_else (by rw [g2]; decide) ?_
  refine wpC_bind (wpC_of (wpAny_of_eq (ba_typeCall _) ?_))
  refine wpC_bind (wpC_of (wpAny_of_eq ba_mro (wpC_else (by decide) ?_)))
  refine wpC_bind (wpC_of (wpAny_of_eq ba_made (wpC_bind (wpC_pure ?_))))
  refine wpC_bind (wpC_holding (wpC_of (ba_new _ ?_)))
  have ho : IsBA (s.heap.push { cls := .type "bytearray", data := .bytearray #[] }) s.heap.objs.size #[] := Heap.get?_push_size _ rfl
  refine wpC_bind (wpC_of (wpAny_isInstance (ba_typeIs ho rfl) ba_sub (wpC_else (by decide) ?_)))
  refine wpC_bind (wpC_holding ?_)
  unfold callSpecial?
  refine wpC_bind (wpC_of (wpAny_specialOf (ba_typeIs ho rfl) ba_slot_init.lookup (wpC_holding ?_)))
  refine wpC_bind (wpC_of (wpAny_of_eq (ba_slot_init.bind _) ?_))
  refine wpC_bind (ba_callInit ho h0 h1 fun h' hb hs' => wpC_pure (wpC_else (by decide) (wpC_pure ?_)))
  refine hQ _ _ (kHeap' fun b o e => hs'.extBut b o (Nat.ne_of_lt (Heap.lt_size e)) (Heap.get?_push_of_some _ e)) ⟨_, rfl, none_of_le hs (none_size _), hb⟩
end
end Mine

namespace Mine
set_option maxRecDepth 100000
set_option maxHeartbeats 1000000
theorem ba_slot_set : Slot "bytearray" "__setitem__" "bytearray.__setitem__" :=
  .of (owner := "bytearray") (n := "__setitem__") (by rw [typeLookup_type, builtinLookup_eq_fast]; kernel_rfl) (by decide +kernel) (by decide +kernel) (by decide +kernel)
    (by first | exact .inl (by decide +kernel) | exact .inr (by decide +kernel)) (by rw [isSubtype_type]; kernel_rfl)
theorem ba_entry_set : entryFor table "bytearray.__setitem__" = some Builtin.«bytearray.__setitem__» := by first | exact entryFor_of_tree (by kernel_rfl) | exact entryFor_of_fast (by kernel_rfl)
theorem ba_args_set (a b c : Value) : argsOk "bytearray.__setitem__" ⟨[a, b, c], []⟩ := by unfold argsOk; kernel_rfl
theorem ba_no_bytes : typeLookup (.type "bytearray") "__bytes__" = pure none := by rw [typeLookup_type, builtinLookup_eq_fast]; kernel_rfl
theorem ba_no_index : typeLookup (.type "bytearray") "__index__" = pure none := by rw [typeLookup_type, builtinLookup_eq_fast]; kernel_rfl

section
variable {prog : Program} {w : World} {A : Around} {E : Value → Shared → Prop} {s : Shared}
theorem wpAny_else {α : Type} {M : Model} {c : Prop} [Decidable c] {X Y : Sem α} {Q : α → Shared → Prop} (hc : ¬ c) (h : wpAny M A Y Q E s) : wpAny M A (if c then X else Y) Q E s := by rw [if_neg hc]; exact h
theorem wpAny_then {α : Type} {M : Model} {c : Prop} [Decidable c] {X Y : Sem α} {Q : α → Shared → Prop} (hc : c) (h : wpAny M A X Q E s) : wpAny M A (if c then X else Y) Q E s := by rw [if_pos hc]; exact h
theorem ba_payload {M : Model} {a : Addr} {b : Array UInt8} {Q : Array UInt8 → Shared → Prop} (ho : IsBA s.heap a b) (h : Q b s) : wpAny M A (Builtin.Bytes.payload (.ref a)) Q E s := by
  unfold Builtin.Bytes.payload Builtin.Bytes.payload?
  exact wpAny_bind (wpAny_bind (wpAny_load ho (wpAny_pure (wpAny_pure h))))
theorem ba_setItem {a : Addr} {b : Array UInt8} {k v : Int} {u t : Tok} {Q : Unit → Shared → Prop} (ho : IsBA s.heap a b) (h0 : 0 ≤ k) (hk : k < b.size) (hsz : b.size ≤ 16777216) (v0 : 0 ≤ v) (v1 : v < 256)
    (hQ : ∀ h', IsBA h' a (b.setIfInBounds k.toNat v.toNat.toUInt8) → Heap.SameBut a s.heap h' → Q () { s with heap := h' }) : wpAny (model prog w) A (setItem (.ref a) (.int k u) (.int v t)) Q E s := by
  have hT : s.TypeIs (.ref a) "bytearray" := ba_typeIs ho rfl
  unfold setItem
  refine wpAny_holding ?_
  refine wpAny_bind (wpAny_sequenceKey hT (by decide) ?_)
  refine wpAny_bind (wpAny_callSpecial?_slot (name := Str.ofString "__setitem__") hT ba_slot_set (wpAny_call_entry ba_slot_set hT ba_entry_set ?_ (ba_args_set _ _ _)))
  unfold Builtin.«bytearray.__setitem__»
  refine wpAny_else (by show ¬ (!true) = true; decide) ?_
  have hsub : Builtin.Bytes.subscript? (.int k u) = (pure (some k) : Sem (Option Int)) := by
    unfold Builtin.Bytes.subscript?
    rw [show specialOf (.int k u) "__index__" = typeLookup (.type "int") "__index__" from rfl, int_index]
    have g1 : Builtin.Bytes.fitsIndex k = true := by unfold Builtin.Bytes.fitsIndex; rw [Bool.and_eq_true]; exact ⟨decide_eq_true (by omega), decide_eq_true (by omega)⟩
    show (do let k ← (pure k : Sem Int); if (!Builtin.Bytes.fitsIndex k) = true then _ else _) = _
    rw [pure_bind, g1]
    rfl
  have hbv : Builtin.Bytes.byteValue (.int v t) = (pure v.toNat.toUInt8 : Sem UInt8) := by
    unfold Builtin.Bytes.byteValue
    show (do let i ← (pure v : Sem Int); _) = _
    rw [pure_bind]
    have : (decide (v < 0) || decide (v ≥ 256)) = false := by rw [Bool.or_eq_false_iff]; exact ⟨decide_eq_false (by omega), decide_eq_false (by omega)⟩
    rw [this]
    rfl
  have hsi : seqIndex? k b.size = some k.toNat := by
    have hn : ¬ k < 0 := by omega
    simp [seqIndex?, hn, h0, hk]
  refine wpAny_bind (wpAny_of_eq hsub (wpAny_bind (wpAny_of_eq hbv (wpAny_bind (ba_payload ho ?_)))))
  rw [hsi]
  refine wpAny_bind (ba_write ho (by simpa using hsz) fun h' hb hs' => ?_)
  exact wpAny_pure ⟨.none, rfl, wpAny_pure (hQ h' hb hs')⟩
theorem ba_ownBuffer {M : Model} {a : Addr} {b : Array UInt8} (ho : IsBA s.heap a b) {Q : Bool → Shared → Prop} (h : Q true s) : wpAny M A (Builtin.Bytes.slotIsOwn (.ref a) "__buffer__") Q E s := by
  unfold Builtin.Bytes.slotIsOwn
  refine wpAny_bind (wpAny_specialOf (ba_typeIs ho rfl) ba_buffer ?_)
  have key : ∀ x : String, x = "bytearray" → wpAny M A (isInstance (.ref a) (.type x)) Q E s := fun x hx => by
    rw [hx]; exact wpAny_isInstance (ba_typeIs ho rfl) ba_sub h
  dsimp only
  split
  · rename_i hx
    exact absurd hx (by decide +kernel)
  · exact key _ (by decide +kernel)
theorem ba_newBytes {a : Addr} {b : Array UInt8} {Q : Value → Shared → Prop} (ho : IsBA s.heap a b) (hsz : b.size ≤ 16777216) (hQ : ∀ t k, Q (.bytes b t) { s with toks := k }) :
    codeAny (model prog w) A (.call (.builtin "bytes.__new__") ⟨[.type "bytes", .ref a], []⟩) (wants Q E) s := by
  refine codeAny_of_tree ?_
  show wpAny _ A.in1 (do checkBuiltinCall "bytes.__new__" ⟨[.type "bytes", .ref a], []⟩; again (.builtin "bytes.__new__" ⟨[.type "bytes", .ref a], []⟩)) _ _ s
  refine wpAny_bind (wpAny_of_eq (F.bm_newCall _) (wpAny_pure ⟨plainId_quiet F.bm_plain _, codeAny_builtin F.bm_entry ?_⟩))
  rw [Around.under_plainId F.bm_plain _]
  have hT : s.TypeIs (.ref a) "bytearray" := ba_typeIs ho rfl
  unfold Builtin.«bytes.__new__»
  refine wpAny_bind (wpAny_of_eq (a := true) rfl (wpAny_else (by decide) ?_))
  refine wpAny_bind (wpAny_of_eq F.bm_sub (wpAny_else (by decide) ?_))
  refine wpAny_bind (wpAny_of_eq (F.bm_bind _) ?_)
  refine wpAny_bind (wpAny_of_eq (a := ()) rfl ?_)
  refine wpAny_bind (wpAny_of_eq (a := ()) rfl ?_)
  refine wpAny_else (by decide) ?_
  refine wpAny_bind (wpAny_specialOf hT ba_no_bytes ?_)
  refine wpAny_bind (wpAny_bind ?_)
  show wpAny _ _ (load a >>= _) _ _ _
  refine wpAny_bind (wpAny_load ho (wpAny_pure (wpAny_pure (wpAny_else (by decide) ?_))))
  refine wpAny_bind (wpAny_specialOf hT ba_no_index (wpAny_then (by decide) ?_))
  first
    | show wpAny _ _ (Builtin.Bytes.buffer? "bytes.__new__" (.ref a) true >>= _) _ _ _
    | (refine wpAny_bind ?_; show wpAny _ _ (Builtin.Bytes.buffer? "bytes.__new__" (.ref a) true >>= _) _ _ _)
  refine wpAny_bind ?_
  unfold Builtin.Bytes.buffer?
  refine wpAny_bind (wpAny_specialOf hT ba_buffer ?_)
  refine wpAny_bind (ba_ownBuffer ho (wpAny_else (by decide) ?_))
  refine wpAny_bind (wpAny_specialOf hT ba_buffer ?_)
  refine wpAny_bind (ba_ownRelease ho rfl (wpAny_else (by decide) ?_))
  refine wpAny_bind (ba_payload ho (wpAny_pure ?_))
  refine wpAny_bind (wpAny_rule (wpAny_bind (wpAny_mkBytes ?_ (by rw [sizeLine_eq]; exact hsz))))
  show wpAny _ _ (if (Value.type "bytes" == Value.type "bytes") = true then _ else _) _ _ _
  refine wpAny_then (by decide) ?_
  first
    | exact wpAny_pure (hQ _ _)
    | exact wpAny_bind (wpAny_pure (wpAny_pure (hQ _ _)))
theorem ba_bytes {a : Addr} {b : Array UInt8} {h : Heap} (ho : IsBA h a b) (hsz : b.size ≤ 16777216) : Ev prog w A h (call (.type "bytes") [.ref a]) (vY b) := by
  refine ⟨fun s Q E hs hQ => ?_⟩
  refine callType_codes (Q₁ := fun obj s₁ => s₁.TypeIs obj "bytes" ∧ Q obj s₁) F.bm_called (F.bm_typeCall _) F.entry_object_init
    (ba_newBytes (hs _ _ ho) hsz fun t k => ⟨PySem.W.typeIs_bytes _ _ _, hQ _ _ (kTok s k) ⟨t, rfl⟩⟩) fun obj s₁ h₁ => ?_
  exact ⟨h₁.1, F.args_object_init_2 obj _, object_init_meets F.bm_called.init.lookup F.bm_called.made (by decide) prog w A.in1 _ s₁ ⟨h₁.1, rfl, h₁.2⟩⟩
end
end Mine

namespace Mine
set_option maxRecDepth 100000
set_option maxHeartbeats 1000000

/- ** the plain part ** -/
def SwIn (b : Array UInt8) (w q j : Nat) (c : Array UInt8) : Prop :=
  c.size = b.size ∧ ∀ q' j', ((q' < q ∧ j' < w) ∨ (q' = q ∧ j' < j)) → c[q' * w + (w - 1 - j')]? = b[q' * w + j']?
def Swapped (b c : Array UInt8) (w k : Nat) : Prop := c.size = b.size ∧ ∀ q j, q < k → j < w → c[q * w + (w - 1 - j)]? = b[q * w + j]?
theorem swIn_step {b c : Array UInt8} {w q j k : Nat} (hs : b.size = k * w) (hq : q < k) (hj : j < w) (x : SwIn b w q j c) (v : UInt8) (hv : b[q * w + j]? = some v) :
    SwIn b w q (j + 1) (c.setIfInBounds (q * w + (w - 1 - j)) v) := by
  refine ⟨by simpa using x.1, fun q' j' h => ?_⟩
  have hlt : q * w + (w - 1 - j) < c.size := by
    rw [x.1, hs]
    have : (q + 1) * w ≤ k * w := Nat.mul_le_mul_right _ hq
    rw [Nat.add_mul, Nat.one_mul] at this
    omega
  by_cases he : q' = q ∧ j' = j
  · obtain ⟨rfl, rfl⟩ := he
    rw [hv, Array.getElem?_setIfInBounds_self_of_lt hlt]
  · have hne : q * w + (w - 1 - j) ≠ q' * w + (w - 1 - j') := by
      rcases h with ⟨h1, h2⟩ | ⟨h1, h2⟩
      · have : (q' + 1) * w ≤ q * w := Nat.mul_le_mul_right _ h1
        rw [Nat.add_mul, Nat.one_mul] at this
        omega
      · subst h1
        have : j' ≠ j := fun e => he ⟨rfl, e⟩
        omega
    rw [Array.getElem?_setIfInBounds_ne hne]
    refine x.2 q' j' ?_
    rcases h with h | ⟨h1, h2⟩
    · exact .inl h
    · subst h1
      have : j' ≠ j := fun e => he ⟨rfl, e⟩
      exact .inr ⟨rfl, by omega⟩
theorem swIn_row {b c : Array UInt8} {w q : Nat} (x : SwIn b w q w c) : SwIn b w (q + 1) 0 c := by
  refine ⟨x.1, fun q' j' h => x.2 q' j' ?_⟩
  rcases h with ⟨h1, h2⟩ | ⟨_, h2⟩
  · by_cases e : q' = q
    · exact .inr ⟨e, h2⟩
    · exact .inl ⟨by omega, h2⟩
  · omega
theorem swIn_end {b c : Array UInt8} {w k : Nat} (x : SwIn b w k 0 c) : Swapped b c w k := ⟨x.1, fun q j hq hj => x.2 q j (.inl ⟨hq, hj⟩)⟩

section
variable {prog : Program} {w : World} {A : Around} {h₀ h : Heap} {g : Array GenState} {d : Drawn} {tk : Nat} {os : OsState} {name : Str} {scope : Scope} {L f : Addr} {cd : Value} {m : Str → Option Value}
theorem WpC.cons {st : Stmt} {rest : List Stmt} {env : Env} {Q : Flow → Shared → Prop} {E : Value → Shared → Prop} {s : Shared}
    (x : WpC prog w A (exec st env) (fun fl s' => match fl with | .next => WpC prog w A (execs rest env) Q E s' | fl => Q fl s') E s) : WpC prog w A (execs (st :: rest) env) Q E s :=
  ⟨by rw [execs_cons]; exact wpC_bind (wpC_mono x.run (fun fl s' q => by cases fl <;> first | exact q.run | exact wpC_pure q) fun _ _ e => e)⟩
theorem asgC {x : Str} {px pos : Pos} {value : Expr} {P : Value → Heap → Prop} {Q : Flow → Shared → Prop} {E : Value → Shared → Prop} (F : Fr h₀ L h m)
    (ev : EvC prog w A h (eval value (envOf name scope L f cd)) P)
    (hq : ∀ v h' h'' tk', Le h h' → P v h' → Fr h₀ L h'' (upd m x v) → Heap.SameBut L h' h'' → Q .next ⟨h'', g, d, tk', os⟩)
    (hk : scope.kind = .function := by rfl) (hl : (envOf name scope L f cd).kindOf x = some .local := by rfl)
    (hs : swapsWith value (some (.Name x px)) pos.line (envOf name scope L f cd) = pure false := by rfl) :
    WpC prog w A (exec (.Assign [.Name x px] value pos) (envOf name scope L f cd)) Q E ⟨h, g, d, tk, os⟩ := by
  rw [exec_Assign_Name _ x px value pos hs]
  refine ⟨wpC_bind (wpC_of (wpAny_standAt (wpC_bind (ev.run ⟨h, g, d, tk, os⟩ _ E (Le.refl _) fun v s1 k p => ?_))))⟩
  obtain ⟨h1, tk1, rfl, k1⟩ := k
  exact wpC_of (wpAny_bind (wpAny_standAt (wpAny_bind (wpAny_bindName (stL (frUp F k1) (fun h2 F2 hs2 => wpAny_pure (hq v h1 h2 _ k1 p F2 hs2)) hk hl)))))
end

section
variable {prog : Program} {w : World} {A : Around} {h : Heap} {env : Env} {mg mb : Str → Option Value}
theorem evC_callG {i : Nat} {f : Addr} {args : List Value} {binds : List (Str × Value)} {P : Value → Heap → Prop} (G : GG mg mb h) (hi : i ∈ [1, 3, 24, 26, 28, 29, 30, 31]) (hf : mg (fName i) = some (.ref f))
    (hroom : A.depth < recursionLimit)
    (hbind : ∀ pm cd doc, bindArgs (Calls.docDef (fName i) (fArgs i) (fBody i) (fScope i) pm cd doc) ⟨args, []⟩ = pure binds)
    (hloc : ∀ x ∈ binds, (fScope i).names.lookup x.1 = some .local)
    (hb : ∀ (s : Shared) L h₁ cd, Le h s.heap → GG mg mb s.heap → GG mg mb h₁ → s.heap.CodeRec cd (fName i) → Fr s.heap L h₁ (fun x => binds.reverse.lookup x) →
      WpC prog w (A.deeper (envOf (fName i) (fScope i) L f cd)) (execs (fBody i) (envOf (fName i) (fScope i) L f cd)) (fun f s' => Keeps s s' ∧ P (retOf f) s'.heap) (fun _ _ => False) ⟨h₁, s.gens, s.drawn, s.toks + binds.length, s.os⟩)
    (hco : (fScope i).isCoroutine = false := by rfl) (hgen : (fScope i).isGenerator = false := by rfl) (hk : (fScope i).kind = .function := by rfl)
    (hcell : ∀ x ∈ (fScope i).names, x.2 ≠ .cell := by decide) : EvC prog w A h (call (.ref f) args) P := by
  obtain ⟨a, o, pm, code, doc, h1, h2, h3, h4⟩ := G.fn i hi
  rw [hf] at h1
  cases h1
  refine ⟨fun s Q E hs hQ => wpC_call (codeC_call_function hroom (hs _ _ h2) h3 hco hgen rfl (h4.keeps hs) ?_)⟩
  rw [hbind pm code doc]
  refine wpAny_pure (wpAny_newFunctionEnv hcell hloc (fun h₁ hns hsb => ⟨(G.nolimit.keeps hs).fresh _ hsb, ?_⟩) hk)
  show codeC _ _ (.func (fBody i) (envOf (fName i) (fScope i) s.heap.objs.size f code)) _ _
  have F : Fr s.heap s.heap.objs.size h₁ (fun x => binds.reverse.lookup x) := ⟨hns, fun b o e => hsb.extBut b o (Nat.ne_of_lt (Heap.lt_size e)) (Heap.get?_push_of_some _ e), Nat.le_refl _⟩
  refine codeC_func (wpC_mono (hb s _ h₁ code hs (G.up hs) ((G.up hs).up F.keep) (h4.keeps hs) F).run (fun fl s' x => ?_) fun _ _ x => x)
  exact hQ (retOf fl) s' x.1 x.2
theorem evC_CallG {i : Nat} {n : Str} {np pos : Pos} {e : Expr} {rest : List Expr} {R : List Value → Heap → Prop} {P : Value → Heap → Prop} (G : GG mg mb h) (hi : i ∈ [1, 3, 24, 26, 28, 29, 30, 31]) (hname : fName i = n)
    (ha : EvC prog w A h (spliced (backTo pos (starEach (e :: rest) env))) R)
    (hc : ∀ f vs h', mg (fName i) = some (.ref f) → Le h h' → GG mg mb h' → R vs h' → EvC prog w A h' (call (.ref f) vs) P)
    (he : starEach (e :: rest) env = (false, eval e env) :: starEach rest env := by rfl) (hplain : (backTo pos (starEach rest env)).any (·.1) = false := by rfl) (hlen : (backTo pos (starEach rest env)).length < 30 := by decide)
    (hg : env.globals = mainGlobals := by rfl) (hk : env.scope.kind = .function := by rfl) (hl : env.kindOf n = some .globalImplicit := by rfl) (hd : (n == ("__debug__" : Str)) = false := by decide) :
    EvC prog w A h (eval (.Call (.Name n np) (e :: rest) [] pos) env) P := by
  subst hname
  obtain ⟨a, o, pm, code, doc, h1, h2, h3, h4⟩ := G.fn i hi
  exact evC_Call (ev_global (hg ▸ G.g) h1 hk hl hd) (evC_withF h2 h3 ha (fun vs h' k p => hc a vs h' h1 k (G.up k) p) he hplain hlen)
theorem evC_withT {pos : Pos} {T : String} {e : Expr} {rest : List Expr} {R : List Value → Heap → Prop} {P : Value → Heap → Prop} (ha : Ev prog w A h (spliced (backTo pos (starEach (e :: rest) env))) R)
    (hc : ∀ vs h', Le h h' → R vs h' → EvC prog w A h' (call (.type T) vs) P)
    (he : starEach (e :: rest) env = (false, eval e env) :: starEach rest env := by rfl) (hplain : (backTo pos (starEach rest env)).any (·.1) = false := by rfl) :
    EvC prog w A h (callWith pos (.type T) [] (backTo pos (starEach (e :: rest) env)) []) P := by
  have ha := ha.c
  rw [he] at ha ⊢
  have hb : backTo pos ((false, eval e env) :: starEach rest env) = (false, eval e env) :: backTo pos (starEach rest env) := rfl
  rw [hb] at ha ⊢
  have hstar : ((false, eval e env) :: backTo pos (starEach rest env)).any (·.1) = false := by show (false || (backTo pos (starEach rest env)).any (·.1)) = false; rw [hplain]; rfl
  refine ⟨fun s Q E hs hQ => ?_⟩
  unfold callWith
  refine wpC_bind (wpC_holding ((evC_evalArgs ha).run s _ E hs fun a s1 k1 p1 => wpC_bind (wpC_of (wpAny_standAt ?_))))
  obtain ⟨vs, rfl, p1⟩ := p1
  simp only [hstar, List.any_nil, Bool.or_false]
  refine wpC_bind (wpC_of (wpAny_pure ?_))
  refine wpC_bind (wpC_mono ((hc vs s1.heap (hs.trans (kLe k1)) p1).run s1 Q E (Le.refl _) fun v s2 k2 p2 => hQ v s2 (kTrans k1 k2) p2) (fun r s₂ hr => wpC_of (wpAny_bind (wpAny_holding (wpAny_point (wpAny_pure hr))))) fun _ _ x => x)
theorem ev_lenY {e : Expr} {pos : Pos} {b : Array UInt8} (ha : Ev prog w A h (eval e env) (vY b)) (hsz : b.size ≤ 16777216) (he : starEach [e] env = [(false, eval e env)] := by rfl) :
    Ev prog w A h (callWith pos (.builtin "len") [] (backTo pos (starEach [e] env)) []) (vI b.size) := by
  refine ev_withB (ev_one (sY b) ha he) (fun vs h' k p => ?_) he rfl
  obtain ⟨v, rfl, t, rfl⟩ := p
  exact ⟨fun s _ _ _ hQ => len_bytes (by omega) (hQ _ _ (kTok s _) ⟨_, rfl⟩)⟩
theorem ev_itemY {value slice : Expr} {pos : Pos} {b : Array UInt8} {k : Int} {v : UInt8} (hl : Ev prog w A h (eval value env) (vY b)) (hr : Ev prog w A h (eval slice env) (vI k)) (h0 : 0 ≤ k) (hv : b[k.toNat]? = some v) (hsz : b.size ≤ 16777216)
    (hs : ∀ a u v, subscripted slice false (.bytes a u) (.int k v) = operate [.bytes a u, .int k v] (getItem (.bytes a u) (.int k v)) := by intro _ _ _; with_unfolding_all rfl) : Ev prog w A h (eval (.Subscript value slice pos) env) (vI v.toNat) := by
  refine ev_Sub (sY b) hl hr fun a c h' k' p q => ?_
  obtain ⟨t, rfl⟩ := p
  obtain ⟨u, rfl⟩ := q
  refine ⟨fun s Q E hs' hQ => tail_any (typeIs_bytes s b t) FB.slot_bytes_getitem.lookup ?_ (hs b t u)⟩
  obtain ⟨l⟩ := b
  have hlt : k.toNat < l.length := by
    have := (Array.getElem?_eq_some_iff.mp hv).1
    simpa using this
  refine getItem_bytes (by have : l.length ≤ 16777216 := by simpa using hsz
                           omega) h0 (by omega) ?_
  have e : l.getD k.toNat 0 = v := by
    have := hv
    simp only [List.getElem?_toArray] at this
    rw [List.getD_eq_getElem?_getD, this]; rfl
  rw [e]
  exact hQ _ _ (kTok s _) ⟨_, rfl⟩
end
end Mine

namespace Mine
set_option maxRecDepth 100000
set_option maxHeartbeats 1000000

theorem rangeSize_mul {k w : Nat} (hw : 0 < w) : Builtin.Range.rangeSize 0 ((k * w : Nat) : Int) (w : Int) = (k : Int) := by
  unfold Builtin.Range.rangeSize
  have hw' : (w : Int) > 0 := by omega
  rw [if_pos hw']
  rcases Nat.eq_zero_or_pos k with rfl | hk
  · simp
  · have h1 : (0 : Int) < ((k * w : Nat) : Int) := by have := Nat.mul_pos hk hw; omega
    rw [if_pos h1]
    obtain ⟨k', rfl⟩ : ∃ k', k = k' + 1 := ⟨k - 1, by omega⟩
    have e : ((((k' + 1) * w : Nat) : Int) - 0 - 1) = ((w : Int) - 1) + (k' : Int) * (w : Int) := by
      have : (k' + 1) * w = k' * w + w := by rw [Nat.add_mul, Nat.one_mul]
      rw [this]
      push_cast
      omega
    rw [e, Int.add_mul_ediv_right _ _ (by omega)]
    have : ((w : Int) - 1) / (w : Int) = 0 := Int.ediv_eq_zero_of_lt (by omega) (by omega)
    rw [this]
    push_cast
    omega
theorem small_mul {k w : Nat} (hw : 0 < w) (h1 : k * w ≤ 16777216) (h2 : w ≤ 16777216) : Builtin.Range.small 0 ((k * w : Nat) : Int) (w : Int) = true := by
  have hk : k ≤ 16777216 := Nat.le_trans (Nat.le_mul_of_pos_right k hw) h1
  unfold Builtin.Range.small
  rw [rangeSize_mul hw]
  have hw' : (w : Int) > 0 := by omega
  simp only [Builtin.Range.rangeFitsLong, Bool.and_eq_true, Bool.or_eq_true, decide_eq_true_eq, beq_iff_eq, if_pos hw']
  omega

section
variable {prog : Program} {w : World} {A : Around} {h₀ h : Heap} {g : Array GenState} {d : Drawn} {tk : Nat} {os : OsState} {env : Env}
theorem ev_range3 {e1 e2 e3 : Expr} {pos : Pos} {k n : Nat} (hn : 0 < n) (hk : k * n ≤ 16777216) (hn' : n ≤ 16777216)
    (x1 : Ev prog w A h (eval e1 env) (vI 0)) (x2 : Ev prog w A h (eval e2 env) (vI ((k * n : Nat) : Int))) (x3 : Ev prog w A h (eval e3 env) (vI (n : Int)))
    (q1 : starEach [e1, e2, e3] env = (false, eval e1 env) :: starEach [e2, e3] env := by rfl) (q2 : starEach [e2, e3] env = (false, eval e2 env) :: starEach [e3] env := by rfl) (q3 : starEach [e3] env = (false, eval e3 env) :: starEach [] env := by rfl)
    (hplain : (backTo pos (starEach [e2, e3] env)).any (·.1) = false := by rfl) :
    Ev prog w A h (callWith pos (.type "range") [] (backTo pos (starEach [e1, e2, e3] env)) []) (vR 0 (n : Int) k) := by
  refine ev_withT (R := lL vI [0, ((k * n : Nat) : Int), (n : Int)]) (ev_iL_cons sI x1 (ev_iL_cons sI x2 (ev_iL_cons sI x3 ev_iL_nil q3) q2) q1) (fun vs h' _ p => ?_) q1 hplain
  obtain ⟨t1, t2, t3, rfl⟩ : ∃ t1 t2 t3, vs = [.int 0 t1, .int ((k * n : Nat) : Int) t2, .int (n : Int) t3] := by
    cases p with
    | cons p q => cases q with
      | cons p2 q => cases q with
        | cons p3 q => cases q; obtain ⟨t1, rfl⟩ := p; obtain ⟨t2, rfl⟩ := p2; obtain ⟨t3, rfl⟩ := p3; exact ⟨_, _, _, rfl⟩
  refine ⟨fun s Q E hs hQ => ?_⟩
  refine call_range_3 (by omega) (hQ _ _ (kHeap (Le.push _)) ⟨_, ((k * n : Nat) : Int), _, _, _, rfl, IsRange.new .., small_mul hn hk hn', rangeSize_mul hn⟩) (.inl (PyProof.noPylong_small (by omega)))

theorem asgBA {o i value : Expr} {pos' pos : Pos} {a : Addr} {c : Array UInt8} {v k : Int} {Q : Flow → Shared → Prop} {E : Value → Shared → Prop} (ho : IsBA h a c)
    (ev : Ev prog w A h (eval value env) (vI v)) (eo : Ev prog w A h (eval o env) (vV (.ref a))) (ei : Ev prog w A h (eval i env) (vI k))
    (h0 : 0 ≤ k) (hk : k < c.size) (hsz : c.size ≤ 16777216) (v0 : 0 ≤ v) (v1 : v < 256)
    (hq : ∀ h' h'' tk', Le h h' → IsBA h'' a (c.setIfInBounds k.toNat v.toNat.toUInt8) → Heap.SameBut a h' h'' → Q .next ⟨h'', g, d, tk', os⟩)
    (hs : swapsWith value (some (.Subscript o i pos')) pos.line env = pure false := by rfl) :
    Wp prog w A (exec (.Assign [.Subscript o i pos'] value pos) env) Q E ⟨h, g, d, tk, os⟩ := by
  refine ⟨wpAny_Assign_Subscript (ev.run ⟨h, g, d, tk, os⟩ _ E (Le.refl _) fun v1' s1 k1 p1 => eo.run s1 _ E (kLe k1) fun v2 s2 k2 p2 => ei.run s2 _ E ((kLe k1).trans (kLe k2)) fun v3 s3 k3 p3 => ?_) hs⟩
  obtain ⟨t1, rfl⟩ := p1
  obtain rfl : v2 = .ref a := p2
  obtain ⟨t3, rfl⟩ := p3
  obtain ⟨h3, tk3, rfl, k4⟩ := kTrans k1 (kTrans k2 k3)
  exact ba_setItem (k4 _ _ ho) h0 hk hsz v0 v1 fun h' hb hs' => hq h3 h' tk3 k4 hb hs'
end

theorem frBut {h₀ h h' : Heap} {L a : Addr} {m : Str → Option Value} (F : Fr h₀ L h m) (hs : Heap.SameBut a h h') (haL : a ≠ L) (ha : h₀.get? a = none) : Fr h₀ L h' m :=
  ⟨F.ns.sameBut hs (Ne.symm haL), fun b o e => hs.extBut b o (fresh_ne e ha) (F.keep b o e), F.above⟩

theorem swap_ok {prog : Program} {wd : World} {A : Around} {h : Heap} {mg mb : Str → Option Value} {f : Addr} (G : GG mg mb h) (hf : mg (fName 1) = some (.ref f)) (hroom : A.depth < recursionLimit) (hh : A.handled = none)
    {b : Array UInt8} {w k : Nat} (hw : 0 < w) (hsz : b.size = k * w) (hlim : b.size ≤ 16777216) (hwl : w ≤ 16777216) (t u : Tok) :
    EvC prog wd A h (call (.ref f) [.bytes b t, .int (w : Int) u]) (fun v h' => ∃ c, vY c v h' ∧ Swapped b c w k) := by
  refine evC_callG (i := 1) (binds := [("data", .bytes b t), ("width", .int (w : Int) u)]) G (by decide) hf hroom (fun _ _ _ => rfl) (locs rfl) fun s L h₁ cd hs Gs G1 hcd F => ?_
  have hh' : (A.deeper (envOf (fName 1) (fScope 1) L f cd)).handled = none := hh
  generalize A.deeper (envOf (fName 1) (fScope 1) L f cd) = A' at hh' ⊢
  have eD : ∀ {h' m'} {pos : Pos}, Fr s.heap L h' m' → (∃ td, m' "data" = some (.bytes b td)) → Ev prog wd A' h' (eval (.Name "data" pos) (envOf (fName 1) (fScope 1) L f cd)) (vY b) := fun {h' m' pos} F' e => by
    obtain ⟨td, e⟩ := e
    exact ev_local F'.ns ⟨_, e, fun _ _ => ⟨_, rfl⟩⟩
  have eLen : ∀ {h' m'} {p1 p2 p3 : Pos}, Fr s.heap L h' m' → (∃ td, m' "data" = some (.bytes b td)) → Ev prog wd A' h' (eval (.Call (.Name "len" p1) [.Name "data" p2] [] p3) (envOf (fName 1) (fScope 1) L f cd)) (vI ((k * w : Nat) : Int)) := fun {h' m' p1 p2 p3} F' e => by
    rw [← hsz]
    exact ev_Call (ev_boot (v := .builtin "len") (Gs.up F'.keep) (by decide) (by decide +kernel)) (ev_lenY (eD F' e) hlim)
  refine WpC.cons (asgC F (P := fun v h' => ∃ a, v = .ref a ∧ h₁.get? a = none ∧ IsBA h' a (Array.replicate (k * w) 0)) ?_ fun v h2 h3 tk k2 p2 F3 hs3 => ?_)
  · refine evC_Call (ev_boot (v := .type "bytearray") G1 (by decide) (by decide +kernel)) (evC_withT (ev_one (sI _) (eLen F ⟨t, rfl⟩)) fun vs h' k' p => ?_)
    obtain ⟨v, rfl, tv, rfl⟩ := p
    refine ((ba_call (by omega) (by omega)).mono fun v h'' _ p => ?_)
    obtain ⟨a, rfl, e1, e2⟩ := p
    refine ⟨a, rfl, none_of_le k' e1, ?_⟩
    rwa [Int.toNat_natCast] at e2
  obtain ⟨a, rfl, ha0, ha⟩ := p2
  have haL : a ≠ L := by obtain ⟨o, e⟩ := frameAt F; exact (fresh_ne e ha0).symm
  have ha3 : IsBA h3 a (Array.replicate (k * w) 0) := hs3.extBut a _ haL ha
  have has : s.heap.get? a = none := none_of_le F.keep ha0
  dsimp only
  refine Wp.c (Wp.cons (forR (a := 0) (c := (w : Int)) (n := k) hh' F3 ?_ (fun q h' => ∃ c, IsBA h' a c ∧ SwIn b w q 0 c)
    (fun _ m => (∃ td, m "data" = some (.bytes b td)) ∧ (∃ tw, m "width" = some (.int (w : Int) tw)) ∧ m "swapped_data" = some (.ref a)) ?_ ⟨_, ha3, ?_⟩ ⟨⟨t, rfl⟩, ⟨u, rfl⟩, rfl⟩ ?_ fun h' tk' m' F' hJ hm => ?_))
  · exact ev_Call (ev_boot (v := .type "range") (Gs.up F3.keep) (by decide) (by decide +kernel)) (ev_range3 hw (by omega) hwl ev_int (eLen F3 ⟨t, rfl⟩) (ev_localI F3.ns rfl))
  · rintro q h' h'' I hI ⟨c, hc, hs'⟩ hk'
    exact ⟨c, hk' a _ (fresh_ne ha3 hI) haL hc, hs'⟩
  · refine ⟨by simp [hsz], fun q' j' hq => ?_⟩
    rcases hq with ⟨hq, _⟩ | ⟨_, hq⟩ <;> omega
  · intro q I tk' ti h4 m4 hq hI hJ hm F4
    obtain ⟨c, hc, hsw⟩ := hJ
    obtain ⟨⟨td, e1⟩, ⟨tw, e2⟩, e3⟩ := hm
    have e1' : upd m4 "i" (.int (0 + (q : Int) * (w : Int)) ti) "data" = some (.bytes b td) := (updNe (by decide)).trans e1
    have e2' : upd m4 "i" (.int (0 + (q : Int) * (w : Int)) ti) "width" = some (.int (w : Int) tw) := (updNe (by decide)).trans e2
    have e3' : upd m4 "i" (.int (0 + (q : Int) * (w : Int)) ti) "swapped_data" = some (.ref a) := (updNe (by decide)).trans e3
    have e4' : upd m4 "i" (.int (0 + (q : Int) * (w : Int)) ti) "i" = some (.int (0 + (q : Int) * (w : Int)) ti) := updSelf
    generalize upd m4 "i" (.int (0 + (q : Int) * (w : Int)) ti) = m5 at F4 e1' e2' e3' e4'
    have hIL : I ≠ L := by obtain ⟨o', e'⟩ := frameAt F3; exact (fresh_ne e' hI).symm
    have hIa : I ≠ a := (fresh_ne ha3 hI).symm
    refine Wp.cons (forR (a := 0) (c := 1) (n := w) hh' F4 ?_ (fun j h' => (∃ c, IsBA h' a c ∧ SwIn b w q j c) ∧ ∀ o, h4.get? I = some o → h'.get? I = some o)
      (fun _ m => (∃ td, m "data" = some (.bytes b td)) ∧ (∃ tw, m "width" = some (.int (w : Int) tw)) ∧ m "swapped_data" = some (.ref a) ∧ ∃ ti, m "i" = some (.int (0 + (q : Int) * (w : Int)) ti)) ?_ ⟨⟨c, hc, hsw⟩, fun _ e => e⟩ ⟨⟨td, e1'⟩, ⟨tw, e2'⟩, e3', ⟨ti, e4'⟩⟩ ?_ fun h' tk' m' F' hJ hm => ?_)
    · exact ev_Call (ev_boot (v := .type "range") (Gs.up F4.keep) (by decide) (by decide +kernel)) (ev_range1 (n := (w : Int)) (ev_localI F4.ns e2') (by omega) (by omega))
    · rintro j h' h'' I' hI' ⟨⟨c', hc', hs'⟩, hIk⟩ hk'
      exact ⟨⟨c', hk' a _ (fresh_ne hc hI') haL hc', hs'⟩, fun o e => hk' I _ (fresh_ne e hI') hIL (hIk o e)⟩
    · intro j I' tk'' tj h6 m6 hj hI' hJ6 hm6 F6
      obtain ⟨⟨c', hc', hsw'⟩, hIk⟩ := hJ6
      obtain ⟨⟨td, g1⟩, ⟨tw, g2⟩, g3, ⟨ti', g4⟩⟩ := hm6
      have hI'L : I' ≠ L := by obtain ⟨o', e'⟩ := frameAt F4; exact (fresh_ne e' hI').symm
      have hI'a : I' ≠ a := (fresh_ne hc hI').symm
      have f1 : upd m6 "j" (.int (0 + (j : Int) * 1) tj) "data" = some (.bytes b td) := (updNe (by decide)).trans g1
      have f2 : upd m6 "j" (.int (0 + (j : Int) * 1) tj) "width" = some (.int (w : Int) tw) := (updNe (by decide)).trans g2
      have f3 : upd m6 "j" (.int (0 + (j : Int) * 1) tj) "swapped_data" = some (.ref a) := (updNe (by decide)).trans g3
      have f4 : upd m6 "j" (.int (0 + (j : Int) * 1) tj) "i" = some (.int (0 + (q : Int) * (w : Int)) ti') := (updNe (by decide)).trans g4
      have f5 : upd m6 "j" (.int (0 + (j : Int) * 1) tj) "j" = some (.int (0 + (j : Int) * 1) tj) := updSelf
      generalize upd m6 "j" (.int (0 + (j : Int) * 1) tj) = m7 at F6 f1 f2 f3 f4 f5
      have hrow : (q + 1) * w ≤ k * w := Nat.mul_le_mul_right _ hq
      rw [Nat.add_mul, Nat.one_mul] at hrow
      have hqw : ((q : Int) * (w : Int)) = ((q * w : Nat) : Int) := by push_cast; rfl
      have hlt : q * w + j < b.size := by omega
      obtain ⟨v, hv⟩ : ∃ v, b[q * w + j]? = some v := ⟨b[q * w + j], Array.getElem?_eq_getElem hlt⟩
      have hkN : ((0 + (q : Int) * (w : Int)) + (w : Int) - 1 - (0 + (j : Int) * 1)).toNat = q * w + (w - 1 - j) := by rw [hqw]; omega
      have hdN : ((0 + (q : Int) * (w : Int)) + (0 + (j : Int) * 1)).toNat = q * w + j := by rw [hqw]; omega
      have hv256 : v.toNat < 256 := v.toNat_lt
      refine Wp.cons (asgBA hc' (v := (v.toNat : Int)) (k := (0 + (q : Int) * (w : Int)) + (w : Int) - 1 - (0 + (j : Int) * 1)) ?_ (ev_localV F6.ns f3) ?_ (by rw [hqw]; omega) (by rw [hsw'.1, hqw]; omega) (by rw [hsw'.1]; exact hlim) (by omega) (by omega) fun h7 h8 tk8 k7 hb8 hs8 => ?_)
      · exact ev_itemY (eD F6 ⟨td, f1⟩) (ev_addI (ev_localI F6.ns f4) (ev_localI F6.ns f5)) (by rw [hqw]; omega) (by rw [hdN]; exact hv) hlim
      · exact ev_subI (ev_subI (ev_addI (ev_localI F6.ns f4) (ev_localI F6.ns f2)) ev_int) (ev_localI F6.ns f5)
      · rw [hkN] at hb8
        have hvv : ((v.toNat : Int)).toNat.toUInt8 = v := by simp
        rw [hvv] at hb8
        refine Wp.nil ⟨rfl, h8, tk8, m7, rfl, frBut (frUp F6 k7) hs8 haL has, ⟨⟨_, hb8, swIn_step hsz hq hj hsw' v hv⟩, fun o e => hs8.extBut I o hIa (k7 _ _ (hIk o e))⟩, ⟨⟨td, f1⟩, ⟨tw, f2⟩, f3, ⟨ti', f4⟩⟩, fun o e => hs8.extBut I' o hI'a (k7 _ _ e)⟩
    · obtain ⟨⟨c', hc', hsw'⟩, hIk⟩ := hJ
      exact Wp.nil ⟨rfl, h', tk', m', rfl, F', ⟨c', hc', swIn_row hsw'⟩, ⟨hm.1, hm.2.1, hm.2.2.1⟩, hIk⟩
  · obtain ⟨c, hc, hsw⟩ := hJ
    dsimp only
    refine Wp.cons (retE (P := vY c) ?_ fun v h'' tk'' k' p => ⟨kHeap (Le.trans F'.keep k'), c, p, swIn_end hsw⟩)
    refine ev_Call (ev_boot (v := .type "bytes") (Gs.up F'.keep) (by decide) (by decide +kernel)) (ev_withT (ev_one (sV _) (ev_localV F'.ns hm.2.2)) fun vs h'' k' p => ?_)
    obtain ⟨v, rfl, rfl⟩ := p
    exact ba_bytes (k' _ _ hc) (by rw [hsw.1]; exact hlim)
end Mine

namespace Mine
set_option maxRecDepth 100000
set_option maxHeartbeats 1000000
open PySem.AutoSeq1 (wpAny_loadPart')

/- ** enumerate over a tuple ** -/
def enumObj (I : Addr) : Obj := { cls := .type "enumerate", data := .fields #[.none, .bool false, .ref I, rawInt 0, .none, .none] }
def titObj (t : Addr) : Obj := { cls := .type "tuple_iterator", data := .fields #[.ref t, .int 0 0] }
theorem meets_enumT (t : Addr) (items : Array Value) (n : Nat) (dct : Option Addr) (sl : Array (Option Value)) :
    Meets (Builtin.«enumerate.__new__» ⟨[.type "enumerate", .ref t], []⟩) (fun _ R s => s.heap.get? t = some { cls := .type "tuple", dict := dct, data := .seq items n, slots := sl } ∧
      R (.ok (.ret (.ref (s.heap.push (titObj t)).objs.size))) { s with heap := (s.heap.push (titObj t)).push (enumObj s.heap.objs.size) }) :=
  .of_wp fun prog w A R s h => by
    obtain ⟨hp, g, d, tk, os⟩ := s; obtain ⟨hl, h⟩ := h
    have hsub := sub_enumerate
    have hL : IsTup (Shared.heap ⟨hp, g, d, tk, os⟩) t items := ⟨_, hl, rfl, n, rfl⟩
    wp_walk using wpAny_loadPart' hl
    refine wpAny_stack_any fun st => wpAny_pure ?_
    split
    · rename_i c _ _ _ _ _
      cases (c == Value.type "enumerate")
      · wp_walk using wpAny_loadPart' hl, iter_tuple hL
        exact ⟨_, rfl, h⟩
      · wp_walk using wpAny_loadPart' hl, iter_tuple hL
        exact ⟨_, rfl, h⟩
    · wp_walk using wpAny_loadPart' hl, iter_tuple hL
      exact ⟨_, rfl, h⟩

section
variable {prog : Program} {w : World} {A : Around} {E : Value → Shared → Prop} {s : Shared}

theorem call_enumT {t : Addr} {items : Array Value} {Q : Value → Shared → Prop} (hT : IsTup s.heap t items)
    (h : ∀ h', IsEnum h' (s.heap.objs.size + 1) s.heap.objs.size 0 .none → IsTupIter h' s.heap.objs.size t 0 → Le s.heap h' → Q (.ref (s.heap.objs.size + 1)) { s with heap := h' }) :
    wpAny (model prog w) A (call (.type "enumerate") [.ref t]) Q E s := by
  obtain ⟨⟨c, dct, dt, sl⟩, hl, hc, n, hd⟩ := hT
  replace hc : c = .type "tuple" := hc
  replace hd : dt = .seq items n := hd
  subst hc hd
  refine callType_new F.called_enumerate (by decide) (F.typeCall_enumerate_1 _) (F.newCall_enumerate_1 _) (fun obj => F.args_object_init_2 obj _) F.entry_enumerate_new
    (meets_enumT t items n dct sl) ⟨hl, ?_⟩
  have hz : (s.heap.push (titObj t)).objs.size = s.heap.objs.size + 1 := Heap.size_push ..
  show _ ∧ _
  rw [hz]
  have he : IsEnum ((s.heap.push (titObj t)).push (enumObj s.heap.objs.size)) (s.heap.objs.size + 1) s.heap.objs.size 0 .none := by
    have := Heap.get?_push_size (s.heap.push (titObj t)) (o := enumObj s.heap.objs.size) rfl
    rw [hz] at this; exact this
  exact ⟨⟨_, he, rfl⟩, h _ he ⟨_, Heap.get?_push_of_some _ (Heap.get?_push_size _ rfl), rfl, rfl⟩ fun b o x => Heap.get?_push_of_some _ (Heap.get?_push_of_some _ x)⟩

theorem nextOf_tup {it t : Addr} {i : Nat} {items} {x : Value} {Q : Value → Shared → Prop} (hit : IsTupIter s.heap it t i) (ht : IsTup s.heap t items) (hx : items[i]? = some x)
    (hQ : ∀ h', IsTupIter h' it t (i + 1) → Heap.SameBut it s.heap h' → Q x { s with heap := h' }) : wpAny (model prog w) A (Builtin.SmallTypes.nextOf (.ref it)) Q E s := by
  obtain ⟨o, ho, hc, hd⟩ := id hit
  obtain ⟨ol, hol, _, nl, hdl⟩ := ht
  unfold Builtin.SmallTypes.nextOf
  refine wpAny_bind (wpAny_callSpecial?_slot (name := Str.ofString "__next__") hit.typeIs slot_tupleiter_next (wpAny_call_entry slot_tupleiter_next hit.typeIs entry_tupleiter_next ?_ (args_tupleiter_next _)))
  show wpAny _ _ (field (.ref it) 0 >>= _) _ _ s
  refine wpAny_bind (wpAny_field ho hd (x := .ref t) rfl ?_)
  show wpAny _ _ (if (Value.ref t == Value.none) = true then _ else _) _ _ s
  rw [if_neg (show ¬ ((Value.ref t == Value.none) = true) from Bool.false_ne_true)]
  show wpAny _ _ (field (.ref it) 1 >>= _) _ _ s
  refine wpAny_bind (wpAny_field ho hd (x := .int i 0) rfl ?_)
  show wpAny _ _ (seqItems? (.ref t) >>= _) _ _ s
  refine wpAny_bind (wpAny_seqItems hol hdl ?_)
  simp only [Int.toNat_natCast, hx]
  refine wpAny_bind (wpAny_setField ho hd (by simp) (wpAny_pure ⟨x, rfl, wpAny_pure (hQ _ ?_ (Heap.SameBut.update ..))⟩))
  exact ⟨_, Heap.get?_update_self _ ho (Obj.isFreed_of_fields (Obj.data_mapFields hd _)), (Obj.cls_mapFields ..).trans hc, by
    rw [Obj.data_mapFields hd]; simp [rawInt]⟩
theorem nextOf_tup_end {it t : Addr} {i : Nat} {items} {Q : Value → Shared → Prop} (hh : A.handled = none) (hit : IsTupIter s.heap it t i) (ht : IsTup s.heap t items) (hx : items[i]? = none)
    (hE : ∀ h' e, Heap.ExtBut it s.heap h' → (∃ o, h'.get? e = some o ∧ o.cls = .type "StopIteration") → E (.ref e) { s with heap := h' }) : wpAny (model prog w) A (Builtin.SmallTypes.nextOf (.ref it)) Q E s := by
  obtain ⟨o, ho, hc, hd⟩ := id hit
  obtain ⟨ol, hol, _, nl, hdl⟩ := ht
  unfold Builtin.SmallTypes.nextOf
  refine wpAny_bind (wpAny_callSpecial?_slot (name := Str.ofString "__next__") hit.typeIs slot_tupleiter_next (wpAny_call_entry slot_tupleiter_next hit.typeIs entry_tupleiter_next ?_ (args_tupleiter_next _)))
  show wpAny _ _ (field (.ref it) 0 >>= _) _ _ s
  refine wpAny_bind (wpAny_field ho hd (x := .ref t) rfl ?_)
  show wpAny _ _ (if (Value.ref t == Value.none) = true then _ else _) _ _ s
  rw [if_neg (show ¬ ((Value.ref t == Value.none) = true) from Bool.false_ne_true)]
  show wpAny _ _ (field (.ref it) 1 >>= _) _ _ s
  refine wpAny_bind (wpAny_field ho hd (x := .int i 0) rfl ?_)
  show wpAny _ _ (seqItems? (.ref t) >>= _) _ _ s
  refine wpAny_bind (wpAny_seqItems hol hdl ?_)
  simp only [Int.toNat_natCast, hx]
  refine wpAny_bind (wpAny_rule (wpAny_bind (wpAny_setField ho hd (by simp) ?_)))
  show wpAny _ _ (newExc (.type "StopIteration") [] >>= _) _ _ _
  refine wpAny_bind ?_
  simp only [newExc, newTuple]
  refine wpAny_bind (wpAny_newObj_type ?_ (by size_fits))
  refine wpAny_bind (m := firstArgMember _ _) (wpAny_of_eq (a := Value.none) (by first | rfl | (simp only [firstArgMember]; rfl)) ?_)
  refine wpAny_newObj_type ?_ (by size_fits)
  simp only [raiseNew]
  refine wpAny_bind (wpAny_handled ?_)
  first | rw [show A.in1.handled = none from hh] | rw [hh]
  refine wpAny_bind (wpAny_pure (wpAny_throw ?_))
  exact hE _ _ (((Heap.SameBut.update ..).extBut.push _).push _) ⟨_, Heap.get?_push_size _ rfl, rfl⟩

theorem enumT_next {e it t : Addr} {i : Nat} {items : Array Value} {x old : Value} {Q : Value → Shared → Prop}
    (he : IsEnum s.heap e it i old) (hit : IsTupIter s.heap it t i) (hl : IsTup s.heap t items) (hx : items[i]? = some x) (hne : e ≠ it)
    (hQ : ∀ h' a, s.heap.get? a = none → IsEnumOut h' e it ((i : Int) + 1) x a → IsTupIter h' it t (i + 1) → IsTup h' a #[.int i s.toks, x] →
      (∀ b o, b ≠ e → b ≠ it → s.heap.get? b = some o → h'.get? b = some o) → Q (.ref a) { s with heap := h', toks := s.toks + 1 }) :
    wpAny (model prog w) A (Builtin.«enumerate.__next__» ⟨[.ref e], []⟩) (fun fin s' => ∃ v, fin = .done (.ret v) ∧ Q v s') E s := by
  obtain ⟨hp, g, d, tk, os⟩ := s
  show wpAny _ _ (field (.ref e) 2 >>= _) _ _ _
  refine wpAny_bind (wpAny_field he rfl (x := .ref it) rfl ?_)
  refine wpAny_bind (nextOf_tup hit hl hx fun h₁ hit₁ hs₁ => ?_)
  replace hs₁ : Heap.SameBut it hp h₁ := hs₁
  have he₁ : IsEnum h₁ e it i old := (hs₁.2 e hne).trans he
  show wpAny _ _ (field (.ref e) 3 >>= _) _ _ ⟨h₁, g, d, tk, os⟩
  refine wpAny_bind (wpAny_field he₁ rfl (x := rawInt i) rfl ?_)
  show wpAny _ _ (field (.ref e) 4 >>= _) _ _ ⟨h₁, g, d, tk, os⟩
  refine wpAny_bind (wpAny_field he₁ rfl (x := .none) rfl ?_)
  show wpAny _ _ (mkInt i >>= _) _ _ ⟨h₁, g, d, tk, os⟩
  refine wpAny_bind (wpAny_mkInt ?_)
  show wpAny _ _ (setField (.ref e) 3 (rawInt ((i : Int) + 1)) >>= _) _ _ ⟨h₁, g, d, tk + 1, os⟩
  refine wpAny_bind (wpAny_setField_rec he₁ (by simp) fun h₂ he₂ hs₂ => ?_)
  replace hs₂ : Heap.SameBut e h₁ h₂ := hs₂
  replace he₂ : IsEnum h₂ e it ((i : Int) + 1) old := he₂
  show wpAny _ _ (setField (.ref e) 4 .none >>= _) _ _ ⟨h₂, g, d, tk + 1, os⟩
  refine wpAny_bind (wpAny_setField_rec he₂ (by simp) fun h₃ he₃ hs₃ => ?_)
  replace hs₃ : Heap.SameBut e h₂ h₃ := hs₃
  replace he₃ : IsEnum h₃ e it ((i : Int) + 1) old := he₃
  show wpAny _ _ (newTuple [.int i tk, x] >>= _) _ _ ⟨h₃, g, d, tk + 1, os⟩
  refine wpAny_bind (wpAny_newTuple ?_)
  have he₄ : IsEnum (h₃.push { cls := .type "tuple", data := .seq #[.int i tk, x] }) e it ((i : Int) + 1) old := Heap.get?_push_of_some _ he₃
  generalize hh₄ : h₃.push { cls := .type "tuple", data := .seq #[.int i tk, x] } = h₄ at he₄
  have hsz : h₃.objs.size = hp.objs.size := by rw [hs₃.1, hs₂.1, hs₁.1]
  have hel : e < hp.objs.size := Heap.lt_size he
  have ht₄ : IsTup h₄ hp.objs.size #[.int i tk, x] := by rw [← hh₄, ← hsz]; exact IsTup.new _ _
  have hk₄ : ∀ b o, b ≠ e → b ≠ it → hp.get? b = some o → h₄.get? b = some o := fun b o hbe hbi hb => by
    rw [← hh₄]; exact Heap.get?_push_of_some _ (hs₃.extBut b o hbe (hs₂.extBut b o hbe (hs₁.extBut b o hbi hb)))
  have hit₄ : IsTupIter h₄ it t (i + 1) := by
    rw [← hh₄]; obtain ⟨o, ho, r⟩ := (hit₁.extBut hs₂.extBut (Ne.symm hne)).extBut hs₃.extBut (Ne.symm hne); exact ⟨o, Heap.get?_push_of_some _ ho, r⟩
  show wpAny _ _ (Builtin.SmallTypes.ownedTupleIsFree (.ref e) >>= _) _ _ ⟨h₄, g, d, tk + 1, os⟩
  rw [hsz]
  clear hh₄ he₃ hs₃ he₂ hs₂ he₁ hs₁ hit₁ hsz h₃ h₂ h₁
  refine wpAny_bind ?_
  · unfold Builtin.SmallTypes.ownedTupleIsFree
    refine wpAny_bind (wpAny_field he₄ rfl (x := .none) rfl (wpAny_pure ?_))
    simp only [if_true]
    refine wpAny_bind (wpAny_rule ?_)
    refine wpAny_bind (wpAny_field he₄ rfl (x := old) rfl ?_)
    refine wpAny_bind (wpAny_setField_rec he₄ (by simp) fun h₅ he₅ hs₅ => ?_)
    replace hs₅ : Heap.SameBut e h₄ h₅ := hs₅
    replace he₅ : IsEnum h₅ e it ((i : Int) + 1) x := he₅
    show wpAny _ _ (Builtin.SmallTypes.ownedTupleHandOut (.ref e) (.ref hp.objs.size) >>= _) _ _ ⟨h₅, g, d, tk + 1, os⟩
    refine wpAny_bind ?_
    · unfold Builtin.SmallTypes.ownedTupleHandOut
      refine wpAny_bind (wpAny_setField_rec he₅ (by simp) fun h₆ he₆ hs₆ => ?_)
      replace hs₆ : Heap.SameBut e h₅ h₆ := hs₆
      replace he₆ : IsEnumOut h₆ e it ((i : Int) + 1) x hp.objs.size := he₆
      refine wpAny_setField_rec he₆ (by simp) fun h₇ he₇ hs₇ => ?_
      replace hs₇ : Heap.SameBut e h₆ h₇ := hs₇
      replace he₇ : IsEnumOut h₇ e it ((i : Int) + 1) x hp.objs.size := he₇
      refine wpAny_bind (wpAny_letGo (wpAny_pure ⟨_, rfl, hQ h₇ hp.objs.size (none_size _) he₇ ?_ ?_ ?_⟩))
      · exact ((hit₄.extBut hs₅.extBut (Ne.symm hne)).extBut hs₆.extBut (Ne.symm hne)).extBut hs₇.extBut (Ne.symm hne)
      · exact ((ht₄.extBut hs₅.extBut (Nat.ne_of_gt hel)).extBut hs₆.extBut (Nat.ne_of_gt hel)).extBut hs₇.extBut (Nat.ne_of_gt hel)
      · exact fun b o hbe hbi hb => hs₇.extBut b o hbe (hs₆.extBut b o hbe (hs₅.extBut b o hbe (hk₄ b o hbe hbi hb)))

theorem pyNext_enumT {e it t : Addr} {i : Nat} {items : Array Value} {x old : Value} {Q : Option Value → Shared → Prop}
    (he : IsEnum s.heap e it i old) (hit : IsTupIter s.heap it t i) (hl : IsTup s.heap t items) (hx : items[i]? = some x) (hne : e ≠ it)
    (hQ : ∀ h' a, s.heap.get? a = none → IsEnumOut h' e it ((i : Int) + 1) x a → IsTupIter h' it t (i + 1) → IsTup h' a #[.int i s.toks, x] →
      (∀ b o, b ≠ e → b ≠ it → s.heap.get? b = some o → h'.get? b = some o) → Q (some (.ref a)) { s with heap := h', toks := s.toks + 1 }) :
    wpAny (model prog w) A (pyNext (.ref e)) Q E s := by
  have hT : s.TypeIs (.ref e) "enumerate" := ⟨_, he, rfl⟩
  unfold pyNext
  exact wpAny_bind (wpAny_attempt (wpAny_callSpecial?_slot (name := Str.ofString "__next__") hT F.slot_enumerate_next
    (wpAny_call_entry F.slot_enumerate_next hT F.entry_enumerate_next (enumT_next he hit hl hx hne fun h' a z b c d k => wpAny_pure (hQ h' a z b c d k)) (F.args_enumerate_next_1 _))))
theorem pyNext_enumT_end {e it t : Addr} {i : Nat} {items : Array Value} {old : Value} {Q : Option Value → Shared → Prop} (hh : A.handled = none)
    (he : IsEnum s.heap e it i old) (hit : IsTupIter s.heap it t i) (hl : IsTup s.heap t items) (hx : items[i]? = none)
    (hQ : ∀ h', Heap.ExtBut it s.heap h' → Q none { s with heap := h' }) : wpAny (model prog w) A (pyNext (.ref e)) Q E s := by
  have hT : s.TypeIs (.ref e) "enumerate" := ⟨_, he, rfl⟩
  unfold pyNext
  refine wpAny_bind (wpAny_attempt (wpAny_callSpecial?_slot (name := Str.ofString "__next__") hT F.slot_enumerate_next (wpAny_call_entry F.slot_enumerate_next hT F.entry_enumerate_next ?_ (F.args_enumerate_next_1 _))))
  show wpAny _ _ (field (.ref e) 2 >>= _) _ _ _
  refine wpAny_bind (wpAny_field he rfl (x := .ref it) rfl ?_)
  refine wpAny_bind (nextOf_tup_end hh hit hl hx fun h' x he' hx' => ?_)
  obtain ⟨o, ho, hc⟩ := hx'
  refine wpAny_bind (wpAny_isInstance (T := "StopIteration") (b := true) ⟨o, ho, hc⟩ isSubtype_stop ?_)
  exact wpAny_pure (hQ _ he')
end
end Mine

namespace Mine
set_option maxRecDepth 100000
set_option maxHeartbeats 1000000

/- ** tuples ** -/
def vTup {α : Type} (R : α → Value → Heap → Prop) (xs : List α) : Value → Heap → Prop := fun v h => ∃ t vs, v = .ref t ∧ IsTup h t vs.toArray ∧ Paired (fun x u => R x u h) xs vs
def vPr (p : Int × Str) : Value → Heap → Prop := fun v h => ∃ t a b, v = .ref t ∧ IsTup h t #[.int p.1 a, .str p.2 b]
theorem sTup {α : Type} {R : α → Value → Heap → Prop} (hR : ∀ x, Stab (R x)) (xs : List α) : Stab (vTup R xs) := fun _ _ _ k p => by
  obtain ⟨l, vs, e, hl, hp⟩ := p
  exact ⟨l, vs, e, hl.keeps k, sLL hR xs _ _ _ k hp⟩
theorem sPr (p : Int × Str) : Stab (vPr p) := fun _ _ _ k q => by
  obtain ⟨t, a, b, e, hl⟩ := q
  exact ⟨t, a, b, e, hl.keeps k⟩

/- ** what filemode says ** -/
def fmTab : List (List (Int × Str)) :=
  [[(40960, "l"), (49152, "s"), (32768, "-"), (24576, "b"), (16384, "d"), (8192, "c"), (4096, "p")], [(256, "r")], [(128, "w")], [(2112, "s"), (2048, "S"), (64, "x")], [(32, "r")], [(16, "w")], [(1032, "s"), (1024, "S"), (8, "x")], [(4, "r")], [(2, "w")], [(513, "t"), (512, "T"), (1, "x")]]
def fmHit (i : Nat) (n b : Int) : Bool := if i = 0 then Builtin.bitAnd n 61440 == b else Builtin.bitAnd n b == b
def fmPick (i : Nat) (n : Int) : List (Int × Str) → Str
  | [] => if i = 0 then ("?" : Str) else ("-" : Str)
  | (b, c) :: r => if fmHit i n b then c else fmPick i n r
def fmList (n : Int) (k : Nat) : List Str := (List.range k).map fun i => fmPick i n (fmTab.getD i [])
def FT (mg : Str → Option Value) (h : Heap) : Prop := ∃ v, mg "_filemode_table" = some v ∧ vTup (fun xs => vTup vPr xs) fmTab v h
theorem FT.up {mg : Str → Option Value} {h h' : Heap} (x : FT mg h) (k : Le h h') : FT mg h' := let ⟨v, e, p⟩ := x; ⟨v, e, sTup (fun xs => sTup sPr xs) _ _ _ _ k p⟩

section
variable {prog : Program} {w : World} {A : Around} {h₀ h : Heap} {g : Array GenState} {d : Drawn} {tk : Nat} {os : OsState} {name : Str} {scope : Scope} {L f : Addr} {cd : Value} {m : Str → Option Value}
theorem ifE {test : Expr} {body orelse : List Stmt} {pos : Pos} {env : Env} {c : Bool} {Q : Flow → Shared → Prop} {E : Value → Shared → Prop} (ht : Ev prog w A h (isTrue test env (eval test env)) (tB c))
    (hb : c = true → ∀ h' tk', Le h h' → Wp prog w A (execs body env) Q E ⟨h', g, d, tk', os⟩) (ho : c = false → ∀ h' tk', Le h h' → Wp prog w A (execs orelse env) Q E ⟨h', g, d, tk', os⟩) :
    Wp prog w A (exec (.If test body orelse pos) env) Q E ⟨h, g, d, tk, os⟩ := by
  refine ⟨wpAny_If (ht.run ⟨h, g, d, tk, os⟩ _ E (Le.refl _) fun v s1 k p => ?_)⟩
  obtain ⟨h1, tk1, rfl, k1⟩ := k
  obtain rfl : v = c := p
  cases v with
  | true => exact (hb rfl h1 tk1 k1).run
  | false => exact (ho rfl h1 tk1 k1).run

theorem frD {D : Addr} {h' : Heap} (F : Fr h₀ L h m) (hs : Heap.SameBut D h h') (hL : D ≠ L) (hn : h₀.get? D = none) : Fr h₀ L h' m := F.change hs hL hn

theorem appE {o : Str} {op apos pos epos : Pos} {elt : Expr} {D : Addr} {its : Array Value} {P : Value → Heap → Prop} {Q : Flow → Shared → Prop} {E : Value → Shared → Prop} (F : Fr h₀ L h m) (hm : m o = some (.ref D)) (hD : PlainL h D its) (hL : D ≠ L) (hn : h₀.get? D = none)
    (ev : Ev prog w A h (eval elt (envOf name scope L f cd)) P)
    (hq : ∀ v h' h'' tk', Le h h' → P v h' → Fr h₀ L h'' m → PlainL h'' D (its.push v) → Heap.SameBut D h' h'' → Q .next ⟨h'', g, d, tk', os⟩)
    (hsz : its.size ≤ sizeLine)
    (hbase : attributeBase (.Name o op) "append" (envOf name scope L f cd) (eval (.Name o op) (envOf name scope L f cd)) = eval (.Name o op) (envOf name scope L f cd) := by rfl)
    (hfew : ((backTo pos (starEach [elt] (envOf name scope L f cd))).all (fun x => !x.1) && (backToKw pos (keywordEach [] (envOf name scope L f cd))).all (fun x => x.1.isSome)
      && decide (([elt] : List Expr).length + ([] : List Keyword).length + (if ([] : List Keyword).isEmpty then 0 else 1) < 30)) = true := by rfl)
    (hline : (apos.endLine == pos.line) = true := by rfl) (htrees : backTo pos (starEach [elt] (envOf name scope L f cd)) = [(false, eval elt (envOf name scope L f cd))] := by rfl)
    (hk : scope.kind = .function := by rfl) (hl : (envOf name scope L f cd).kindOf o = some .local := by rfl) (hd : (o == ("__debug__" : Str)) = false := by decide)
    (hi : interactive (envOf name scope L f cd) = false := by rfl) (hs : swapsWith (.Call (.Attribute (.Name o op) "append" apos) [elt] [] pos) none epos.line (envOf name scope L f cd) = pure false := by rfl) :
    Wp prog w A (exec (.Expr (.Call (.Attribute (.Name o op) "append" apos) [elt] [] pos) epos) (envOf name scope L f cd)) Q E ⟨h, g, d, tk, os⟩ := by
  refine ⟨wpAny_Expr_any (wpAny_Call_append hbase hfew hline htrees ((ev_localV F.ns hm hk hl hd).run ⟨h, g, d, tk, os⟩ _ E (Le.refl _) fun v s1 k p => ?_)) hi hs⟩
  obtain ⟨h1, tk1, rfl, k1⟩ := k
  obtain rfl : v = .ref D := p
  refine ⟨D, its, rfl, hD.keeps k1, ?_⟩
  refine ev.run _ _ E k1 fun v s2 k2 p2 => ?_
  obtain ⟨h2, tk2, rfl, k2⟩ := k2
  have k12 : Le h h2 := Le.trans k1 k2
  refine list_append_plainL (hD.keeps k12) (fun h3 hD3 hs3 => ?_) hsz
  exact hq v h2 h3 _ k12 p2 (frD (frUp F k12) hs3 hL hn) hD3 hs3
theorem brkE {pos : Pos} {env : Env} {Q : Flow → Shared → Prop} {E : Value → Shared → Prop} {s : Shared} (x : Q .brk s) : Wp prog w A (exec (.Break pos) env) Q E s := ⟨wpAny_Break x⟩
theorem letGo_tup {elts : List Expr} {x1} {pos : Pos} {I T a : Addr} {i : Nat} {s : Shared} {Q : Unit → Shared → Prop} {E : Value → Shared → Prop} (hit : IsTupIter s.heap I T i) (hQ : Q () s) :
    wpAny (model prog w) A (letOwnedTupleGo (.Tuple elts x1 pos) (.ref I) (.ref a)) Q E s := by
  obtain ⟨o, ho, hc, hd⟩ := hit
  unfold letOwnedTupleGo
  refine wpAny_bind (wpAny_load ho ?_)
  rw [hc, hd]
  dsimp only
  rw [show (["enumerate", "zip", "dict_itemiterator", "dict_reverseitemiterator", "odict_iterator", "itertools.zip_longest", "itertools.pairwise"].contains "tuple_iterator") = false from by decide, Bool.false_and]
  exact wpAny_pure hQ
theorem asgPair {x y : Str} {px py pos : Pos} {k : Nat} {t : Addr} {a b : Value} {Q : Unit → Shared → Prop} {E : Value → Shared → Prop} (hh : A.handled = none) (F : Fr h₀ L h m) (ht : IsTup h t #[a, b])
    (hq : ∀ h' tk', Fr h₀ L h' (upd (upd m x a) y b) → (∀ c o, c ≠ L → h.get? c = some o → h'.get? c = some o) → Q () ⟨h', g, d, tk', os⟩)
    (hk : scope.kind = .function := by rfl) (hx : (envOf name scope L f cd).kindOf x = some .local := by rfl) (hy : (envOf name scope L f cd).kindOf y = some .local := by rfl) :
    Wp prog w A (assign (.Tuple [.Name x px, .Name y py] k pos) (envOf name scope L f cd) (.ref t)) Q E ⟨h, g, d, tk, os⟩ := by
  refine ⟨assign_Tuple_tuple (s := ⟨h, g, d, tk, os⟩) hh ht rfl rfl fun h2 he2 => ?_⟩
  have F2 : Fr h₀ L h2 m := F.extBut he2 (Nat.le_refl _)
  show wpAny _ A (assignInOrder [assign (.Name x px) (envOf name scope L f cd), assign (.Name y py) (envOf name scope L f cd)] [a, b]) _ E _
  refine assignInOrder_cons (wpAny_assign_Name (stL F2 (fun h3 F3 hs3 => ?_) hk hx))
  refine assignInOrder_cons (wpAny_assign_Name (stL F3 (fun h4 F4 hs4 => ?_) hk hy))
  refine assignInOrder_nil (hq h4 _ F4 fun c o hc e => hs4.extBut c o hc (hs3.extBut c o hc (he2 c o (Nat.ne_of_lt (Heap.lt_size e)) e)))

theorem fmt_ok {mg mb : Str → Option Value} {f : Addr} (G : GG mg mb h) (hf : mg (fName 3) = some (.ref f)) (hroom : A.depth < recursionLimit) (n : Int) (t : Tok) :
    Ev prog w A h (call (.ref f) [.int n t]) (vI (Builtin.bitAnd n 61440)) := by
  refine ev_callG (i := 3) (binds := [("mode", .int n t)]) G (by decide) hf hroom (fun _ _ _ => rfl) (locs rfl) fun s L h₁ cd hs Gs G1 hcd F => ?_
  refine Wp.cons (retE (P := vI (Builtin.bitAnd n 61440)) ?_ fun v h' tk' k p => ⟨kHeap (Le.trans F.keep k), p⟩)
  exact ev_andI (ev_localI F.ns rfl) ev_int
end

def fmInner : Stmt := match fBody 24 with | [_, .For _ _ [x] _ _, _] => x | _ => .Pass default
def Kept (L D : Addr) (h h' : Heap) : Prop := ∀ b o, b ≠ L → b ≠ D → h.get? b = some o → h'.get? b = some o
section
variable {prog : Program} {w : World} {A : Around} {h₀ h : Heap} {g : Array GenState} {d : Drawn} {tk : Nat} {os : OsState} {L f : Addr} {cd : Value} {m : Str → Option Value} {mg mb : Str → Option Value}

theorem fm_inner {n : Int} {idx : Nat} {tm ti : Tok} {T D : Addr} {entries : List (Int × Str)} {its : Array Value} (G : GG mg mb h₀) (hroom : A.depth < recursionLimit) (hh : A.handled = none) (F : Fr h₀ L h m) (hp : m "perm" = some (.ref D)) (hmode : m "mode" = some (.int n tm)) (hidx : m "index" = some (.int idx ti)) (htab : m "table" = some (.ref T))
    (hT : vTup vPr entries (.ref T) h₀) (hD : PlainL h D its) (hL : D ≠ L) (hn : h₀.get? D = none) (hsz : its.size ≤ 100) :
    Wp prog w A (exec fmInner (envOf (fName 24) (fScope 24) L f cd)) (fun fl s' => fl = .next ∧ ∃ h' tk' m', s' = ⟨h', g, d, tk', os⟩ ∧ Fr h₀ L h' m' ∧ (∃ t, PlainL h' D (its.push (.str (fmPick idx n entries) t))) ∧ m' "perm" = some (.ref D) ∧ m' "mode" = some (.int n tm) ∧ Kept L D h h')
      (fun _ _ => False) ⟨h, g, d, tk, os⟩ := by
  obtain ⟨T', vs, e, hTt, hvs⟩ := hT
  cases e
  refine ⟨wpAny_For ((ev_localV F.ns htab).run ⟨h, g, d, tk, os⟩ _ _ (Le.refl _) fun v s1 k1 p1 => ?_)⟩
  obtain ⟨h1, tk1, rfl, k1⟩ := k1
  obtain rfl : v = .ref T := p1
  have F1 := frUp F k1
  refine iter_tuple (hTt.keeps F1.keep) ?_
  obtain ⟨I, hI⟩ : ∃ I, I = h1.objs.size := ⟨_, rfl⟩
  dsimp only
  rw [← hI]
  have hIn : h1.get? I = none := by rw [hI]; exact none_size _
  have hIh : h.get? I = none := none_of_le k1 hIn
  have hIL : I ≠ L := by obtain ⟨o, e⟩ := frameAt F1; exact (fresh_ne e hIn).symm
  have hID : I ≠ D := by obtain ⟨o, _, e, _⟩ := hD; exact (fresh_ne e hIh).symm
  have hI0 : h₀.get? I = none := none_of_le F1.keep hIn
  have hlen : vs.length = entries.length := hvs.length.symm
  refine codeAny_forLoop_any (fun k s' => ∃ h' tk' m' j, s' = ⟨h', g, d, tk', os⟩ ∧ IsTupIter h' I T j ∧ Fr h₀ L h' m' ∧ PlainL h' D its ∧ m' "perm" = some (.ref D) ∧ m' "mode" = some (.int n tm) ∧ m' "index" = some (.int idx ti) ∧ Kept L D h h' ∧ j ≤ entries.length ∧ fmPick idx n (entries.drop j) = fmPick idx n entries ∧ k = entries.length + 1 - j) ?_ (entries.length + 1)
    ⟨_, tk1, m, 0, rfl, ⟨_, by rw [hI]; exact Heap.get?_push_size _ rfl, rfl, rfl⟩, frUp F1 (Le.push _), (hD.keeps k1).keeps (Le.push _), hp, hmode, hidx, fun b o _ _ e => Le.push _ _ _ (k1 _ _ e), Nat.zero_le _, by simp, rfl⟩
  rintro k s' ⟨h', tk', m', j, rfl, hit, F', hD', hp', hm', hi', hk', hj, hpk, rfl⟩
  cases hx : entries[j]? with
  | none =>
    have hx' : vs.toArray[j]? = none := by
      have : entries.length ≤ j := by simpa using hx
      simp; omega
    refine next_tuple_end hh hit (hTt.keeps F'.keep) hx' fun h2 he2 => ?_
    have F2 : Fr h₀ L h2 m' := ⟨F'.ns.extBut he2 (Ne.symm hIL), fun b o e => he2 b o (fresh_ne e hI0) (F'.keep b o e), F'.above⟩
    have hD2 := hD'.extBut he2 (Ne.symm hID)
    have hk2 : Kept L D h h2 := fun b o hb hb' e => he2 b o (fresh_ne e hIh) (hk' b o hb hb' e)
    have hend : fmPick idx n entries = if idx = 0 then ("?" : Str) else ("-" : Str) := by
      rw [← hpk, List.drop_of_length_le (by simpa using hx)]; rfl
    refine wpAny_mono (Wp.cons (Wp.mono (ifE (c := ((idx : Int) == 0)) (ev_eqI (ev_localI F2.ns hi') ev_int) (Q := fun fl s' => fl = .next ∧ ∃ h' tk' m', s' = ⟨h', g, d, tk', os⟩ ∧ Fr h₀ L h' m' ∧ (∃ t, PlainL h' D (its.push (.str (fmPick idx n entries) t))) ∧ m' "perm" = some (.ref D) ∧ m' "mode" = some (.int n tm) ∧ Kept L D h h') (E := fun _ _ => False) (fun e h3 tk3 k3 => ?_) (fun e h3 tk3 k3 => ?_)) fun fl s' q => ?_)).run (fun fl s' q => q) fun _ _ q => q.elim
    · refine Wp.cons (appE (P := vS "?") (frUp F2 k3) hp' (hD2.keeps k3) hL hn ev_str (fun v h4 h5 tk5 k4 p4 F5 hD5 hs5 => ?_) (by rw [sizeLine_eq]; omega))
      obtain ⟨t, rfl⟩ := p4
      refine Wp.nil ⟨rfl, h5, tk5, m', rfl, F5, ⟨t, ?_⟩, hp', hm', fun b o hb hb' e => hs5.extBut b o hb' (k4 _ _ (k3 _ _ (hk2 b o hb hb' e)))⟩
      rw [hend, if_pos (by simpa using e)]; exact hD5
    · refine Wp.cons (appE (P := vS "-") (frUp F2 k3) hp' (hD2.keeps k3) hL hn ev_str (fun v h4 h5 tk5 k4 p4 F5 hD5 hs5 => ?_) (by rw [sizeLine_eq]; omega))
      obtain ⟨t, rfl⟩ := p4
      refine Wp.nil ⟨rfl, h5, tk5, m', rfl, F5, ⟨t, ?_⟩, hp', hm', fun b o hb hb' e => hs5.extBut b o hb' (k4 _ _ (k3 _ _ (hk2 b o hb hb' e)))⟩
      rw [hend, if_neg (by simpa using e)]; exact hD5
    · obtain ⟨rfl, q⟩ := q
      exact Wp.nil ⟨rfl, q⟩
  | some p =>
    obtain ⟨y, hy, tp, ta, tb, rfl, hpr⟩ := pairGet hvs j p hx
    have hjl : j < entries.length := (List.getElem?_eq_some_iff.mp hx).1
    have hstep : fmPick idx n (entries.drop j) = if fmHit idx n p.1 then p.2 else fmPick idx n (entries.drop (j + 1)) := by
      rw [List.drop_eq_getElem_cons hjl, show entries[j] = p from (List.getElem?_eq_some_iff.mp hx).2]; rfl
    refine next_tuple_item hit (hTt.keeps F'.keep) (x := .ref tp) (by simpa using hy) fun h2 hit2 hs2 => ?_
    have F2 : Fr h₀ L h2 m' := frD F' hs2 hIL hI0
    have hD2 := hD'.extBut hs2.extBut (Ne.symm hID)
    have hk2 : Kept L D h h2 := fun b o hb hb' e => hs2.extBut b o (fresh_ne e hIh) (hk' b o hb hb' e)
    refine letGo_tup hit2 ?_
    refine wpAny_mono (asgPair (x := "bit") (y := "char") hh F2 (hpr.keeps F2.keep) (Q := fun _ s => ∃ h3 tk3, s = ⟨h3, g, d, tk3, os⟩ ∧ Fr h₀ L h3 (upd (upd m' "bit" (.int p.1 ta)) "char" (.str p.2 tb)) ∧ (∀ c o, c ≠ L → h2.get? c = some o → h3.get? c = some o)) (E := fun _ _ => False) (fun h3 tk3 F3 k3 => ⟨h3, tk3, rfl, F3, k3⟩)).run (fun _ s q => ?_) fun _ _ q => q.elim
    obtain ⟨h3, tk3, rfl, F3, k3⟩ := q
    have hit3 : IsTupIter h3 I T (j + 1) := let ⟨o, e, r⟩ := hit2; ⟨o, k3 _ _ hIL e, r⟩
    have hD3 : PlainL h3 D its := let ⟨o, n, e, r⟩ := hD2; ⟨o, n, k3 _ _ hL e, r⟩
    have hk3 : Kept L D h h3 := fun b o hb hb' e => k3 b o hb (hk2 b o hb hb' e)
    obtain ⟨m3, hm3⟩ : ∃ m3, m3 = upd (upd m' "bit" (.int p.1 ta)) "char" (.str p.2 tb) := ⟨_, rfl⟩
    have e1 : m3 "perm" = some (.ref D) := by rw [hm3]; exact hp'
    have e2 : m3 "mode" = some (.int n tm) := by rw [hm3]; exact hm'
    have e3 : m3 "index" = some (.int idx ti) := by rw [hm3]; exact hi'
    have e4 : m3 "bit" = some (.int p.1 ta) := by rw [hm3]; exact (updNe (by decide)).trans updSelf
    have e5 : m3 "char" = some (.str p.2 tb) := by rw [hm3]; exact updSelf
    rw [← hm3] at F3
    clear hm3
    have G3 : GG mg mb h3 := G.up F3.keep
    -- what both arms do
    have hits : ∀ {h4 : Heap} {tk4 : Nat} {p1 p2 p3 p4 p5 p6 : Pos}, Le h3 h4 → fmHit idx n p.1 = true → (p2.endLine == p4.line) = true → Wp prog w A (execs [.Expr (.Call (.Attribute (.Name "perm" p1) "append" p2) [.Name "char" p3] [] p4) p5, .Break p6] (envOf (fName 24) (fScope 24) L f cd))
        (fun fl s' => (fl = .brk ∧ ∃ h' tk' m', s' = ⟨h', g, d, tk', os⟩ ∧ Fr h₀ L h' m' ∧ (∃ t, PlainL h' D (its.push (.str (fmPick idx n entries) t))) ∧ m' "perm" = some (.ref D) ∧ m' "mode" = some (.int n tm) ∧ Kept L D h h') ∨ (fl = .next ∧ fmHit idx n p.1 = false ∧ ∃ h5 tk5, s' = ⟨h5, g, d, tk5, os⟩ ∧ Le h3 h5)) (fun _ _ => False) ⟨h4, g, d, tk4, os⟩ := by
      intro h4 tk4 p1 p2 p3 p4 p5 p6 k4 hhit hline
      refine Wp.cons (appE (P := vV (.str p.2 tb)) (frUp F3 k4) e1 (hD3.keeps k4) hL hn (ev_localV (frUp F3 k4).ns e5) (fun v h5 h6 tk6 k5 p5 F6 hD6 hs6 => ?_) (by rw [sizeLine_eq]; omega) (hline := hline))
      obtain rfl : v = .str p.2 tb := p5
      refine Wp.cons (brkE (.inl ⟨rfl, h6, tk6, m3, rfl, F6, ⟨tb, ?_⟩, e1, e2, fun b o hb hb' e => hs6.extBut b o hb' (k5 _ _ (k4 _ _ (hk3 b o hb hb' e)))⟩))
      rw [← hpk, hstep, hhit]; exact hD6
    refine wpAny_mono (Wp.cons (Wp.mono (ifE (c := ((idx : Int) == 0)) (ev_eqI (ev_localI F3.ns e3) ev_int) (Q := fun fl s' => (fl = .brk ∧ ∃ h' tk' m', s' = ⟨h', g, d, tk', os⟩ ∧ Fr h₀ L h' m' ∧ (∃ t, PlainL h' D (its.push (.str (fmPick idx n entries) t))) ∧ m' "perm" = some (.ref D) ∧ m' "mode" = some (.int n tm) ∧ Kept L D h h') ∨ (fl = .next ∧ fmHit idx n p.1 = false ∧ ∃ h5 tk5, s' = ⟨h5, g, d, tk5, os⟩ ∧ Le h3 h5)) (E := fun _ _ => False) (fun e h4 tk4 k4 => ?_) (fun e h4 tk4 k4 => ?_)) fun fl s' q => ?_)).run (fun fl s' q => q) fun _ _ q => q.elim
    · have hz : idx = 0 := by simpa using e
      have F4 := frUp F3 k4
      refine Wp.cons (Wp.mono (ifE (c := (Builtin.bitAnd n 61440 == p.1)) (ev_eqI (ev_CallG (i := 3) (G.up F4.keep) (by decide) rfl (ev_one (P1 := vI n) (sI _) (ev_localI F4.ns e2)) fun f vs h' hf k G' R => ?_) (ev_localI F4.ns e4)) (E := fun _ _ => False) (fun e' h5 tk5 k5 => hits (Le.trans k4 k5) (by rw [fmHit, if_pos hz]; exact e') rfl) (fun e' h5 tk5 k5 => Wp.nil (.inr ⟨rfl, by rw [fmHit, if_pos hz]; exact e', h5, tk5, rfl, Le.trans k4 k5⟩))) fun fl s' q => ?_)
      · obtain ⟨a, rfl, t, rfl⟩ := R
        exact fmt_ok G' hf hroom n t
      · rcases q with ⟨rfl, q⟩ | ⟨rfl, q⟩
        · exact .inl ⟨rfl, q⟩
        · exact Wp.nil (.inr ⟨rfl, q⟩)
    · have hz : ¬ idx = 0 := by simpa using e
      have F4 := frUp F3 k4
      refine Wp.cons (Wp.mono (ifE (c := (Builtin.bitAnd n p.1 == p.1)) (ev_eqI (ev_andI (ev_localI F4.ns e2) (ev_localI F4.ns e4)) (ev_localI F4.ns e4)) (E := fun _ _ => False) (fun e' h5 tk5 k5 => hits (Le.trans k4 k5) (by rw [fmHit, if_neg hz]; exact e') rfl) (fun e' h5 tk5 k5 => Wp.nil (.inr ⟨rfl, by rw [fmHit, if_neg hz]; exact e', h5, tk5, rfl, Le.trans k4 k5⟩))) fun fl s' q => ?_)
      rcases q with ⟨rfl, q⟩ | ⟨rfl, q⟩
      · exact .inl ⟨rfl, q⟩
      · exact Wp.nil (.inr ⟨rfl, q⟩)
    · rcases q with ⟨rfl, q⟩ | ⟨rfl, hno, h5, tk5, rfl, k5⟩
      · exact ⟨rfl, q⟩
      · refine Wp.nil ⟨entries.length + 1 - (j + 1), by omega, h5, tk5, m3, j + 1, rfl, ?_, frUp F3 k5, hD3.keeps k5, e1, e2, e3, fun b o hb hb' e => k5 _ _ (hk3 b o hb hb' e), hjl, ?_, rfl⟩
        · obtain ⟨o, e, r⟩ := hit3; exact ⟨o, k5 _ _ e, r⟩
        · rw [← hpk, hstep, hno]; rfl
end
end Mine

namespace Mine
set_option maxRecDepth 100000
set_option maxHeartbeats 1000000

section
variable {prog : Program} {w : World} {A : Around} {h : Heap} {env : Env}
theorem ev_nilL {pos : Pos} : Ev prog w A h (eval (.List [] pos) env) (fun v h' => ∃ l, v = .ref l ∧ PlainL h' l #[] ∧ h.get? l = none) := by
  refine ⟨fun s Q E hs hQ => wpAny_List (ev_items_nil.run s _ E hs fun vs s1 k1 p1 => ?_)⟩
  subst p1
  refine ⟨by simp, hQ _ _ (kTrans k1 (kHeap' (Le.push _))) ⟨_, rfl, ⟨_, _, Heap.get?_push_size _ rfl, rfl, rfl, rfl⟩, none_of_le (hs.trans (kLe k1)) (none_size _)⟩⟩
theorem ev_method1 {o e : Expr} {nm : Str} {apos pos : Pos} {T id : String} {P1 P2 P : Value → Heap → Prop} (st : Stab P1) (hpa : PlainAttrs T) (slot : Slot T nm id) (ty : typeOf (.builtin id) = pure (.type "method_descriptor"))
    (ho : Ev prog w A h (eval o env) P1) (he : Ev prog w A h (eval e env) P2)
    (hT : ∀ v (s : Shared), P1 v s.heap → s.TypeIs v T ∧ ∀ a, v = .ref a → ∃ ob, s.heap.get? a = some ob ∧ ob.dict = none)
    (hc : ∀ a b h', Le h h' → P1 a h' → P2 b h' → Ev prog w A h' (call (.builtin id) [a, b]) P)
    (hbase : attributeBase o nm env (eval o env) = eval o env := by rfl) (hs : starEach [e] env = [(false, eval e env)] := by rfl) (hline : (apos.endLine == pos.line) = true := by rfl) :
    Ev prog w A h (eval (.Call (.Attribute o nm apos) [e] [] pos) env) P := by
  refine ⟨fun s Q E hs' hQ => Call_method1 hbase hs hline (ho.run s _ E hs' fun v s1 k1 p1 => ?_)⟩
  refine ⟨T, id, hpa, slot, ty, (hT v s1 p1).1, (hT v s1 p1).2, ?_⟩
  refine Calls.callWith_builtin rfl (Calls.evalArgs_plain (Calls.spliced_cons (he.run s1 _ E (hs'.trans (kLe k1)) fun u s2 k2 p2 => Calls.spliced_nil ?_)))
  exact (hc v u s2.heap ((hs'.trans (kLe k1)).trans (kLe k2)) (st _ _ _ (kLe k2) p1) p2).run s2 Q E (Le.refl _) fun x s3 k3 p3 => hQ x s3 (kTrans k1 (kTrans k2 k3)) p3
end

theorem strs_push {l : List Value} {ys : List Str} {y : Str} {t : Tok} (h : StrsAre l ys) : StrsAre (l ++ [.str y t]) (ys ++ [y]) := by
  induction h with
  | nil => exact .cons y t .nil
  | cons a b _ ih => exact .cons a b ih
theorem fmList_succ (n : Int) (i : Nat) : fmList n (i + 1) = fmList n i ++ [fmPick i n (fmTab.getD i [])] := by
  unfold fmList; rw [List.range_succ, List.map_append]; rfl
theorem fmPick_len (i : Nat) (n : Int) : ∀ l : List (Int × Str), (∀ p ∈ l, p.2.length = 1) → (fmPick i n l).length = 1
  | [], _ => by unfold fmPick; split <;> decide
  | (b, c) :: r, h => by
    unfold fmPick
    split
    · exact h (b, c) (.head _)
    · exact fmPick_len i n r fun p hp => h p (.tail _ hp)
theorem fmList_sum (n : Int) : ∀ k, ((fmList n k).map (·.length)).sum = k
  | 0 => rfl
  | k + 1 => by
    rw [fmList_succ, List.map_append, List.sum_append, fmList_sum n k]
    have : (fmPick k n (fmTab.getD k [])).length = 1 := by
      refine fmPick_len _ _ _ ?_
      rcases Nat.lt_or_ge k fmTab.length with hk | hk
      · have hall : ∀ l ∈ fmTab, ∀ p ∈ l, p.2.length = 1 := by decide
        rw [List.getD_eq_getElem?_getD, List.getElem?_eq_getElem hk]
        exact hall _ (List.getElem_mem hk)
      · rw [List.getD_eq_getElem?_getD, List.getElem?_eq_none hk]
        intro p hp; cases hp
    rw [List.map_singleton, this]; rfl
theorem fmList_length (n : Int) (k : Nat) : (fmList n k).length = k := by simp [fmList]

theorem filemode_ok {prog : Program} {w : World} {A : Around} {h : Heap} {mg mb : Str → Option Value} {f : Addr} (G : GG mg mb h) (hFT : FT mg h) (hf : mg (fName 24) = some (.ref f)) (hroom : A.depth + 1 < recursionLimit) (hh : A.handled = none) (n : Int) (tn : Tok) :
    Ev prog w A h (call (.ref f) [.int n tn]) (vS (Txt.join "" (fmList n 10))) := by
  refine ev_callG (i := 24) (binds := [("mode", .int n tn)]) G (by decide) hf (by omega) (fun _ _ _ => rfl) (locs rfl) fun s L h₁ cd hs Gs G1 hcd F => ?_
  have hh' : (A.deeper (envOf (fName 24) (fScope 24) L f cd)).handled = none := hh
  have hroom' : (A.deeper (envOf (fName 24) (fScope 24) L f cd)).depth < recursionLimit := hroom
  generalize A.deeper (envOf (fName 24) (fScope 24) L f cd) = A' at hh' hroom' ⊢
  have hFTs := hFT.up hs
  obtain ⟨tv, hmt, T, rows, rfl, hTt, hrows⟩ := hFTs
  refine Wp.cons (asg F ev_nilL fun v h2 h3 tk3 k2 p2 F3 hs3 => ?_)
  obtain ⟨D, rfl, hD2, hDn⟩ := p2
  have hDL : D ≠ L := by obtain ⟨o, e⟩ := frameAt F; exact (fresh_ne e hDn).symm
  have hD0 : s.heap.get? D = none := none_of_le F.keep hDn
  have hD3 : PlainL h3 D #[] := hD2.extBut hs3.extBut hDL
  dsimp only
  have G3 : GG mg mb h3 := Gs.up F3.keep
  refine Wp.cons ⟨wpAny_For ((ev_Call (ev_boot G3 (by decide) (v := .type "enumerate") (by decide +kernel)) (P := fun v h' => ∃ e it, v = .ref e ∧ IsEnum h' e it 0 .none ∧ IsTupIter h' it T 0 ∧ h3.get? e = none ∧ h3.get? it = none ∧ e ≠ it)
    (ev_withT (ev_one (P1 := vV (.ref T)) (sV _) (ev_global (G3.g) hmt)) fun vs h' k p => ?_)).run ⟨h3, s.gens, s.drawn, tk3, s.os⟩ _ _ (Le.refl _) fun v s4 k4 p4 => ?_)⟩
  · obtain ⟨a, rfl, rfl⟩ := p
    refine ⟨fun s5 Q E hs5 hQ => call_enumT (hTt.keeps (Le.trans F3.keep (Le.trans k hs5))) fun h6 he hi hle => ?_⟩
    exact hQ _ _ (kHeap' hle) ⟨_, _, rfl, he, hi, none_of_le (Le.trans k hs5) (Heap.get?_none_of_le (Nat.le_succ _)), none_of_le (Le.trans k hs5) (none_size _), Nat.succ_ne_self _⟩
  obtain ⟨h4, tk4, rfl, k4⟩ := k4
  obtain ⟨e, it, rfl, hE, hIt, heN, hitN, hne⟩ := p4
  have F4 := frUp F3 k4
  have heL : e ≠ L := by obtain ⟨o, e'⟩ := frameAt F3; exact (fresh_ne e' heN).symm
  have hiL : it ≠ L := by obtain ⟨o, e'⟩ := frameAt F3; exact (fresh_ne e' hitN).symm
  have heD : e ≠ D := by obtain ⟨o, _, e', _⟩ := hD3; exact (fresh_ne e' heN).symm
  have hiD : it ≠ D := by obtain ⟨o, _, e', _⟩ := hD3; exact (fresh_ne e' hitN).symm
  have he0 : s.heap.get? e = none := none_of_le F3.keep heN
  have hi0 : s.heap.get? it = none := none_of_le F3.keep hitN
  refine wpAny_pyIter_enum hE ?_
  have hlen : rows.length = 10 := hrows.length.symm
  refine codeAny_forLoop_any (fun k s' => ∃ h' tk' m' i old, s' = ⟨h', s.gens, s.drawn, tk', s.os⟩ ∧ IsEnum h' e it ((i : Nat) : Int) old ∧ IsTupIter h' it T i ∧ Fr s.heap L h' m' ∧ (∃ its, PlainL h' D its ∧ StrsAre its.toList (fmList n i)) ∧ m' "perm" = some (.ref D) ∧ m' "mode" = some (.int n tn) ∧ i ≤ 10 ∧ k = 11 - i) ?_ 11
    ⟨h4, tk4, _, 0, .none, rfl, hE, hIt, F4, ⟨#[], hD3.keeps k4, .nil⟩, updSelf, rfl, Nat.zero_le _, rfl⟩
  rintro k s' ⟨h', tk', m', i, old, rfl, hE', hIt', F', ⟨its, hD', hst⟩, hp', hm', hi, rfl⟩
  have hsz : its.size = i := by rw [← Array.length_toList, hst.len_eq, fmList_length]
  rcases Nat.lt_or_ge i 10 with hlt | hge
  · obtain ⟨x, hx⟩ : ∃ x, rows[i]? = some x := ⟨_, List.getElem?_eq_getElem (by omega)⟩
    obtain ⟨en, hen, hxr⟩ := pairGetR hrows i x hx
    obtain ⟨Ti, vsi, rfl, hTi⟩ := id hxr
    refine pyNext_enumT hE' hIt' (hTt.keeps F'.keep) (x := .ref Ti) (by simpa using hx) hne fun h5 a ha hOut hIt5 hTup hk5 => ?_
    refine wpAny_letOwnedTupleGo_enum hOut fun h6 hE6 hs6 => ?_
    have hae : a ≠ e := fun e' => by subst e'; rw [hE'] at ha; cases ha
    have hk6 : ∀ b o, b ≠ e → b ≠ it → h'.get? b = some o → h6.get? b = some o := fun b o h1 h2 e' => hs6.extBut b o h1 (hk5 b o h1 h2 e')
    have F6 : Fr s.heap L h6 m' := by
      refine ⟨F'.ns.at' fun o e' => hk6 L o (Ne.symm heL) (Ne.symm hiL) e', fun b o e' => hk6 b o (fresh_ne e' he0) (fresh_ne e' hi0) (F'.keep b o e'), F'.above⟩
    have hD6 : PlainL h6 D its := let ⟨o, n, e', r⟩ := hD'; ⟨o, n, hk6 _ _ (Ne.symm heD) (Ne.symm hiD) e', r⟩
    have hIt6 : IsTupIter h6 it T (i + 1) := hIt5.extBut hs6.extBut (Ne.symm hne)
    refine wpAny_mono (asgPair (x := "index") (y := "table") hh' F6 (hTup.extBut hs6.extBut hae) (Q := fun _ s' => ∃ h7 tk7, s' = ⟨h7, s.gens, s.drawn, tk7, s.os⟩ ∧ Fr s.heap L h7 (upd (upd m' "index" (.int i tk')) "table" (.ref Ti)) ∧ (∀ c o, c ≠ L → h6.get? c = some o → h7.get? c = some o)) (E := fun _ _ => False) (fun h3 tk3 F3 k3 => ⟨h3, tk3, rfl, F3, k3⟩)).run (fun _ s' q => ?_) fun _ _ q => q.elim
    obtain ⟨h7, tk7, rfl, F7, k7⟩ := q
    have hD7 : PlainL h7 D its := let ⟨o, n, e', r⟩ := hD6; ⟨o, n, k7 _ _ hDL e', r⟩
    refine wpAny_mono (Wp.cons (Wp.mono (fm_inner (n := n) (idx := i) (tm := tn) (ti := tk') (T := Ti) (D := D) (entries := en) (its := its) Gs hroom' hh' F7 hp' hm' ((updNe (by decide)).trans updSelf) updSelf hxr hD7 hDL hD0 (by omega)) fun fl s' q => ?_)).run (fun fl s' q => q) fun _ _ q => q.elim
    obtain ⟨rfl, h8, tk8, m8, rfl, F8, ⟨t8, hD8⟩, hp8, hm8, hk8⟩ := q
    refine Wp.nil ⟨11 - (i + 1), by omega, h8, tk8, m8, i + 1, .ref Ti, rfl, ?_, ?_, F8, ⟨_, hD8, ?_⟩, hp8, hm8, hlt, rfl⟩
    · have := hk8 e _ heL heD (k7 _ _ heL hE6)
      rw [show ((i + 1 : Nat) : Int) = (i : Int) + 1 by omega]; exact this
    · obtain ⟨o, e', r⟩ := hIt6; exact ⟨o, hk8 _ _ hiL hiD (k7 _ _ hiL e'), r⟩
    · rw [fmList_succ, Array.toList_push]
      have : fmTab.getD i [] = en := by rw [List.getD_eq_getElem?_getD, hen]; rfl
      rw [this]; exact strs_push hst
  · have hi10 : i = 10 := by omega
    subst hi10
    refine pyNext_enumT_end hh' hE' hIt' (hTt.keeps F'.keep) (by simp; omega) fun h5 he5 => wpAny_execs_nil ?_
    have F5 : Fr s.heap L h5 m' := ⟨F'.ns.extBut he5 (Ne.symm hiL), fun b o e => he5 b o (fresh_ne e hi0) (F'.keep b o e), F'.above⟩
    have hD5 := hD'.extBut he5 (Ne.symm hiD)
    dsimp only
    refine Wp.cons (retE (P := vS (Txt.join "" (fmList n 10))) ?_ fun v h' tk' k p => ⟨kHeap (Le.trans F5.keep k), p⟩)
    refine ev_method1 (T := "str") (id := "str.join") (P1 := vS "") (P2 := vV (.ref D)) (sS _) PySem.F.plainAttrs_str PySem.F.slot_str_join PySem.F.type_str_join ev_str (ev_localV F5.ns hp') ?_ ?_
    · rintro v s1 ⟨t, rfl⟩
      exact ⟨typeIs_str _ _ _, fun _ e => nomatch e⟩
    · rintro a b h6 k6 ⟨t, rfl⟩ rfl
      refine ⟨fun s6 Q E hs6 hQ => join_list (hD5.keeps (Le.trans k6 hs6)).isList hst ?_ fun t' k' => hQ _ _ (kTok s6 _) ⟨_, rfl⟩⟩
      rw [fmList_sum, fmList_length]; decide
end Mine

namespace Mine
set_option maxRecDepth 100000
set_option maxHeartbeats 1000000

theorem join10 (a b c d e f g h i j : Str) : Txt.join "" [a, b, c, d, e, f, g, h, i, j] = ((((((((a ++ b) ++ c) ++ d) ++ e) ++ f) ++ g) ++ h) ++ i) ++ j := by
  have e0 : (Str.ofString "").cps = #[] := rfl
  have ea : ∀ x y : Str, (x ++ y).cps = x.cps ++ y.cps := fun _ _ => rfl
  show Str.mk _ = Str.mk _
  simp [e0, ea]
theorem andPow (m k : Nat) : m &&& 2 ^ k = (m.testBit k).toNat * 2 ^ k := by
  apply Nat.eq_of_testBit_eq
  intro i
  rw [Nat.testBit_and, Nat.testBit_two_pow]
  by_cases h : k = i
  · subst h
    cases hb : m.testBit k
    · simp
    · simp [Nat.testBit_two_pow]
  · cases hb : m.testBit k
    · simp [h]
    · simp [Nat.testBit_two_pow, h]
theorem and_nat (m k : Nat) : Builtin.bitAnd (m : Int) (k : Int) = ((m &&& k : Nat) : Int) := by
  unfold Builtin.bitAnd
  simp
theorem bitT (m i : Nat) : m.testBit i = (m / 2 ^ i % 2 == 1) := by rw [Nat.testBit_eq_decide_div_mod_eq]; rfl
theorem hit1 (m k : Nat) : (Builtin.bitAnd (m : Int) ((2 ^ k : Nat) : Int) == ((2 ^ k : Nat) : Int)) = (m / 2 ^ k % 2 == 1) := by
  rw [and_nat, andPow, ← bitT]
  cases m.testBit k
  · have h2 : 0 < (2 : Nat) ^ k := Nat.two_pow_pos k
    generalize (2 : Nat) ^ k = x at h2
    have : ¬ ((0 : Int) = (x : Int)) := by omega
    simp [this]
  · simp
theorem hit2 (m a b : Nat) (hd : ∀ x y : Bool, ((x.toNat * 2 ^ a ||| y.toNat * 2 ^ b : Nat) == (2 ^ a ||| 2 ^ b)) = (x && y)) :
    (Builtin.bitAnd (m : Int) ((2 ^ a ||| 2 ^ b : Nat) : Int) == ((2 ^ a ||| 2 ^ b : Nat) : Int)) = ((m / 2 ^ a % 2 == 1) && (m / 2 ^ b % 2 == 1)) := by
  rw [and_nat, Nat.and_or_distrib_left, andPow, andPow, ← bitT, ← bitT, ← hd]
  rw [Bool.eq_iff_iff]
  simp only [beq_iff_eq]
  omega
theorem and4 (m : Nat) (hm : m < 65536) : Builtin.bitAnd (m : Int) 61440 = ((m / 4096 * 4096 : Nat) : Int) := by
  have e : (61440 : Int) = ((2 ^ 12 ||| 2 ^ 13 ||| 2 ^ 14 ||| 2 ^ 15 : Nat) : Int) := by decide
  rw [e, and_nat, Nat.and_or_distrib_left, Nat.and_or_distrib_left, Nat.and_or_distrib_left, andPow, andPow, andPow, andPow]
  have hq : m / 4096 = 8 * (m / 2 ^ 15 % 2) + 4 * (m / 2 ^ 14 % 2) + 2 * (m / 2 ^ 13 % 2) + m / 2 ^ 12 % 2 := by omega
  have hb : ∀ i, m / 2 ^ i % 2 = (m.testBit i).toNat := fun i => by
    rw [bitT]
    rcases Nat.mod_two_eq_zero_or_one (m / 2 ^ i) with h | h <;> simp [h]
  rw [hq, hb, hb, hb, hb]
  cases m.testBit 12 <;> cases m.testBit 13 <;> cases m.testBit 14 <;> cases m.testBit 15 <;> decide

theorem pick0 (m : Nat) (hm : m < 65536) : fmPick 0 (m : Int) [(40960, "l"), (49152, "s"), (32768, "-"), (24576, "b"), (16384, "d"), (8192, "c"), (4096, "p")] = kindS ((m : Int).fdiv 4096) := by
  have hd : (m : Int).fdiv 4096 = ((m / 4096 : Nat) : Int) := by rw [Int.fdiv_eq_ediv_of_nonneg _ (by decide)]; omega
  have hq : m / 4096 < 16 := by omega
  have hall : ∀ q : Nat, q < 16 → Builtin.bitAnd (m : Int) 61440 = ((q * 4096 : Nat) : Int) → fmPick 0 (m : Int) [(40960, "l"), (49152, "s"), (32768, "-"), (24576, "b"), (16384, "d"), (8192, "c"), (4096, "p")] = kindS (q : Int) := by
    intro q hq h
    simp only [fmPick, fmHit, if_true, h]
    generalize m = m' at h
    clear h hd
    revert q
    decide
  rw [hd]
  exact hall _ hq (and4 m hm)
theorem pick1 (m k i : Nat) (c : Str) (hi : i ≠ 0) : fmPick i (m : Int) [(((2 ^ k : Nat) : Int), c)] = if m / 2 ^ k % 2 == 1 then c else ("-" : Str) := by
  simp only [fmPick, fmHit, if_neg hi, hit1]
theorem pick3 (m a b i : Nat) (c c' c'' : Str) (hi : i ≠ 0) (hd : ∀ x y : Bool, ((x.toNat * 2 ^ a ||| y.toNat * 2 ^ b : Nat) == (2 ^ a ||| 2 ^ b)) = (x && y)) :
    fmPick i (m : Int) [(((2 ^ a ||| 2 ^ b : Nat) : Int), c), (((2 ^ b : Nat) : Int), c'), (((2 ^ a : Nat) : Int), c'')] = if (m / 2 ^ a % 2 == 1) && (m / 2 ^ b % 2 == 1) then c else if m / 2 ^ b % 2 == 1 then c' else if m / 2 ^ a % 2 == 1 then c'' else ("-" : Str) := by
  simp only [fmPick, fmHit, if_neg hi, hit1, hit2 m a b hd]
theorem sgL_eq (n : Int) (k x y : Nat) (hx : (sgT n k).fmod 2 = (x : Int)) (hy : sgO n k = (y : Int)) (hx2 : x < 2) (hy2 : y < 2) :
    sgL n k = if (x == 1) && (y == 1) then chL k else if y == 1 then chU k else if x == 1 then ("x" : Str) else ("-" : Str) := by
  unfold sgL
  rw [hx, hy]
  rcases (by omega : x = 0 ∨ x = 1) with rfl | rfl <;> rcases (by omega : y = 0 ∨ y = 1) with rfl | rfl <;> rfl
theorem fm_signs (n : Int) (h0 : 0 ≤ n) (h1 : n < 65536) : Txt.join "" (fmList n 10) = sgAt n 3 := by
  obtain ⟨m, rfl⟩ : ∃ m : Nat, n = (m : Int) := ⟨n.toNat, by omega⟩
  have hm : m < 65536 := by omega
  have hfd : ∀ a b : Int, 0 ≤ b → a.fdiv b = a / b := fun a b hb => Int.fdiv_eq_ediv_of_nonneg a hb
  have hfm : ∀ a b : Int, 0 ≤ b → a.fmod b = a % b := fun a b hb => Int.fmod_eq_emod_of_nonneg a hb
  have T0 : sgT (m : Int) 0 = (m : Int) / 64 % 8 := by unfold sgT; rw [hfm _ _ (by decide), hfd _ _ (by decide)]; rfl
  have T1 : sgT (m : Int) 1 = (m : Int) / 8 % 8 := by unfold sgT; rw [hfm _ _ (by decide), hfd _ _ (by decide)]; rfl
  have T2 : sgT (m : Int) 2 = (m : Int) / 1 % 8 := by unfold sgT; rw [hfm _ _ (by decide), hfd _ _ (by decide)]; rfl
  have O0 : sgO (m : Int) 0 = (m : Int) / 512 / 4 % 2 := by unfold sgO; rw [hfm _ _ (by decide), hfd _ _ (by decide), hfd _ _ (by decide)]; rfl
  have O1 : sgO (m : Int) 1 = (m : Int) / 512 / 2 % 2 := by unfold sgO; rw [hfm _ _ (by decide), hfd _ _ (by decide), hfd _ _ (by decide)]; rfl
  have O2 : sgO (m : Int) 2 = (m : Int) / 512 / 1 % 2 := by unfold sgO; rw [hfm _ _ (by decide), hfd _ _ (by decide), hfd _ _ (by decide)]; rfl
  have hR : ∀ (k i : Nat), i < 3 → (m / 2 ^ k % 2 == 1) = ((sgT (m : Int) i).fdiv 4 == 1) → True := fun _ _ _ _ => trivial
  have ite_c : ∀ {a b : Bool} {x y : Str}, a = b → (if a then x else y) = (if b then x else y) := fun h => by rw [h]
  show Txt.join "" [_, _, _, _, _, _, _, _, _, _] = _
  rw [join10]
  have e0 := pick0 m hm
  have e1 := pick1 m 8 1 "r" (by decide)
  have e2 := pick1 m 7 2 "w" (by decide)
  have e3 := pick3 m 6 11 3 "s" "S" "x" (by decide) (by decide)
  have e4 := pick1 m 5 4 "r" (by decide)
  have e5 := pick1 m 4 5 "w" (by decide)
  have e6 := pick3 m 3 10 6 "s" "S" "x" (by decide) (by decide)
  have e7 := pick1 m 2 7 "r" (by decide)
  have e8 := pick1 m 1 8 "w" (by decide)
  have e9 := pick3 m 0 9 9 "t" "T" "x" (by decide) (by decide)
  have L0 := sgL_eq (m : Int) 0 (m / 2 ^ 6 % 2) (m / 2 ^ 11 % 2) (by rw [hfm _ _ (by decide), T0]; omega) (by rw [O0]; omega) (by omega) (by omega)
  have L1 := sgL_eq (m : Int) 1 (m / 2 ^ 3 % 2) (m / 2 ^ 10 % 2) (by rw [hfm _ _ (by decide), T1]; omega) (by rw [O1]; omega) (by omega) (by omega)
  have L2 := sgL_eq (m : Int) 2 (m / 2 ^ 0 % 2) (m / 2 ^ 9 % 2) (by rw [hfm _ _ (by decide), T2]; omega) (by rw [O2]; omega) (by omega) (by omega)
  have bq : ∀ {a b : Prop} [Decidable a] [Decidable b], (a ↔ b) → decide a = decide b := fun h => by simp [h]
  have r0 : (m / 2 ^ 8 % 2 == 1) = ((sgT (m : Int) 0).fdiv 4 == 1) := by rw [hfd _ _ (by decide), T0, Bool.eq_iff_iff, beq_iff_eq, beq_iff_eq]; omega
  have w0 : (m / 2 ^ 7 % 2 == 1) = (((sgT (m : Int) 0).fdiv 2).fmod 2 == 1) := by rw [hfm _ _ (by decide), hfd _ _ (by decide), T0, Bool.eq_iff_iff, beq_iff_eq, beq_iff_eq]; omega
  have r1 : (m / 2 ^ 5 % 2 == 1) = ((sgT (m : Int) 1).fdiv 4 == 1) := by rw [hfd _ _ (by decide), T1, Bool.eq_iff_iff, beq_iff_eq, beq_iff_eq]; omega
  have w1 : (m / 2 ^ 4 % 2 == 1) = (((sgT (m : Int) 1).fdiv 2).fmod 2 == 1) := by rw [hfm _ _ (by decide), hfd _ _ (by decide), T1, Bool.eq_iff_iff, beq_iff_eq, beq_iff_eq]; omega
  have r2 : (m / 2 ^ 2 % 2 == 1) = ((sgT (m : Int) 2).fdiv 4 == 1) := by rw [hfd _ _ (by decide), T2, Bool.eq_iff_iff, beq_iff_eq, beq_iff_eq]; omega
  have w2 : (m / 2 ^ 1 % 2 == 1) = (((sgT (m : Int) 2).fdiv 2).fmod 2 == 1) := by rw [hfm _ _ (by decide), hfd _ _ (by decide), T2, Bool.eq_iff_iff, beq_iff_eq, beq_iff_eq]; omega
  rw [r0] at e1; rw [w0] at e2; rw [r1] at e4; rw [w1] at e5; rw [r2] at e7; rw [w2] at e8
  have c0 : chL 0 = "s" := rfl
  have c1 : chL 1 = "s" := rfl
  have c2 : chL 2 = "t" := rfl
  have u0 : chU 0 = "S" := rfl
  have u1 : chU 1 = "S" := rfl
  have u2 : chU 2 = "T" := rfl
  rw [c0, u0, ← e3] at L0; rw [c1, u1, ← e6] at L1; rw [c2, u2, ← e9] at L2
  simp only [sgAt]
  rw [L0, L1, L2, ← e0, ← e1, ← e2, ← e4, ← e5, ← e7, ← e8]
  rfl
end Mine

namespace Mine
set_option maxRecDepth 100000
set_option maxHeartbeats 1000000

def valI : Value → Int
  | .int n _ => n
  | _ => 0
/-- the value yields these ints, one after another -/
def Yields (prog : Program) (w : World) (A : Around) (xs : List Int) : Value → Heap → Prop := fun v h => ∀ (s : Shared) (Q : Value → Shared → Prop) (E : Value → Shared → Prop), Le h s.heap →
  (∀ I fp wr St s', Keeps s s' → (∀ b ∈ wr, s.heap.get? b = none) → Walks prog w A I fp wr xs.length (fun j v => ∃ k t, xs[j]? = some k ∧ v = .int k t) St → St 0 s'.heap → (∀ b ∈ fp, b < s'.heap.objs.size) → Q (.ref I) s') → wpAny (model prog w) A (pyIter v) Q E s

def testsOf (ifs : List Expr) (env : Env) : Sem Bool := forIn ifs true fun c r => if r = true then do let ok ← isTrue c env (eval c env); pure (ForInStep.yield ok) else pure (ForInStep.yield r)

theorem Walks.weaken {prog : Program} {w : World} {A : Around} {I : Addr} {fp wr : List Addr} {n n' : Nat} {P P' : Nat → Value → Prop} {St : Nat → Heap → Prop} (W : PySem.Walks prog w A I fp wr n P St) (e : n = n') (hP : ∀ i v, i < n → P i v → P' i v) : PySem.Walks prog w A I fp wr n' P' St := by
  subst e
  exact ⟨W.sub, W.frame, fun i s Q E hi st hQ => W.item i s Q E hi st fun v h' tk p => hQ v h' tk (hP i v hi p), W.done, W.self⟩

section
variable {prog : Program} {w : World} {A : Around} {h : Heap} {env : Env}
theorem sYields (xs : List Int) : Stab (Yields prog w A xs) := fun _ _ _ k p s Q E hs hQ => p s Q E (k.trans hs) hQ
theorem yields_list {xs : List Int} {v : Value} (hh : A.handled = none) (p : vL vI xs v h) : Yields prog w A xs v h := by
  obtain ⟨l, vs, rfl, hl, hp⟩ := p
  intro s Q E hs hQ
  have hL := isListLe hl hs
  have hne : l ≠ s.heap.objs.size := by obtain ⟨o, e, _⟩ := hL; exact Nat.ne_of_lt (Heap.lt_size e)
  refine wpAny_pyIter_list hL (hQ s.heap.objs.size [s.heap.objs.size, l] [s.heap.objs.size] _ _ (kHeap' (Le.push _)) ?_ (Walks.weaken (PySem.Walks.list hh s.heap.objs.size l hne vs.toArray) ?_ ?_) ⟨⟨_, Heap.get?_push_size _ rfl, rfl, rfl⟩, isListLe hL (Le.push _)⟩ ?_)
  · intro b hb; simp at hb; subst hb; exact none_size _
  · simp [hp.length]
  · intro i v _ e
    obtain ⟨k, e', t, rfl⟩ := pairGetR hp i v (by simpa using e)
    exact ⟨k, t, e', rfl⟩
  · intro b hb
    have : l < s.heap.objs.size := by obtain ⟨o, e, _⟩ := hL; exact Heap.lt_size e
    rw [Heap.size_push]
    simp at hb
    rcases hb with rfl | rfl
    · exact Nat.lt_succ_self _
    · exact Nat.lt_succ_of_lt this
def rangeL (a c : Int) (n : Nat) : List Int := (List.range n).map fun (i : Nat) => a + (i : Int) * c
theorem yields_range {a c : Int} {n : Nat} {v : Value} (hh : A.handled = none) (p : vR a c n v h) : Yields prog w A (rangeL a c n) v h := by
  obtain ⟨r, b, t, u, t', rfl, hr, hsmall, hsz⟩ := p
  intro s Q E hs hQ
  refine wpAny_pyIter_range (hs _ _ hr) hsmall (hQ s.heap.objs.size [s.heap.objs.size] [s.heap.objs.size] _ _ (kHeap' (Le.push _)) ?_ (Walks.weaken (PySem.Walks.range hh s.heap.objs.size a c n) ?_ ?_) ?_ ?_)
  · intro b hb; simp at hb; subst hb; exact none_size _
  · simp [rangeL]
  · rintro i v hi ⟨t, rfl⟩
    refine ⟨_, t, ?_, rfl⟩
    simp only [rangeL, List.getElem?_map, List.getElem?_range hi, Option.map_some]
  · have e1 : a + ((0 : Nat) : Int) * c = a := by simp
    have e2 : ((n : Int) - ((0 : Nat) : Int)) = (n : Int) := by simp
    dsimp only
    rw [e1, e2, hsz]
    exact Heap.get?_push_size _ rfl
  · intro b hb
    rw [Heap.size_push]
    simp at hb
    subst hb
    exact Nat.lt_succ_self _
theorem ev_tests_nil {P : Bool → Heap → Prop} (hp : ∀ h', Le h h' → P true h') : Ev prog w A h (testsOf [] env) P := by
  unfold testsOf
  exact Ev.pure hp
theorem ev_tests_one {c : Expr} {P : Bool → Heap → Prop} (ht : Ev prog w A h (isTrue c env (eval c env)) P) : Ev prog w A h (testsOf [c] env) P := by
  unfold testsOf
  simp only [List.forIn_cons, List.forIn_nil]
  refine ⟨fun s Q E hs hQ => wpAny_bind (wpAny_bind (ht.run s _ E hs fun b s1 k p => wpAny_pure (wpAny_pure (hQ b s1 k p))))⟩

theorem quiet_of {β : Type} {elt : Expr} {x : Str} {ifs : List Expr} {scope : Scope} {cl : List (Str × Addr)} {xs : List Int} {RB : β → Value → Heap → Prop} {p : Int → Bool} {f : Int → β} {wr : List Addr} {s s₂ : Shared} (k2 : Keeps s s₂) (hs : Le h s.heap)
    (hwr : ∀ b ∈ wr, s.heap.get? b = none)
    (ht : ∀ C h' m k t, Le h h' → h'.Ns C m → m x = some (.int k t) → k ∈ xs → Ev prog w A h' (testsOf ifs (compEnvC scope cl C env)) (tB (p k)))
    (he : ∀ C h' m k t, Le h h' → h'.Ns C m → m x = some (.int k t) → k ∈ xs → p k = true → Ev prog w A h' (eval elt (compEnvC scope cl C env)) (RB (f k))) :
    QuietOnC prog w A env scope cl x ifs elt wr (fun j v => ∃ k t, xs[j]? = some k ∧ v = .int k t) (fun v => p (valI v)) (fun v y => ∃ h, RB (f (valI v)) y h) s₂ := by
  have up : ∀ {s₃ : Shared}, (∀ b o, b ∉ wr → s₂.heap.get? b = some o → s₃.heap.get? b = some o) → Le h s₃.heap := fun hk b o e =>
    hk b o (fun hm => by have := hwr b hm; rw [hs _ _ e] at this; cases this) (kLe k2 _ _ (hs _ _ e))
  constructor
  · rintro C i v s₃ m₃ E' hC ⟨k, t, hk, rfl⟩ hn hm hkeep _
    exact (ht C s₃.heap m₃ k t (up hkeep) hn hm (List.mem_of_getElem? hk)).run s₃ _ E' (Le.refl _) fun b s' k' pb => ⟨pb, k'⟩
  · rintro C i v s₃ m₃ E' hC ⟨k, t, hk, rfl⟩ hpk hn hm hkeep _
    exact (he C s₃.heap m₃ k t (up hkeep) hn hm (List.mem_of_getElem? hk) hpk).run s₃ _ E' (Le.refl _) fun b s' k' pb => ⟨⟨_, pb⟩, k'⟩

theorem paired_of {β : Type} {RB : β → Value → Heap → Prop} {p : Int → Bool} {f : Int → β} (hRB : ∀ y v h h', RB y v h → RB y v h') {h' : Heap} : ∀ {xs : List Int} {vs : List Value} {ys : List Value}, vs.length = xs.length → (∀ (j : Nat) (v : Value), vs[j]? = some v → ∃ k t, xs[j]? = some k ∧ v = Value.int k t) →
    Paired (fun v y => ∃ h, RB (f (valI v)) y h) (vs.filter fun v => p (valI v)) ys → Paired (fun b u => RB b u h') ((xs.filter p).map f) ys
  | [], [], _, _, _, q => by cases q; exact .nil
  | k :: xs, v :: vs, ys, hl, hv, q => by
    obtain ⟨k', t, e, rfl⟩ := hv 0 v rfl
    simp at e; subst e
    have ih := @paired_of β RB p f hRB h' xs vs
    simp only [List.filter_cons] at q ⊢
    have e1 : valI (.int k t) = k := rfl
    rw [e1] at q
    by_cases hp : p k = true
    · rw [if_pos hp] at q ⊢
      cases q with
      | cons a b => obtain ⟨hx, a⟩ := a; exact .cons (hRB _ _ _ _ a) (ih (by simpa using hl) (fun j v e => by simpa using hv (j + 1) v (by simpa using e)) b)
    · rw [if_neg hp] at q ⊢
      exact ih (by simpa using hl) (fun j v e => by simpa using hv (j + 1) v (by simpa using e)) q
  | [], v :: vs, _, hl, _, _ => by simp at hl
  | k :: xs, [], _, hl, _, _ => by simp at hl

def vLP {α : Type} (R : α → Value → Heap → Prop) (xs : List α) : Value → Heap → Prop := fun v h => ∃ l vs, v = .ref l ∧ PlainL h l vs.toArray ∧ Paired (fun x u => R x u h) xs vs
theorem sLP {α : Type} {R : α → Value → Heap → Prop} (hR : ∀ x, Stab (R x)) (xs : List α) : Stab (vLP R xs) := fun _ _ _ k p => by
  obtain ⟨l, vs, e, hl, hp⟩ := p
  exact ⟨l, vs, e, hl.keeps k, sLL hR xs _ _ _ k hp⟩
theorem vLP.l {α : Type} {R : α → Value → Heap → Prop} {xs : List α} {v : Value} (x : vLP R xs v h) : vL R xs v h := let ⟨l, vs, e, p, q⟩ := x; ⟨l, vs, e, p.isList, q⟩
theorem PlainL.of {h : Heap} {D : Addr} {ys : Array Value} (x : h.PlainList D ys) : PlainL h D ys := let ⟨n, e⟩ := x; ⟨_, n, e, rfl, rfl, rfl⟩

theorem ev_comp {β : Type} {elt iter : Expr} {x : Str} {px : Pos} {ifs : List Expr} {scope : Scope} {cl : List (Str × Addr)} {pos : Pos} {xs : List Int} {RB : β → Value → Heap → Prop} (p : Int → Bool) (f : Int → β)
    (hRB : ∀ y v h h', RB y v h → RB y v h') (hit : Ev prog w A h (eval iter env) (Yields prog w A xs)) (hsz : xs.length ≤ 16777216) (hclos : closureFor scope env = pure cl)
    (ht : ∀ C h' m k t, Le h h' → h'.Ns C m → m x = some (.int k t) → k ∈ xs → Ev prog w A h' (testsOf ifs (compEnvC scope cl C env)) (tB (p k)))
    (he : ∀ C h' m k t, Le h h' → h'.Ns C m → m x = some (.int k t) → k ∈ xs → p k = true → Ev prog w A h' (eval elt (compEnvC scope cl C env)) (RB (f k)))
    (hcell : ∀ y ∈ scope.names, y.2 ≠ .cell := by decide) (hkind : scope.kind = .function := by rfl)
    (hnames : ∀ y ∈ scope.names, y.2 = .local → scope.names.lookup y.1 = some .local := by decide) (hx : scope.names.lookup x = some .local := by rfl)
    (hs : ∀ x, foldedSetIterable iter env x = pure x := by intro _; rfl) :
    Ev prog w A h (eval (.ListComp elt [⟨.Name x px, iter, ifs, 0⟩] scope pos) env) (vLP RB ((xs.filter p).map f)) := by
  refine ⟨fun s Q E hs' hQ => wpAny_ListComp_free (fun v => p (valI v)) (fun v y => ∃ h, RB (f (valI v)) y h) hclos hcell hkind hnames hx (hit.run s _ E hs' fun v s1 k1 p1 => p1 s1 _ E (Le.refl _) fun I fp wr St s2 k2 hwr W hst hfp => ?_) hs⟩
  refine ⟨I, fp, wr, xs.length, _, St, rfl, W, hsz, hst, hfp, quiet_of k2 (hs'.trans (kLe k1)) hwr ht he, fun D h' tk ys vs hD hl hpl hlen hP hF hk => ?_⟩
  have kk : Keeps s { s2 with heap := h', toks := tk } := by
    obtain ⟨h1, t1, rfl, k1⟩ := k1
    obtain ⟨h2, t2, rfl, k2⟩ := k2
    exact ⟨h', tk, rfl, fun b o e => hk b o (fun hm => by have := hwr b hm; rw [k1 _ _ e] at this; cases this) (k2 _ _ (k1 _ _ e))⟩
  exact hQ _ _ kk ⟨D, ys.toList, rfl, PlainL.of hpl, paired_of (xs := xs) hRB hlen hP hF⟩
end
section
variable {prog : Program} {w : World} {A : Around} {h₀ h : Heap} {g : Array GenState} {d : Drawn} {tk : Nat} {os : OsState} {name : Str} {scope : Scope} {L f : Addr} {cd : Value} {m : Str → Option Value}
theorem asgComp {β : Type} {env : Env} {elt iter : Expr} {x y : Str} {px py : Pos} {ifs : List Expr} {cscope : Scope} {cl : List (Str × Addr)} {pos spos : Pos} {xs : List Int} {RB : β → Value → Heap → Prop} {Q : Flow → Shared → Prop} {E : Value → Shared → Prop} (p : Int → Bool) (f : Int → β)
    (hL : env.locals = L) (F : Fr h₀ L h m) (hRB : ∀ y v h h', RB y v h → RB y v h') (hit : Ev prog w A h (eval iter env) (Yields prog w A xs)) (hsz : xs.length ≤ 16777216) (hclos : closureFor cscope env = pure cl)
    (ht : ∀ C h' m k t, Le h h' → h'.Ns C m → m x = some (.int k t) → k ∈ xs → Ev prog w A h' (testsOf ifs (compEnvC cscope cl C env)) (tB (p k)))
    (he : ∀ C h' m k t, Le h h' → h'.Ns C m → m x = some (.int k t) → k ∈ xs → p k = true → Ev prog w A h' (eval elt (compEnvC cscope cl C env)) (RB (f k)))
    (hq : ∀ D vs h' tk', h.get? D = none → PlainL h' D vs.toArray → Paired (fun x u => RB x u h') ((xs.filter p).map f) vs → Fr h₀ L h' (upd m y (.ref D)) → (∀ b o, b ≠ L → h.get? b = some o → h'.get? b = some o) → Q .next ⟨h', g, d, tk', os⟩)
    (hsw : swapsWith (.ListComp elt [⟨.Name x px, iter, ifs, 0⟩] cscope pos) (some (.Name y py)) spos.line env = pure true)
    (hy : env.kindOf y = some .local) (hp : (env.scope.kind == .class || (env.scope.kind == .module && env.locals != env.globals)) = false)
    (hcell : ∀ y ∈ cscope.names, y.2 ≠ .cell := by decide) (hkind : cscope.kind = .function := by rfl)
    (hnames : ∀ y ∈ cscope.names, y.2 = .local → cscope.names.lookup y.1 = some .local := by decide) (hx : cscope.names.lookup x = some .local := by rfl)
    (hs : ∀ x, foldedSetIterable iter env x = pure x := by intro _; rfl) :
    Wp prog w A (exec (.Assign [.Name y py] (.ListComp elt [⟨.Name x px, iter, ifs, 0⟩] cscope pos) spos) env) Q E ⟨h, g, d, tk, os⟩ := by
  subst hL
  refine ⟨wpAny_Assign_ListComp_free (fun v => p (valI v)) (fun v y => ∃ h, RB (f (valI v)) y h) hsw hclos hcell hkind hnames hx hy hp (hit.run ⟨h, g, d, tk, os⟩ _ E (Le.refl _) fun v s1 k1 p1 => p1 s1 _ E (Le.refl _) fun I fp wr St s2 k2 hwr W hst hfp => ?_) hs⟩
  obtain ⟨h1, t1, rfl, k1⟩ := k1
  obtain ⟨h2, t2, rfl, k2⟩ := k2
  have hLw : env.locals ∉ wr := fun hm => by obtain ⟨o, e⟩ := frameAt F; have := hwr _ hm; rw [k1 _ _ e] at this; cases this
  have F2 : Fr h₀ env.locals h2 m := frUp F fun b o e => k2 _ _ (k1 _ _ e)
  refine ⟨I, fp, wr, xs.length, _, St, m, rfl, W, hsz, hst, hfp, hLw, F2.ns, quiet_of (s := ⟨h1, g, d, t1, os⟩) (kHeap k2) k1 hwr ht he, fun D h' tk ys vs hD hl hpl hlen hP hF hns hk => ?_⟩
  have up : ∀ b o, b ≠ env.locals → h.get? b = some o → h'.get? b = some o := fun b o hb e => hk b o hb (fun hm => by have := hwr b hm; rw [k1 _ _ e] at this; cases this) (k2 _ _ (k1 _ _ e))
  refine hq D ys.toList h' _ (none_of_le (fun b o e => k2 _ _ (k1 _ _ e)) hD) (PlainL.of hpl) (paired_of (xs := xs) hRB hlen hP hF) ⟨hns, fun b o e => up b o ?_ (F.keep b o e), F.above⟩ up
  rintro rfl
  exact absurd (Heap.lt_size e) (Nat.not_lt.mpr F.above)
end
end Mine

namespace Mine
set_option maxRecDepth 100000
set_option maxHeartbeats 1000000

section
variable {prog : Program} {w : World} {A : Around} {h : Heap} {env : Env} {mg mb : Str → Option Value}
theorem ev_cell {x : Str} {pos : Pos} {c : Addr} {v : Value} (hc : env.cells.lookup x = some c) (hv : h.IsCell c (some v))
    (hk : env.scope.kind = .function := by rfl) (hl : env.kindOf x = some .cell := by rfl) (hd : (x == ("__debug__" : Str)) = false := by decide) : Ev prog w A h (eval (.Name x pos) env) (vV v) :=
  ⟨fun s _ _ hs hQ => wpAny_Name (wpAny_loadName_cell hk hl hc (hv.keeps hs) (hQ _ s (kRefl s) rfl)) hd⟩
theorem ev_cellY {x : Str} {pos : Pos} {c : Addr} {b : Array UInt8} {t : Tok} (hc : env.cells.lookup x = some c) (hv : h.IsCell c (some (.bytes b t)))
    (hk : env.scope.kind = .function := by rfl) (hl : env.kindOf x = some .cell := by rfl) (hd : (x == ("__debug__" : Str)) = false := by decide) : Ev prog w A h (eval (.Name x pos) env) (vY b) :=
  (ev_cell hc hv hk hl hd).mono fun _ _ _ p => ⟨t, p⟩
theorem ev_callGC {i : Nat} {f : Addr} {args : List Value} {binds : List (Str × Value)} {P : Value → Heap → Prop} (G : GG mg mb h) (hi : i ∈ [1, 3, 24, 26, 28, 29, 30, 31]) (hf : mg (fName i) = some (.ref f))
    (hroom : A.depth < recursionLimit)
    (hbind : ∀ pm cd doc, bindArgs (Calls.docDef (fName i) (fArgs i) (fBody i) (fScope i) pm cd doc) ⟨args, []⟩ = pure binds)
    (hkind : ∀ n, ∀ x ∈ binds, (fScope i).names.lookup x.1 = some .local ∨ ((fScope i).names.lookup x.1 = some .cell ∧ ((cellsFrom (n + 1) (fScope i).names []).lookup x.1).isSome = true))
    (hb : ∀ (s : Shared) (L : Addr) h₁ cd tk, Le h s.heap → GG mg mb s.heap → GG mg mb h₁ → Fr s.heap L h₁ (bindL (envOfC (fName i) (fScope i) L f cd).kindOf binds fun _ => none) →
      Cl L (cellsFrom (L + 1) (fScope i).names []) h₁ (bindC (envOfC (fName i) (fScope i) L f cd).kindOf binds fun _ => none) →
      Wp prog w (A.deeper (envOfC (fName i) (fScope i) L f cd)) (execs (fBody i) (envOfC (fName i) (fScope i) L f cd)) (fun f s' => Keeps s s' ∧ P (retOf f) s'.heap) (fun _ _ => False) ⟨h₁, s.gens, s.drawn, tk, s.os⟩)
    (hco : (fScope i).isCoroutine = false := by rfl) (hgen : (fScope i).isGenerator = false := by rfl) (hk : (fScope i).kind = .function := by rfl) : Ev prog w A h (call (.ref f) args) P := by
  obtain ⟨a, o, pm, code, doc, h1, h2, h3, h4⟩ := G.fn i hi
  rw [hf] at h1
  cases h1
  refine ⟨fun s Q E hs hQ => ?_⟩
  refine wpAny_call (call_cells_ret hroom (hs _ _ h2) h3 (G.nolimit.keeps hs) (h4.keeps hs) (hbind pm code doc) (hkind _) (fun h₁ tk F X => ?_) hco hgen hk)
  refine wpAny_mono (hb s _ h₁ code tk hs (G.up hs) ((G.up hs).up F.keep) F X).run (fun f s' x => ?_) fun _ _ x => x
  have := hQ (retOf f) s' x.1 x.2
  cases f <;> exact this
end

/-- octets, two for a number, the high one first -/
def Enc (b : Array UInt8) (ns : List Int) : Prop := b.size = ns.length * 2 ∧ ∀ i n, ns[i]? = some n → 0 ≤ n ∧ n < 65536 ∧ ∃ hi lo : UInt8, b[2 * i]? = some hi ∧ b[2 * i + 1]? = some lo ∧ (hi.toNat : Int) * 256 + (lo.toNat : Int) = n

def listedAt (ns : List Int) (k : Int) : Str := sgAt (ns.getD (k.toNat / 2) 0) 3
theorem listed_map (ns : List Int) : ((rangeL 0 2 ns.length).filter fun _ => true).map (listedAt ns) = ns.map (sgAt · 3) := by
  rw [List.filter_eq_self.mpr (by simp)]
  apply List.ext_getElem?
  intro i
  simp only [rangeL, List.getElem?_map]
  rcases Nat.lt_or_ge i ns.length with hi | hi
  · rw [List.getElem?_range hi, List.getElem?_eq_getElem hi]
    simp only [Option.map_some, listedAt]
    have : (0 + (i : Int) * 2).toNat / 2 = i := by omega
    rw [this, List.getD_eq_getElem?_getD, List.getElem?_eq_getElem hi]; rfl
  · rw [List.getElem?_eq_none (by simpa using hi), List.getElem?_eq_none hi]; rfl

theorem listed_ok {prog : Program} {w : World} {A : Around} {h : Heap} {mg mb : Str → Option Value} {f : Addr} (G : GG mg mb h) (hFT : FT mg h) (hf : mg (fName 30) = some (.ref f)) (hroom : A.depth + 2 < recursionLimit) (hh : A.handled = none) (b : Array UInt8) (t : Tok) (ns : List Int) (hE : Enc b ns) (hl : ns.length ≤ 1000) :
    Ev prog w A h (call (.ref f) [.bytes b t]) (vLP vS (ns.map (sgAt · 3))) := by
  refine ev_callGC (i := 30) (binds := [("table", .bytes b t)]) G (by decide) hf (by omega) (fun _ _ _ => rfl) (fun n x hx => ?_) fun s L h₁ cd tk hs Gs G1 F X => ?_
  · simp at hx; subst hx; exact .inr ⟨rfl, rfl⟩
  have hh' : (A.deeper (envOfC (fName 30) (fScope 30) L f cd)).handled = none := hh
  have hroom' : (A.deeper (envOfC (fName 30) (fScope 30) L f cd)).depth + 1 < recursionLimit := by
    show A.depth + 1 + 1 < recursionLimit
    omega
  generalize A.deeper (envOfC (fName 30) (fScope 30) L f cd) = A' at hh' hroom' ⊢
  have hFTs := (hFT.up hs).up F.keep
  have hcell : h₁.IsCell (L + 1) (some (.bytes b t)) := X.cell "table" (L + 1) rfl
  have hsz : b.size ≤ 16777216 := by rw [hE.1]; omega
  refine Wp.cons (retE (P := vLP vS (ns.map (sgAt · 3))) ?_ fun v h' tk' k p => ⟨kHeap (Le.trans F.keep k), p⟩)
  rw [← listed_map]
  have eT : ∀ {pos}, Ev prog w A' h₁ (eval (.Name "table" pos) (envOfC (fName 30) (fScope 30) L f cd)) (vY b) := fun {pos} => (ev_cell (c := L + 1) rfl hcell).mono fun _ _ _ p => ⟨t, p⟩
  refine ev_comp (cl := [("table", L + 1)]) (fun _ => true) (listedAt ns) (fun _ _ _ _ p => p) (xs := rangeL 0 2 ns.length) ?_ (by simp [rangeL]; omega) rfl ?_ ?_
  · refine Ev.mono (ev_Call (ev_boot (v := .type "range") G1 (by decide) (by decide +kernel)) (ev_range3 (k := ns.length) (n := 2) (by decide) (by omega) (by decide) ev_int ?_ ev_int)) fun v h' _ p => yields_range hh' p
    rw [← hE.1]
    exact ev_Call (ev_boot (v := .builtin "len") G1 (by decide) (by decide +kernel)) (ev_lenY eT hsz)
  · intro C h' m k t' hle hn hm hk
    exact ev_tests_nil fun _ _ => rfl
  · intro C h' m k t' hle hn hm hk _
    obtain ⟨i, hi, rfl⟩ : ∃ i, i < ns.length ∧ k = 0 + (i : Int) * 2 := by
      simp only [rangeL, List.mem_map, List.mem_range] at hk
      obtain ⟨i, hi, rfl⟩ := hk
      exact ⟨i, hi, rfl⟩
    obtain ⟨n0, n1, hi8, lo8, e1, e2, e3⟩ := hE.2 i ns[i] (List.getElem?_eq_getElem hi)
    have hget : listedAt ns (0 + (i : Int) * 2) = Txt.join "" (fmList ((hi8.toNat : Int) * 256 + (lo8.toNat : Int)) 10) := by
      rw [e3, fm_signs _ n0 n1]
      unfold listedAt
      have : (0 + (i : Int) * 2).toNat / 2 = i := by omega
      rw [this, List.getD_eq_getElem?_getD, List.getElem?_eq_getElem hi]; rfl
    rw [hget]
    have hcell' := hcell.keeps hle
    refine ev_CallG (i := 24) (G1.up hle) (by decide) rfl (ev_one (P1 := vI ((hi8.toNat : Int) * 256 + (lo8.toNat : Int))) (sI _) ?_) fun f vs h'' hf' k' G' R => ?_
    · refine ev_addI (ev_mulI (ev_itemY (ev_cellY (c := L + 1) rfl hcell') (ev_localI hn hm) (by omega) ?_ hsz) ev_int (IntMulOk.of_right (by decide))) (ev_itemY (ev_cellY (c := L + 1) rfl hcell') (ev_addI (ev_localI hn hm) ev_int) (by omega) ?_ hsz)
      · have : (0 + (i : Int) * 2).toNat = 2 * i := by omega
        rw [this]; exact e1
      · have : (0 + (i : Int) * 2 + 1).toNat = 2 * i + 1 := by omega
        rw [this]; exact e2
    · obtain ⟨a, rfl, tt, rfl⟩ := R
      exact filemode_ok G' (hFTs.up (Le.trans hle k')) hf' hroom' hh' _ tt
end Mine

namespace Mine
set_option maxRecDepth 100000
set_option maxHeartbeats 1000000

theorem strs_of : ∀ {xs : List Str} {vs : List Value} {h : Heap}, Paired (fun x u => vS x u h) xs vs → StrsAre vs xs
  | _, _, _, .nil => .nil
  | _, _, _, .cons ⟨t, e⟩ r => by subst e; exact .cons _ t (strs_of r)
theorem of_strs : ∀ {xs : List Str} {vs : List Value} {h : Heap}, StrsAre vs xs → Paired (fun x u => vS x u h) xs vs
  | _, _, _, .nil => .nil
  | _, _, _, .cons _ t r => .cons ⟨t, rfl⟩ (of_strs r)
theorem paired_take {α β : Type} {F : α → β → Prop} : ∀ {l₁ : List α} {l₂ : List β} (k : Nat), Paired F l₁ l₂ → Paired F (l₁.take k) (l₂.take k)
  | _, _, 0, _ => by simp; exact .nil
  | _, _, k + 1, .nil => .nil
  | _, _, k + 1, .cons a b => .cons a (paired_take k b)
theorem countP_strs (k : Str) : ∀ {vs : List Value} {ys : List Str}, StrsAre vs ys → vs.countP (isStrOf k) = ys.count k
  | _, _, .nil => rfl
  | _, _, .cons n u h => by rw [List.countP_cons, List.count_cons, countP_strs k h]; rfl

section
variable {prog : Program} {w : World} {A : Around} {h : Heap} {env : Env} {mg mb : Str → Option Value}
theorem ev_lenL {α : Type} {R : α → Value → Heap → Prop} {e : Expr} {pos : Pos} {xs : List α} (hR : ∀ x, Stab (R x)) (ha : Ev prog w A h (eval e env) (vL R xs)) (hsz : xs.length ≤ 16777216) (he : starEach [e] env = [(false, eval e env)] := by rfl) :
    Ev prog w A h (callWith pos (.builtin "len") [] (backTo pos (starEach [e] env)) []) (vI xs.length) := by
  refine ev_withB (ev_one (sL hR xs) ha he) (fun vs h' k p => ?_) he rfl
  obtain ⟨v, rfl, l, ws, rfl, hl, hp⟩ := p
  refine ⟨fun s _ _ hs hQ => len_list (isListLe hl hs) (by simp [← hp.length]; omega) (hQ _ _ (kTok s _) ⟨s.toks + 1, ?_⟩)⟩
  simp [hp.length]
theorem ev_upto {α : Type} {R : α → Value → Heap → Prop} {value e : Expr} {p pos : Pos} {xs : List α} {k : Nat} (hR : ∀ x, Stab (R x)) (hv : Ev prog w A h (eval value env) (vL R xs)) (he : Ev prog w A h (eval e env) (vI (k : Int))) (hsz : xs.length ≤ 16777216)
    (ht : ∀ o r, letTemporaryGo value o r = pure () := by intro _ _; rfl) :
    Ev prog w A h (eval (.Subscript value (.Slice none (some e) none p) pos) env) (vLP R (xs.take k)) := by
  refine ⟨fun s Q E hs hQ => wpAny_Subscript_list_slice (hv.run s _ E hs fun v s1 k1 p1 => ?_) ht⟩
  rw [evalPart_none, evalPart_some]
  refine wpAny_pure (he.run s1 _ E (hs.trans (kLe k1)) fun u s2 k2 p2 => ?_)
  obtain ⟨t, rfl⟩ := p2
  obtain ⟨l, vs, rfl, hl, hp⟩ := p1
  refine ⟨l, vs.toArray, none, some (k : Int), rfl, isListLe hl (kLe k2), by rw [sizeLine_eq]; simp [← hp.length]; exact hsz, .none, .int _ _, ?_⟩
  rw [slicePick_upto']
  have kk := (Le.trans (Le.push (h := s2.heap) { cls := .type "slice", data := .fields #[.none, .int (k : Int) t, .none] }) (Le.push { cls := .type "list", data := .seq (vs.toArray.toList.take k).toArray }))
  refine hQ _ _ (kTrans k1 (kTrans k2 (kHeap' kk))) ⟨_, vs.take k, rfl, ⟨{ cls := .type "list", data := .seq (vs.toArray.toList.take k).toArray }, _, ?_, rfl, rfl, rfl⟩, paired_take k (sLL hR xs _ _ _ (Le.trans (kLe k2) kk) hp)⟩
  have := Heap.get?_push_size (s2.heap.push { cls := .type "slice", data := .fields #[.none, .int (k : Int) t, .none] }) (o := { cls := .type "list", data := .seq (vs.toArray.toList.take k).toArray }) rfl
  rw [Heap.size_push] at this
  exact this
theorem ev_copy {α : Type} {R : α → Value → Heap → Prop} {value : Expr} {p pos : Pos} {xs : List α} (hR : ∀ x, Stab (R x)) (hv : Ev prog w A h (eval value env) (vL R xs)) (hsz : xs.length ≤ 16777216)
    (ht : ∀ o r, letTemporaryGo value o r = pure () := by intro _ _; rfl) :
    Ev prog w A h (eval (.Subscript value (.Slice none none none p) pos) env) (fun v h' => ∃ l vs, v = .ref l ∧ PlainL h' l vs.toArray ∧ Paired (fun x u => R x u h') xs vs ∧ h.get? l = none) := by
  refine ⟨fun s Q E hs hQ => wpAny_Subscript_list_slice (hv.run s _ E hs fun v s1 k1 p1 => ?_) ht⟩
  rw [evalPart_none]
  refine wpAny_pure (wpAny_pure ?_)
  obtain ⟨l, vs, rfl, hl, hp⟩ := p1
  refine ⟨l, vs.toArray, none, none, rfl, hl, by rw [sizeLine_eq]; simp [← hp.length]; exact hsz, .none, .none, ?_⟩
  rw [slicePick_all]
  have kk := (Le.trans (Le.push (h := s1.heap) { cls := .type "slice", data := .fields #[.none, .none, .none] }) (Le.push { cls := .type "list", data := .seq vs.toArray }))
  refine hQ _ _ (kTrans k1 (kHeap' kk)) ⟨_, vs, rfl, ⟨{ cls := .type "list", data := .seq vs.toArray }, _, ?_, rfl, rfl, rfl⟩, sLL hR xs _ _ _ kk hp, none_of_le (hs.trans (kLe k1)) (Heap.get?_none_of_le (Nat.le_succ _))⟩
  have := Heap.get?_push_size (s1.heap.push { cls := .type "slice", data := .fields #[.none, .none, .none] }) (o := { cls := .type "list", data := .seq vs.toArray }) rfl
  rw [Heap.size_push] at this
  exact this
theorem ev_count {o e : Expr} {apos pos : Pos} {xs : List Str} {y : Str} (ho : Ev prog w A h (eval o env) (vLP vS xs)) (he : Ev prog w A h (eval e env) (vS y))
    (hbase : attributeBase o "count" env (eval o env) = eval o env := by rfl) (hs : starEach [e] env = [(false, eval e env)] := by rfl) (hline : (apos.endLine == pos.line) = true := by rfl) :
    Ev prog w A h (eval (.Call (.Attribute o "count" apos) [e] [] pos) env) (vI ((xs.count y : Nat) : Int)) := by
  refine ev_method1 (T := "list") (id := "list.count") (sLP sS xs) PySem.F.plainAttrs_list PySem.F.slot_list_count PySem.F.type_list_count ho he ?_ ?_ hbase hs hline
  · rintro v s ⟨l, vs, rfl, hl, hp⟩
    refine ⟨hl.isList.typeIs, fun a ea => ?_⟩
    cases ea
    obtain ⟨o, n, e, _, hd, _⟩ := hl
    exact ⟨o, e, hd⟩
  · rintro a b h' k' ⟨l, vs, rfl, hl, hp⟩ ⟨t, rfl⟩
    refine ⟨fun s Q E hs hQ => ?_⟩
    have hi := strs_of hp
    obtain ⟨o, ho, hc, n, hd⟩ := isListLe hl.isList hs
    obtain ⟨c, dd, dt, sl⟩ := o
    simp only at hc hd
    subst hc hd
    refine call_meets PySem.F.slot_list_count ⟨_, ho, rfl⟩ PySem.F.entry_list_count (PySem.F.args_list_count_2 _ _) (PySem.SeqAt.list_countAt l vs.toArray n dd sl (.str y t) (isStrOf y)) ⟨ho, fun z hz => (eq_isStrOf y t hi z (by simpa using hz)).at _ _, ?_⟩
    rw [show vs.toArray.toList = vs from rfl, countP_strs y hi]
    exact hQ _ _ (kTok s _) ⟨_, rfl⟩
theorem ev_neg {e : Expr} {pos : Pos} {a : Int} (he : Ev prog w A h (eval e env) (vI a)) : Ev prog w A h (eval (.UnaryOp .USub e pos) env) (vI (-a)) :=
  ⟨fun s Q E hs hQ => UnaryOp_ (he.run s _ E hs fun v s1 k1 p1 => by obtain ⟨t, rfl⟩ := p1; exact PyProof.Rows.neg_int (hQ _ _ (kTrans k1 (kTok s1 _)) ⟨_, rfl⟩))⟩
theorem rangeDown_size (n : Nat) : Builtin.Range.rangeSize ((n : Int) - 1) (-1) (-1) = (n : Int) := by
  unfold Builtin.Range.rangeSize
  rw [if_neg (by decide)]
  split
  · rw [show (-(-1 : Int)) = 1 from rfl, Int.ediv_one]; omega
  · omega
theorem rangeDown_small (n : Nat) (h : n ≤ 16777216) : Builtin.Range.small ((n : Int) - 1) (-1) (-1) = true := by
  unfold Builtin.Range.small
  rw [rangeDown_size]
  simp only [Builtin.Range.rangeFitsLong, Bool.and_eq_true, Bool.or_eq_true, decide_eq_true_eq, beq_iff_eq, if_neg (show ¬ ((-1 : Int) > 0) by decide)]
  omega
theorem ev_down {e1 e2 e3 : Expr} {pos : Pos} {n : Nat} (hn : n ≤ 16777216)
    (x1 : Ev prog w A h (eval e1 env) (vI ((n : Int) - 1))) (x2 : Ev prog w A h (eval e2 env) (vI (-1))) (x3 : Ev prog w A h (eval e3 env) (vI (-1)))
    (q1 : starEach [e1, e2, e3] env = (false, eval e1 env) :: starEach [e2, e3] env := by rfl) (q2 : starEach [e2, e3] env = (false, eval e2 env) :: starEach [e3] env := by rfl) (q3 : starEach [e3] env = (false, eval e3 env) :: starEach [] env := by rfl)
    (hplain : (backTo pos (starEach [e2, e3] env)).any (·.1) = false := by rfl) :
    Ev prog w A h (callWith pos (.type "range") [] (backTo pos (starEach [e1, e2, e3] env)) []) (vR ((n : Int) - 1) (-1) n) := by
  refine ev_withT (R := lL vI [(n : Int) - 1, -1, -1]) (ev_iL_cons sI x1 (ev_iL_cons sI x2 (ev_iL_cons sI x3 ev_iL_nil q3) q2) q1) (fun vs h' _ p => ?_) q1 hplain
  obtain ⟨t1, t2, t3, rfl⟩ : ∃ t1 t2 t3, vs = [.int ((n : Int) - 1) t1, .int (-1) t2, .int (-1) t3] := by
    cases p with
    | cons p q => cases q with
      | cons p2 q => cases q with
        | cons p3 q => cases q; obtain ⟨t1, rfl⟩ := p; obtain ⟨t2, rfl⟩ := p2; obtain ⟨t3, rfl⟩ := p3; exact ⟨_, _, _, rfl⟩
  refine ⟨fun s Q E hs hQ => ?_⟩
  exact call_range_3 (by decide) (hQ _ _ (kHeap (Le.push _)) ⟨_, -1, _, _, _, rfl, IsRange.new .., rangeDown_small n hn, rangeDown_size n⟩) (.inl (PyProof.noPylong_of_log2 (by decide +kernel)))
theorem ev_Tuple2 {e1 e2 : Expr} {k : Nat} {pos : Pos} {P1 P2 : Value → Heap → Prop} (s1 : Stab P1) (s2 : Stab P2) (x1 : Ev prog w A h (eval e1 env) P1) (x2 : Ev prog w A h (eval e2 env) P2)
    (hs : starEach [e1, e2] env = (false, eval e1 env) :: starEach [e2] env := by rfl) (hs' : starEach [e2] env = (false, eval e2 env) :: starEach [] env := by rfl) :
    Ev prog w A h (eval (.Tuple [e1, e2] k pos) env) (fun v h' => ∃ t a b, v = .ref t ∧ IsTup h' t #[a, b] ∧ P1 a h' ∧ P2 b h') := by
  refine ⟨fun s Q E hs0 hQ => wpAny_Tuple ((ev_two s1 s2 x1 x2 hs hs').run s _ E hs0 fun vs s1' k1 p1 => ?_)⟩
  obtain ⟨a, b, rfl, pa, pb⟩ := p1
  refine ⟨by simp [sizeLine_eq], hQ _ _ (kTrans k1 (kHeap' (Le.push _))) ⟨_, a, b, rfl, IsTup.new _ _, s1 _ _ _ (Le.push _) pa, s2 _ _ _ (Le.push _) pb⟩⟩
end

def lackP (one two : List Str) (k : Int) : Bool := decide ((((one.take k.toNat).count (one.getD k.toNat "") : Nat) : Int) < ((one.count (one.getD k.toNat "") : Nat) : Int) - ((two.count (one.getD k.toNat "") : Nat) : Int))
def lacksOf (one two : List Str) : List Str := ((rangeL ((one.length : Int) - 1) (-1) one.length).filter (lackP one two)).map fun k => one.getD k.toNat ""
def overP (one two : List Str) (k : Int) : Bool := decide ((((two.take k.toNat).count (two.getD k.toNat "") : Nat) : Int) ≥ ((one.count (two.getD k.toNat "") : Nat) : Int))
def overOf (one two : List Str) : List Str := ((rangeL 0 1 two.length).filter (overP one two)).map fun k => two.getD k.toNat ""
theorem down_mem {n : Nat} {k : Int} (h : k ∈ rangeL ((n : Int) - 1) (-1) n) : 0 ≤ k ∧ k < n := by
  simp only [rangeL, List.mem_map, List.mem_range] at h
  obtain ⟨i, hi, rfl⟩ := h
  omega
theorem up_mem {n : Nat} {k : Int} (h : k ∈ rangeL 0 1 n) : 0 ≤ k ∧ k < n := by
  simp only [rangeL, List.mem_map, List.mem_range] at h
  obtain ⟨i, hi, rfl⟩ := h
  omega
theorem at_some (xs : List Str) {k : Int} (h0 : 0 ≤ k) (h1 : k < xs.length) : xs[k.toNat]? = some (xs.getD k.toNat "") := by
  have : k.toNat < xs.length := by omega
  rw [List.getD_eq_getElem?_getD, List.getElem?_eq_getElem this]; rfl

theorem ev_cellL {prog : Program} {w : World} {A : Around} {h h' : Heap} {env : Env} {x : Str} {pos : Pos} {c : Addr} {v : Value} {xs : List Str} (hp : vLP vS xs v h) (hle : Le h h') (hc : env.cells.lookup x = some c) (hv : h'.IsCell c (some v))
    (hk : env.scope.kind = .function := by rfl) (hl : env.kindOf x = some .cell := by rfl) (hd : (x == ("__debug__" : Str)) = false := by decide) : Ev prog w A h' (eval (.Name x pos) env) (vLP vS xs) :=
  (ev_cell hc hv hk hl hd).mono fun _ _ k p => by subst p; exact sLP sS xs _ _ _ (hle.trans k) hp

theorem bags_ok {prog : Program} {w : World} {A : Around} {h : Heap} {mg mb : Str → Option Value} {f : Addr} (G : GG mg mb h) (hf : mg (fName 31) = some (.ref f)) (hroom : A.depth < recursionLimit) (hh : A.handled = none) (v1 v2 : Value) (one two : List Str)
    (p1 : vLP vS one v1 h) (p2 : vLP vS two v2 h) (l1 : one.length ≤ 1000) (l2 : two.length ≤ 1000) :
    Ev prog w A h (call (.ref f) [v1, v2]) (fun v h' => ∃ t a b, v = .ref t ∧ IsTup h' t #[a, b] ∧ vLP vS (lacksOf one two) a h' ∧ vLP vS (overOf one two) b h') := by
  refine ev_callGC (i := 31) (binds := [("one", v1), ("two", v2)]) G (by decide) hf hroom (fun _ _ _ => rfl) (fun n x hx => ?_) fun s L h₁ cd tk hs Gs G1 F X => ?_
  · simp at hx; rcases hx with rfl | rfl
    · exact .inr ⟨rfl, rfl⟩
    · exact .inr ⟨rfl, rfl⟩
  have hh' : (A.deeper (envOfC (fName 31) (fScope 31) L f cd)).handled = none := hh
  generalize A.deeper (envOfC (fName 31) (fScope 31) L f cd) = A' at hh' ⊢
  have c1 : h₁.IsCell (L + 1) (some v1) := X.cell "one" (L + 1) rfl
  have c2 : h₁.IsCell (L + 2) (some v2) := X.cell "two" (L + 2) rfl
  have hle1 : Le h h₁ := Le.trans hs F.keep
  have n1 : L + 1 ≠ L := Nat.succ_ne_self L
  have n2 : L + 2 ≠ L := Nat.ne_of_gt (Nat.lt_add_of_pos_right (by decide))
  refine Wp.cons (asgComp (L := L) (cl := [("two", L + 2), ("one", L + 1)]) (xs := rangeL ((one.length : Int) - 1) (-1) one.length) (RB := vS) (lackP one two) (fun k => one.getD k.toNat "") rfl F (fun _ _ _ _ p => p) ?_ (by simp [rangeL]; omega) rfl ?_ ?_ (fun D vs h2 tk2 hD hpl hpr F2 k2 => ?_) rfl rfl rfl)
  · refine Ev.mono (ev_Call (ev_boot (v := .type "range") G1 (by decide) (by decide +kernel)) (ev_down (n := one.length) (by omega) (ev_subI ?_ ev_int) (ev_neg ev_int) (ev_neg ev_int))) fun v h' _ p => yields_range hh' p
    exact ev_Call (ev_boot (v := .builtin "len") G1 (by decide) (by decide +kernel)) (ev_lenL sS (Ev.mono (ev_cellL (c := L + 1) p1 hle1 rfl c1) fun _ _ _ p => p.l) (by omega))
  · intro C h' m k t' hle hn hm hk
    obtain ⟨k0, k1⟩ := down_mem hk
    have hle' := Le.trans hle1 hle
    have c1' := c1.keeps hle
    have c2' := c2.keeps hle
    refine ev_tests_one (ev_ltI (ev_count (xs := one.take k.toNat) (y := one.getD k.toNat "") (ev_upto sS (Ev.mono (ev_cellL (c := L + 1) p1 hle' rfl c1') fun _ _ _ p => p.l) ?_ (by omega)) ?_) (ev_subI (ev_count (ev_cellL (c := L + 1) p1 hle' rfl c1') ?_) (ev_count (ev_cellL (c := L + 2) p2 hle' rfl c2') ?_)))
    · rw [Int.toNat_of_nonneg k0]; exact ev_localI hn hm
    all_goals exact ev_subL sS (Ev.mono (ev_cellL (c := L + 1) p1 hle' rfl c1') fun _ _ _ p => p.l) (ev_localI hn hm) k0 (at_some one k0 k1) (by omega)
  · intro C h' m k t' hle hn hm hk _
    obtain ⟨k0, k1⟩ := down_mem hk
    exact ev_subL sS (Ev.mono (ev_cellL (c := L + 1) p1 (Le.trans hle1 hle) rfl (c1.keeps hle)) fun _ _ _ p => p.l) (ev_localI hn hm) k0 (at_some one k0 k1) (by omega)
  have c1b : h2.IsCell (L + 1) (some v1) := let ⟨o, e, r⟩ := c1; ⟨o, k2 _ _ n1 e, r⟩
  have c2b : h2.IsCell (L + 2) (some v2) := let ⟨o, e, r⟩ := c2; ⟨o, k2 _ _ n2 e, r⟩
  have hle2 : Le h h2 := Le.trans hs F2.keep
  have G2 : GG mg mb h2 := Gs.up F2.keep
  dsimp only
  refine Wp.cons (retE (P := fun v h' => ∃ t a b, v = .ref t ∧ IsTup h' t #[a, b] ∧ vLP vS (lacksOf one two) a h' ∧ vLP vS (overOf one two) b h') (ev_Tuple2 (sLP sS _) (sLP sS _) ?_ ?_) fun v h' tk' k p => ⟨kHeap (Le.trans F2.keep k), p⟩)
  · refine ev_local F2.ns ⟨.ref D, updSelf, fun h' k => ⟨D, vs, rfl, hpl.keeps k, sLL sS _ _ _ _ k hpr⟩⟩
  · refine ev_comp (cl := [("two", L + 2), ("one", L + 1)]) (xs := rangeL 0 1 two.length) (RB := vS) (overP one two) (fun k => two.getD k.toNat "") (fun _ _ _ _ p => p) ?_ (by simp [rangeL]; omega) rfl ?_ ?_
    · refine Ev.mono (ev_Call (ev_boot (v := .type "range") G2 (by decide) (by decide +kernel)) (ev_range1 (n := (two.length : Int)) ?_ (by omega) (by omega))) fun v h' _ p => yields_range hh' p
      exact ev_Call (ev_boot (v := .builtin "len") G2 (by decide) (by decide +kernel)) (ev_lenL sS (Ev.mono (ev_cellL (c := L + 2) p2 hle2 rfl c2b) fun _ _ _ p => p.l) (by omega))
    · intro C h' m k t' hle hn hm hk
      obtain ⟨k0, k1⟩ := up_mem hk
      have hle' := Le.trans hle2 hle
      have c1' := c1b.keeps hle
      have c2' := c2b.keeps hle
      refine ev_tests_one (ev_geI (ev_count (xs := two.take k.toNat) (y := two.getD k.toNat "") (ev_upto sS (Ev.mono (ev_cellL (c := L + 2) p2 hle' rfl c2') fun _ _ _ p => p.l) ?_ (by omega)) ?_) (ev_count (ev_cellL (c := L + 1) p1 hle' rfl c1') ?_))
      · rw [Int.toNat_of_nonneg k0]; exact ev_localI hn hm
      all_goals exact ev_subL sS (Ev.mono (ev_cellL (c := L + 2) p2 hle' rfl c2') fun _ _ _ p => p.l) (ev_localI hn hm) k0 (at_some two k0 k1) (by omega)
    · intro C h' m k t' hle hn hm hk _
      obtain ⟨k0, k1⟩ := up_mem hk
      exact ev_subL sS (Ev.mono (ev_cellL (c := L + 2) p2 (Le.trans hle2 hle) rfl (c2b.keeps hle)) fun _ _ _ p => p.l) (ev_localI hn hm) k0 (at_some two k0 k1) (by omega)
end Mine

namespace Mine
set_option maxRecDepth 100000
set_option maxHeartbeats 1000000

/- ** a builtin raises in this frame, and it is noted here ** -/
section
variable {prog : Program} {w : World} {A : Around} {E : Value → Shared → Prop}
theorem note_here {env outer : Env} {L Ll e : Addr} {X : String} {h h1 : Heap} {g : Array GenState} {d : Drawn} {tk : Nat} {os : OsState} {m ml : Str → Option Value} {Q : Unit → Shared → Prop}
    (hfr : A.frames = some [env, outer]) (hk : env.scope.kind ≠ .module) (hk' : outer.scope.kind ≠ .module) (hf : env.frame = some L) (hf' : outer.frame = some Ll)
    (hn : h.Ns L m) (hn' : h.Ns Ll ml) (hx : Heap.NewExc h h1 e X)
    (hQ : ∀ h2, (∀ c o, c ≠ L → c ≠ Ll → h.get? c = some o → h2.get? c = some o) → h2.Ns L m → h2.Ns Ll ml → h.get? e = none → h2.Traced (hideAll h [L, Ll]) e (.type X) → Q () ⟨h2, g, d, tk, os⟩) :
    wpAny (model prog w) A (noteFrame (.ref e) env) (fun _ s₂ => wpAny (model prog w) A (setFlight (.ref e) none) Q E s₂) E ⟨h1, g, d, tk, os⟩ := by
  obtain ⟨ob, t, he, hcls, hd⟩ := hx.there
  unfold noteFrame
  simp only [hf]
  refine wpAny_bind (wpAny_field he hd (x := .none) rfl ?_)
  rw [if_neg (by decide)]
  have hb : (hideAll h [L, Ll]).StaysIn h1 := fun b o q => hx.keeps b o (of_hideAll _ q)
  have hen : (hideAll h [L, Ll]).get? e = none := by
    cases q : (hideAll h [L, Ll]).get? e with
    | none => rfl
    | some o => have := of_hideAll _ q; rw [hx.new] at this; cases this
  refine wpAny_newEntry (s := ⟨h1, g, d, tk, os⟩) (base := hideAll h [L, Ll]) (outer := [outer]) hfr ?_ hf he hb hen hd (by simp) fun h2 hl => ?_
  · refine Heap.FunFrames.cons hk hf (hn.keeps hx.keeps) (hideAll_none _ (by simp)) (Heap.FunFrames.cons hk' hf' (hn'.keeps hx.keeps) (hideAll_none _ (by simp)) trivial)
  · obtain ⟨x1, x2, x3, x4⟩ := hl
    rw [hcls] at x3
    have up : h.UpToSlots h2 := fun b o q hnf => x4 b o (hx.keeps b o q) hnf
    exact hQ h2 (fun c o hc hc' q => x1 c o (hideAll_get _ q (by simp [hc, hc']))) (up.ns hn) (up.ns hn') hx.new x3
theorem setFlight_traced {h base : Heap} {e : Addr} {cls : Value} {g : Array GenState} {d : Drawn} {tk : Nat} {os : OsState} {Q : Unit → Shared → Prop} (ht : h.Traced base e cls)
    (hQ : ∀ h2 T, base.get? T = none → Heap.SameBut T h h2 → (∃ o vs, h.get? T = some o ∧ o.data = .fields vs) → Q () ⟨h2, g, d, tk, os⟩) : wpAny (model prog w) A (setFlight (.ref e) none) Q E ⟨h, g, d, tk, os⟩ := by
  obtain ⟨oe, vs, T, oT, ts, he, hc, hd, h1, hT0, hTe, hT, hdT, h3⟩ := ht
  refine wpAny_setFlight_none (s := ⟨h, g, d, tk, os⟩) he hd h1 hT hdT (Array.getElem?_eq_some_iff.mp h3).1 (hQ _ T hT0 (Heap.SameBut.update ..) ⟨oT, ts, hT, hdT⟩)
end

/- ** what it computes ** -/
def diffR : List Str → List Str → List Str → List Str × List Str
  | [], ys, ms => (ms, ys)
  | x :: r, ys, ms => if x ∈ ys then diffR r (ys.erase x) ms else diffR r ys (ms ++ [x])

theorem mapSeq_erase (items : Array Value) (n j : Nat) : ∃ n', Obj.mapSeq (fun xs => xs.eraseIdxIfInBounds j) { cls := .type "list", data := .seq items n } = { cls := .type "list", data := .seq (items.eraseIdxIfInBounds j) n' } := ⟨_, rfl⟩
theorem strs_eraseIdx : ∀ {vs : List Value} {ys : List Str} (j : Nat), StrsAre vs ys → StrsAre (vs.eraseIdx j) (ys.eraseIdx j)
  | _, _, _, .nil => .nil
  | _, _, 0, .cons _ _ h => h
  | _, _, j + 1, .cons a t h => .cons a t (strs_eraseIdx j h)
theorem erase_eq (x : Str) : ∀ (ys : List Str) (j : Nat) (hj : j < ys.length), ys[j] = x → (∀ m (hm : m < ys.length), m < j → ys[m] ≠ x) → ys.erase x = ys.eraseIdx j
  | y :: r, 0, _, e, _ => by simp at e; subst e; simp
  | y :: r, j + 1, hj, e, hno => by
    have h0 : y ≠ x := hno 0 (by simp) (by omega)
    rw [List.erase_cons_tail (by simpa using h0), List.eraseIdx_cons_succ, erase_eq x r j (by simpa using hj) (by simpa using e) fun m hm h => hno (m + 1) (by simpa using hm) (by omega)]
theorem first_at (x : Str) : ∀ (ys : List Str), x ∈ ys → ∃ j, ∃ hj : j < ys.length, ys[j] = x ∧ ∀ m (hm : m < ys.length), m < j → ys[m] ≠ x
  | y :: r, h => by
    by_cases e : y = x
    · exact ⟨0, by simp, by simpa using e, fun m _ h => by omega⟩
    · obtain ⟨j, hj, e1, e2⟩ := first_at x r (by simpa [Ne.symm e] using h)
      refine ⟨j + 1, by simpa using hj, by simpa using e1, fun m hm h => ?_⟩
      cases m with
      | zero => simpa using e
      | succ m => simpa using e2 m (by simpa using hm) (by omega)
theorem plainUpd {h : Heap} {l : Addr} {items : Array Value} {j : Nat} (x : ∃ n, h.get? l = some { cls := .type "list", data := .seq items n }) : (h.update l (Obj.mapSeq fun xs => xs.eraseIdxIfInBounds j)).PlainList l (items.eraseIdxIfInBounds j) := by
  obtain ⟨n, e⟩ := x
  obtain ⟨n', e'⟩ := mapSeq_erase items n j
  refine ⟨n', ?_⟩
  rw [Heap.get?_update_self _ e (by rw [e']; rfl), e']

section
variable {prog : Program} {w : World} {A : Around} {E : Value → Shared → Prop} {s : Shared}
theorem call_pop {l : Addr} {vs : List Value} {v : Value} {Q : Value → Shared → Prop} (hl : s.heap.PlainList l (vs ++ [v]).toArray) (hsz : (vs ++ [v]).length ≤ 16777216)
    (hQ : ∀ h', h'.PlainList l vs.toArray → Heap.SameBut l s.heap h' → Q v { s with heap := h' }) : wpAny (model prog w) A (call (.builtin "list.pop") [.ref l]) Q E s := by
  obtain ⟨n, e⟩ := hl
  have hs : (vs ++ [v]).toArray.size - 1 = vs.length := by simp
  refine call_meets PySem.F.slot_list_pop ⟨_, e, rfl⟩ PySem.F.entry_list_pop (PySem.F.args_list_pop_1 _) (MeetsSeq.list_pop_last l (vs ++ [v]).toArray n v ?_ (by rw [sizeLine_eq]; simpa using hsz)) ⟨e, ?_⟩
  · rw [hs]; simp
  · refine hQ _ ?_ (Heap.SameBut.update ..)
    have := plainUpd (j := (vs ++ [v]).toArray.size - 1) ⟨n, e⟩
    have e2 : (vs ++ [v]).toArray.eraseIdxIfInBounds ((vs ++ [v]).toArray.size - 1) = vs.toArray := by
      rw [hs]
      simp [List.eraseIdx_append_of_length_le (Nat.le_refl vs.length)]
    rw [e2] at this
    exact this
theorem call_remove {l : Addr} {vs : List Value} {ys : List Str} {x : Str} {t : Tok} {Q : Value → Shared → Prop} (hl : s.heap.PlainList l vs.toArray) (hi : StrsAre vs ys) (hsz : vs.length ≤ 16777216) (hx : x ∈ ys)
    (hQ : ∀ h' vs', h'.PlainList l vs'.toArray → StrsAre vs' (ys.erase x) → Heap.SameBut l s.heap h' → Q .none { s with heap := h' }) : wpAny (model prog w) A (call (.builtin "list.remove") [.ref l, .str x t]) Q E s := by
  obtain ⟨n, e⟩ := hl
  obtain ⟨j, hj, hj1, hj2⟩ := first_at x ys hx
  have hlen := hi.len_eq
  have hat : ∀ m (hm : m < vs.toArray.size), isStrOf x vs.toArray[m] = (ys[m]'(by simp at hm; omega) == x) := by
    intro m hm
    have hm' : m < ys.length := by simp at hm; omega
    obtain ⟨t', e'⟩ := StrsAre.at hi (j := m) (y := ys[m]) (List.getElem?_eq_getElem hm')
    have : vs.toArray[m] = .str ys[m] t' := by
      have := List.getElem?_eq_some_iff.mp e'
      simpa using this.2
    rw [this]; rfl
  refine call_meets PySem.F.slot_list_remove ⟨_, e, rfl⟩ PySem.F.entry_list_remove (PySem.F.args_list_remove_2 _ _) (MeetsSeq.list_remove l vs.toArray n (.str x t) (isStrOf x) (fun y hy => eq_isStrOf x t hi y (by simpa using hy)) j (by simp; omega) ?_ ?_ (by rw [sizeLine_eq]; simpa using hsz)) ⟨e, ?_⟩
  · rw [hat]; simpa using hj1
  · intro m hm hmj
    rw [hat]
    have := hj2 m (by simp at hm; omega) hmj
    simpa using this
  · refine hQ _ (vs.eraseIdx j) ?_ ?_ (Heap.SameBut.update ..)
    · have := plainUpd (j := j) ⟨n, e⟩
      have e2 : vs.toArray.eraseIdxIfInBounds j = (vs.eraseIdx j).toArray := by
        simp
      rw [e2] at this
      exact this
    · rw [erase_eq x ys j hj hj1 hj2]
      exact strs_eraseIdx j hi
theorem call_remove_none {l : Addr} {vs : List Value} {ys : List Str} {x : Str} {t : Tok} {Q : Value → Shared → Prop} (hh : A.handled = none) (hl : s.heap.PlainList l vs.toArray) (hi : StrsAre vs ys) (hx : x ∉ ys)
    (hE : ∀ h' tk e, Heap.NewExc s.heap h' e "ValueError" → E (.ref e) { s with heap := h', toks := tk }) : wpAny (model prog w) A (call (.builtin "list.remove") [.ref l, .str x t]) Q E s := by
  obtain ⟨n, e⟩ := hl
  have hlen := hi.len_eq
  refine call_meets PySem.F.slot_list_remove ⟨_, e, rfl⟩ PySem.F.entry_list_remove (PySem.F.args_list_remove_2 _ _) (MeetsSeq.list_remove_none l vs.toArray n (.str x t) (isStrOf x) (fun y hy => eq_isStrOf x t hi y (by simpa using hy)) ?_) ⟨e, hh, fun h' tk e hx => hE h' tk e hx⟩
  intro m hm
  have hm' : m < ys.length := by simp at hm; omega
  obtain ⟨t', e'⟩ := StrsAre.at hi (j := m) (y := ys[m]) (List.getElem?_eq_getElem hm')
  have : vs.toArray[m] = .str ys[m] t' := by
    have := List.getElem?_eq_some_iff.mp e'
    simpa using this.2
  rw [this]
  have : ys[m] ≠ x := fun q => hx (q ▸ List.getElem_mem hm')
  simpa [isStrOf] using this
end
end Mine

namespace Mine
set_option maxRecDepth 100000
set_option maxHeartbeats 1000000

structure DInv (hb : Heap) (sh : Heap) (L Ll a b D : Addr) (ml : Str → Option Value) (N : Nat) (xr ys ms : List Str) (h : Heap) (m : Str → Option Value) : Prop where
  fr : Fr hb L h m
  e1 : m "expected" = some (.ref a)
  e2 : m "actual" = some (.ref b)
  e3 : m "missing" = some (.ref D)
  la : ∃ vs : List Value, h.PlainList a vs.toArray ∧ StrsAre vs xr.reverse
  lb : ∃ vs : List Value, h.PlainList b vs.toArray ∧ StrsAre vs ys
  lm : ∃ vs : List Value, PlainL h D vs.toArray ∧ StrsAre vs ms
  nl : h.Ns Ll ml
  keep : ∀ c o, c ≠ a → c ≠ b → c ≠ Ll → sh.get? c = some o → h.get? c = some o
  fit : xr.length ≤ N ∧ ys.length ≤ N ∧ ms.length + xr.length ≤ N

theorem diff_turn {prog : Program} {w : World} {A : Around} {hb sh : Heap} {mg mb ml m : Str → Option Value} {f L Ll a b D : Addr} {cd : Value} {lawEnv : Env} {N : Nat} {x : Str} {r ys ms : List Str} {h : Heap} {g : Array GenState} {d : Drawn} {tk : Nat} {os : OsState} (G : GG mg mb hb)
    (hh : A.handled = none) (hfr : A.frames = some [envOf (fName 26) (fScope 26) L f cd, lawEnv]) (hk' : lawEnv.scope.kind ≠ .module) (hf' : lawEnv.frame = some Ll)
    (hab : a ≠ b) (haL : a ≠ L) (hbL : b ≠ L) (hDL : D ≠ L) (hDa : D ≠ a) (hDb : D ≠ b) (hlL : Ll ≠ L) (hla : a ≠ Ll) (hlb : b ≠ Ll) (hlD : D ≠ Ll) (ha0 : hb.get? a = none) (hb0 : hb.get? b = none) (hD0 : hb.get? D = none) (hl0 : hb.get? Ll = none) (hL0 : hb.get? L = none) (shL : sh.get? L = none) (shD : sh.get? D = none) (hN : N ≤ 1000)
    (I : DInv hb sh L Ll a b D ml N (x :: r) ys ms h m) {body : List Stmt} (hbody : ∃ st, fBody 26 = st ∧ (match st with | [_, .While _ bd _ _, _] => bd | _ => []) = body) :
    Wp prog w A (execs body (envOf (fName 26) (fScope 26) L f cd)) (fun fl s' => fl = .next ∧ ∃ h' tk' m' ys' ms', s' = ⟨h', g, d, tk', os⟩ ∧ DInv hb sh L Ll a b D ml N r ys' ms' h' m' ∧ diffR r ys' ms' = diffR (x :: r) ys ms) (fun _ _ => False) ⟨h, g, d, tk, os⟩ := by
  obtain ⟨st, rfl, rfl⟩ := hbody
  obtain ⟨F, e1, e2, e3, ⟨va, pa, sa⟩, ⟨vb, pb, sb⟩, ⟨vm, pm, sm⟩, hnl, hkeep, hfit⟩ := I
  obtain ⟨va', tx, rfl, sa'⟩ : ∃ (va' : List Value) (tx : Tok), va = va' ++ [Value.str x tx] ∧ StrsAre va' r.reverse := by
    rw [List.reverse_cons] at sa
    have hl := sa.len_eq
    rw [List.length_append] at hl
    rcases List.eq_nil_or_concat va with rfl | ⟨va', v, hva⟩
    · simp at hl
    · rw [List.concat_eq_append] at hva
      subst hva
      have h2 : (va' ++ [v])[va'.length]? = some v := by simp
      have hl' : va'.length = r.reverse.length := by simpa using hl
      obtain ⟨t, e⟩ := StrsAre.at sa (j := r.reverse.length) (y := x) (by simp)
      rw [← hl', h2] at e
      cases e
      refine ⟨va', t, rfl, ?_⟩
      have : ∀ {us : List Value} {zs : List Str} (k : Nat), StrsAre us zs → StrsAre (us.take k) (zs.take k) := by
        intro us zs k hz
        induction hz generalizing k with
        | nil => simp; exact .nil
        | cons a t _ ih => cases k with
          | zero => exact .nil
          | succ k => exact .cons a t (ih k)
      have := this va'.length sa
      rw [List.take_left, hl', List.take_left] at this
      exact this
  refine Wp.cons ⟨wpAny_Assign_Name (Call_method0 rfl rfl ((ev_localV F.ns e1).run ⟨h, g, d, tk, os⟩ _ _ (Le.refl _) fun v s1 k1 p1 => ?_)) rfl⟩
  obtain ⟨h1, tk1, rfl, k1⟩ := k1
  obtain rfl : v = .ref a := p1
  have pa1 : h1.PlainList a (va' ++ [Value.str x tx]).toArray := pa.at fun o e => k1 _ _ e
  refine ⟨"list", "list.pop", PySem.F.plainAttrs_list, PySem.F.slot_list_pop, PySem.F.type_list_pop, pa1.isList.typeIs, fun c ec => by cases ec; obtain ⟨n, e⟩ := pa1; exact ⟨_, e, rfl⟩, ?_⟩
  refine Calls.callWith_builtin rfl (_root_.PySem.evalArgs_none ?_)
  have hlen : va'.length = r.length := by rw [sa'.len_eq, List.length_reverse]
  have hrl : (x :: r).length = r.length + 1 := rfl
  refine call_pop (s := ⟨h1, g, d, tk1, os⟩) pa1 (by simp; omega) fun h2 pa2 hs2 => ?_
  have F1 := frUp F k1
  have F2 : Fr hb L h2 m := frD F1 hs2 haL ha0
  refine stL F2 (fun h3 F3 hs3 => ?_) rfl rfl
  have step3 : ∀ c o, c ≠ a → c ≠ L → h.get? c = some o → h3.get? c = some o := fun c o hc hc' e => hs3.extBut c o hc' (hs2.extBut c o hc (k1 _ _ e))
  have pa3 : h3.PlainList a va'.toArray := pa2.at fun o e => hs3.extBut _ _ haL e
  have pb3 : h3.PlainList b vb.toArray := pb.at fun o e => step3 _ _ (Ne.symm hab) hbL e
  have pm3 : PlainL h3 D vm.toArray := let ⟨o, n, e, q⟩ := pm; ⟨o, n, step3 _ _ hDa hDL e, q⟩
  have nl3 : h3.Ns Ll ml := hnl.at' fun o e => step3 _ _ (Ne.symm hla) hlL e
  have kp3 : ∀ c o, c ≠ a → c ≠ b → c ≠ Ll → sh.get? c = some o → h3.get? c = some o := fun c o h1 h2 h3' e => step3 c o h1 (fresh_ne e shL) (hkeep c o h1 h2 h3' e)
  have f1 : upd m "item" (.str x tx) "expected" = some (.ref a) := e1
  have f2 : upd m "item" (.str x tx) "actual" = some (.ref b) := e2
  have f3 : upd m "item" (.str x tx) "missing" = some (.ref D) := e3
  have f4 : upd m "item" (.str x tx) "item" = some (.str x tx) := updSelf
  generalize upd m "item" (.str x tx) = m3 at F3 f1 f2 f3 f4
  dsimp only
  have hbl : vb.length = ys.length := sb.len_eq
  have hml : vm.length = ms.length := sm.len_eq
  refine Wp.cons ⟨wpAny_Try_except (wpAny_execs_cons (wpAny_Expr_any (Call_method1 rfl rfl rfl ((ev_localV F3.ns f2).run ⟨h3, g, d, _, os⟩ _ _ (Le.refl _) fun v s4 k4 p4 => ?_)) rfl rfl))⟩
  obtain ⟨h4, tk4, rfl, k4⟩ := k4
  obtain rfl : v = .ref b := p4
  have pb4 : h4.PlainList b vb.toArray := pb3.at fun o e => k4 _ _ e
  refine ⟨"list", "list.remove", PySem.F.plainAttrs_list, PySem.F.slot_list_remove, PySem.F.type_list_remove, pb4.isList.typeIs, fun c ec => by cases ec; obtain ⟨n, e⟩ := pb4; exact ⟨_, e, rfl⟩, ?_⟩
  refine Calls.callWith_builtin rfl (Calls.evalArgs_plain (Calls.spliced_cons ((ev_localV (frUp F3 k4).ns f4).run ⟨h4, g, d, tk4, os⟩ _ _ (Le.refl _) fun u s5 k5 p5 => Calls.spliced_nil ?_)))
  obtain ⟨h5, tk5, rfl, k5⟩ := k5
  obtain rfl : u = .str x tx := p5
  have k35 : Le h3 h5 := Le.trans k4 k5
  have pa5 : h5.PlainList a va'.toArray := pa3.at fun o e => k35 _ _ e
  have pb5 : h5.PlainList b vb.toArray := pb3.at fun o e => k35 _ _ e
  have pm5 : PlainL h5 D vm.toArray := pm3.keeps k35
  have F5 := frUp F3 k35
  have nl5 : h5.Ns Ll ml := nl3.keeps k35
  have kp5 : ∀ c o, c ≠ a → c ≠ b → c ≠ Ll → sh.get? c = some o → h5.get? c = some o := fun c o h1 h2 h3' e => k35 _ _ (kp3 c o h1 h2 h3' e)
  by_cases hx : x ∈ ys
  · refine call_remove (s := ⟨h5, g, d, tk5, os⟩) pb5 sb (by omega) hx fun h6 vb6 pb6 sb6 hs6 => ?_
    refine wpAny_execs_nil (wpAny_execs_nil ?_)
    refine Wp.nil ⟨rfl, h6, tk5, m3, ys.erase x, ms, rfl, ⟨frD F5 hs6 hbL hb0, f1, f2, f3, ⟨va', pa5.extBut hs6.extBut hab, sa'⟩, ⟨vb6, pb6, sb6⟩, ⟨vm, pm5.extBut hs6.extBut hDb, sm⟩, nl5.sameBut hs6 (Ne.symm hlb), fun c o h1 h2 h3' e => hs6.extBut c o h2 (kp5 c o h1 h2 h3' e), ?_⟩, ?_⟩
    · have := List.length_erase_le (a := x) (l := ys)
      refine ⟨by omega, by omega, by omega⟩
    · rw [diffR, if_pos hx]
  · refine call_remove_none (s := ⟨h5, g, d, tk5, os⟩) hh pb5 sb hx fun h6 tk6 e hx6 => ?_
    refine note_here (h := h5) hfr (by show ScopeKind.function ≠ .module; decide) hk' rfl hf' F5.ns nl5 hx6 fun h7 kp7 ns7 nl7 he0 htr => ?_
    have F7 : Fr hb L h7 m3 := ⟨ns7, fun c o q => kp7 c o (fresh_ne q hL0) (fresh_ne q hl0) (F5.keep c o q), F5.above⟩
    refine wpAny_handleBy_builtin (X := "ValueError") (T := "ValueError") (b := true) PySem.F.isExc_ValueError PySem.F.notTuple_ValueError (by rw [isSubtype_type]; kernel_rfl) ?_
    refine (ev_boot (v := .type "ValueError") (G.up F7.keep) (by decide) (by decide +kernel)).run ⟨h7, g, d, tk6, os⟩ _ _ (Le.refl _) fun c s8 k8 p8 => ?_
    obtain ⟨h8, tk8, rfl, k8⟩ := k8
    have htr8 : h8.Traced (hideAll h5 [L, Ll]) e (.type "ValueError") := by
      obtain ⟨oe, vs, T, oT, ts, q1, q2, q3, q4, q5, q6, q7, q8, q9⟩ := htr
      exact ⟨oe, vs, T, oT, ts, k8 _ _ q1, q2, q3, q4, q5, q6, k8 _ _ q7, q8, q9⟩
    refine ⟨p8, ?_, ?_⟩
    · obtain ⟨oe, vs, T, oT, ts, q1, q2, _⟩ := htr8
      exact ⟨oe, q1, q2⟩
    rw [if_pos rfl]
    refine setFlight_traced htr8 fun h9 T hT hs9 hTo => ?_
    have hTk : ∀ c o, c ≠ L → c ≠ Ll → h5.get? c = some o → h9.get? c = some o := fun c o hc hc' q => by
      refine hs9.extBut c o ?_ (k8 _ _ (kp7 c o hc hc' q))
      rintro rfl
      rw [hideAll_get _ q (by simp [hc, hc'])] at hT
      cases hT
    have hTL : T ≠ L := by
      rintro rfl
      obtain ⟨o, vs, q1, q2⟩ := hTo
      obtain ⟨o', _, _, q3, q4, _⟩ := ns7.keeps k8
      rw [q1] at q3; cases q3; rw [q2] at q4; cases q4
    have hTl : T ≠ Ll := by
      rintro rfl
      obtain ⟨o, vs, q1, q2⟩ := hTo
      obtain ⟨o', _, _, q3, q4, _⟩ := nl7.keeps k8
      rw [q1] at q3; cases q3; rw [q2] at q4; cases q4
    have ns9 : h9.Ns L m3 := (ns7.keeps k8).sameBut hs9 (Ne.symm hTL)
    have nl9 : h9.Ns Ll ml := (nl7.keeps k8).sameBut hs9 (Ne.symm hTl)
    have F9 : Fr hb L h9 m3 := ⟨ns9, fun c o q => hTk c o (fresh_ne q hL0) (fresh_ne q hl0) (F5.keep c o q), F5.above⟩
    have pa9 : h9.PlainList a va'.toArray := pa5.at fun o e => hTk _ _ haL hla e
    have pb9 : h9.PlainList b vb.toArray := pb5.at fun o e => hTk _ _ hbL hlb e
    have pm9 : PlainL h9 D vm.toArray := let ⟨o, n, e, q⟩ := pm5; ⟨o, n, hTk _ _ hDL hlD e, q⟩
    have kp9 : ∀ c o, c ≠ a → c ≠ b → c ≠ Ll → sh.get? c = some o → h9.get? c = some o := fun c o h1 h2 h3' q => hTk c o (fresh_ne q shL) h3' (kp5 c o h1 h2 h3' q)
    refine wpAny_mono (Wp.cons (appE (E := fun _ _ => False) (P := vV (.str x tx)) F9 f3 pm9 hDL hD0 (ev_localV F9.ns f4) (fun v h10 h11 tk11 k10 p10 F11 hD11 hs11 => ?_) (by rw [sizeLine_eq]; simp; omega))).run (fun _ _ q => q) fun _ _ q => q.elim
    obtain rfl : v = .str x tx := p10
    refine Wp.nil (Wp.nil ⟨rfl, h11, tk11, m3, ys, ms ++ [x], rfl, ⟨F11, f1, f2, f3, ⟨va', pa9.at fun o e => hs11.extBut _ _ (Ne.symm hDa) (k10 _ _ e), sa'⟩, ⟨vb, pb9.at fun o e => hs11.extBut _ _ (Ne.symm hDb) (k10 _ _ e), sb⟩, ⟨vm ++ [.str x tx], ?_, strs_push sm⟩, (nl9.keeps k10).sameBut hs11 (Ne.symm hlD), fun c o h1 h2 h3' q => hs11.extBut c o (fresh_ne q shD) (k10 _ _ (kp9 c o h1 h2 h3' q)), ?_⟩, ?_⟩)
    · simpa using hD11
    · simp only [List.length_append, List.length_singleton]
      refine ⟨by omega, by omega, by omega⟩
    · rw [diffR, if_neg hx]
end Mine

namespace Mine
set_option maxRecDepth 100000
set_option maxHeartbeats 1000000

theorem diff_ok {prog : Program} {w : World} {A : Around} {hb : Heap} {mg mb ml : Str → Option Value} {f Ll a b : Addr} {lawEnv : Env} {xs ys : List Str} {va vb : List Value} {s : Shared} {Q : Value → Shared → Prop} {E : Value → Shared → Prop} (G : GG mg mb hb)
    (hf : mg (fName 26) = some (.ref f)) (hroom : A.depth < recursionLimit) (hh : A.handled = none) (hfr : A.frames = some [lawEnv]) (hk' : lawEnv.scope.kind ≠ .module) (hf' : lawEnv.frame = some Ll)
    (Fl : Fr hb Ll s.heap ml) (hab : a ≠ b) (hla : a ≠ Ll) (hlb : b ≠ Ll) (ha0 : hb.get? a = none) (hb0 : hb.get? b = none) (pa : s.heap.PlainList a va.toArray) (sa : StrsAre va xs) (pb : s.heap.PlainList b vb.toArray) (sb : StrsAre vb ys) (hxl : xs.length ≤ 1000) (hyl : ys.length ≤ 1000)
    (hQ : ∀ v h' tk', Fr hb Ll h' ml → (∀ c o, c ≠ a → c ≠ b → c ≠ Ll → s.heap.get? c = some o → h'.get? c = some o) → (∃ t D, v = .ref t ∧ IsTup h' t #[.ref D, .ref b] ∧ vLP vS (diffR xs.reverse ys []).1 (.ref D) h' ∧ vLP vS (diffR xs.reverse ys []).2 (.ref b) h') → Q v { s with heap := h', toks := tk' }) :
    wpAny (model prog w) A (call (.ref f) [.ref a, .ref b]) Q E s := by
  have Gs := G.up Fl.keep
  obtain ⟨f', o, pm, cd, doc, h1, h2, h3, h4⟩ := Gs.fn 26 (by decide)
  rw [hf] at h1
  cases h1
  refine wpAny_call (call_plain_ret (binds := [("expected", .ref a), ("actual", .ref b)]) hroom h2 h3 Gs.nolimit h4 rfl (locs rfl) (fun h₁ F => ?_) rfl rfl rfl (by decide))
  obtain ⟨L, hL⟩ : ∃ L, L = s.heap.objs.size := ⟨_, rfl⟩
  rw [← hL] at F ⊢
  have hh' : (A.deeper (envOf (fName 26) (fScope 26) L f cd)).handled = none := hh
  have hfr' : (A.deeper (envOf (fName 26) (fScope 26) L f cd)).frames = some [envOf (fName 26) (fScope 26) L f cd, lawEnv] := Around.frames_deeper hfr
  generalize A.deeper (envOf (fName 26) (fScope 26) L f cd) = A' at hh' hfr' ⊢
  have hLn : s.heap.get? L = none := by rw [hL]; exact none_size _
  have hLlt : Ll < s.heap.objs.size := by obtain ⟨o, e⟩ := frameAt Fl; exact Heap.lt_size e
  have Fb : Fr hb L h₁ (fun x => ([("expected", .ref a), ("actual", .ref b)] : List (Str × Value)).reverse.lookup x) := ⟨F.ns, fun c o e => F.keep _ _ (Fl.keep _ _ e), by rw [hL]; exact Nat.le_of_lt (Nat.lt_of_le_of_lt Fl.above hLlt)⟩
  have haL : a ≠ L := by obtain ⟨n, e⟩ := pa; exact fresh_ne e hLn
  have hbL : b ≠ L := by obtain ⟨n, e⟩ := pb; exact fresh_ne e hLn
  have hlL : Ll ≠ L := by obtain ⟨o, e⟩ := frameAt Fl; exact fresh_ne e hLn
  have hl0 : hb.get? Ll = none := Heap.get?_none_of_le Fl.above
  have hL0 : hb.get? L = none := Heap.get?_none_of_le Fb.above
  refine wpAny_mono (Q := fun fl s' => ∃ h' tk', s' = { s with heap := h', toks := tk' } ∧ Fr hb Ll h' ml ∧ (∀ c o, c ≠ a → c ≠ b → c ≠ Ll → s.heap.get? c = some o → h'.get? c = some o) ∧ (∃ t D, retOf fl = .ref t ∧ IsTup h' t #[.ref D, .ref b] ∧ vLP vS (diffR xs.reverse ys []).1 (.ref D) h' ∧ vLP vS (diffR xs.reverse ys []).2 (.ref b) h')) (E := fun _ _ => False) (Wp.run ?_) (fun fl s' q => ?_) fun _ _ q => q
  rotate_left
  · obtain ⟨h', tk', rfl, q1, q2, q3⟩ := q
    have := hQ (retOf fl) h' tk' q1 q2 q3
    cases fl <;> exact this
  refine Wp.cons (asg (g := s.gens) (d := s.drawn) (os := s.os) Fb ev_nilL fun v h2 h3 tk3 k2 p2 F3 hs3 => ?_)
  obtain ⟨D, rfl, hD2, hDn⟩ := p2
  have hDL : D ≠ L := by obtain ⟨o, e⟩ := frameAt Fb; exact (fresh_ne e hDn).symm
  have shD : s.heap.get? D = none := none_of_le F.keep hDn
  have hDa : D ≠ a := by obtain ⟨n, e⟩ := pa; exact (fresh_ne e shD).symm
  have hDb : D ≠ b := by obtain ⟨n, e⟩ := pb; exact (fresh_ne e shD).symm
  have hlD : D ≠ Ll := by obtain ⟨o, e⟩ := frameAt Fl; exact (fresh_ne e shD).symm
  have hD0 : hb.get? D = none := none_of_le Fb.keep hDn
  have up3 : ∀ c o, s.heap.get? c = some o → h3.get? c = some o := fun c o e => hs3.extBut c o (fresh_ne e hLn) (k2 _ _ (F.keep _ _ e))
  dsimp only
  refine Wp.cons ⟨wpAny_While (codeAny_whileLoop (fun k st => ∃ h tk m xr ys' ms, st = ⟨h, s.gens, s.drawn, tk, s.os⟩ ∧ DInv hb s.heap L Ll a b D ml 1000 xr ys' ms h m ∧ diffR xr ys' ms = diffR xs.reverse ys [] ∧ k = xr.length) ?_ xs.reverse.length
    ⟨h3, tk3, _, xs.reverse, ys, [], rfl, ⟨F3, rfl, rfl, updSelf, ⟨va, pa.at fun o e => up3 _ _ e, by rw [List.reverse_reverse]; exact sa⟩, ⟨vb, pb.at fun o e => up3 _ _ e, sb⟩, ⟨[], hD2.extBut hs3.extBut hDL, .nil⟩, Fl.ns.keeps up3, fun c o _ _ _ e => up3 _ _ e, by simp; omega⟩, rfl, rfl⟩)⟩
  rintro k st ⟨h, tk, m, xr, ys', ms, rfl, I, hres, rfl⟩
  obtain ⟨wa, qa, ra⟩ := I.la
  refine isTrue_plain ((ev_localV I.fr.ns I.e1).run ⟨h, s.gens, s.drawn, tk, s.os⟩ _ _ (Le.refl _) fun v s4 k4 p4 => ?_)
  obtain ⟨h4, tk4, rfl, k4⟩ := k4
  obtain rfl : v = .ref a := p4
  have I4 : DInv hb s.heap L Ll a b D ml 1000 xr ys' ms h4 m := ⟨frUp I.fr k4, I.e1, I.e2, I.e3, ⟨wa, qa.at fun o e => k4 _ _ e, ra⟩, let ⟨u, p, q⟩ := I.lb; ⟨u, p.at fun o e => k4 _ _ e, q⟩, let ⟨u, p, q⟩ := I.lm; ⟨u, p.keeps k4, q⟩, I.nl.keeps k4, fun c o x1 x2 x3 e => k4 _ _ (I.keep c o x1 x2 x3 e), I.fit⟩
  have hwl : wa.length = xr.length := by rw [ra.len_eq, List.length_reverse]
  have hf1 := I.fit.1
  refine wpAny_truthy_list (s := ⟨h4, s.gens, s.drawn, tk4, s.os⟩) (qa.at fun o e => k4 _ _ e).isList (by simp; omega) ?_
  cases xr with
  | nil =>
    have hwa : wa = [] := List.eq_nil_of_length_eq_zero hwl
    subst hwa
    show (if (!(#[] : Array Value).isEmpty) = true then _ else _)
    rw [if_neg (by simp)]
    refine wpAny_execs_nil ?_
    have hr : diffR xs.reverse ys [] = (ms, ys') := by rw [← hres]; rfl
    obtain ⟨vm, pm4, sm⟩ := I4.lm
    obtain ⟨vb', pb4, sb'⟩ := I4.lb
    have F4 := I4.fr
    dsimp only
    refine Wp.cons (retE (P := fun v h' => ∃ t a' b', v = .ref t ∧ IsTup h' t #[a', b'] ∧ vV (.ref D) a' h' ∧ vV (.ref b) b' h') (ev_Tuple2 (sV _) (sV _) (ev_localV F4.ns I4.e3) (ev_localV F4.ns I4.e2)) fun v h' tk' k p => ?_)
    obtain ⟨t, a', b', rfl, ht, rfl, rfl⟩ := p
    refine ⟨h', tk', rfl, ⟨I4.nl.keeps k, fun c o e => k _ _ (F4.keep _ _ e), Fl.above⟩, fun c o x1 x2 x3 e => k _ _ (I4.keep c o x1 x2 x3 e), t, D, rfl, ht, ?_, ?_⟩
    · rw [hr]; exact ⟨D, vm, rfl, pm4.keeps k, of_strs sm⟩
    · rw [hr]; exact ⟨b, vb', rfl, PlainL.of (pb4.at fun o e => k _ _ e), of_strs sb'⟩
  | cons x r =>
    have hne : (!(wa.toArray).isEmpty) = true := by
      have : wa ≠ [] := fun q => by rw [q] at hwl; simp at hwl
      simpa using this
    rw [hne, if_pos rfl]
    refine wpAny_mono (diff_turn G hh' hfr' hk' hf' hab haL hbL hDL hDa hDb hlL hla hlb hlD ha0 hb0 hD0 hl0 hL0 hLn shD (Nat.le_refl _) I4 ⟨_, rfl, rfl⟩).run (fun fl s' q => ?_) fun _ _ q => q.elim
    obtain ⟨rfl, h', tk', m', ys'', ms', rfl, I', hres'⟩ := q
    exact ⟨r.length, by simp, h', tk', m', r, ys'', ms', rfl, I', hres'.trans hres, rfl⟩
end Mine

namespace Mine
set_option maxRecDepth 100000
set_option maxHeartbeats 1000000

def bump (c : Str → Nat) (y : Str) : Str → Nat := fun z => if z = y then c z + 1 else c z
def sel (p : Str → Nat → Bool) : List Str → (Str → Nat) → List Str
  | [], _ => []
  | y :: r, c => if p y (c y) then y :: sel p r (bump c y) else sel p r (bump c y)
theorem sel_snoc (p : Str → Nat → Bool) (y : Str) : ∀ (l : List Str) (c : Str → Nat), sel p (l ++ [y]) c = sel p l c ++ (if p y (c y + l.count y) then [y] else [])
  | [], c => by
    show (if p y (c y) then [y] else []) = [] ++ if p y (c y + 0) then [y] else []
    rw [List.nil_append, Nat.add_zero]
  | a :: l, c => by
    have e : bump c a y + l.count y = c y + (a :: l).count y := by
      unfold bump
      by_cases h : y = a
      · subst h; simp; omega
      · rw [if_neg h, List.count_cons_of_ne (Ne.symm h)]
    simp only [List.cons_append, sel, sel_snoc p y l, e]
    split <;> simp
theorem sel_take (p : Str → Nat → Bool) (l : List Str) : ∀ n, n ≤ l.length → sel p (l.take n) (fun _ => 0) = ((List.range n).filter fun k => p (l.getD k "") ((l.take k).count (l.getD k ""))).map fun k => l.getD k ""
  | 0, _ => by simp [sel]
  | n + 1, h => by
    have hn : n < l.length := h
    have e : l.take (n + 1) = l.take n ++ [l.getD n ""] := by
      rw [List.take_succ_eq_append_getElem hn, List.getD_eq_getElem?_getD, List.getElem?_eq_getElem hn]; rfl
    rw [e, sel_snoc, sel_take p l n (by omega), List.range_succ, List.filter_append, List.map_append]
    congr 1
    simp only [List.filter_cons, List.filter_nil, Nat.zero_add]
    split <;> simp
theorem sel_eq (p : Str → Nat → Bool) (l : List Str) : sel p l (fun _ => 0) = ((List.range l.length).filter fun k => p (l.getD k "") ((l.take k).count (l.getD k ""))).map fun k => l.getD k "" := by
  have := sel_take p l l.length (Nat.le_refl _)
  rwa [List.take_length] at this

def kp (f : Str → Nat) : Str → Nat → Bool := fun v c => decide (f v ≤ c)
theorem kp_mem (f : Str → Nat) (x : Str) : ∀ (ys : List Str) (c : Str → Nat), x ∈ sel (kp f) ys c ↔ 0 < ys.count x ∧ f x < c x + ys.count x
  | [], c => by simp [sel]
  | y :: r, c => by
    have ih := kp_mem f x r (bump c y)
    by_cases h : y = x
    · subst h
      have e : bump c y y = c y + 1 := by simp [bump]
      rw [e] at ih
      simp only [sel, kp, List.count_cons_self]
      by_cases hk : f y ≤ c y
      · simp [hk]; omega
      · simp only [hk, decide_false, Bool.false_eq_true, if_false]
        rw [ih]; omega
    · have e : bump c y x = c x := by unfold bump; rw [if_neg (Ne.symm h)]
      rw [e] at ih
      rw [List.count_cons_of_ne h]
      simp only [sel]
      split
      · rw [List.mem_cons, ih]
        constructor
        · rintro (q | q)
          · exact absurd q.symm h
          · exact q
        · exact Or.inr
      · exact ih
theorem kp_stable (f : Str → Nat) (x : Str) : ∀ (ys : List Str) (c : Str → Nat), f x < c x → sel (kp f) ys c = sel (kp (bump f x)) ys c
  | [], _, _ => rfl
  | y :: r, c, h => by
    have h' : f x < bump c y x := by unfold bump; split <;> omega
    have e : kp f y (c y) = kp (bump f x) y (c y) := by
      unfold kp bump
      by_cases hy : y = x
      · subst hy; rw [if_pos rfl]
        rw [Bool.eq_iff_iff, decide_eq_true_eq, decide_eq_true_eq]; omega
      · rw [if_neg hy]
    simp only [sel, e, kp_stable f x r (bump c y) h']
theorem kp_erase (f : Str → Nat) (x : Str) : ∀ (ys : List Str) (c : Str → Nat), c x ≤ f x → (sel (kp f) ys c).erase x = sel (kp (bump f x)) ys c
  | [], _, _ => rfl
  | y :: r, c, h => by
    by_cases hy : y = x
    · subst hy
      have e : bump c y y = c y + 1 := by simp [bump]
      have e2 : bump f y y = f y + 1 := by simp [bump]
      have hn : kp (bump f y) y (c y) = false := by unfold kp; rw [e2]; simp; omega
      simp only [sel, hn, Bool.false_eq_true, if_false]
      by_cases hk : f y ≤ c y
      · have hk' : kp f y (c y) = true := by unfold kp; simpa using hk
        rw [if_pos hk', List.erase_cons_head]
        exact kp_stable f y r (bump c y) (by rw [e]; omega)
      · have hk' : kp f y (c y) = false := by unfold kp; simpa using hk
        rw [hk', if_neg (by simp)]
        exact kp_erase f y r (bump c y) (by rw [e]; omega)
    · have e : bump c y x = c x := by unfold bump; rw [if_neg (Ne.symm hy)]
      have e2 : kp (bump f x) y (c y) = kp f y (c y) := by unfold kp bump; rw [if_neg hy]
      have ih := kp_erase f x r (bump c y) (by rw [e]; exact h)
      simp only [sel, e2]
      split
      · rw [List.erase_cons_tail (by simpa using hy), ih]
      · exact ih
theorem diffR_eq (ys : List Str) : ∀ (zs : List Str) (f : Str → Nat) (ms : List Str),
    diffR zs (sel (kp f) ys (fun _ => 0)) ms = (ms ++ sel (kp fun v => ys.count v) zs f, sel (kp fun v => f v + zs.count v) ys (fun _ => 0))
  | [], f, ms => by simp [diffR, sel]
  | x :: r, f, ms => by
    have e : (fun v => bump f x v + r.count v) = fun v => f v + (x :: r).count v := by
      funext v
      unfold bump
      by_cases h : v = x
      · subst h; simp; omega
      · rw [if_neg h, List.count_cons_of_ne (Ne.symm h)]
    have he := kp_erase f x ys (fun _ => 0) (Nat.zero_le _)
    have hm := kp_mem f x ys (fun _ => 0)
    simp only [diffR, sel]
    by_cases hx : x ∈ sel (kp f) ys (fun _ => 0)
    · have hlt := (hm.mp hx).2
      have hn : kp (fun v => ys.count v) x (f x) = false := by unfold kp; simp; omega
      rw [if_pos hx, he, diffR_eq ys r (bump f x) ms, e, hn]; rfl
    · have hge : ys.count x ≤ f x := by
        rcases Nat.lt_or_ge (f x) (ys.count x) with q | q
        · exact absurd (hm.mpr ⟨by omega, by omega⟩) hx
        · exact q
      have hn : kp (fun v => ys.count v) x (f x) = true := by unfold kp; simpa using hge
      rw [List.erase_of_not_mem hx] at he
      rw [if_neg hx, he, diffR_eq ys r (bump f x) (ms ++ [x]), e, hn]; simp
theorem sel_all (ys : List Str) : ∀ (l : List Str) (c : Str → Nat), sel (kp fun _ => 0) l c = l
  | [], _ => rfl
  | y :: r, c => by
    have : kp (fun _ => 0) y (c y) = true := by unfold kp; simp
    simp only [sel, this, if_true, sel_all ys r]
theorem diffR_sel (zs ys : List Str) : diffR zs ys [] = (sel (kp fun v => ys.count v) zs (fun _ => 0), sel (kp fun v => zs.count v) ys (fun _ => 0)) := by
  have := diffR_eq ys zs (fun _ => 0) []
  rw [sel_all ys ys] at this
  rw [this]
  simp

theorem filter_map_congr {α β : Type} {l : List α} {p q : α → Bool} {f g : α → β} (h : ∀ a ∈ l, p a = q a ∧ f a = g a) : (l.filter p).map f = (l.filter q).map g := by
  induction l with
  | nil => rfl
  | cons a r ih =>
    have ha := h a (.head _)
    have ih' := ih fun b hb => h b (.tail _ hb)
    simp only [List.filter_cons, ha.1]
    split
    · rw [List.map_cons, List.map_cons, ha.2, ih']
    · exact ih'
theorem over_eq (one two : List Str) : overOf one two = sel (kp fun v => one.count v) two (fun _ => 0) := by
  rw [sel_eq]
  unfold overOf rangeL
  rw [List.filter_map, List.map_map]
  refine filter_map_congr fun i hi => ?_
  have hi' : i < two.length := List.mem_range.mp hi
  have e : (0 + (i : Int) * 1).toNat = i := by omega
  refine ⟨?_, ?_⟩
  · simp only [Function.comp, overP, e, kp]
    rw [Bool.eq_iff_iff, decide_eq_true_eq, decide_eq_true_eq]; omega
  · simp only [Function.comp, e]
theorem lacks_eq (one two : List Str) : lacksOf one two = sel (kp fun v => two.count v) one.reverse (fun _ => 0) := by
  rw [sel_eq]
  unfold lacksOf rangeL
  rw [List.filter_map, List.map_map, List.length_reverse]
  refine filter_map_congr fun i hi => ?_
  have hi' : i < one.length := List.mem_range.mp hi
  have e : ((one.length : Int) - 1 + (i : Int) * (-1)).toNat = one.length - 1 - i := by omega
  have ev : one.reverse.getD i "" = one.getD (one.length - 1 - i) "" := by
    rw [List.getD_eq_getElem?_getD, List.getD_eq_getElem?_getD, List.getElem?_reverse hi']
  refine ⟨?_, ?_⟩
  · simp only [Function.comp, lackP, e, kp, ev]
    generalize hv : one.getD (one.length - 1 - i) "" = v
    have hj : one.length - 1 - i < one.length := by omega
    have h1 : one.count v = (one.take (one.length - 1 - i)).count v + (one.drop (one.length - 1 - i)).count v := by
      rw [← List.count_append, List.take_append_drop]
    have h2 : one.drop (one.length - 1 - i) = v :: one.drop (one.length - 1 - i + 1) := by
      rw [List.drop_eq_getElem_cons hj]
      congr 1
      rw [← hv, List.getD_eq_getElem?_getD, List.getElem?_eq_getElem hj]; rfl
    have h3 : (one.reverse.take i).count v = (one.drop (one.length - i)).count v := by
      rw [List.take_reverse, List.count_reverse]
    have h4 : one.length - 1 - i + 1 = one.length - i := by omega
    rw [h2, List.count_cons_self, h4] at h1
    rw [h3, Bool.eq_iff_iff, decide_eq_true_eq, decide_eq_true_eq]
    omega
  · simp only [Function.comp, e, ev]
theorem bag_law (one two : List Str) : diffR one.reverse two [] = (lacksOf one two, overOf one two) := by
  rw [diffR_sel, lacks_eq, over_eq]
  have : (fun v => one.reverse.count v) = fun v => one.count v := by funext v; rw [List.count_reverse]
  rw [this]
end Mine

namespace Mine
set_option maxRecDepth 100000
set_option maxHeartbeats 1000000

section
variable {prog : Program} {w : World} {A : Around} {s : Shared} {elt it0 it1 : Expr} {x y : Str} {px py pos : Pos} {scope : Scope}
abbrev comp2 (elt it0 it1 : Expr) (x y : Str) (px py : Pos) (scope : Scope) (pos : Pos) : Expr := .ListComp elt [⟨.Name x px, it0, [], 0⟩, ⟨.Name y py, it1, [], 0⟩] scope pos
theorem turn2_0 (it acc : Value) (env : Env) : compTurn (comp2 elt it0 it1 x y px py scope pos) 0 it acc env = (do
    standAt it0.pos
    match ← pyNext it with
    | none => pure (.done .next)
    | some v =>
      letOwnedTupleGo (.Name x px) it v
      assign (.Name x px) env v
      let xv ← eval it1 env
      standAt it1.pos
      let xv ← foldedSetIterable it1 env xv
      let _ ← runOwn (.compStart (comp2 elt it0 it1 x y px py scope pos) 1 (← holding [xv] (pyIter xv)) acc env) env
      again (.compLoop (comp2 elt it0 it1 x y px py scope pos) 0 it acc env)) := by rfl
theorem turn2_1 (it acc : Value) (env : Env) : compTurn (comp2 elt it0 it1 x y px py scope pos) 1 it acc env = (do
    standAt it1.pos
    match ← pyNext it with
    | none => pure (.done .next)
    | some v =>
      letOwnedTupleGo (.Name y py) it v
      assign (.Name y py) env v
      (do let _ ← call (.builtin "list.append") [acc, ← eval elt env])
      again (.compLoop (comp2 elt it0 it1 x y px py scope pos) 1 it acc env)) := by rfl
theorem start2_1 {R : Result → Shared → Prop} {it acc : Value} {env : Env} (h0 : codeAny (model prog w) A (.compLoop (comp2 elt it0 it1 x y px py scope pos) 1 it acc env) R s)
    (h : wpAny (model prog w) A (pyIter it) (fun it' s' => codeAny (model prog w) A (.compLoop (comp2 elt it0 it1 x y px py scope pos) 1 it' acc env) R s') (fun _ _ => False) s) :
    codeAny (model prog w) A (.compStart (comp2 elt it0 it1 x y px py scope pos) 1 it acc env) R s := by
  refine codeAny_of_tree ?_
  show wpAny _ _ ((compStart (comp2 elt it0 it1 x y px py scope pos) 1 it acc env).onRaise (fun x => do noteFrame x env; standAt theWindowsPlace)) _ _ s
  refine wpAny_notedAt ?_
  unfold compStart
  show wpAny _ _ (ask >>= _) _ _ s
  refine wpAny_bind (wpAny_askSetting (wpAny_ite ?_))
  split
  · first
      | exact wpAny_bind (wpAny_pure (wpAny_pure (And.intro rfl h0)))
      | exact wpAny_pure (And.intro rfl h0)
  · first
      | exact wpAny_bind (wpAny_rule (wpAny_bind (wpAny_standAt (wpAny_bind (wpAny_mono h (fun it' s' h' => wpAny_pure (And.intro rfl h')) fun _ _ x => x.elim)))))
      | (refine wpAny_bind (wpAny_rule ?_); show wpAny _ _ (standAt it1.pos >>= _) _ _ s; exact wpAny_bind (wpAny_standAt (wpAny_bind (wpAny_mono h (fun it' s' h' => wpAny_pure (And.intro rfl h')) fun _ _ x => x.elim))))

theorem inner2 {R : Result → Shared → Prop} {cenv : Env} {I1 l1 D : Addr} {vs ys : List Value} {h : Heap} {g : Array GenState} {d : Drawn} {tk : Nat} {os : OsState} {m : Str → Option Value} (hh : A.handled = none)
    (hy : cenv.kindOf y = some .local) (hp : (cenv.scope.kind == .class || (cenv.scope.kind == .module && cenv.locals != cenv.globals)) = false) (hxy : x ≠ y)
    (hDC : D ≠ cenv.locals) (hD1 : D ≠ I1) (hDl : D ≠ l1) (hC1 : cenv.locals ≠ I1) (hCl : cenv.locals ≠ l1) (hIl : l1 ≠ I1)
    (hit : h.IsListIter I1 l1 0) (hl : h.IsList l1 vs.toArray) (hacc : h.PlainList D ys.toArray) (hn : h.Ns cenv.locals m) (hsz : ys.length + vs.length ≤ 16777216)
    (he : ∀ (h' : Heap) (m' : Str → Option Value) (v : Value), h'.Ns cenv.locals m' → m' y = some v → Ev prog w A h' (eval elt cenv) (vV v))
    (hR : ∀ h' tk' m', h'.Ns cenv.locals m' → m' x = m x → h'.PlainList D (ys ++ vs).toArray → (∀ b o, b ≠ cenv.locals → b ≠ D → b ≠ I1 → h.get? b = some o → h'.get? b = some o) → R (.ok .next) ⟨h', g, d, tk', os⟩) :
    codeAny (model prog w) A (.compLoop (comp2 elt it0 it1 x y px py scope pos) 1 (.ref I1) (.ref D) cenv) R ⟨h, g, d, tk, os⟩ := by
  refine codeAny_loop rfl (fun k s' => ∃ h' tk' m' j, s' = ⟨h', g, d, tk', os⟩ ∧ h'.IsListIter I1 l1 j ∧ h'.IsList l1 vs.toArray ∧ h'.PlainList D (ys ++ vs.take j).toArray ∧ h'.Ns cenv.locals m' ∧ m' x = m x ∧ j ≤ vs.length ∧ k = vs.length + 1 - j ∧ (∀ b o, b ≠ cenv.locals → b ≠ D → b ≠ I1 → h.get? b = some o → h'.get? b = some o)) (fun k s' hI => ?_) (vs.length + 1)
    ⟨h, tk, m, 0, rfl, hit, hl, by simpa using hacc, hn, rfl, Nat.zero_le _, rfl, fun _ _ _ _ _ e => e⟩
  obtain ⟨h', tk', m', j, rfl, hit', hl', hacc', hn', hmx, hj, rfl, hk⟩ := hI
  show wpAny _ A ((compTurn (comp2 elt it0 it1 x y px py scope pos) 1 (.ref I1) (.ref D) cenv).onRaise (fun x => do noteFrame x cenv; theTreesLotGoes x)) _ _ _
  refine wpAny_noted ?_
  rw [turn2_1]
  refine wpAny_bind (wpAny_standAt (wpAny_bind ?_))
  rcases Nat.lt_or_ge j vs.length with hlt | hge
  · refine wpAny_pyNext_list_item (s := ⟨h', g, d, tk', os⟩) hit' hl' (x := vs[j]) (by simp [hlt]) fun h2 hit2 hs2 => ?_
    refine wpAny_bind (wpAny_of_eq (a := ()) rfl (wpAny_bind (wpAny_assign_Name (wpAny_storeName_local (s := ⟨h2, g, d, tk', os⟩) hy (hn'.sameBut hs2 hC1) (fun h3 hn3 hs3 => ?_) hp))))
    have up3 : ∀ b o, b ≠ cenv.locals → b ≠ I1 → h'.get? b = some o → h3.get? b = some o := fun b o hb hb' e => hs3.extBut b o hb (hs2.extBut b o hb' e)
    refine wpAny_bind (wpAny_bind ((he h3 _ _ hn3 (if_pos rfl)).run ⟨h3, g, d, tk' + 1, os⟩ _ _ (Le.refl _) fun v s4 k4 p4 => ?_))
    obtain ⟨h4, tk4, rfl, k4⟩ := k4
    obtain rfl : v = vs[j] := p4
    refine wpAny_bind (wpAny_list_append_plain (s := ⟨h4, g, d, tk4, os⟩) (hacc'.at fun o e => k4 _ _ (up3 _ _ hDC hD1 e)) (fun h5 hl5 hs5 => wpAny_pure (wpAny_pure ⟨rfl, vs.length + 1 - (j + 1), by omega, h5, tk4, (fun z => if z = y then some vs[j] else m' z), j + 1, rfl, ?_, ?_, ?_, ?_, ?_, hlt, rfl, ?_⟩)) (by rw [sizeLine_eq]; simp; omega))
    · obtain ⟨o, e, r⟩ := hit2; exact ⟨o, hs5.extBut _ _ (Ne.symm hD1) (k4 _ _ (hs3.extBut _ _ (Ne.symm hC1) e)), r⟩
    · exact hl'.at fun o e => hs5.extBut _ _ (Ne.symm hDl) (k4 _ _ (up3 _ _ (Ne.symm hCl) hIl e))
    · have e : vs.take (j + 1) = vs.take j ++ [vs[j]] := List.take_succ_eq_append_getElem hlt
      rw [e, ← List.append_assoc]
      simpa using hl5
    · exact (hn3.keeps k4).sameBut hs5 (Ne.symm hDC)
    · rw [← hmx]; exact if_neg hxy
    · exact fun b o h1 h2 h3' e => hs5.extBut b o h2 (k4 _ _ (up3 b o h1 h3' (hk b o h1 h2 h3' e)))
  · have hj' : j = vs.length := by omega
    subst hj'
    refine wpAny_pyNext_list_end (s := ⟨h', g, d, tk', os⟩) hh hit' hl' (by simp) fun h2 he2 => wpAny_pure ?_
    exact hR h2 tk' m' (hn'.extBut he2 hC1) hmx (by have := hacc'.extBut he2 hD1; rwa [List.take_length] at this) fun b o h1 h2 h3 e => he2 b o h3 (hk b o h1 h2 h3 e)

theorem ints_append : ∀ {vs : List Value} {ns : List Int} {us : List Value} {ks : List Int}, IntsAre vs ns → IntsAre us ks → IntsAre (vs ++ us) (ns ++ ks) := fun h k => h.append k
theorem pairI_of {h : Heap} : ∀ {vs : List Value} {ns : List Int}, IntsAre vs ns → Paired (fun x u => vI x u h) ns vs
  | _, _, .nil => .nil
  | _, _, .cons n t r => .cons ⟨t, rfl⟩ (pairI_of r)
theorem intsOf {h : Heap} : ∀ {vs : List Value} {ns : List Int}, Paired (fun x u => vI x u h) ns vs → IntsAre vs ns
  | _, _, .nil => .nil
  | _, _, .cons ⟨t, e⟩ r => by subst e; exact .cons _ t (intsOf r)

theorem outer2 {R : Result → Shared → Prop} {cenv : Env} {I0 l0 D : Addr} {vs0 : List Value} {xs : List Int} {f : Int → List Int} {h : Heap} {g : Array GenState} {d : Drawn} {tk : Nat} {os : OsState} {m : Str → Option Value} (hh : A.handled = none)
    (hx : cenv.kindOf x = some .local) (hy : cenv.kindOf y = some .local) (hp : (cenv.scope.kind == .class || (cenv.scope.kind == .module && cenv.locals != cenv.globals)) = false) (hxy : x ≠ y)
    (hDC : D ≠ cenv.locals) (hD0 : D ≠ I0) (hDl : D ≠ l0) (hC0 : cenv.locals ≠ I0) (hCl : cenv.locals ≠ l0) (hIl : l0 ≠ I0)
    (hit : h.IsListIter I0 l0 0) (hl : h.IsList l0 vs0.toArray) (hxs : IntsAre vs0 xs) (hacc : h.PlainList D #[]) (hn : h.Ns cenv.locals m) (hsz : (xs.flatMap f).length ≤ 16777216)
    (he : ∀ (h' : Heap) (m' : Str → Option Value) (v : Value), h'.Ns cenv.locals m' → m' y = some v → Ev prog w A h' (eval elt cenv) (vV v))
    (h1 : ∀ (h' : Heap) (m' : Str → Option Value) (k : Int) (t : Tok), h'.Ns cenv.locals m' → m' x = some (.int k t) → Ev prog w A h' (eval it1 cenv) (fun v h'' => ∃ l vs, v = .ref l ∧ h''.IsList l vs.toArray ∧ h'.get? l = none ∧ Paired (fun x u => vI x u h'') (f k) vs))
    (hs1 : ∀ x, foldedSetIterable it1 cenv x = pure x)
    (hR : ∀ h' tk' m' us, h'.Ns cenv.locals m' → h'.PlainList D us.toArray → IntsAre us (xs.flatMap f) → (∀ b o, b ≠ cenv.locals → b ≠ D → b ≠ I0 → h.get? b = some o → h'.get? b = some o) → R (.ok .next) ⟨h', g, d, tk', os⟩) :
    codeAny (model prog w) A (.compLoop (comp2 elt it0 it1 x y px py scope pos) 0 (.ref I0) (.ref D) cenv) R ⟨h, g, d, tk, os⟩ := by
  have hlen : vs0.length = xs.length := by have := hxs.length; omega
  have hpre : ∀ j, ((xs.take j).flatMap f).length ≤ 16777216 := fun j => by
    have : xs.flatMap f = (xs.take j).flatMap f ++ (xs.drop j).flatMap f := by rw [← List.flatMap_append, List.take_append_drop]
    rw [this, List.length_append] at hsz; omega
  refine codeAny_loop rfl (fun k s' => ∃ h' tk' m' j, ∃ us : List Value, s' = ⟨h', g, d, tk', os⟩ ∧ h'.IsListIter I0 l0 j ∧ h'.IsList l0 vs0.toArray ∧ h'.PlainList D us.toArray ∧ IntsAre us ((xs.take j).flatMap f) ∧ h'.Ns cenv.locals m' ∧ j ≤ xs.length ∧ k = xs.length + 1 - j ∧ (∀ b o, b ≠ cenv.locals → b ≠ D → b ≠ I0 → h.get? b = some o → h'.get? b = some o)) (fun k s' hI => ?_) (xs.length + 1)
    ⟨h, tk, m, 0, [], rfl, hit, hl, hacc, .nil, hn, Nat.zero_le _, rfl, fun _ _ _ _ _ e => e⟩
  obtain ⟨h', tk', m', j, us, rfl, hit', hl', hacc', hus, hn', hj, rfl, hk⟩ := hI
  show wpAny _ A ((compTurn (comp2 elt it0 it1 x y px py scope pos) 0 (.ref I0) (.ref D) cenv).onRaise (fun x => do noteFrame x cenv; theTreesLotGoes x)) _ _ _
  refine wpAny_noted ?_
  rw [turn2_0]
  refine wpAny_bind (wpAny_standAt (wpAny_bind ?_))
  rcases Nat.lt_or_ge j xs.length with hlt | hge
  · obtain ⟨t0, hv⟩ : ∃ t0, vs0[j]? = some (.int xs[j] t0) := by
      obtain ⟨u, e, t, rfl⟩ := pairGet (pairI_of (h := h) hxs) j xs[j] (List.getElem?_eq_getElem hlt)
      exact ⟨t, e⟩
    refine wpAny_pyNext_list_item (s := ⟨h', g, d, tk', os⟩) hit' hl' (x := .int xs[j] t0) (by simpa using hv) fun h2 hit2 hs2 => ?_
    refine wpAny_bind (wpAny_of_eq (a := ()) rfl (wpAny_bind (wpAny_assign_Name (wpAny_storeName_local (s := ⟨h2, g, d, tk', os⟩) hx (hn'.sameBut hs2 hC0) (fun h3 hn3 hs3 => ?_) hp))))
    have up3 : ∀ b o, b ≠ cenv.locals → b ≠ I0 → h'.get? b = some o → h3.get? b = some o := fun b o hb hb' e => hs3.extBut b o hb (hs2.extBut b o hb' e)
    refine wpAny_bind ((h1 h3 _ xs[j] t0 hn3 (if_pos rfl)).run ⟨h3, g, d, tk' + 1, os⟩ _ _ (Le.refl _) fun v s4 k4 p4 => ?_)
    obtain ⟨h4, tk4, rfl, k4⟩ := k4
    obtain ⟨l1, vs1, rfl, hl1, hfr1, hp1⟩ := p4
    refine wpAny_bind (wpAny_standAt (wpAny_bind (wpAny_of_eq (hs1 _) (wpAny_bind (wpAny_holding (wpAny_pyIter_list (s := ⟨h4, g, d, tk4, os⟩) hl1 ?_))))))
    dsimp only
    obtain ⟨I1, hI1⟩ : ∃ I1, I1 = h4.objs.size := ⟨_, rfl⟩
    rw [← hI1]
    have hI1n : h4.get? I1 = none := by rw [hI1]; exact none_size _
    have ne1 : ∀ {b : Addr} {o : Obj}, h4.get? b = some o → b ≠ I1 := fun e => fresh_ne e hI1n
    obtain ⟨oC, eC⟩ : ∃ o, h4.get? cenv.locals = some o := let ⟨o, _, _, e, _⟩ := hn3.keeps k4; ⟨o, e⟩
    obtain ⟨nD, eD⟩ : h4.PlainList D us.toArray := hacc'.at fun o e => k4 _ _ (up3 _ _ hDC hD0 e)
    obtain ⟨o1, e1, r1⟩ := id hl1
    obtain ⟨o0, e0, r0⟩ : h4.IsList l0 vs0.toArray := hl'.at fun o e => k4 _ _ (up3 _ _ (Ne.symm hCl) hIl e)
    obtain ⟨oI, eI, rI⟩ : h4.IsListIter I0 l0 (j + 1) := let ⟨o, e, r⟩ := hit2; ⟨o, k4 _ _ (hs3.extBut _ _ (Ne.symm hC0) e), r⟩
    have hDl1 : D ≠ l1 := by
      obtain ⟨n, e⟩ := hacc'
      exact fresh_ne (up3 _ _ hDC hD0 e) hfr1
    have hCl1 : cenv.locals ≠ l1 := by obtain ⟨o, _, _, e, _⟩ := hn3; exact fresh_ne e hfr1
    have hl10 : l1 ≠ l0 := by
      obtain ⟨o, e, _⟩ := hl'
      exact (fresh_ne (up3 _ _ (Ne.symm hCl) hIl e) hfr1).symm
    have hlen1 : vs1.length = (f xs[j]).length := hp1.length.symm
    have hnext : (xs.take (j + 1)).flatMap f = (xs.take j).flatMap f ++ f xs[j] := by
      rw [List.take_succ_eq_append_getElem hlt, List.flatMap_append]; simp
    have hfit : us.length + vs1.length ≤ 16777216 := by
      have := hpre (j + 1)
      rw [hnext, List.length_append] at this
      have e1 : us.length = ((xs.take j).flatMap f).length := by have := hus.length; omega
      omega
    have pushed : Le h4 (h4.push { cls := .type "list_iterator", data := .fields #[.ref l1, .int 0 0] }) := Le.push _
    have loop1 : codeAny (model prog w) A (.compLoop (comp2 elt it0 it1 x y px py scope pos) 1 (.ref I1) (.ref D) cenv) (fun r s' => match r with | .ok _ => ∃ k', k' < xs.length + 1 - j ∧ ∃ h' tk' m' j, ∃ us : List Value, s' = ⟨h', g, d, tk', os⟩ ∧ h'.IsListIter I0 l0 j ∧ h'.IsList l0 vs0.toArray ∧ h'.PlainList D us.toArray ∧ IntsAre us ((xs.take j).flatMap f) ∧ h'.Ns cenv.locals m' ∧ j ≤ xs.length ∧ k' = xs.length + 1 - j ∧ (∀ b o, b ≠ cenv.locals → b ≠ D → b ≠ I0 → h.get? b = some o → h'.get? b = some o) | .error _ => False) ⟨h4.push { cls := .type "list_iterator", data := .fields #[.ref l1, .int 0 0] }, g, d, tk4, os⟩ := by
      refine inner2 (m := fun z => if z = x then some (.int xs[j] t0) else m' z) (vs := vs1) (ys := us) (l1 := l1) hh hy hp hxy hDC (ne1 eD) hDl1 (ne1 eC) hCl1 (ne1 e1) ⟨_, by rw [hI1]; exact Heap.get?_push_size _ rfl, rfl, rfl⟩ (isListLe hl1 pushed) ⟨nD, pushed _ _ eD⟩ ((hn3.keeps k4).keeps pushed) hfit he fun h6 tk6 m6 hn6 _ hacc6 hk6 => ?_
      refine ⟨xs.length + 1 - (j + 1), by omega, h6, tk6, m6, j + 1, us ++ vs1, rfl, ⟨oI, hk6 _ _ (Ne.symm hC0) (Ne.symm hD0) (ne1 eI) (pushed _ _ eI), rI⟩, ⟨o0, hk6 _ _ (Ne.symm hCl) (Ne.symm hDl) (ne1 e0) (pushed _ _ e0), r0⟩, hacc6, ?_, hn6, hlt, rfl, fun b o c1 c2 c3 e => ?_⟩
      · rw [hnext]; exact hus.append (intsOf hp1)
      · have e4 := k4 _ _ (up3 b o c1 c3 (hk b o c1 c2 c3 e))
        exact hk6 b o c1 c2 (ne1 e4) (pushed _ _ e4)
    refine wpAny_bind (wpAny_runOwn (h := none) ?_)
    refine codeAny_mono (start2_1 loop1 (wpAny_pyIter_listiter (i := 0) (l := l1) ⟨_, by rw [hI1]; exact Heap.get?_push_size _ rfl, rfl, rfl⟩ loop1)) fun r s' q => ?_
    cases r with
    | error e => exact q.elim
    | ok fl => exact wpAny_pure ⟨rfl, q⟩
  · have hj' : j = xs.length := by omega
    subst hj'
    refine wpAny_pyNext_list_end (s := ⟨h', g, d, tk', os⟩) hh hit' hl' (by simp; omega) fun h2 he2 => wpAny_pure ?_
    rw [List.take_length] at hus
    exact hR h2 tk' m' us (hn'.extBut he2 hC0) (hacc'.extBut he2 hD0) hus fun b o h1 h2 h3 e => he2 b o h3 (hk b o h1 h2 h3 e)
end
end Mine

namespace Mine
set_option maxRecDepth 100000
set_option maxHeartbeats 1000000

section
variable {prog : Program} {w : World} {A : Around} {h : Heap} {env : Env} {elt it0 it1 : Expr} {x y : Str} {px py pos : Pos} {scope : Scope} {cl : List (Str × Addr)}
theorem ev_comp2 {xs : List Int} {f : Int → List Int} (hh : A.handled = none) (h0 : Ev prog w A h (eval it0 env) (vL vI xs)) (hsz : (xs.flatMap f).length ≤ 16777216) (hclos : closureFor scope env = pure cl)
    (he : ∀ (C : Addr) (h' : Heap) (m' : Str → Option Value) (v : Value), h'.Ns C m' → m' y = some v → Ev prog w A h' (eval elt (compEnvC scope cl C env)) (vV v))
    (h1 : ∀ (C : Addr) (h' : Heap) (m' : Str → Option Value) (k : Int) (t : Tok), h'.Ns C m' → m' x = some (.int k t) → Ev prog w A h' (eval it1 (compEnvC scope cl C env)) (fun v h'' => ∃ l vs, v = .ref l ∧ h''.IsList l vs.toArray ∧ h'.get? l = none ∧ Paired (fun x u => vI x u h'') (f k) vs))
    (hs1 : ∀ C x, foldedSetIterable it1 (compEnvC scope cl C env) x = pure x := by intro _ _; rfl)
    (hxy : x ≠ y := by decide) (hcell : ∀ y ∈ scope.names, y.2 ≠ .cell := by decide) (hkind : scope.kind = .function := by rfl)
    (hnames : ∀ y ∈ scope.names, y.2 = .local → scope.names.lookup y.1 = some .local := by decide) (hx : scope.names.lookup x = some .local := by rfl) (hy : scope.names.lookup y = some .local := by rfl)
    (hs : ∀ x, foldedSetIterable it0 env x = pure x := by intro _; rfl) :
    Ev prog w A h (eval (comp2 elt it0 it1 x y px py scope pos) env) (vLP vI (xs.flatMap f)) := by
  refine ⟨fun s Q E hs' hQ => ?_⟩
  rw [eval_ListComp]
  refine wpAny_comprehension_free (use := none) rfl hs hclos hkind hnames (h0.run s _ E hs' fun v s1 k1 p1 => ?_)
  obtain ⟨h1', tk1, rfl, k1⟩ := k1
  obtain ⟨l0, vs0, rfl, hl0, hp0⟩ := p1
  refine wpAny_pyIter_list hl0 ?_
  dsimp only
  obtain ⟨I0, hI0⟩ : ∃ I0, I0 = h1'.objs.size := ⟨_, rfl⟩
  rw [← hI0]
  obtain ⟨H1, hH1⟩ : ∃ H1, H1 = h1'.push { cls := .type "list_iterator", data := .fields #[.ref l0, .int 0 0] } := ⟨_, rfl⟩
  rw [← hH1]
  have le1 : Le h1' H1 := by rw [hH1]; exact Le.push _
  have hit1 : H1.IsListIter I0 l0 0 := ⟨_, by rw [hH1, hI0]; exact Heap.get?_push_size _ rfl, rfl, rfl⟩
  have hIn : h1'.get? I0 = none := by rw [hI0]; exact none_size _
  refine wpAny_newObj_type (wpAny_newFunctionEnv hcell (by intro y hy; simp at hy) (fun h₁ hns₁ hsb₁ => ?_) hkind)
  dsimp only at hns₁ hsb₁ ⊢
  obtain ⟨D, hD⟩ : ∃ D, D = H1.objs.size := ⟨_, rfl⟩
  rw [← hD]
  generalize hH2 : H1.push { cls := .type "list", dict := none, data := .seq #[] } = H2 at hns₁ hsb₁ ⊢
  obtain ⟨C, hC⟩ : ∃ C, C = H2.objs.size := ⟨_, rfl⟩
  rw [← hC] at hns₁ hsb₁ ⊢
  have le2 : Le H1 H2 := by rw [← hH2]; exact Le.push _
  have hDn : H1.get? D = none := by rw [hD]; exact none_size _
  have hCn : H2.get? C = none := by rw [hC]; exact none_size _
  have hD2 : H2.PlainList D #[] := ⟨_, by rw [← hH2, hD]; exact Heap.get?_push_size _ rfl⟩
  have up : ∀ b o, H2.get? b = some o → h₁.get? b = some o := fun b o e => hsb₁.extBut b o (fresh_ne e hCn) (Heap.get?_push_of_some _ e)
  obtain ⟨o0, e0, r0⟩ := id hl0
  obtain ⟨oI, eI, rI⟩ := id hit1
  obtain ⟨nD, eD⟩ := hD2
  have hIl : l0 ≠ I0 := fresh_ne e0 hIn
  have hDI : D ≠ I0 := (fresh_ne eI hDn).symm
  have hDl : D ≠ l0 := (fresh_ne (le1 _ _ e0) hDn).symm
  have hCI : C ≠ I0 := (fresh_ne (le2 _ _ eI) hCn).symm
  have hCl : C ≠ l0 := (fresh_ne (le2 _ _ (le1 _ _ e0)) hCn).symm
  have hDC : D ≠ C := fresh_ne eD hCn
  have loop : codeAny (model prog w) A (.compLoop (comp2 elt it0 it1 x y px py scope pos) 0 (.ref I0) (.ref D) (compEnvC scope cl C env)) (compPost (model prog w) A E none Q (.ref D) C) ⟨h₁, s.gens, s.drawn, tk1 + ([] : List (Str × Value)).length, s.os⟩ := by
    refine outer2 (cenv := compEnvC scope cl C env) (f := f) (xs := xs) (vs0 := vs0) (l0 := l0) hh (lookup_relabel_local hx) (lookup_relabel_local hy) (by simp [compEnvC, relabel, hkind]) hxy hDC hDI hDl hCI hCl hIl ⟨oI, up _ _ (le2 _ _ eI), rI⟩ ⟨o0, up _ _ (le2 _ _ (le1 _ _ e0)), r0⟩ (intsOf hp0) ⟨nD, up _ _ eD⟩ hns₁ hsz (fun h' m' v hn hm => he C h' m' v hn hm) (fun h' m' k t hn hm => h1 C h' m' k t hn hm) (hs1 C) fun h' tk' m' us hn' hpl hus hk => ?_
    refine ⟨m', hn', fun h'' hs'' => ?_⟩
    have kk : ∀ b o, s.heap.get? b = some o → h''.get? b = some o := fun b o e => by
      have ee := k1 _ _ e
      refine hs''.extBut b o (fresh_ne (le2 _ _ (le1 _ _ ee)) hCn) (hk b o (fresh_ne (le2 _ _ (le1 _ _ ee)) hCn) (fresh_ne (le1 _ _ ee) hDn) (fresh_ne ee hIn) (up _ _ (le2 _ _ (le1 _ _ ee))))
    exact hQ _ _ (kHeap (t := tk') kk) ⟨D, us, rfl, PlainL.of (hpl.extBut hs''.extBut hDC), pairI_of hus⟩
  exact codeAny_compStart_list loop (wpAny_pyIter_listiter (i := 0) (l := l0) ⟨oI, up _ _ (le2 _ _ eI), rI⟩ loop)
end
end Mine

namespace Mine
set_option maxRecDepth 100000
set_option maxHeartbeats 1000000
open Builtin in
theorem meets_rev (b : Array UInt8) (t u : Tok) (a : Addr) :
    Meets («bytes.__getitem__» ⟨[.bytes b t, .ref a], []⟩) (fun _ R s => s.heap.IsSliceOf a .none .none (.int (-1) u) ∧ b.size ≤ sizeLine ∧ ∀ t' k, R (.ok (.ret (.bytes b.toList.reverse.toArray t'))) { s with toks := k }) := by
  refine .of_wp fun prog w A R s hS => ?_
  obtain ⟨⟨o, ho, hc, hd⟩, hsz, h⟩ := hS
  have hT : s.TypeIs (.ref a) "slice" := ⟨o, ho, hc⟩
  show wpAny _ _ (Bytes.payload (.bytes b t) >>= fun r => _) _ _ s
  refine wpAny_bind (wpAny_of_eq (a := b) rfl ?_)
  show wpAny _ _ (Bytes.subscript? (.ref a) >>= fun r => _) _ _ s
  refine wpAny_bind ?_
  unfold Bytes.subscript?
  refine wpAny_bind (wpAny_specialOf hT slice_no_index (wpAny_pure ?_))
  refine wpAny_bind (wpAny_typeOf hT ?_)
  show wpAny _ _ (Bytes.sliceParts (.ref a) >>= fun r => _) _ _ s
  refine wpAny_bind ?_
  unfold Bytes.sliceParts
  refine wpAny_bind (wpAny_field (x := .int (-1) u) ho hd rfl ?_)
  kby_int
  refine wpAny_ite (KBy.ite_no (by simp [rawInt]) ?_)
  refine wpAny_bind (wpAny_field (x := .none) ho hd rfl ?_)
  kby_none
  refine wpAny_bind (wpAny_field (x := .none) ho hd rfl ?_)
  kby_none
  refine wpAny_pure ?_
  have go : wpAny (model prog w) A.in1 (sliceIndices (rawPart none) (rawPart none) (rawPart (some (-1))) b.size) (fun r s' => r = sliceBounds none none (some (-1)) b.size ∧ s' = s) (fun _ _ => False) s :=
    wpAny_of_eq (sliceIndices_raw none none (some (-1)) b.size (fun e => by cases e)) ⟨rfl, rfl⟩
  refine wpAny_bind (wpAny_mono go (fun r s' hr => ?_) fun _ _ e => e.elim)
  obtain ⟨hr1, hr2⟩ := hr
  subst hr1 hr2
  rw [krv_bounds]
  have e : Bytes.sliced b ((b.size : Int) - 1) (-1) (-1) = b.toList.reverse.toArray := by
    unfold Bytes.sliced
    rw [krv_sliceRange, krv_range, List.filterMap_reverse, krv_all]
  refine wpAny_ite (KBy.ite_no (by simp) ?_)
  refine wpAny_bind (wpAny_mkBytes (wpAny_pure ⟨_, rfl, ?_⟩) ?_)
  · rw [e]; exact h _ _
  · rw [e]; simpa using hsz

section
variable {prog : Program} {w : World} {A : Around} {h : Heap} {env : Env} {mg mb : Str → Option Value}
theorem ev_revY {value st : Expr} {p pos : Pos} {b : Array UInt8} (hv : Ev prog w A h (eval value env) (vY b)) (hst : Ev prog w A h (eval st env) (vI (-1))) (hsz : b.size ≤ 16777216)
    (ht : ∀ o r, letTemporaryGo value o r = pure () := by intro _ _; rfl) : Ev prog w A h (eval (.Subscript value (.Slice none none (some st) p) pos) env) (vY b.toList.reverse.toArray) := by
  refine ⟨fun s Q E hs hQ => wpAny_Subscript_Slice_step (T := "bytes") FB.slot_bytes_getitem.lookup (hv.run s _ E hs fun v s1 k1 p1 => wpAny_Slice ?_) ht⟩
  rw [evalPart_none, evalPart_some]
  refine wpAny_pure (wpAny_pure (hst.run s1 _ E (hs.trans (kLe k1)) fun u s2 k2 p2 => ?_))
  obtain ⟨t, rfl⟩ := p1
  obtain ⟨t2, rfl⟩ := p2
  refine ⟨typeIs_bytes _ _ _, getItem_meets (typeIs_bytes _ _ _) (by decide) FB.slot_bytes_getitem FB.entry_bytes_getitem (FB.args_bytes_getitem_2 _ _) (meets_rev b t t2 _) ⟨Heap.IsSliceOf.new _ _ _ _, by rw [sizeLine_eq]; exact hsz, fun t' k => ?_⟩⟩
  exact hQ _ _ (kTrans k1 (kTrans k2 (kHeap (t := k) (Le.push _)))) ⟨t', rfl⟩
theorem ev_addL {l r : Expr} {pos : Pos} {xs ys : List Int} (hl : Ev prog w A h (eval l env) (vL vI xs)) (hr : Ev prog w A h (eval r env) (vL vI ys)) (hsz : xs.length + ys.length ≤ 16777216) :
    Ev prog w A h (eval (.BinOp l .Add r pos) env) (vL vI (xs ++ ys)) := by
  refine ev_BinOp (sL sI _) hl hr fun a b h' _ p q => ?_
  obtain ⟨la, va, rfl, hla, hpa⟩ := p
  obtain ⟨lb, vb, rfl, hlb, hpb⟩ := q
  refine ⟨fun s Q E hs hQ => ?_⟩
  obtain ⟨⟨cls, dd, data, sl⟩, ho, hc, n, hd⟩ := isListLe hla hs
  obtain ⟨⟨cls2, dd2, data2, sl2⟩, ho2, hc2, n2, hd2⟩ := isListLe hlb hs
  simp only at hc hd hc2 hd2
  subst hc hd hc2 hd2
  have e : va.toArray ++ vb.toArray = (va ++ vb).toArray := by simp
  have e1 := hpa.length
  have e2 := hpb.length
  refine concat_meets ⟨_, ho, rfl⟩ ⟨_, ho2, rfl⟩ noFill_list_add seq_list_add PySem.F.slot_list_add PySem.F.entry_list_add (PySem.F.args_list_add_2 _ _) (list_addW la lb va.toArray vb.toArray n n2 dd dd2 sl sl2 (by rw [sizeLine_eq]; simp; omega)) ⟨ho, ho2, ?_⟩
  rw [e]
  exact hQ _ _ (kHeap (Le.push _)) ⟨_, va ++ vb, rfl, ⟨_, Heap.get?_push_size _ rfl, rfl, _, rfl⟩, pairI_of ((intsOf hpa).append (intsOf hpb))⟩
theorem ev_bytes {e : Expr} {pos : Pos} {ns : List Int} (hh : A.handled = none) (ha : Ev prog w A h (eval e env) (vLP vI ns)) (hr : ∀ n ∈ ns, 0 ≤ n ∧ n < 256) (hsz : ns.length ≤ 16777216) (he : starEach [e] env = [(false, eval e env)] := by rfl) :
    Ev prog w A h (callWith pos (.type "bytes") [] (backTo pos (starEach [e] env)) []) (vY (byteArr ns)) := by
  refine ev_withT (ev_one (sLP sI ns) ha he) (fun vs h' k p => ?_) he rfl
  obtain ⟨v, rfl, l, ws, rfl, hl, hp⟩ := p
  refine ⟨fun s Q E hs hQ => call_bytes_ints (hl.keeps hs).isList (intsOf hp) hr (by rw [sizeLine_eq, ← hp.length]; exact hsz) hh fun h'' t k hk => hQ _ _ (kHeap (t := k) hk) ⟨t, rfl⟩⟩
theorem reads_strs {xs : List Str} {v : Value} (p : vLP vS xs v h) : ∃ as, Reads h v (.list (xs.map PyData.str)) as := by
  obtain ⟨l, vs, rfl, ⟨o, n, e, c, _, d⟩, hp⟩ := p
  exact ⟨_, .list e c d (StrsAre.reads h (strs_of hp))⟩
end
theorem canLay_strs : ∀ xs : List Str, (∀ x ∈ xs, PyData.strOk x = true) → PyData.canLayAll0 (xs.map PyData.str) = true
  | [], _ => rfl
  | x :: r, h => by
    show (PyData.canLay0 (.str x) && PyData.canLayAll0 (r.map PyData.str)) = true
    have h1 : PyData.canLay0 (.str x) = true := by
      exact h x (.head _)
    rw [canLay_strs r fun y hy => h y (.tail _ hy), h1]; rfl
theorem depth_strs : ∀ xs : List Str, PyData.depthAll (xs.map PyData.str) = 0
  | [] => rfl
  | x :: r => by
    show max (PyData.depth (.str x)) (PyData.depthAll (r.map PyData.str)) = 0
    rw [depth_strs r]; rfl
theorem shaped_pair (t : List PyData → PyData) (ht : t = .list ∨ t = .tuple) (xs ys : List Str) (hx : ∀ x ∈ xs, PyData.strOk x = true) (hy : ∀ x ∈ ys, PyData.strOk x = true) : SeqAt.shaped (t [.list (xs.map PyData.str), .list (ys.map PyData.str)]) = true := by
  have h1 : PyData.canLay0 (.list (xs.map PyData.str)) = true := canLay_strs xs hx
  have h2 : PyData.canLay0 (.list (ys.map PyData.str)) = true := canLay_strs ys hy
  have d1 : PyData.depth (.list (xs.map PyData.str)) = 1 := by show PyData.depthAll _ + 1 = 1; rw [depth_strs]
  have d2 : PyData.depth (.list (ys.map PyData.str)) = 1 := by show PyData.depthAll _ + 1 = 1; rw [depth_strs]
  rcases ht with rfl | rfl
  · have c : PyData.canLay0 (.list [.list (xs.map PyData.str), .list (ys.map PyData.str)]) = true := by
      show (PyData.canLay0 _ && (PyData.canLay0 _ && true)) = true
      rw [h1, h2]; rfl
    have d : PyData.depth (.list [.list (xs.map PyData.str), .list (ys.map PyData.str)]) = 2 := by
      show max (PyData.depth _) (max (PyData.depth _) 0) + 1 = 2
      rw [d1, d2]; rfl
    unfold SeqAt.shaped; rw [c, d]; rfl
  · have c : PyData.canLay0 (.tuple [.list (xs.map PyData.str), .list (ys.map PyData.str)]) = true := by
      show (PyData.canLay0 _ && (PyData.canLay0 _ && true)) = true
      rw [h1, h2]; rfl
    have d : PyData.depth (.tuple [.list (xs.map PyData.str), .list (ys.map PyData.str)]) = 2 := by
      show max (PyData.depth _) (max (PyData.depth _) 0) + 1 = 2
      rw [d1, d2]; rfl
    unfold SeqAt.shaped; rw [c, d]; rfl
section
variable {prog : Program} {w : World} {A : Around} {h : Heap}
/-- two lists, of the same two lists of texts -/
theorem ev_eqLL {xs ys : List Str} {a b : Value} (hu : A.units + 64 < cLine) (hx : ∀ x ∈ xs, PyData.strOk x = true) (hy : ∀ x ∈ ys, PyData.strOk x = true) (pa : vL (fun x => vLP vS x) [xs, ys] a h) (pb : vL (fun x => vLP vS x) [xs, ys] b h) : Ev prog w A h (compareOp .Eq a b) (fun v _ => v = .bool true) := by
  have rd : ∀ {h : Heap} {v : Value}, vL (fun x => vLP vS x) [xs, ys] v h → ∃ as, Reads h v (.list [.list (xs.map PyData.str), .list (ys.map PyData.str)]) as := by
    rintro h v ⟨l, vs, rfl, ⟨o, e, c, n, d⟩, hp⟩
    cases hp with
    | cons p1 q => cases q with
      | cons p2 q => cases q; obtain ⟨a1, r1⟩ := reads_strs p1; obtain ⟨a2, r2⟩ := reads_strs p2; exact ⟨_, .list e c d (.cons r1 (.cons r2 .nil))⟩
  have sh := shaped_pair .list (.inl rfl) xs ys hx hy
  refine ⟨fun s Q E hs hQ => ?_⟩
  obtain ⟨as, ra⟩ := rd (sL (fun x => sLP sS x) _ _ _ _ hs pa)
  obtain ⟨bs, rb⟩ := rd (sL (fun x => sLP sS x) _ _ _ _ hs pb)
  refine SeqAt.compareEq_shaped ra rb sh sh hu ?_
  rw [SeqAt.eqv_refl _ (SeqAt.canLay_of_shaped sh)]
  exact hQ _ s (kRefl s) rfl
theorem ev_eqTT {xs ys : List Str} {t1 t2 : Addr} {a1 b1 a2 b2 : Value} (hu : A.units + 64 < cLine) (hx : ∀ x ∈ xs, PyData.strOk x = true) (hy : ∀ x ∈ ys, PyData.strOk x = true) (p1 : IsTup h t1 #[a1, b1]) (x1 : vLP vS xs a1 h) (y1 : vLP vS ys b1 h) (p2 : IsTup h t2 #[a2, b2]) (x2 : vLP vS xs a2 h) (y2 : vLP vS ys b2 h) : Ev prog w A h (compareOp .Eq (.ref t1) (.ref t2)) (fun v _ => v = .bool true) := by
  have rd : ∀ {h : Heap} {t : Addr} {a b : Value}, IsTup h t #[a, b] → vLP vS xs a h → vLP vS ys b h → ∃ as, Reads h (.ref t) (.tuple [.list (xs.map PyData.str), .list (ys.map PyData.str)]) as := by
    rintro h t a b ⟨o, e, c, n, d⟩ p q
    obtain ⟨a1, r1⟩ := reads_strs p
    obtain ⟨a2, r2⟩ := reads_strs q
    exact ⟨_, .tuple e c d (.cons r1 (.cons r2 .nil))⟩
  have sh := shaped_pair .tuple (.inr rfl) xs ys hx hy
  refine ⟨fun s Q E hs hQ => ?_⟩
  obtain ⟨as, ra⟩ := rd (p1.keeps hs) (sLP sS _ _ _ _ hs x1) (sLP sS _ _ _ _ hs y1)
  obtain ⟨bs, rb⟩ := rd (p2.keeps hs) (sLP sS _ _ _ _ hs x2) (sLP sS _ _ _ _ hs y2)
  refine SeqAt.compareEq_shaped ra rb sh sh hu ?_
  rw [SeqAt.eqv_refl _ (SeqAt.canLay_of_shaped sh)]
  exact hQ _ s (kRefl s) rfl
/-- two lists of the same octets -/
theorem ev_neYY {bs : List (Array UInt8)} {a b : Value} (hu : A.units < cLine) (pa : vL vY bs a h) (pb : vL vY bs b h) : Ev prog w A h (compareOp .NotEq a b) (fun v _ => v = .bool false) := by
  obtain ⟨la, va, rfl, hla, hpa⟩ := pa
  obtain ⟨lb, vb, rfl, hlb, hpb⟩ := pb
  refine ⟨fun s Q E hs hQ => ?_⟩
  have e1 := hpa.length
  have e2 := hpb.length
  have key := SeqAt.RcNeAt.lists (A := A) (s := s) (e := fun _ => true) (isListLe hla hs) (isListLe hlb hs) (by simp; omega) hu (fun j h1 h2 => ?_)
  · have hall : (!(List.range va.toArray.size).all fun _ => true) = false := by simp
    rw [hall] at key
    exact key prog w E Q (hQ _ s (kRefl s) rfl)
  · have j1 : j < va.length := by simpa using h1
    have j2 : j < vb.length := by simpa using h2
    obtain ⟨x, ex, t, et⟩ := pairGetR hpa j va[j] (List.getElem?_eq_getElem j1)
    obtain ⟨y, ey, u, eu⟩ := pairGetR hpb j vb[j] (List.getElem?_eq_getElem j2)
    rw [ex] at ey
    cases ey
    have q1 : va.toArray[j] = .bytes x t := by simpa using et
    have q2 : vb.toArray[j] = .bytes x u := by simpa using eu
    rw [q1, q2]
    intro prog w E Q hq
    exact eqBool_bytes (by simpa using hq)
theorem ev_neNil {a b : Value} (hu : A.units < cLine) (pa : vL vY [] a h) (pb : vL vY [] b h) : Ev prog w A h (compareOp .NotEq a b) (fun v _ => v = .bool false) := ev_neYY hu pa pb
end
end Mine

namespace Mine
set_option maxRecDepth 100000
set_option maxHeartbeats 1000000

theorem flat2_len (f g : Int → Int) : ∀ ns : List Int, (ns.flatMap fun k => [f k, g k]).length = ns.length * 2
  | [] => rfl
  | n :: r => by rw [List.flatMap_cons, List.length_append, flat2_len f g r]; simp; omega
theorem flat2_hi (f g : Int → Int) : ∀ (ns : List Int) (i : Nat), (ns.flatMap fun k => [f k, g k])[2 * i]? = ns[i]?.map f
  | [], i => by simp
  | n :: r, 0 => by simp
  | n :: r, i + 1 => by
    have e : 2 * (i + 1) = 2 * i + 2 := by omega
    rw [List.flatMap_cons, e]
    simpa using flat2_hi f g r i
theorem flat2_lo (f g : Int → Int) : ∀ (ns : List Int) (i : Nat), (ns.flatMap fun k => [f k, g k])[2 * i + 1]? = ns[i]?.map g
  | [], i => by simp
  | n :: r, 0 => by simp
  | n :: r, i + 1 => by
    have e : 2 * (i + 1) + 1 = 2 * i + 1 + 2 := by omega
    rw [List.flatMap_cons, e]
    simpa using flat2_lo f g r i
theorem byteArr_size (ns : List Int) : (byteArr ns).size = ns.length := by simp [byteArr]
theorem byteArr_get (ns : List Int) (i : Nat) : (byteArr ns)[i]? = ns[i]?.map fun n => n.toNat.toUInt8 := by simp [byteArr]
def tbOf (ns : List Int) : Array UInt8 := byteArr (ns.flatMap fun k => [k.fdiv 256, k.fmod 256])
def trOf (ns : List Int) : Array UInt8 := byteArr (ns.flatMap fun k => [k.fmod 256, k.fdiv 256])
def swp (k : Int) : Int := k.fmod 256 * 256 + k.fdiv 256
def In16 (ns : List Int) : Prop := ∀ n ∈ ns, 0 ≤ n ∧ n < 65536
theorem fd (k : Int) : k.fdiv 256 = k / 256 := Int.fdiv_eq_ediv_of_nonneg k (by decide)
theorem fm (k : Int) : k.fmod 256 = k % 256 := Int.fmod_eq_emod_of_nonneg k (by decide)
theorem tb_size (ns : List Int) : (tbOf ns).size = ns.length * 2 := by unfold tbOf; rw [byteArr_size, flat2_len]
theorem tr_size (ns : List Int) : (trOf ns).size = ns.length * 2 := by unfold trOf; rw [byteArr_size, flat2_len]
theorem tb_hi (ns : List Int) (i : Nat) : (tbOf ns)[2 * i]? = ns[i]?.map fun k => (k.fdiv 256).toNat.toUInt8 := by unfold tbOf; rw [byteArr_get, flat2_hi, Option.map_map]; rfl
theorem tb_lo (ns : List Int) (i : Nat) : (tbOf ns)[2 * i + 1]? = ns[i]?.map fun k => (k.fmod 256).toNat.toUInt8 := by unfold tbOf; rw [byteArr_get, flat2_lo, Option.map_map]; rfl
theorem tr_hi (ns : List Int) (i : Nat) : (trOf ns)[2 * i]? = ns[i]?.map fun k => (k.fmod 256).toNat.toUInt8 := by unfold trOf; rw [byteArr_get, flat2_hi, Option.map_map]; rfl
theorem tr_lo (ns : List Int) (i : Nat) : (trOf ns)[2 * i + 1]? = ns[i]?.map fun k => (k.fdiv 256).toNat.toUInt8 := by unfold trOf; rw [byteArr_get, flat2_lo, Option.map_map]; rfl
theorem u8 (x : Int) (h0 : 0 ≤ x) (h1 : x < 256) : ((x.toNat.toUInt8).toNat : Int) = x := by
  have : x.toNat < 256 := by omega
  have e : (x.toNat.toUInt8).toNat = x.toNat % 256 := by
    show (UInt8.ofNat x.toNat).toNat = _
    rw [UInt8.toNat_ofNat']
  rw [e]
  omega
theorem enc_tb {ns : List Int} (h : In16 ns) : Enc (tbOf ns) ns := by
  refine ⟨tb_size ns, fun i n e => ?_⟩
  obtain ⟨n0, n1⟩ := h n (List.mem_of_getElem? e)
  refine ⟨n0, n1, _, _, by rw [tb_hi, e]; rfl, by rw [tb_lo, e]; rfl, ?_⟩
  rw [u8 _ (by rw [fd]; omega) (by rw [fd]; omega), u8 _ (by rw [fm]; omega) (by rw [fm]; omega), fd, fm]
  omega
theorem enc_tr {ns : List Int} (h : In16 ns) : Enc (trOf ns) (ns.map swp) := by
  refine ⟨by rw [tr_size, List.length_map], fun i n e => ?_⟩
  rw [List.getElem?_map] at e
  obtain ⟨k, ek, rfl⟩ := Option.map_eq_some_iff.mp e
  obtain ⟨n0, n1⟩ := h k (List.mem_of_getElem? ek)
  refine ⟨by unfold swp; rw [fd, fm]; omega, by unfold swp; rw [fd, fm]; omega, _, _, by rw [tr_hi, ek]; rfl, by rw [tr_lo, ek]; rfl, ?_⟩
  rw [u8 _ (by rw [fm]; omega) (by rw [fm]; omega), u8 _ (by rw [fd]; omega) (by rw [fd]; omega)]
  rfl
theorem arr_ext {a b : Array UInt8} (n : Nat) (ha : a.size = n) (hb : b.size = n) (h : ∀ i, i < n → a[i]? = b[i]?) : a = b := by
  apply Array.ext_getElem?
  intro i
  rcases Nat.lt_or_ge i n with hi | hi
  · exact h i hi
  · rw [Array.getElem?_eq_none (by omega), Array.getElem?_eq_none (by omega)]
theorem swapped_tb {ns : List Int} {c : Array UInt8} (h : Swapped (tbOf ns) c 2 ns.length) : c = trOf ns := by
  refine arr_ext (ns.length * 2) (by rw [h.1, tb_size]) (tr_size ns) fun i hi => ?_
  rcases (by omega : i = 2 * (i / 2) ∨ i = 2 * (i / 2) + 1) with e | e
  · have := h.2 (i / 2) 1 (by omega) (by decide)
    rw [show i / 2 * 2 + (2 - 1 - 1) = 2 * (i / 2) by omega, show i / 2 * 2 + 1 = 2 * (i / 2) + 1 by omega, tb_lo] at this
    rw [e, this, tr_hi]
  · have := h.2 (i / 2) 0 (by omega) (by decide)
    rw [show i / 2 * 2 + (2 - 1 - 0) = 2 * (i / 2) + 1 by omega, show i / 2 * 2 + 0 = 2 * (i / 2) by omega, tb_hi] at this
    rw [e, this, tr_lo]
theorem swapped_tr {ns : List Int} {c : Array UInt8} (h : Swapped (trOf ns) c 2 ns.length) : c = tbOf ns := by
  refine arr_ext (ns.length * 2) (by rw [h.1, tr_size]) (tb_size ns) fun i hi => ?_
  rcases (by omega : i = 2 * (i / 2) ∨ i = 2 * (i / 2) + 1) with e | e
  · have := h.2 (i / 2) 1 (by omega) (by decide)
    rw [show i / 2 * 2 + (2 - 1 - 1) = 2 * (i / 2) by omega, show i / 2 * 2 + 1 = 2 * (i / 2) + 1 by omega, tr_lo] at this
    rw [e, this, tb_hi]
  · have := h.2 (i / 2) 0 (by omega) (by decide)
    rw [show i / 2 * 2 + (2 - 1 - 0) = 2 * (i / 2) + 1 by omega, show i / 2 * 2 + 0 = 2 * (i / 2) by omega, tr_hi] at this
    rw [e, this, tb_lo]
theorem swapped_one {b c : Array UInt8} (h : Swapped b c 1 b.size) : c = b := by
  refine arr_ext b.size h.1 rfl fun i hi => ?_
  have := h.2 i 0 hi (by decide)
  simpa using this
theorem swapped_all {b c : Array UInt8} (h : Swapped b c b.size 1) : c = b.toList.reverse.toArray := by
  refine arr_ext b.size h.1 (by simp) fun i hi => ?_
  have := h.2 0 (b.size - 1 - i) (by decide) (by omega)
  rw [show 0 * b.size + (b.size - 1 - (b.size - 1 - i)) = i by omega, show 0 * b.size + (b.size - 1 - i) = b.size - 1 - i by omega] at this
  rw [this]
  simp only [List.getElem?_toArray]
  rw [List.getElem?_reverse (by simpa using hi)]
  simp
theorem numOf_in (x : Int) : 0 ≤ numOf x ∧ numOf x < 65536 := by
  unfold numOf
  have h1 := Int.fmod_nonneg_of_pos x (b := 4) (by decide)
  have h2 := Int.fmod_lt_of_pos x (b := 4) (by decide)
  have h3 := Int.fmod_nonneg_of_pos (x.fdiv 4) (b := 4096) (by decide)
  have h4 := Int.fmod_lt_of_pos (x.fdiv 4) (b := 4096) (by decide)
  generalize x.fmod 4 = r at h1 h2
  rcases (by omega : r = 0 ∨ r = 1 ∨ r = 2 ∨ r = 3) with rfl | rfl | rfl | rfl <;> simp <;> omega

theorem strOk_append {x y : Str} (hx : PyData.strOk x = true) (hy : PyData.strOk y = true) : PyData.strOk (x ++ y) = true := by
  have e : (x ++ y).cps = x.cps ++ y.cps := rfl
  unfold PyData.strOk at hx hy ⊢
  rw [e, Array.all_append, hx, hy]; rfl
theorem strOk_kind (k : Int) : PyData.strOk (kindS k) = true := by
  unfold kindS
  split
  · rename_i x e
    unfold kTab at e
    simp only [List.lookup_cons, List.lookup_nil] at e
    repeat' split at e
    all_goals first | (cases e; decide +kernel) | cases e
  · decide +kernel
theorem strOk_sgL (n : Int) (k : Nat) : PyData.strOk (sgL n k) = true := by
  have := sgL_get n k
  have hm := List.mem_of_getElem? this
  simp only [List.mem_cons, List.not_mem_nil, or_false] at hm
  rcases hm with e | e | e | e
  · rw [e]; decide +kernel
  · rw [e]; decide +kernel
  · rw [e]; unfold chU; split <;> decide +kernel
  · rw [e]; unfold chL; split <;> decide +kernel
theorem strOk_sg (n : Int) : ∀ k, PyData.strOk (sgAt n k) = true
  | 0 => strOk_kind _
  | k + 1 => by
    have h1 : ∀ b : Bool, PyData.strOk (if b then ("r" : Str) else "-") = true := by decide +kernel
    have h2 : ∀ b : Bool, PyData.strOk (if b then ("w" : Str) else "-") = true := by decide +kernel
    exact strOk_append (strOk_append (strOk_append (strOk_sg n k) (h1 _)) (h2 _)) (strOk_sgL n k)
theorem strOk_map (ns : List Int) : ∀ x ∈ ns.map (sgAt · 3), PyData.strOk x = true := fun x hx => by
  obtain ⟨n, _, rfl⟩ := List.mem_map.mp hx
  exact strOk_sg n 3
theorem sel_mem (p : Str → Nat → Bool) : ∀ (l : List Str) (c : Str → Nat) (x : Str), x ∈ sel p l c → x ∈ l
  | [], _, _, h => by cases h
  | y :: r, c, x, h => by
    simp only [sel] at h
    split at h
    · rcases List.mem_cons.mp h with e | e
      · subst e; exact .head _
      · exact .tail _ (sel_mem p r _ x e)
    · exact .tail _ (sel_mem p r _ x h)
theorem lacks_mem {one two : List Str} {x : Str} (h : x ∈ lacksOf one two) : x ∈ one := by
  rw [lacks_eq] at h; simpa using sel_mem _ _ _ _ h
theorem over_mem {one two : List Str} {x : Str} (h : x ∈ overOf one two) : x ∈ two := by
  rw [over_eq] at h; exact sel_mem _ _ _ _ h
end Mine

namespace Mine
set_option maxRecDepth 100000
set_option maxHeartbeats 1000000

section
variable {prog : Program} {w : World} {A : Around} {h : Heap} {env : Env} {mg mb : Str → Option Value}
theorem ev_or2 {x y : Expr} {pos : Pos} {whole : Sem Value} (hx : Ev prog w A h (isTrue x env (eval x env)) (tB false)) (hy : Ev prog w A h (isTrue y env (eval y env)) (tB false)) : Ev prog w A h (isTrue (.BoolOp .Or [x, y] pos) env whole) (tB false) := by
  refine ⟨fun s Q E hs hQ => isTrue_or (hx.run s _ E hs fun c s1 k1 p1 => ?_)⟩
  obtain rfl : c = false := p1
  refine isTrue_or (hy.run s1 _ E (hs.trans (kLe k1)) fun c s2 k2 p2 => ?_)
  obtain rfl : c = false := p2
  exact isTrue_or_nil (hQ _ s2 (kTrans k1 k2) rfl)
theorem ev_compT {elt iter : Expr} {x : Str} {px pos : Pos} {ifs : List Expr} {scope : Scope} {cl : List (Str × Addr)} {bs : List (Array UInt8)} (hh : A.handled = none) (hit : Ev prog w A h (eval iter env) (vL vY bs)) (hsz : bs.length ≤ 16777216) (hclos : closureFor scope env = pure cl)
    (ht : ∀ C h' m b t, Le h h' → h'.Ns C m → m x = some (.bytes b t) → Ev prog w A h' (testsOf ifs (compEnvC scope cl C env)) (tB false))
    (hcell : ∀ y ∈ scope.names, y.2 ≠ .cell := by decide) (hkind : scope.kind = .function := by rfl)
    (hnames : ∀ y ∈ scope.names, y.2 = .local → scope.names.lookup y.1 = some .local := by decide) (hx : scope.names.lookup x = some .local := by rfl)
    (hs : ∀ x, foldedSetIterable iter env x = pure x := by intro _; rfl) :
    Ev prog w A h (eval (.ListComp elt [⟨.Name x px, iter, ifs, 0⟩] scope pos) env) (vL vY []) := by
  refine ⟨fun s Q E hs' hQ => wpAny_ListComp_free (fun _ => false) (fun _ _ => False) hclos hcell hkind hnames hx (hit.run s _ E hs' fun v s1 k1 p1 => ?_) hs⟩
  obtain ⟨h1, t1, rfl, k1⟩ := k1
  obtain ⟨l, vs, rfl, hl, hp⟩ := p1
  have hne : l ≠ h1.objs.size := by obtain ⟨o, e, _⟩ := hl; exact Nat.ne_of_lt (Heap.lt_size e)
  refine wpAny_pyIter_list hl ?_
  refine ⟨h1.objs.size, [h1.objs.size, l], [h1.objs.size], vs.toArray.size, _, _, rfl, PySem.Walks.list hh h1.objs.size l hne vs.toArray, by rw [sizeLine_eq]; simp [← hp.length]; exact hsz, ⟨⟨_, Heap.get?_push_size _ rfl, rfl, rfl⟩, isListLe hl (Le.push _)⟩, ?_, ?_, fun D h' tk ys vs' hD hl' hpl hlen hP hF hk => ?_⟩
  · intro b hb
    have : l < h1.objs.size := by obtain ⟨o, e, _⟩ := hl; exact Heap.lt_size e
    dsimp only
    rw [Heap.size_push]
    simp at hb
    rcases hb with rfl | rfl
    · exact Nat.lt_succ_self _
    · exact Nat.lt_succ_of_lt this
  · have up : ∀ {s₃ : Shared}, (∀ b o, b ∉ [h1.objs.size] → (h1.push { cls := .type "list_iterator", data := .fields #[.ref l, .int 0 0] }).get? b = some o → s₃.heap.get? b = some o) → Le h s₃.heap := fun hk b o e => by
      have e1 := k1 _ _ (hs' _ _ e)
      exact hk b o (by simp; exact Nat.ne_of_lt (Heap.lt_size e1)) (Le.push _ _ _ e1)
    constructor
    · intro C i v s₃ m₃ E' hC hv hn hm hkeep _
      obtain ⟨b, e, t, rfl⟩ := pairGetR hp i v (by simpa using hv)
      exact (ht C s₃.heap m₃ b t (up hkeep) hn hm).run s₃ _ E' (Le.refl _) fun b s' k' pb => ⟨pb, k'⟩
    · intro C i v s₃ m₃ E' hC hv hp
      exact absurd hp (by simp)
  · have e : vs'.filter (fun _ => false) = [] := by simp
    rw [e] at hF
    have hy : ys.toList = [] := by cases hq : ys.toList with
      | nil => rfl
      | cons a r => rw [hq] at hF; cases hF
    refine hQ _ _ (kHeap (t := tk) fun b o e' => ?_) ⟨D, [], rfl, ?_, .nil⟩
    · have e1 := k1 _ _ e'
      exact hk b o (by simp; exact Nat.ne_of_lt (Heap.lt_size e1)) (Le.push _ _ _ e1)
    · have : ys = #[] := by rw [← Array.toArray_toList (xs := ys), hy]
      rw [this] at hl'
      exact hl'
theorem ev_twoCopies {v1 v2 : Expr} {q1 q2 p1 p2 pos : Pos} {xs ys : List Str} (h1 : Ev prog w A h (eval v1 env) (vL vS xs)) (h2 : Ev prog w A h (eval v2 env) (vL vS ys)) (l1 : xs.length ≤ 1000) (l2 : ys.length ≤ 1000)
    (ht1 : ∀ o r, letTemporaryGo v1 o r = pure () := by intro _ _; rfl) (ht2 : ∀ o r, letTemporaryGo v2 o r = pure () := by intro _ _; rfl)
    (hs : starEach [.Subscript v1 (.Slice none none none q1) p1, .Subscript v2 (.Slice none none none q2) p2] env = (false, eval (.Subscript v1 (.Slice none none none q1) p1) env) :: starEach [.Subscript v2 (.Slice none none none q2) p2] env := by rfl)
    (hs' : starEach [.Subscript v2 (.Slice none none none q2) p2] env = (false, eval (.Subscript v2 (.Slice none none none q2) p2) env) :: starEach [] env := by rfl) :
    Ev prog w A h (spliced (backTo pos (starEach [.Subscript v1 (.Slice none none none q1) p1, .Subscript v2 (.Slice none none none q2) p2] env)))
      (fun vs h' => ∃ a b va vb, vs = [.ref a, .ref b] ∧ a ≠ b ∧ h.get? a = none ∧ h.get? b = none ∧ h'.PlainList a va.toArray ∧ StrsAre va xs ∧ h'.PlainList b vb.toArray ∧ StrsAre vb ys) := by
  have cp : ∀ {h : Heap} {v : Expr} {q p : Pos} {xs : List Str}, Ev prog w A h (eval v env) (vL vS xs) → xs.length ≤ 1000 → (∀ o r, letTemporaryGo v o r = pure ()) →
      Ev prog w A h (eval (.Subscript v (.Slice none none none q) p) env) (fun u h' => ∃ l vs, u = .ref l ∧ h'.PlainList l vs.toArray ∧ StrsAre vs xs ∧ h.get? l = none) := by
    intro h v q p xs hv hsz ht
    refine ⟨fun s Q E hs hQ => wpAny_Subscript_list_slice (hv.run s _ E hs fun v s1 k1 p1 => ?_) ht⟩
    rw [evalPart_none]
    refine wpAny_pure (wpAny_pure ?_)
    obtain ⟨l, vs, rfl, hl, hp⟩ := p1
    refine ⟨l, vs.toArray, none, none, rfl, hl, by rw [sizeLine_eq]; simp [← hp.length]; omega, .none, .none, ?_⟩
    rw [slicePick_all]
    have kk := (Le.trans (Le.push (h := s1.heap) { cls := .type "slice", data := .fields #[.none, .none, .none] }) (Le.push { cls := .type "list", data := .seq vs.toArray }))
    refine hQ _ _ (kTrans k1 (kHeap' kk)) ⟨_, vs, rfl, ⟨0, ?_⟩, strs_of hp, none_of_le (hs.trans (kLe k1)) (Heap.get?_none_of_le (Nat.le_succ _))⟩
    have := Heap.get?_push_size (s1.heap.push { cls := .type "slice", data := .fields #[.none, .none, .none] }) (o := { cls := .type "list", data := .seq vs.toArray }) rfl
    rw [Heap.size_push] at this
    exact this
  refine ⟨fun s Q E hs0 hQ => wpAny_items_cons ((cp h1 l1 ht1).run s _ E hs0 fun u s1 k1 q1 => ?_) hs⟩
  refine wpAny_items_cons ((cp (h2.up (hs0.trans (kLe k1))) l2 ht2).run s1 _ E (Le.refl _) fun u' s2 k2 q2 => ?_) hs'
  obtain ⟨a, va, rfl, pa, sa, fa⟩ := q1
  obtain ⟨b, vb, rfl, pb, sb, fb⟩ := q2
  refine wpAny_items_nil (hQ _ s2 (kTrans k1 k2) ⟨a, b, va, vb, rfl, ?_, fa, none_of_le (hs0.trans (kLe k1)) fb, pa.at fun o e => kLe k2 _ _ e, sa, pb, sb⟩)
  obtain ⟨n, e⟩ := pa
  exact fresh_ne e fb
end

theorem neNs {h : Heap} {L l : Addr} {m : Str → Option Value} {vs : Array Value} (hn : h.Ns L m) (hl : h.IsList l vs) : l ≠ L := by
  rintro rfl
  obtain ⟨o, _, _, e, d, _⟩ := hn
  obtain ⟨o', e', _, n, d'⟩ := hl
  rw [e] at e'; cases e'; rw [d] at d'; cases d'
def Kx (L : Addr) (h h' : Heap) : Prop := ∀ b o, b ≠ L → h.get? b = some o → h'.get? b = some o
theorem kxLP {α : Type} {R : α → Value → Heap → Prop} (hR : ∀ x v h h', R x v h → R x v h') {xs : List α} {v : Value} {h h' : Heap} {L : Addr} {m : Str → Option Value} (p : vLP R xs v h) (hn : h.Ns L m) (k : Kx L h h') : vLP R xs v h' := by
  obtain ⟨l, vs, rfl, pl, hp⟩ := p
  have hne := neNs hn pl.isList
  obtain ⟨o, n, e, r⟩ := pl
  exact ⟨l, vs, rfl, ⟨o, n, k _ _ hne e, r⟩, hp.mono fun _ _ q => hR _ _ _ _ q⟩
theorem kxL {α : Type} {R : α → Value → Heap → Prop} (hR : ∀ x v h h', R x v h → R x v h') {xs : List α} {v : Value} {h h' : Heap} {L : Addr} {m : Str → Option Value} (p : vL R xs v h) (hn : h.Ns L m) (k : Kx L h h') : vL R xs v h' := by
  obtain ⟨l, vs, rfl, pl, hp⟩ := p
  have hne := neNs hn pl
  exact ⟨l, vs, rfl, pl.at fun o e => k _ _ hne e, hp.mono fun _ _ q => hR _ _ _ _ q⟩
theorem kxLL {xs : List (List Str)} {v : Value} {h h' : Heap} {L : Addr} {m : Str → Option Value} (p : vL (fun x => vLP vS x) xs v h) (hn : h.Ns L m) (k : Kx L h h') : vL (fun x => vLP vS x) xs v h' := by
  obtain ⟨l, vs, rfl, pl, hp⟩ := p
  have hne := neNs hn pl
  exact ⟨l, vs, rfl, pl.at fun o e => k _ _ hne e, hp.mono fun _ _ q => kxLP (fun _ _ _ _ q => q) q hn k⟩
end Mine

namespace Mine
set_option maxRecDepth 100000
set_option maxHeartbeats 2000000

theorem law_rest {prog : Program} {w : World} {A : Around} {hb h : Heap} {mg mb m : Str → Option Value} {L f : Addr} {cd : Value} {g : Array GenState} {d : Drawn} {tk : Nat} {os : OsState} {nums : List Int} {t1 t2 : Tok} {D0 Dt : Addr} (G : GG mg mb hb) (hFT : FT mg hb)
    (hh : A.handled = none) (hfr : A.frames = some [envOf (fName 32) (fScope 32) L f cd]) (hroom : A.depth + 3 < recursionLimit) (hu : A.units + 64 < cLine)
    (F : Fr hb L h m) (n16 : In16 nums) (hlen : nums.length ≤ 100) (e1 : m "numbers" = some (.ref D0)) (p1 : vLP vI nums (.ref D0) h) (e2 : m "table" = some (.bytes (tbOf nums) t1)) (e3 : m "turned" = some (.bytes (trOf nums) t2))
    (e4 : m "told" = some (.ref Dt)) (p4 : vL vY [trOf nums, tbOf nums, tbOf nums, (tbOf nums).toList.reverse.toArray] (.ref Dt) h) :
    Wp prog w A (execs ((fBody 32).drop 4) (envOf (fName 32) (fScope 32) L f cd)) (fun fl s' => fl = .ret (.bool true) ∧ ∃ h' tk' m', s' = ⟨h', g, d, tk', os⟩ ∧ Fr hb L h' m') (fun _ _ => False) ⟨h, g, d, tk, os⟩ := by
  have Gh : GG mg mb h := G.up F.keep
  have tsz : (tbOf nums).size ≤ 16777216 := by rw [tb_size]; omega
  -- the test
  refine Wp.cons (ifE (c := false) ?_ (fun e => by cases e) (fun _ h2 tk2 k2 => Wp.nil ?_))
  · have eTab : ∀ {pos}, Ev prog w A h (eval (.Name "table" pos) (envOf (fName 32) (fScope 32) L f cd)) (vY (tbOf nums)) := fun {pos} => ev_local F.ns ⟨_, e2, fun _ _ => ⟨t1, rfl⟩⟩
    have eTold : ∀ {pos}, Ev prog w A h (eval (.Name "told" pos) (envOf (fName 32) (fScope 32) L f cd)) (vL vY [trOf nums, tbOf nums, tbOf nums, (tbOf nums).toList.reverse.toArray]) := fun {pos} => ev_local F.ns ⟨_, e4, fun h' k => sL sY _ _ _ _ k p4⟩
    refine ev_or2 ?_ ?_
    · refine ev_test (P := tB false) (sL sY _) eTold (ev_ListL sY (ev_iL_cons sY (ev_local F.ns ⟨_, e3, fun _ _ => ⟨t2, rfl⟩⟩) (ev_iL_cons sY eTab (ev_iL_cons sY eTab (ev_iL_cons sY (ev_revY eTab (ev_neg ev_int) tsz) ev_iL_nil)))) (by simp)) fun a b h' k' p q => ?_
      exact (ev_neYY (Nat.lt_of_le_of_lt (Nat.le_add_right _ 64) hu) p q).mono fun v _ _ hv => ⟨false, hv, rfl⟩
    · refine ev_test (P := tB false) (sL sY _) (ev_compT (cl := []) hh eTold (by simp) rfl ?_) (ev_ListL sY ev_iL_nil (by simp)) fun a b h' k' p q => ?_
      · intro C h' m' b t hle hn hm
        refine ev_tests_one (ev_test (P := tB false) (P1 := vV (.type "bytes")) (P2 := vV (.type "bytes")) (sV _) (ev_Call (ev_boot (v := .type "type") (Gh.up hle) (by decide) (by decide +kernel)) (ev_withT (ev_one (P1 := vV (.bytes b t)) (sV _) (ev_localV hn hm)) fun vs h'' k'' p => ?_)) (ev_boot (v := .type "bytes") (Gh.up hle) (by decide) (by decide +kernel)) fun a c h'' k'' pa pc => ?_)
        · obtain ⟨u, rfl, rfl⟩ := p
          exact ⟨fun s Q E hs hQ => call_type_of (typeIs_bytes s b t) (by decide) (hQ _ s (kRefl s) rfl)⟩
        · obtain rfl : a = .type "bytes" := pa
          obtain rfl : c = .type "bytes" := pc
          exact ⟨fun s Q E hs hQ => wpAny_isNot_self rfl (hQ _ s (kRefl s) ⟨false, rfl, rfl⟩)⟩
      · exact (ev_neNil (Nat.lt_of_le_of_lt (Nat.le_add_right _ 64) hu) p q).mono fun v _ _ hv => ⟨false, hv, rfl⟩
  have F2 := frUp F k2
  have p1b := sLP sI _ _ _ _ k2 p1
  have p4b := sL sY _ _ _ _ k2 p4
  clear p1 p4
  have G2 : GG mg mb h2 := G.up F2.keep
  have FT2 : FT mg h2 := hFT.up F2.keep
  -- right, wrong
  have eTold : ∀ {pos}, Ev prog w A h2 (eval (.Name "told" pos) (envOf (fName 32) (fScope 32) L f cd)) (vL vY [trOf nums, tbOf nums, tbOf nums, (tbOf nums).toList.reverse.toArray]) := fun {pos} => ev_local F2.ns ⟨_, e4, fun h' k => sL sY _ _ _ _ k p4b⟩
  refine Wp.cons (asg2 (x := "right") (y := "wrong") (Px := vLP vS (nums.map (sgAt · 3))) (Py := vLP vS ((nums.map swp).map (sgAt · 3))) hh F2 (ev_two (sLP sS _) (sLP sS _) ?_ ?_) fun a b h3 h4 tk4 k3 pa pb F4 hk4 => ?_)
  · refine ev_CallG (i := 30) G2 (by decide) rfl (ev_one (P1 := vY (tbOf nums)) (sY _) (ev_subL sY eTold ev_int (by decide) rfl (by simp))) fun f' vs h' hf' k' G' R => ?_
    obtain ⟨u, rfl, t, rfl⟩ := R
    exact listed_ok G' (FT2.up k') hf' (by omega) hh _ t nums (enc_tb n16) (by omega)
  · refine ev_CallG (i := 30) G2 (by decide) rfl (ev_one (P1 := vY (trOf nums)) (sY _) (ev_subL sY eTold ev_int (by decide) rfl (by simp))) fun f' vs h' hf' k' G' R => ?_
    obtain ⟨u, rfl, t, rfl⟩ := R
    exact listed_ok G' (FT2.up k') hf' (by omega) hh _ t (nums.map swp) (enc_tr n16) (by rw [List.length_map]; omega)
  have n3 := (frUp F2 k3).ns
  have pa4 : vLP vS (nums.map (sgAt · 3)) a h4 := kxLP (fun _ _ _ _ q => q) pa n3 hk4
  have pb4 : vLP vS ((nums.map swp).map (sgAt · 3)) b h4 := kxLP (fun _ _ _ _ q => q) pb n3 hk4
  have p14 : vLP vI nums (.ref D0) h4 := kxLP (fun _ _ _ _ q => q) (sLP sI _ _ _ _ k3 p1b) n3 hk4
  have f1 : upd (upd m "wrong" b) "right" a "numbers" = some (.ref D0) := e1
  have f2 : upd (upd m "wrong" b) "right" a "right" = some a := updSelf
  have f3 : upd (upd m "wrong" b) "right" a "wrong" = some b := (updNe (by decide)).trans updSelf
  generalize upd (upd m "wrong" b) "right" a = m4 at F4 f1 f2 f3
  clear pa pb p1b n3 hk4 k3 eTold p4b F2
  dsimp only
  have G4 : GG mg mb h4 := G.up F4.keep
  -- due
  have hsrc : ∀ {pos}, Ev prog w A h4 (eval (.Name "numbers" pos) (envOf (fName 32) (fScope 32) L f cd)) (Yields prog w A nums) := fun {pos} => ev_local F4.ns ⟨_, f1, fun h' k => yields_list hh (sLP sI _ _ _ _ k p14).l⟩
  have hfil : ∀ {α : Type} (f : Int → α), ((nums.filter fun _ => true).map f) = nums.map f := fun f => by rw [List.filter_eq_self.mpr (by simp)]
  refine Wp.cons (asg F4 (P := vL (fun x => vLP vS x) [nums.map (sgAt · 3), (nums.map swp).map (sgAt · 3)]) (ev_ListL (fun x => sLP sS x) (ev_iL_cons (fun x => sLP sS x) ?_ (ev_iL_cons (fun x => sLP sS x) ?_ ev_iL_nil)) (by simp)) fun v h5 h6 tk6 k5 p5 F6 hs6 => ?_)
  · rw [← hfil]
    refine ev_comp (cl := []) (xs := nums) (RB := vS) (fun _ => true) (sgAt · 3) (fun _ _ _ _ p => p) hsrc (by omega) rfl (fun C h' m' k t hle hn hm hk => ev_tests_nil fun _ _ => rfl) fun C h' m' k t hle hn hm hk _ => ?_
    refine ev_CallG (i := 29) (G4.up hle) (by decide) rfl (ev_one (P1 := vI k) (sI _) (ev_localI hn hm)) fun f' vs h'' hf' k' G' R => ?_
    obtain ⟨u, rfl, t', rfl⟩ := R
    exact signs_ok G' hf' (by omega) hh k t'
  · rw [List.map_map, ← hfil]
    refine ev_comp (cl := []) (xs := nums) (RB := vS) (fun _ => true) ((sgAt · 3) ∘ swp) (fun _ _ _ _ p => p) hsrc (by omega) rfl (fun C h' m' k t hle hn hm hk => ev_tests_nil fun _ _ => rfl) fun C h' m' k t hle hn hm hk _ => ?_
    refine ev_CallG (i := 29) (G4.up hle) (by decide) rfl (ev_one (P1 := vI (swp k)) (sI _) ?_) fun f' vs h'' hf' k' G' R => ?_
    · exact ev_addI (ev_mulI (ev_modI (ev_localI hn hm) ev_int (by decide)) ev_int (IntMulOk.of_right (by decide))) (ev_fdivI (ev_localI hn hm) ev_int (by decide) (PyProof.noPylong_of_log2 (by decide +kernel)))
    · obtain ⟨u, rfl, t', rfl⟩ := R
      exact signs_ok G' hf' (by omega) hh (swp k) t'
  have n5 := (frUp F4 k5).ns
  have kx6 : Kx L h5 h6 := fun b o hb e => hs6.extBut b o hb e
  have pd : vL (fun x => vLP vS x) [nums.map (sgAt · 3), (nums.map swp).map (sgAt · 3)] v h6 := kxLL p5 n5 kx6
  have pa6 : vLP vS (nums.map (sgAt · 3)) a h6 := kxLP (fun _ _ _ _ q => q) (sLP sS _ _ _ _ k5 pa4) n5 kx6
  have pb6 : vLP vS ((nums.map swp).map (sgAt · 3)) b h6 := kxLP (fun _ _ _ _ q => q) (sLP sS _ _ _ _ k5 pb4) n5 kx6
  have g2 : upd m4 "due" v "right" = some a := f2
  have g3 : upd m4 "due" v "wrong" = some b := f3
  have g4 : upd m4 "due" v "due" = some v := updSelf
  generalize upd m4 "due" v = m6 at F6 g2 g3 g4
  clear p5 pa4 pb4 p14 n5 kx6 hs6 k5 F4 f1 f2 f3 hsrc hfil
  have okR := strOk_map nums
  have okW := strOk_map (nums.map swp)
  have lR : (nums.map (sgAt · 3)).length ≤ 1000 := by rw [List.length_map]; omega
  have lW : ((nums.map swp).map (sgAt · 3)).length ≤ 1000 := by rw [List.length_map, List.length_map]; omega
  generalize nums.map (sgAt · 3) = Rs at *
  generalize (nums.map swp).map (sgAt · 3) = Ws at *
  dsimp only
  -- the end
  refine Wp.cons ⟨wpAny_Return_some (BoolOp_and (wpAny_Compare1 ((ev_ListL (R := fun x => vLP vS x) (xs := [Rs, Ws]) (fun x => sLP sS x) (ev_iL_cons (fun x => sLP sS x) (ev_local F6.ns ⟨_, g2, fun h' k => sLP sS _ _ _ _ k pa6⟩) (ev_iL_cons (fun x => sLP sS x) (ev_local F6.ns ⟨_, g3, fun h' k => sLP sS _ _ _ _ k pb6⟩) ev_iL_nil)) (by simp)).run ⟨h6, g, d, tk6, os⟩ _ _ (Le.refl _) fun va s7 k7 q7 => ?_)))⟩
  obtain ⟨h7, tk7, rfl, k7⟩ := k7
  refine (ev_local (frUp F6 k7).ns ⟨_, g4, fun h' k => sL (fun x => sLP sS x) _ _ _ _ (Le.trans k7 k) pd⟩).run (P := vL (fun x => vLP vS x) [Rs, Ws]) ⟨h7, g, d, tk7, os⟩ _ _ (Le.refl _) fun vb s8 k8 q8 => ?_
  obtain ⟨h8, tk8, rfl, k8⟩ := k8
  refine (ev_eqLL hu okR okW (sL (fun x => sLP sS x) _ _ _ _ k8 q7) q8).run ⟨h8, g, d, tk8, os⟩ _ _ (Le.refl _) fun vc s9 k9 q9 => ?_
  obtain ⟨h9, tk9, rfl, k9⟩ := k9
  obtain rfl : vc = .bool true := q9
  refine wpAny_truthy_bool ?_
  rw [if_pos rfl]
  have k69 : Le h6 h9 := Le.trans (Le.trans k7 k8) k9
  have F9 := frUp F6 k69
  have pa9 := sLP sS _ _ _ _ k69 pa6
  have pb9 := sLP sS _ _ _ _ k69 pb6
  have pd9 := sL (fun x => sLP sS x) _ _ _ _ k69 pd
  have G9 : GG mg mb h9 := G.up F9.keep
  clear k69 k7 k8 k9 pa6 pb6 pd F6 q7 q8
  obtain ⟨fd26, o26, pm26, cd26, doc26, m26, o26g, o26d, _⟩ := G9.fn 26 (by decide)
  refine BoolOp_one (wpAny_Compare1 ?_)
  show wpAny _ A (do callWith _ (← eval (.Name _ _) _) [] (backTo _ (starEach _ _)) (backToKw _ (keywordEach [] _))) _ _ _
  refine wpAny_bind ((ev_global G9.g m26).run ⟨h9, g, d, tk9, os⟩ _ _ (Le.refl _) fun vf s10 k10 q10 => ?_)
  obtain ⟨h10, tk10, rfl, k10⟩ := k10
  obtain rfl : vf = .ref fd26 := q10
  have F10 := frUp F9 k10
  refine callWith_def o26d ((ev_twoCopies (xs := Rs) (ys := Ws) (ev_local F10.ns ⟨_, g2, fun h' k => (sLP sS _ _ _ _ (Le.trans k10 k) pa9).l⟩) (ev_local F10.ns ⟨_, g3, fun h' k => (sLP sS _ _ _ _ (Le.trans k10 k) pb9).l⟩) lR lW).run ⟨h10, g, d, tk10, os⟩ _ _ (Le.refl _) fun vs s11 k11 q11 => ?_) rfl
  obtain ⟨h11, tk11, rfl, k11⟩ := k11
  obtain ⟨ca, cb, xa, xb, rfl, hcab, fa, fb, qa, sa, qb, sb⟩ := q11
  have F11 := frUp F10 k11
  refine ⟨k11 _ _ (k10 _ _ o26g), ?_⟩
  have hcaL : ca ≠ L := neNs F11.ns qa.isList
  have hcbL : cb ≠ L := neNs F11.ns qb.isList
  refine diff_ok (s := ⟨h11, g, d, tk11, os⟩) G m26 (by omega) hh hfr (by show ScopeKind.function ≠ .module; decide) rfl F11 hcab hcaL hcbL (none_of_le F10.keep fa) (none_of_le F10.keep fb) qa sa qb sb lR lW fun v12 h12 tk12 F12 kp12 res => ?_
  rw [bag_law] at res
  obtain ⟨t12, D12, rfl, tup12, x12, y12⟩ := res
  -- due is as it was
  have kx12 : ∀ c o, c ≠ L → h10.get? c = some o → h12.get? c = some o := fun c o hc e => kp12 c o (fresh_ne e fa) (fresh_ne e fb) hc (k11 _ _ e)
  have pd12 : vL (fun x => vLP vS x) [Rs, Ws] v h12 := kxLL (sL (fun x => sLP sS x) _ _ _ _ k10 pd9) F10.ns kx12
  have G12 : GG mg mb h12 := G.up F12.keep
  refine (ev_CallG (i := 31) G12 (by decide) rfl (ev_two (P1 := vLP vS Rs) (P2 := vLP vS Ws) (sLP sS _) (sLP sS _) (ev_subL (R := fun x => vLP vS x) (xs := [Rs, Ws]) (k := 0) (fun x => sLP sS x) (ev_local F12.ns ⟨_, g4, fun h' k => sL (fun x => sLP sS x) _ _ _ _ k pd12⟩) ev_int (by decide) rfl (by simp)) (ev_subL (R := fun x => vLP vS x) (xs := [Rs, Ws]) (k := 1) (fun x => sLP sS x) (ev_local F12.ns ⟨_, g4, fun h' k => sL (fun x => sLP sS x) _ _ _ _ k pd12⟩) ev_int (by decide) rfl (by simp)))
    (P := fun v h' => ∃ t a b, v = .ref t ∧ IsTup h' t #[a, b] ∧ vLP vS (lacksOf Rs Ws) a h' ∧ vLP vS (overOf Rs Ws) b h') fun f' vs h' hf' k' G' R => ?_).run ⟨h12, g, d, tk12, os⟩ _ _ (Le.refl _) fun v13 s13 k13 q13 => ?_
  · obtain ⟨u1, u2, rfl, r1, r2⟩ := R
    exact bags_ok G' hf' (by omega) hh u1 u2 Rs Ws r1 r2 lR lW
  obtain ⟨h13, tk13, rfl, k13⟩ := k13
  obtain ⟨t13, a13, b13, rfl, tup13, x13, y13⟩ := q13
  refine (ev_eqTT (xs := lacksOf Rs Ws) (ys := overOf Rs Ws) hu (fun x hx => okR x (lacks_mem hx)) (fun x hx => okW x (over_mem hx)) (tup12.keeps k13) (sLP sS _ _ _ _ k13 x12) (sLP sS _ _ _ _ k13 y12) tup13 x13 y13).run ⟨h13, g, d, tk13, os⟩ _ _ (Le.refl _) fun v14 s14 k14 q14 => ?_
  obtain ⟨h14, tk14, rfl, k14⟩ := k14
  obtain rfl : v14 = .bool true := q14
  exact ⟨rfl, h14, tk14, m6, rfl, frUp F12 (Le.trans k13 k14)⟩
end Mine

namespace Mine
set_option maxRecDepth 100000
set_option maxHeartbeats 2000000

def tens : List Int := [1973, 1285, 1286, 1669, 1973, 439, 1168, 4168, 10020, 1544]
theorem octet_in {ns : List Int} (h : In16 ns) (f g : Int → Int) (hf : ∀ k, 0 ≤ k → k < 65536 → 0 ≤ f k ∧ f k < 256) (hg : ∀ k, 0 ≤ k → k < 65536 → 0 ≤ g k ∧ g k < 256) : ∀ n ∈ (ns.flatMap fun k => [f k, g k]), 0 ≤ n ∧ n < 256 := by
  intro n hn
  obtain ⟨k, hk, e⟩ := List.mem_flatMap.mp hn
  obtain ⟨k0, k1⟩ := h k hk
  simp only [List.mem_cons, List.not_mem_nil, or_false] at e
  rcases e with rfl | rfl
  · exact hf k k0 k1
  · exact hg k k0 k1
theorem law_body {prog : Program} {w : World} {A : Around} {hb h : Heap} {mg mb m : Str → Option Value} {L f sc : Addr} {cd : Value} {g : Array GenState} {d : Drawn} {tk : Nat} {os : OsState} {vs : List Value} {ns : List Int} (G : GG mg mb hb) (hFT : FT mg hb)
    (hh : A.handled = none) (hfr : A.frames = some [envOf (fName 32) (fScope 32) L f cd]) (hroom : A.depth + 3 < recursionLimit) (hu : A.units + 64 < cLine)
    (F : Fr hb L h m) (es : m "script" = some (.ref sc)) (hl : h.IsList sc vs.toArray) (hi : IntsAre vs ns) (hlen : ns.length ≤ 63) :
    WpC prog w A (execs (fBody 32) (envOf (fName 32) (fScope 32) L f cd)) (fun fl s' => fl = .ret (.bool true) ∧ ∃ h' tk' m', s' = ⟨h', g, d, tk', os⟩ ∧ Fr hb L h' m') (fun _ _ => False) ⟨h, g, d, tk, os⟩ := by
  have Gh : GG mg mb h := G.up F.keep
  have l5 : (ns.take 5).length ≤ 5 := by rw [List.length_take]; omega
  have hxl : (tens ++ ns.take 5).length ≤ 15 := by rw [List.length_append]; have : tens.length = 10 := rfl; omega
  have hfil : (((tens ++ ns.take 5).filter fun _ => true).map numOf) = (tens ++ ns.take 5).map numOf := by rw [List.filter_eq_self.mpr (by simp)]
  -- numbers
  refine WpC.cons (Wp.c (asgComp (L := L) (cl := []) (xs := tens ++ ns.take 5) (RB := vI) (fun _ => true) numOf rfl F (fun _ _ _ _ p => p) ?_ (by omega) rfl (fun C h' m' k t hle hn hm hk => ev_tests_nil fun _ _ => rfl) ?_ (fun D vs1 h1 tk1 hD hpl hpr F1 k1 => ?_) rfl rfl rfl))
  · refine Ev.mono (P := vL vI (tens ++ ns.take 5)) (ev_addL (ev_ListL (xs := tens) sI ?_ (by decide)) (Ev.mono (ev_upto (k := 5) sI (xs := ns) (ev_local F.ns ⟨_, es, fun h' k => ⟨sc, vs, rfl, isListLe hl k, pairI_of hi⟩⟩) ev_int (by omega)) fun _ _ _ p => p.l) (by have : tens.length = 10 := rfl; omega)) fun v h' _ p => yields_list hh p
    exact ev_iL_cons sI ev_int (ev_iL_cons sI ev_int (ev_iL_cons sI ev_int (ev_iL_cons sI ev_int (ev_iL_cons sI ev_int (ev_iL_cons sI ev_int (ev_iL_cons sI ev_int (ev_iL_cons sI ev_int (ev_iL_cons sI ev_int (ev_iL_cons sI ev_int ev_iL_nil)))))))))
  · intro C h' m' k t hle hn hm hk _
    refine ev_CallG (i := 28) (Gh.up hle) (by decide) rfl (ev_one (P1 := vI k) (sI _) (ev_localI hn hm)) fun f' vs h'' hf' k' G' R => ?_
    obtain ⟨u, rfl, t', rfl⟩ := R
    exact number_ok G' hf' (by omega) k t'
  rw [hfil] at hpr
  have n16 : In16 ((tens ++ ns.take 5).map numOf) := fun n hn => by obtain ⟨x, _, rfl⟩ := List.mem_map.mp hn; exact numOf_in x
  have nlen : ((tens ++ ns.take 5).map numOf).length ≤ 15 := by rw [List.length_map]; exact hxl
  have npos : 0 < ((tens ++ ns.take 5).map numOf).length := by rw [List.length_map, List.length_append]; have : tens.length = 10 := rfl; omega
  have p1 : vLP vI ((tens ++ ns.take 5).map numOf) (.ref D) h1 := ⟨D, vs1, rfl, hpl, hpr⟩
  generalize (tens ++ ns.take 5).map numOf = nums at n16 nlen npos p1
  clear hpr hpl hfil hxl
  have e1 : upd m "numbers" (.ref D) "numbers" = some (.ref D) := updSelf
  generalize upd m "numbers" (.ref D) = m1 at F1 e1
  dsimp only
  have dm : ∀ k : Int, 0 ≤ k → k < 65536 → 0 ≤ k.fdiv 256 ∧ k.fdiv 256 < 256 := fun k h0 h1 => by rw [fd]; omega
  have mm : ∀ k : Int, 0 ≤ k → k < 65536 → 0 ≤ k.fmod 256 ∧ k.fmod 256 < 256 := fun k h0 h1 => by rw [fm]; omega
  have eN : ∀ {h' : Heap} {m' : Str → Option Value} {pos : Pos}, h'.Ns L m' → m' "numbers" = some (.ref D) → vLP vI nums (.ref D) h' → Ev prog w A h' (eval (.Name "numbers" pos) (envOf (fName 32) (fScope 32) L f cd)) (vL vI nums) := fun hn hm p => ev_local hn ⟨_, hm, fun h'' k => (sLP sI _ _ _ _ k p).l⟩
  -- table
  refine WpC.cons (Wp.c (asg F1 (P := vY (tbOf nums)) ?_ fun v h2 h3 tk3 k2 p2 F3 hs3 => ?_))
  · refine ev_Call (ev_boot (v := .type "bytes") (G.up F1.keep) (by decide) (by decide +kernel)) (ev_bytes hh (ev_comp2 (cl := []) (xs := nums) (f := fun k => [k.fdiv 256, k.fmod 256]) hh (eN F1.ns e1 p1) (by rw [flat2_len]; omega) rfl (fun C h' m' v hn hm => ev_localV hn hm) fun C h' m' k t hn hm => ?_) (octet_in n16 _ _ dm mm) (by rw [flat2_len]; omega))
    refine Ev.mono (ev_List (sLL sI _) (ev_iL_cons sI (ev_fdivI (ev_localI hn hm) ev_int (by decide) (PyProof.noPylong_of_log2 (by decide +kernel))) (ev_iL_cons sI (ev_modI (ev_localI hn hm) ev_int (by decide)) ev_iL_nil)) fun vs h' p => by rw [← p.length, sizeLine_eq]; show 2 ≤ 16777216; decide) fun v h'' _ p => ?_
    obtain ⟨l, vs, e, hl, hf, hp⟩ := p
    exact ⟨l, vs, e, hl, hf, hp⟩
  obtain ⟨t2, rfl⟩ := p2
  have p3 : vLP vI nums (.ref D) h3 := kxLP (fun _ _ _ _ q => q) (sLP sI _ _ _ _ k2 p1) (frUp F1 k2).ns fun b o hb e => hs3.extBut b o hb e
  have e31 : upd m1 "table" (.bytes (tbOf nums) t2) "numbers" = some (.ref D) := e1
  have e32 : upd m1 "table" (.bytes (tbOf nums) t2) "table" = some (.bytes (tbOf nums) t2) := updSelf
  generalize upd m1 "table" (.bytes (tbOf nums) t2) = m3 at F3 e31 e32
  clear p1 hs3 k2 F1 e1
  dsimp only
  -- turned
  refine WpC.cons (Wp.c (asg F3 (P := vY (trOf nums)) ?_ fun v h4 h5 tk5 k4 p4 F5 hs5 => ?_))
  · refine ev_Call (ev_boot (v := .type "bytes") (G.up F3.keep) (by decide) (by decide +kernel)) (ev_bytes hh (ev_comp2 (cl := []) (xs := nums) (f := fun k => [k.fmod 256, k.fdiv 256]) hh (eN F3.ns e31 p3) (by rw [flat2_len]; omega) rfl (fun C h' m' v hn hm => ev_localV hn hm) fun C h' m' k t hn hm => ?_) (octet_in n16 _ _ mm dm) (by rw [flat2_len]; omega))
    refine Ev.mono (ev_List (sLL sI _) (ev_iL_cons sI (ev_modI (ev_localI hn hm) ev_int (by decide)) (ev_iL_cons sI (ev_fdivI (ev_localI hn hm) ev_int (by decide) (PyProof.noPylong_of_log2 (by decide +kernel))) ev_iL_nil)) fun vs h' p => by rw [← p.length, sizeLine_eq]; show 2 ≤ 16777216; decide) fun v h'' _ p => ?_
    obtain ⟨l, vs, e, hl, hf, hp⟩ := p
    exact ⟨l, vs, e, hl, hf, hp⟩
  obtain ⟨t4, rfl⟩ := p4
  have p5 : vLP vI nums (.ref D) h5 := kxLP (fun _ _ _ _ q => q) (sLP sI _ _ _ _ k4 p3) (frUp F3 k4).ns fun b o hb e => hs5.extBut b o hb e
  have e51 : upd m3 "turned" (.bytes (trOf nums) t4) "numbers" = some (.ref D) := e31
  have e52 : upd m3 "turned" (.bytes (trOf nums) t4) "table" = some (.bytes (tbOf nums) t2) := e32
  have e53 : upd m3 "turned" (.bytes (trOf nums) t4) "turned" = some (.bytes (trOf nums) t4) := updSelf
  generalize upd m3 "turned" (.bytes (trOf nums) t4) = m5 at F5 e51 e52 e53
  clear p3 hs5 k4 F3 e31 e32
  dsimp only
  -- told
  have G5 : GG mg mb h5 := G.up F5.keep
  have eTab : ∀ {pos}, Ev prog w A h5 (eval (.Name "table" pos) (envOf (fName 32) (fScope 32) L f cd)) (vY (tbOf nums)) := fun {pos} => ev_local F5.ns ⟨_, e52, fun _ _ => ⟨t2, rfl⟩⟩
  have tsz := tb_size nums
  have rsz := tr_size nums
  have two : ∀ {np q p1 p2 : Pos}, EvC prog w A h5 (eval (.Call (.Name "_byteswap" np) [.Name "table" p1, .Constant (.int 2) 0 p2] [] q) (envOf (fName 32) (fScope 32) L f cd)) (vY (trOf nums)) := fun {np q p1 p2} => by
    refine evC_CallG (i := 1) (hlen := by show 1 < 30; decide) G5 (by decide) rfl (Ev.c (ev_two (P1 := vY (tbOf nums)) (P2 := vI 2) (sY _) (sI _) eTab ev_int)) fun f' vs h' hf' k' G' R => ?_
    obtain ⟨a, b, rfl, ⟨ta, rfl⟩, tb, rfl⟩ := R
    refine (swap_ok (w := 2) (k := nums.length) G' hf' (by omega) hh (by decide) tsz (by omega) (by decide) ta tb).mono fun v h'' _ p => ?_
    obtain ⟨c, hc, hsw⟩ := p
    rw [swapped_tb hsw] at hc
    exact hc
  refine WpC.cons (asgC F5 (evC_ListL (R := vY) (xs := [trOf nums, tbOf nums, tbOf nums, (tbOf nums).toList.reverse.toArray]) sY (evC_iL_cons sY two (evC_iL_cons sY ?_ (evC_iL_cons sY ?_ (evC_iL_cons sY ?_ evC_iL_nil)))) (by simp)) fun v h6 h7 tk7 k6 p6 F7 hs7 => ?_)
  · refine evC_CallG (i := 1) (hlen := by show 1 < 30; decide) G5 (by decide) rfl (evC_two (P1 := vY (trOf nums)) (P2 := vI 2) (sY _) (sI _) two ev_int.c) fun f' vs h' hf' k' G' R => ?_
    obtain ⟨a, b, rfl, ⟨ta, rfl⟩, tb, rfl⟩ := R
    refine (swap_ok (w := 2) (k := nums.length) G' hf' (by omega) hh (by decide) rsz (by omega) (by decide) ta tb).mono fun v h'' _ p => ?_
    obtain ⟨c, hc, hsw⟩ := p
    rw [swapped_tr hsw] at hc
    exact hc
  · refine evC_CallG (i := 1) (hlen := by show 1 < 30; decide) G5 (by decide) rfl (Ev.c (ev_two (P1 := vY (tbOf nums)) (P2 := vI 1) (sY _) (sI _) eTab ev_int)) fun f' vs h' hf' k' G' R => ?_
    obtain ⟨a, b, rfl, ⟨ta, rfl⟩, tb, rfl⟩ := R
    refine (swap_ok (w := 1) (k := (tbOf nums).size) G' hf' (by omega) hh (by decide) (by omega) (by omega) (by decide) ta tb).mono fun v h'' _ p => ?_
    obtain ⟨c, hc, hsw⟩ := p
    rw [swapped_one hsw] at hc
    exact hc
  · refine evC_CallG (i := 1) (hlen := by show 1 < 30; decide) G5 (by decide) rfl (Ev.c (ev_two (P1 := vY (tbOf nums)) (P2 := vI ((tbOf nums).size : Int)) (sY _) (sI _) eTab (ev_Call (ev_boot (v := .builtin "len") G5 (by decide) (by decide +kernel)) (ev_lenY eTab (by omega))))) fun f' vs h' hf' k' G' R => ?_
    obtain ⟨a, b, rfl, ⟨ta, rfl⟩, tb, rfl⟩ := R
    refine (swap_ok (w := (tbOf nums).size) (k := 1) G' hf' (by omega) hh (by omega) (by omega) (by omega) (by omega) ta tb).mono fun v h'' _ p => ?_
    obtain ⟨c, hc, hsw⟩ := p
    rw [swapped_all hsw] at hc
    exact hc
  obtain ⟨Dt, vt, rfl, hlt, hft, hpt⟩ := p6
  have n6 := (frUp F5 k6).ns
  have kx : Kx L h6 h7 := fun b o hb e => hs7.extBut b o hb e
  have p7 : vLP vI nums (.ref D) h7 := kxLP (fun _ _ _ _ q => q) (sLP sI _ _ _ _ k6 p5) n6 kx
  have q7 : vL vY [trOf nums, tbOf nums, tbOf nums, (tbOf nums).toList.reverse.toArray] (.ref Dt) h7 := kxL (fun _ _ _ _ q => q) ⟨Dt, vt, rfl, hlt, hpt⟩ n6 kx
  dsimp only
  exact Wp.c (law_rest G hFT hh hfr hroom hu F7 n16 (by omega) e51 p7 e52 e53 updSelf q7)
end Mine

namespace Mine
set_option maxRecDepth 100000
set_option maxHeartbeats 200000

theorem wpC_def {prog : Program} {w : World} {A : Around} {name : Str} {params : Arguments} {body : List Stmt} {scope : Scope} {pm cd doc : Value} {a : Addr} {o : Obj} {args : List Value} {binds : List (Str × Value)} {Q : Value → Shared → Prop} {E : Value → Shared → Prop} {s : Shared}
    (hroom : A.depth < recursionLimit) (ho : s.heap.get? a = some o) (hdata : o.data = .func (Calls.docDef name params body scope pm cd doc)) (hlim : s.heap.NoLimit) (hcd : s.heap.CodeRec cd name)
    (hbind : bindArgs (Calls.docDef name params body scope pm cd doc) ⟨args, []⟩ = Pure.pure binds)
    (hloc : ∀ x ∈ binds, scope.names.lookup x.1 = some .local)
    (hb : ∀ h₁, Fr s.heap s.heap.objs.size h₁ (fun x => binds.reverse.lookup x) →
      WpC prog w (A.deeper (envOf name scope s.heap.objs.size a cd)) (execs body (envOf name scope s.heap.objs.size a cd)) (fun f s' => Q (retOf f) s') (fun _ _ => False) ⟨h₁, s.gens, s.drawn, s.toks + binds.length, s.os⟩)
    (hco : scope.isCoroutine = false) (hgen : scope.isGenerator = false) (hk : scope.kind = .function) (hcell : ∀ x ∈ scope.names, x.2 ≠ .cell) : WpC prog w A (call (.ref a) args) Q E s := by
  refine ⟨wpC_call (codeC_call_function hroom ho hdata hco hgen rfl hcd ?_)⟩
  rw [hbind]
  refine wpAny_pure (wpAny_newFunctionEnv hcell hloc (fun h₁ hns hsb => ⟨hlim.fresh _ hsb, ?_⟩) hk)
  show codeC _ _ (.func body (envOf name scope s.heap.objs.size a cd)) _ _
  have F : Fr s.heap s.heap.objs.size h₁ (fun x => binds.reverse.lookup x) := ⟨hns, fun b o e => hsb.extBut b o (Nat.ne_of_lt (Heap.lt_size e)) (Heap.get?_push_of_some _ e), Nat.le_refl _⟩
  exact codeC_func (wpC_mono (hb h₁ F).run (fun fl s' x => x) fun _ _ x => x)

theorem WpC.mono {α : Type} {prog : Program} {w : World} {A : Around} {t : Sem α} {Q Q' : α → Shared → Prop} {E : Value → Shared → Prop} {s : Shared} (x : WpC prog w A t Q E s) (f : ∀ v s', Q v s' → Q' v s') : WpC prog w A t Q' E s := ⟨wpC_mono x.run f fun _ _ e => e⟩
theorem bind32 (pm cd doc v : Value) : bindArgs (Calls.docDef (fName 32) (fArgs 32) (fBody 32) (fScope 32) pm cd doc) ⟨[v], []⟩ = Pure.pure ([("script", v)] : List (Str × Value)) := by rfl
theorem loc32 (v : Value) : ∀ x ∈ ([("script", v)] : List (Str × Value)), (fScope 32).names.lookup x.1 = some .local := locs rfl
theorem cell32 : ∀ x ∈ (fScope 32).names, x.2 ≠ .cell := by decide
theorem law_call {prog : Program} {w : World} {A : Around} {mg mb : Str → Option Value} {s : Shared} {fa sc : Addr} {o : Obj} {pm cd doc : Value} {vs : List Value} {ns : List Int} {Q : Value → Shared → Prop} {E : Value → Shared → Prop} (G : GG mg mb s.heap) (hFT : FT mg s.heap)
    (hh : A.handled = none) (hfr : A.frames = some []) (hroom : A.depth + 4 < recursionLimit) (hu : A.units + 67 < cLine)
    (ho : s.heap.get? fa = some o) (hdata : o.data = .func (Calls.docDef (fName 32) (fArgs 32) (fBody 32) (fScope 32) pm cd doc)) (hcd : s.heap.CodeRec cd (fName 32))
    (hl : s.heap.IsList sc vs.toArray) (hi : IntsAre vs ns) (hlen : ns.length ≤ 63)
    (hQ : ∀ s' : Shared, (∀ b o, s.heap.get? b = some o → s'.heap.get? b = some o) → s'.os = s.os → s'.gens = s.gens → Q (.bool true) s') : WpC prog w A (call (.ref fa) [.ref sc]) Q E s := by
  refine wpC_def (name := fName 32) (params := fArgs 32) (body := fBody 32) (scope := fScope 32) (binds := [("script", .ref sc)]) (Nat.lt_of_le_of_lt (Nat.le_add_right _ 4) hroom) ho hdata G.nolimit hcd (bind32 pm cd doc (.ref sc)) (loc32 (.ref sc)) (fun h₁ F => ?_) rfl rfl rfl cell32
  have hfr' : (A.deeper (envOf (fName 32) (fScope 32) s.heap.objs.size fa cd)).frames = some [envOf (fName 32) (fScope 32) s.heap.objs.size fa cd] := Around.frames_deeper hfr
  have hh' : (A.deeper (envOf (fName 32) (fScope 32) s.heap.objs.size fa cd)).handled = none := hh
  have hr' : (A.deeper (envOf (fName 32) (fScope 32) s.heap.objs.size fa cd)).depth + 3 < recursionLimit := hroom
  have hu' : (A.deeper (envOf (fName 32) (fScope 32) s.heap.objs.size fa cd)).units + 64 < cLine := hu
  have hL : h₁.IsList sc vs.toArray := isListLe hl F.keep
  have hb := law_body (prog := prog) (w := w) (g := s.gens) (d := s.drawn) (tk := s.toks + ([("script", .ref sc)] : List (Str × Value)).length) (os := s.os) (sc := sc) (vs := vs) (ns := ns) G hFT hh' hfr' hr' hu' F rfl hL hi hlen
  exact hb.mono fun fl s' x => by
    obtain ⟨rfl, h', tk', m', rfl, F'⟩ := x
    exact hQ _ F'.keep rfl rfl
end Mine

open PySem PySem.W PyProof.Rows PySem.Calls
namespace Mine
set_option maxRecDepth 100000
set_option maxHeartbeats 1000000

theorem recs_mem : ∀ i ∈ [1, 3, 24, 26, 28, 29, 30, 31], ∃ p, (⟨fName i, fArgs i, fBody i, fScope i, p⟩ : DefRec) ∈ recsOf hd.view_39 := by
  intro i hi
  simp only [List.mem_cons, List.not_mem_nil, or_false] at hi
  rcases hi with rfl | rfl | rfl | rfl | rfl | rfl | rfl | rfl
  · exact ⟨_, .head _⟩
  · exact ⟨_, .tail _ (.head _)⟩
  · exact ⟨_, .tail _ (.tail _ (.head _))⟩
  · exact ⟨_, .tail _ (.tail _ (.tail _ (.head _)))⟩
  · exact ⟨_, .tail _ (.tail _ (.tail _ (.tail _ (.head _))))⟩
  · exact ⟨_, .tail _ (.tail _ (.tail _ (.tail _ (.tail _ (.head _)))))⟩
  · exact ⟨_, .tail _ (.tail _ (.tail _ (.tail _ (.tail _ (.tail _ (.head _))))))⟩
  · exact ⟨_, .tail _ (.tail _ (.tail _ (.tail _ (.tail _ (.tail _ (.tail _ (.head _)))))))⟩

section
variable {R : WRecords} {cl : Str → Option Addr} {h : Heap}
theorem reads_pr {a : Int} {b : Str} {v : Value} {as : List Addr} (r : ReadsW R cl h v (.tuple [.int a, .str b]) as) : vPr (a, b) v h := by
  cases r with
  | tuple e c d q =>
    rename_i ad o vs n
    obtain ⟨l⟩ := vs
    cases q with
    | cons r1 q => cases q with
      | cons r2 q =>
        cases q
        cases r1
        cases r2
        exact ⟨_, _, _, rfl, ⟨o, e, c, n, d⟩⟩
theorem reads_paired {α : Type} {f : α → WData} {P : α → Value → Prop} (hr : ∀ x v as, ReadsW R cl h v (f x) as → P x v) : ∀ {xs : List α} {vs : List Value} {as : List Addr}, ReadsAllW R cl h vs (xs.map f) as → Paired P xs vs
  | [], _, _, q => by cases q; exact .nil
  | x :: xs, _, _, q => by
    cases q with
    | cons r q => exact .cons (hr _ _ _ r) (reads_paired hr q)
theorem reads_tup {α : Type} {f : α → WData} {P : α → Value → Heap → Prop} (hr : ∀ x v as, ReadsW R cl h v (f x) as → P x v h) {xs : List α} {v : Value} {as : List Addr} (r : ReadsW R cl h v (.tuple (xs.map f)) as) : vTup P xs v h := by
  generalize hd : WData.tuple (xs.map f) = dd at r
  cases r with
  | tuple e c d q =>
    rename_i ad o vs n zs
    cases hd
    obtain ⟨l⟩ := vs
    exact ⟨_, l, rfl, ⟨o, e, c, n, d⟩, reads_paired hr q⟩
  | _ => cases hd
end
def rowW (row : List (Int × Str)) : WData := .tuple (row.map fun p => .tuple [.int p.1, .str p.2])
theorem reads_tab {h : Heap} {v : Value} {as : List Addr} (r : ReadsLit h v (.tuple (fmTab.map rowW)) as) : vTup (fun xs => vTup vPr xs) fmTab v h :=
  reads_tup (f := rowW) (P := fun xs => vTup vPr xs) (fun row v as r => reads_tup (f := fun p : Int × Str => .tuple [.int p.1, .str p.2]) (P := vPr) (fun p v as r => reads_pr r) r) r

theorem fin : PySem.Challenge.rw_oc0038_01.Holds := hd (by
  intro w s₀ s₁ mg mb G Y fa o pm cd doc dV kV ho hd hcd hD hmg hg args vals as hpre hlay hrd hwl hlo
  have V := (Ground.X G).2
  refine Ground.open G ?_
  intro T B D TE TW
  have he := Dflts.none hD rfl
  subst he
  have he := Dflts.noKw hD
  subst he
  have hd' : o.data = .func (Calls.docDef (fName 32) (fArgs 32) (fBody 32) (fScope 32) pm cd doc) := fd_plain hd
  have hcd' : s₁.heap.CodeRec cd (fName 32) := hcd
  clear hd hcd hD TE TW D B
  have hFT : FT mg s₁.heap := by
    obtain ⟨v, e, r⟩ := V.val _ (.head _)
    exact ⟨v, e, reads_tab r⟩
  have GG1 : GG mg mb s₁.heap := by
    refine ⟨T.g, T.b, T.nolimit, fun i hi => ?_, fun x hx => ?_, fun x hx => ?_⟩
    · obtain ⟨p, hp⟩ := recs_mem i hi
      exact T.fn _ hp
    · simp only [List.mem_cons, List.not_mem_nil, or_false] at hx
      rcases hx with rfl | rfl | rfl | rfl | rfl | rfl | rfl
      all_goals exact ⟨T.free _ (by decide +kernel) (by decide +kernel) (by decide +kernel) (by decide +kernel) (by decide +kernel), T.builtins _ (by decide)⟩
    · simp only [List.mem_cons, List.not_mem_nil, or_false] at hx
      rcases hx with rfl | rfl | rfl | rfl
      · obtain ⟨v, e, r⟩ := T.const "S_IFREG" (.int 32768) (by kernel_rfl)
        have := r s₁.heap
        cases this
        exact ⟨_, e⟩
      · obtain ⟨v, e, r⟩ := T.const "S_IFDIR" (.int 16384) (by kernel_rfl)
        have := r s₁.heap
        cases this
        exact ⟨_, e⟩
      · obtain ⟨v, e, r⟩ := T.const "S_IFLNK" (.int 40960) (by kernel_rfl)
        have := r s₁.heap
        cases this
        exact ⟨_, e⟩
      · obtain ⟨v, e, r⟩ := T.const "S_IFSOCK" (.int 49152) (by kernel_rfl)
        have := r s₁.heap
        cases this
        exact ⟨_, e⟩
  clear T V G hmg Y
  wrow_args hpre hlay hrd hwl hlo
  rename_i ns hs1 hl0 hlay0 hr1 hl2 as1 as2 sc vs as3 hL ra w1 r0 hI hr hlen hT
  have hpost : Challenge.rw_oc0038_01.row.claim.post [ofPy (PyData.list (List.map PyData.int ns))] (WData.bool true) [ofPy (PyData.list (List.map PyData.int ns))] = true := by
    first
      | kernel_rfl
      | with_unfolding_all rfl
      | (show (WShape.has _ _ _ && WTm.holds _ _ _) = true; simp; trace_state; done)
  have good : ∀ s' : Shared, (∀ b o, s₁.heap.get? b = some o → s'.heap.get? b = some o) → s'.os = s₁.os → s'.gens = #[] → GoodWG Challenge.rw_oc0038_01.row.claim (classAt s₀.heap) (ExcName.means s₀.heap)
        [ofPy (PyData.list (List.map PyData.int ns))] s₁ (Except.ok (Flow.ret (.bool true))) s' := fun s' k hos hgs =>
    GoodW.toG ⟨.inl ⟨.bool true, .bool true, [], rfl, fun _ => rfl, .bool true, hpost, fun _ => ⟨List.nodup_nil, by simp⟩⟩, k, hos, hgs⟩
  have hlaw := law_call (prog := Challenge.rw_oc0038_01.row.prog) (w := w) (A := callerA) (s := s₁) (sc := sc) (vs := vs) (ns := ns) (pm := pm) (cd := cd) (doc := doc) GG1 hFT rfl rfl (by decide) (by decide) ho hd' hcd' hL hI (by omega)
    (Q := fun v s' => GoodWG Challenge.rw_oc0038_01.row.claim (classAt s₀.heap) (ExcName.means s₀.heap) [ofPy (PyData.list (List.map PyData.int ns))] s₁ (Except.ok (Flow.ret v)) s')
    (E := fun e s' => GoodWG Challenge.rw_oc0038_01.row.claim (classAt s₀.heap) (ExcName.means s₀.heap) [ofPy (PyData.list (List.map PyData.int ns))] s₁ (Except.error e) s')
    (fun s' k ho hg' => good s' k ho (hg'.trans hg))
  exact wpAny_runX hlaw.run (good s₁ (fun _ _ e => e) rfl hg))
end Mine


theorem PySem.Challenge.cw_oc0038_01_holds : PySem.Challenge.rw_oc0038_01.Holds := by
  exact Mine.fin
