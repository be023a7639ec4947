import PyProof.Rows.All
import Wide.All
import OpenK.AllK
import Wide.FinOn
import Lean
import PySem.Challenge.RW_ax6023_01

set_option Elab.async false

section
open PySem PySem.W PyProof.Rows
set_option maxRecDepth 100000
set_option linter.unusedVariables false
namespace Mine

/-- `s'` stands behind `s`: all objects but those of `W` as they were; the rest of the state the same. -/
structure Gr (W : List Addr) (s s' : Shared) : Prop where
  keep : ∀ b o, b ∉ W → s.heap.get? b = some o → s'.heap.get? b = some o
  same : ∃ h tk, s' = { s with heap := h, toks := tk }

theorem Gr.refl (W : List Addr) (s : Shared) : Gr W s s := ⟨fun _ _ _ e => e, ⟨s.heap, s.toks, rfl⟩⟩
theorem Gr.trans {W : List Addr} {s s' s'' : Shared} (x : Gr W s s') (y : Gr W s' s'') : Gr W s s'' := by
  obtain ⟨k, ⟨h, tk, rfl⟩⟩ := x
  obtain ⟨k', ⟨h', tk', rfl⟩⟩ := y
  exact ⟨fun a ob hb e => k' a ob hb (k a ob hb e), ⟨h', tk', rfl⟩⟩
theorem Gr.mono {W W' : List Addr} {s s' : Shared} (x : Gr W s s') (h : ∀ b ∈ W, b ∈ W') : Gr W' s s' := ⟨fun a o hb e => x.keep a o (fun q => hb (h a q)) e, x.same⟩
theorem Gr.heap {W : List Addr} {s : Shared} {h' : Heap} {tk : Nat} (k : ∀ b o, b ∉ W → s.heap.get? b = some o → h'.get? b = some o) : Gr W s { s with heap := h', toks := tk } :=
  ⟨k, ⟨h', tk, rfl⟩⟩
theorem Gr.heap0 {s : Shared} {h' : Heap} {tk : Nat} (k : ∀ b o, s.heap.get? b = some o → h'.get? b = some o) : Gr [] s { s with heap := h', toks := tk } := .heap fun b o _ e => k b o e
theorem Gr.tok {W : List Addr} {s : Shared} {tk : Nat} : Gr W s { s with toks := tk } := .heap fun _ _ _ e => e
theorem Gr.ofKeeps {s s' : Shared} (x : Keeps s s') : Gr [] s s' := by obtain ⟨h', tk, rfl, k⟩ := x; exact .heap0 k
theorem Gr.k {s s' : Shared} (x : Gr [] s s') : ∀ b o, s.heap.get? b = some o → s'.heap.get? b = some o := fun b o e => x.keep b o (by simp) e
theorem Gr.any {W : List Addr} {s s' : Shared} (x : Gr [] s s') : Gr W s s' := x.mono (by simp)

/-- a tree that only adds to the heap, and gives a value of which P is so -/
def Px (prog : Program) (w : World) (A : Around) {α : Type} (t : Sem α) (s₀ : Shared) (P : α → Heap → Prop) : Prop :=
  ∀ (s : Shared) (Q : α → Shared → Prop) (E : Value → Shared → Prop), Gr [] s₀ s → (∀ v s', Gr [] s s' → P v s'.heap → Q v s') → wpAny (model prog w) A t Q E s

section
variable {prog : Program} {w : World} {A : Around} {α β : Type} {s₀ s₁ : Shared} {t : Sem α} {P R : α → Heap → Prop}
theorem Px.from (x : Px prog w A t s₀ P) (h : Gr [] s₀ s₁) : Px prog w A t s₁ P := fun s Q E g k => x s Q E (h.trans g) k
theorem Px.mono (x : Px prog w A t s₀ P) (h : ∀ v s, Gr [] s₀ s → P v s.heap → R v s.heap) : Px prog w A t s₀ R := fun s Q E g k => x s Q E g fun v s' g' p => k v s' g' (h v s' (g.trans g') p)
theorem Px.pure {a : α} (h : ∀ s, Gr [] s₀ s → P a s.heap) : Px prog w A (Pure.pure a) s₀ P := fun s Q E g k => wpAny_pure (k a s (.refl _ _) (h s g))
theorem Px.bind {f : α → Sem β} {R : β → Heap → Prop} (x : Px prog w A t s₀ P) (h : ∀ v s, Gr [] s₀ s → P v s.heap → Px prog w A (f v) s R) : Px prog w A (t >>= f) s₀ R :=
  fun s Q E g k => wpAny_bind (x s _ E g fun v s' g' p => h v s' (g.trans g') p s' Q E (.refl _ _) fun v' s'' g'' p' => k v' s'' (g'.trans g'') p')
theorem Px.use (x : Px prog w A t s₀ P) {s : Shared} {Q : α → Shared → Prop} {E : Value → Shared → Prop} (g : Gr [] s₀ s) (k : ∀ v s', Gr [] s s' → P v s'.heap → Q v s') : wpAny (model prog w) A t Q E s := x s Q E g k
end

abbrev IsI (i : Int) : Value → Heap → Prop := fun v _ => ∃ t, v = .int i t
abbrev IsV (x : Value) : Value → Heap → Prop := fun v _ => v = x
abbrev IsB (b : Bool) : Value → Heap → Prop := fun v _ => v = .bool b

section
variable {prog : Program} {w : World} {A : Around} {s₀ : Shared} {env : Env} {P R : Value → Heap → Prop}

theorem px_int {i : Int} {k pos} : Px prog w A (eval (.Constant (.int i) k pos) env) s₀ (IsI i) := fun s Q E _ k => wpAny_Constant_int (k _ _ .tok ⟨_, rfl⟩)
theorem px_bool {b : Bool} {k pos} : Px prog w A (eval (.Constant (.bool b) k pos) env) s₀ (IsB b) := fun s Q E _ k => by
  rw [eval_Constant]
  exact wpAny_pure (k _ _ (.refl _ _) rfl)
theorem px_local {x : Str} {pos : Pos} {m : Str → Option Value} {v : Value} (hn : s₀.heap.Ns env.locals m) (hv : m x = some v) (hk : env.scope.kind = .function := by rfl) (hl : env.kindOf x = some .local := by rfl)
    (hd : (x == ("__debug__" : Str)) = false := by decide) : Px prog w A (eval (.Name x pos) env) s₀ (IsV v) :=
  fun s Q E g k => wpAny_Name (wpAny_loadName_local hk hl (hn.keeps g.k) hv (k _ _ (.refl _ _) rfl)) hd
theorem px_cell {x : Str} {pos : Pos} {c : Addr} {v : Value} (hc : env.cells.lookup x = some c) (hv : s₀.heap.IsCell c (some v)) (hk : env.scope.kind = .function := by rfl) (hl : env.kindOf x = some .cell := by rfl)
    (hd : (x == ("__debug__" : Str)) = false := by decide) : Px prog w A (eval (.Name x pos) env) s₀ (IsV v) :=
  fun s Q E g k => wpAny_Name (wpAny_loadName_cell hk hl hc (hv.keeps g.k) (k _ _ (.refl _ _) rfl)) hd
theorem px_free {x : Str} {pos : Pos} {c : Addr} {v : Value} (hc : env.cells.lookup x = some c) (hv : s₀.heap.IsCell c (some v)) (hk : env.scope.kind = .function := by rfl) (hl : env.kindOf x = some .free := by rfl)
    (hd : (x == ("__debug__" : Str)) = false := by decide) (hn : (x == ("__classdict__" : Str)) = false := by decide) : Px prog w A (eval (.Name x pos) env) s₀ (IsV v) :=
  fun s Q E g k => wpAny_Name (wpAny_loadName_free hk hl hc (hv.keeps g.k) (k _ _ (.refl _ _) rfl) hn) hd
theorem px_global {x : Str} {pos : Pos} {mg : Str → Option Value} {v : Value} (hg : s₀.heap.Ns env.globals mg) (hv : mg x = some v) (hk : env.scope.kind = .function := by rfl) (hl : env.kindOf x = some .globalImplicit := by rfl)
    (hd : (x == ("__debug__" : Str)) = false := by decide) : Px prog w A (eval (.Name x pos) env) s₀ (IsV v) :=
  fun s Q E g k => Calls.Name_function_global hk hl (Calls.loadGlobal_global (hg.keeps g.k) hv (k _ _ (.refl _ _) rfl)) hd
theorem px_builtin {x : Str} {pos : Pos} {mg mb : Str → Option Value} {v : Value} (hg : s₀.heap.Ns env.globals mg) (hm : mg x = none) (hb : s₀.heap.Ns env.builtins mb) (hv : mb x = some v) (hk : env.scope.kind = .function := by rfl) (hl : env.kindOf x = some .globalImplicit := by rfl)
    (hd : (x == ("__debug__" : Str)) = false := by decide) : Px prog w A (eval (.Name x pos) env) s₀ (IsV v) :=
  fun s Q E g k => Calls.Name_function_global hk hl (Calls.loadGlobal_builtin (hg.keeps g.k) hm (hb.keeps g.k) hv (k _ _ (.refl _ _) rfl)) hd

theorem px_BinOp {l op r pos} {P₁ : Value → Heap → Prop} {P₂ : Value → Value → Heap → Prop} (hl : Px prog w A (eval l env) s₀ P₁) (hr : ∀ a s, Gr [] s₀ s → P₁ a s.heap → Px prog w A (eval r env) s (P₂ a))
    (h : ∀ a b s, Gr [] s₀ s → P₂ a b s.heap → Px prog w A (binaryOp op a b) s R) : Px prog w A (eval (.BinOp l op r pos) env) s₀ R :=
  fun s Q E g k => wpAny_BinOp (hl.use g fun a s₁ g₁ p₁ => (hr a s₁ (g.trans g₁) p₁).use (.refl _ _) fun b s₂ g₂ p₂ => (h a b s₂ ((g.trans g₁).trans g₂) p₂).use (.refl _ _) fun v s₃ g₃ p₃ => k v s₃ ((g₁.trans g₂).trans g₃) p₃)

/-- a binary operation of two ints -/
theorem px_iop {l op r pos} {a b : Int} (hl : Px prog w A (eval l env) s₀ (IsI a)) (hr : Px prog w A (eval r env) s₀ (IsI b))
    (h : ∀ t u s, Gr [] s₀ s → Px prog w A (binaryOp op (.int a t) (.int b u)) s R) : Px prog w A (eval (.BinOp l op r pos) env) s₀ R :=
  px_BinOp hl (P₂ := fun x y h => IsI a x h ∧ IsI b y h) (fun v s g p => (hr.from g).mono fun _ _ _ q => ⟨p, q⟩) fun x y s g p => by
    obtain ⟨⟨t, rfl⟩, ⟨u, rfl⟩⟩ := p
    exact h t u s g

theorem px_of1 {t : Sem Value} {v : Value} (h : ∀ (s : Shared) (Q : Value → Shared → Prop) E, Gr [] s₀ s → Q v { s with toks := s.toks + 1 } → wpAny (model prog w) A t Q E s) : Px prog w A t s₀ (IsV v) :=
  fun s Q E g k => h s Q E g (k _ _ .tok rfl)
theorem px_add {l r pos} {a b : Int} (hl : Px prog w A (eval l env) s₀ (IsI a)) (hr : Px prog w A (eval r env) s₀ (IsI b)) : Px prog w A (eval (.BinOp l .Add r pos) env) s₀ (IsI (a + b)) :=
  px_iop hl hr fun _ _ _ _ s Q E _ k => wpAny_add_int (k _ _ .tok ⟨_, rfl⟩)
theorem px_sub {l r pos} {a b : Int} (hl : Px prog w A (eval l env) s₀ (IsI a)) (hr : Px prog w A (eval r env) s₀ (IsI b)) : Px prog w A (eval (.BinOp l .Sub r pos) env) s₀ (IsI (a - b)) :=
  px_iop hl hr fun _ _ _ _ s Q E _ k => PyProof.Rows.sub_int (k _ _ .tok ⟨_, rfl⟩)
theorem px_mul {l r pos} {a b : Int} (hl : Px prog w A (eval l env) s₀ (IsI a)) (hr : Px prog w A (eval r env) s₀ (IsI b)) (hm : IntMulOk a b) : Px prog w A (eval (.BinOp l .Mult r pos) env) s₀ (IsI (a * b)) :=
  px_iop hl hr fun _ _ _ _ s Q E _ k => PyProof.Rows.mul_int (k _ _ .tok ⟨_, rfl⟩) hm
theorem px_mod {l r pos} {a b : Int} (hl : Px prog w A (eval l env) s₀ (IsI a)) (hr : Px prog w A (eval r env) s₀ (IsI b)) (hb : b ≠ 0) : Px prog w A (eval (.BinOp l .Mod r pos) env) s₀ (IsI (a.fmod b)) :=
  px_iop hl hr fun _ _ _ _ s Q E _ k => PyProof.Rows.mod_int hb (k _ _ .tok ⟨_, rfl⟩)
theorem px_fdiv {l r pos} {a b : Int} (hl : Px prog w A (eval l env) s₀ (IsI a)) (hr : Px prog w A (eval r env) s₀ (IsI b)) (hb : b ≠ 0) (hy : b.natAbs < 2 ^ 64) : Px prog w A (eval (.BinOp l .FloorDiv r pos) env) s₀ (IsI (a.fdiv b)) :=
  px_iop hl hr fun _ _ s₁ g₁ s Q E g k => PyProof.Rows.floordiv_int hb (k _ _ .tok ⟨_, rfl⟩) (.inl (PyProof.noPylong_of_log2 (by
    have h0 : b.natAbs ≠ 0 := by omega
    have := (Nat.log2_lt h0).mpr hy
    omega)))
theorem px_pow {l r pos} {a b : Int} (hl : Px prog w A (eval l env) s₀ (IsI a)) (hr : Px prog w A (eval r env) s₀ (IsI b)) (hb : 0 ≤ b) (hz : (Builtin.Int.intBits a : Int) * b ≤ 2 ^ 27) : Px prog w A (eval (.BinOp l .Pow r pos) env) s₀ (IsI (a ^ b.toNat)) :=
  px_iop hl hr fun _ _ _ _ s Q E _ k => PyProof.Rows.pow_int hb hz (k _ _ .tok ⟨_, rfl⟩)
theorem px_shl {l r pos} {a b : Int} (hl : Px prog w A (eval l env) s₀ (IsI a)) (hr : Px prog w A (eval r env) s₀ (IsI b)) (hb : 0 ≤ b) (hb2 : b ≤ 1000000) (ha : a.natAbs < 2 ^ 64) : Px prog w A (eval (.BinOp l .LShift r pos) env) s₀ (IsI (a * 2 ^ b.toNat)) :=
  px_iop hl hr fun _ _ _ _ s Q E _ k => PyProof.Rows.lshift_int_small hb hb2 ha (k _ _ .tok ⟨_, rfl⟩)
end
end Mine
end

section
open PySem PySem.W PyProof.Rows
set_option maxRecDepth 100000
set_option linter.unusedVariables false
namespace Mine
section
variable {prog : Program} {w : World} {A : Around} {s₀ : Shared} {env : Env} {P R : Value → Heap → Prop}

theorem px_args1 {e : Expr} {pos : Pos} (he : Px prog w A (eval e env) s₀ P) (hs : starEach [e] env = [(false, eval e env)]) :
    Px prog w A (spliced (backTo pos (starEach [e] env))) s₀ (fun vs h => ∃ a, vs = [a] ∧ P a h) := fun s Q E g k => by
  rw [hs]
  exact Calls.spliced_cons (he.use g fun v s₁ g₁ p₁ => Calls.spliced_nil (k _ _ g₁ ⟨v, rfl, p₁⟩))
theorem px_args2 {e f : Expr} {pos : Pos} {P₂ : Value → Value → Heap → Prop} (he : Px prog w A (eval e env) s₀ P) (hf : ∀ a s, Gr [] s₀ s → P a s.heap → Px prog w A (eval f env) s (P₂ a)) (hs : starEach [e, f] env = [(false, eval e env), (false, eval f env)]) :
    Px prog w A (spliced (backTo pos (starEach [e, f] env))) s₀ (fun vs h => ∃ a b, vs = [a, b] ∧ P₂ a b h) := fun s Q E g k => by
  rw [hs]
  exact Calls.spliced_cons (he.use g fun v s₁ g₁ p₁ => Calls.spliced_cons ((hf v s₁ (g.trans g₁) p₁).use (.refl _ _) fun u s₂ g₂ p₂ => Calls.spliced_nil (k _ _ (g₁.trans g₂) ⟨v, u, rfl, p₂⟩)))
theorem px_args3 {e f d : Expr} {pos : Pos} {P₂ : Value → Value → Heap → Prop} {P₃ : Value → Value → Value → Heap → Prop} (he : Px prog w A (eval e env) s₀ P) (hf : ∀ a s, Gr [] s₀ s → P a s.heap → Px prog w A (eval f env) s (P₂ a))
    (hd : ∀ a b s, Gr [] s₀ s → P₂ a b s.heap → Px prog w A (eval d env) s (P₃ a b)) (hs : starEach [e, f, d] env = [(false, eval e env), (false, eval f env), (false, eval d env)]) :
    Px prog w A (spliced (backTo pos (starEach [e, f, d] env))) s₀ (fun vs h => ∃ a b c, vs = [a, b, c] ∧ P₃ a b c h) := fun s Q E g k => by
  rw [hs]
  exact Calls.spliced_cons (he.use g fun v s₁ g₁ p₁ => Calls.spliced_cons ((hf v s₁ (g.trans g₁) p₁).use (.refl _ _) fun u s₂ g₂ p₂ => Calls.spliced_cons ((hd v u s₂ ((g.trans g₁).trans g₂) p₂).use (.refl _ _) fun c s₃ g₃ p₃ => Calls.spliced_nil (k _ _ ((g₁.trans g₂).trans g₃) ⟨v, u, c, rfl, p₃⟩))))

/-- a call by a name, of a thing that is a builtin, a type or a function: its arguments, then the call -/
theorem px_callWith {f : Str} {p pos : Pos} {args : List Expr} {v : Value} {PA : List Value → Heap → Prop} (hf : Px prog w A (eval (.Name f p) env) s₀ (IsV v))
    (ha : Px prog w A (spliced (backTo pos (starEach args env))) s₀ PA) (h : ∀ vs s, Gr [] s₀ s → PA vs s.heap → Px prog w A (call v vs) s R)
    (hv : (∃ id, v = .builtin id) ∨ (∃ T, v = .type T) ∨ ∃ a o fd, v = .ref a ∧ s₀.heap.get? a = some o ∧ o.data = .func fd)
    (he : ∃ e rest, starEach args env = (false, eval e env) :: rest) (hp : (backTo pos (starEach args env)).any (·.1) = false := by rfl) :
    Px prog w A (eval (.Call (.Name f p) args [] pos) env) s₀ R := fun s Q E g k => by
  refine Call_ (hf.use g fun v' s₁ g₁ e₁ => ?_)
  obtain rfl := e₁
  obtain ⟨e, rest, he⟩ := he
  have he' : backTo pos (starEach args env) = (false, eval e env) :: backTo pos rest := by rw [he]; rfl
  have go : ∀ Q', (∀ vs s', Gr [] s₁ s' → PA vs s'.heap → Q' (⟨vs, []⟩ : Args) s') → wpAny (model prog w) A (evalArgs v' true (backTo pos (starEach args env)) []) Q' E s₁ := fun Q' k' => by
    rw [he']
    refine Calls.evalArgs_plain ?_
    rw [← he']
    exact ha.use (g.trans g₁) fun vs s₂ g₂ p₂ => k' vs s₂ g₂ p₂
  rcases hv with ⟨id, rfl⟩ | ⟨T, rfl⟩ | ⟨a, o, fd, rfl, ho, hd⟩
  · exact Calls.callWith_builtin hp (go _ fun vs s₂ g₂ p₂ => (h vs s₂ ((g.trans g₁).trans g₂) p₂).use (.refl _ _) fun r s₃ g₃ p₃ => k r s₃ ((g₁.trans g₂).trans g₃) p₃)
  · exact PySem.callWith_type hp (go _ fun vs s₂ g₂ p₂ => (h vs s₂ ((g.trans g₁).trans g₂) p₂).use (.refl _ _) fun r s₃ g₃ p₃ => k r s₃ ((g₁.trans g₂).trans g₃) p₃)
  · exact Calls.callWith_function (o := o) (fd := fd) (go _ fun vs s₂ g₂ p₂ => ⟨⟨((g.trans g₁).trans g₂).k _ _ ho, hd⟩, (h vs s₂ ((g.trans g₁).trans g₂) p₂).use (.refl _ _) fun r s₃ g₃ p₃ => k r s₃ ((g₁.trans g₂).trans g₃) p₃⟩)

theorem px_call1 {f : Str} {p pos : Pos} {e : Expr} {v : Value} (hf : Px prog w A (eval (.Name f p) env) s₀ (IsV v))
    (he : Px prog w A (eval e env) s₀ P) (h : ∀ a s, Gr [] s₀ s → P a s.heap → Px prog w A (call v [a]) s R)
    (hv : (∃ id, v = .builtin id) ∨ (∃ T, v = .type T) ∨ ∃ a o fd, v = .ref a ∧ s₀.heap.get? a = some o ∧ o.data = .func fd := by first | exact .inl ⟨_, rfl⟩ | exact .inr (.inl ⟨_, rfl⟩))
    (hs : starEach [e] env = [(false, eval e env)] := by rfl) :
    Px prog w A (eval (.Call (.Name f p) [e] [] pos) env) s₀ R :=
  px_callWith hf (px_args1 he hs) (fun vs s g p => by obtain ⟨a, rfl, pa⟩ := p; exact h a s g pa) hv ⟨e, [], hs⟩ (by rw [hs]; rfl)
theorem px_call2 {f : Str} {p pos : Pos} {e d : Expr} {v : Value} {P₂ : Value → Value → Heap → Prop} (hf : Px prog w A (eval (.Name f p) env) s₀ (IsV v))
    (he : Px prog w A (eval e env) s₀ P) (hd : ∀ a s, Gr [] s₀ s → P a s.heap → Px prog w A (eval d env) s (P₂ a)) (h : ∀ a b s, Gr [] s₀ s → P₂ a b s.heap → Px prog w A (call v [a, b]) s R)
    (hv : (∃ id, v = .builtin id) ∨ (∃ T, v = .type T) ∨ ∃ a o fd, v = .ref a ∧ s₀.heap.get? a = some o ∧ o.data = .func fd := by first | exact .inl ⟨_, rfl⟩ | exact .inr (.inl ⟨_, rfl⟩))
    (hs : starEach [e, d] env = [(false, eval e env), (false, eval d env)] := by rfl) :
    Px prog w A (eval (.Call (.Name f p) [e, d] [] pos) env) s₀ R :=
  px_callWith hf (px_args2 he hd hs) (fun vs s g p => by obtain ⟨a, b, rfl, pa⟩ := p; exact h a b s g pa) hv ⟨e, _, hs⟩ (by rw [hs]; rfl)
theorem px_call3 {f : Str} {p pos : Pos} {e d c : Expr} {v : Value} {P₂ : Value → Value → Heap → Prop} {P₃ : Value → Value → Value → Heap → Prop} (hf : Px prog w A (eval (.Name f p) env) s₀ (IsV v))
    (he : Px prog w A (eval e env) s₀ P) (hd : ∀ a s, Gr [] s₀ s → P a s.heap → Px prog w A (eval d env) s (P₂ a)) (hc : ∀ a b s, Gr [] s₀ s → P₂ a b s.heap → Px prog w A (eval c env) s (P₃ a b))
    (h : ∀ a b x s, Gr [] s₀ s → P₃ a b x s.heap → Px prog w A (call v [a, b, x]) s R)
    (hv : (∃ id, v = .builtin id) ∨ (∃ T, v = .type T) ∨ ∃ a o fd, v = .ref a ∧ s₀.heap.get? a = some o ∧ o.data = .func fd := by first | exact .inl ⟨_, rfl⟩ | exact .inr (.inl ⟨_, rfl⟩))
    (hs : starEach [e, d, c] env = [(false, eval e env), (false, eval d env), (false, eval c env)] := by rfl) :
    Px prog w A (eval (.Call (.Name f p) [e, d, c] [] pos) env) s₀ R :=
  px_callWith hf (px_args3 he hd hc hs) (fun vs s g p => by obtain ⟨a, b, x, rfl, pa⟩ := p; exact h a b x s g pa) hv ⟨e, _, hs⟩ (by rw [hs]; rfl)

/-- a list whose ints are ns -/
def LI (h : Heap) (a : Addr) (ns : List Int) : Prop := ∃ vs, h.IsList a vs.toArray ∧ IntsAre vs ns
theorem LI.keeps {h h' : Heap} {a : Addr} {ns : List Int} (x : LI h a ns) (k : ∀ b o, h.get? b = some o → h'.get? b = some o) : LI h' a ns :=
  let ⟨vs, hl, hi⟩ := x; ⟨vs, hl.at fun o e => k _ _ e, hi⟩

theorem px_len_list {a : Addr} {items : Array Value} (hl : s₀.heap.IsList a items) (hz : items.size < 2 ^ 62) : Px prog w A (call (.builtin "len") [.ref a]) s₀ (IsI items.size) := fun s Q E g k =>
  Calls.call_len_list (hl.at fun o e => g.k _ _ e) (by omega) (k _ _ .tok ⟨_, rfl⟩)
theorem px_len_LI {a : Addr} {ns : List Int} (hl : LI s₀.heap a ns) (hz : ns.length < 2 ^ 62) : Px prog w A (call (.builtin "len") [.ref a]) s₀ (IsI ns.length) := by
  obtain ⟨vs, hl, hi⟩ := hl
  have := hi.length
  have h := px_len_list (prog := prog) (w := w) (A := A) hl (by simp; omega)
  simpa [this] using h

/-- comparisons -/
theorem px_Compare {l op r pos} {P₁ : Value → Heap → Prop} {P₂ : Value → Value → Heap → Prop} (hl : Px prog w A (eval l env) s₀ P₁) (hr : ∀ a s, Gr [] s₀ s → P₁ a s.heap → Px prog w A (eval r env) s (P₂ a))
    (h : ∀ a b s, Gr [] s₀ s → P₂ a b s.heap → Px prog w A (compareOp op a b) s R) (hm : behindInMarks op r = false := by with_unfolding_all rfl) : Px prog w A (eval (.Compare l [op] [r] pos) env) s₀ R :=
  fun s Q E g k => wpAny_Compare1 (hl.use g fun a s₁ g₁ p₁ => (hr a s₁ (g.trans g₁) p₁).use (.refl _ _) fun b s₂ g₂ p₂ => (h a b s₂ ((g.trans g₁).trans g₂) p₂).use (.refl _ _) fun v s₃ g₃ p₃ => k v s₃ ((g₁.trans g₂).trans g₃) p₃) hm
theorem px_test {l op r pos whole} {bb : Bool} {P₁ : Value → Heap → Prop} {P₂ : Value → Value → Heap → Prop} (hl : Px prog w A (eval l env) s₀ P₁) (hr : ∀ a s, Gr [] s₀ s → P₁ a s.heap → Px prog w A (eval r env) s (P₂ a))
    (h : ∀ a b s, Gr [] s₀ s → P₂ a b s.heap → Px prog w A (compareOp op a b) s (IsB bb)) (hm : behindInMarks op r = false := by with_unfolding_all rfl) :
    Px prog w A (isTrue (.Compare l [op] [r] pos) env whole) s₀ (fun c _ => c = bb) :=
  fun s Q E g k => wpAny_isTrue_Compare1 (hl.use g fun a s₁ g₁ p₁ => (hr a s₁ (g.trans g₁) p₁).use (.refl _ _) fun b s₂ g₂ p₂ => (h a b s₂ ((g.trans g₁).trans g₂) p₂).use (.refl _ _) fun v s₃ g₃ p₃ => by
    obtain rfl := p₃
    exact wpAny_truthy_bool (k _ s₃ ((g₁.trans g₂).trans g₃) rfl)) hm

/-- two ints on the two sides -/
theorem two_ints {l r : Expr} {a b : Int} (hl : Px prog w A (eval l env) s₀ (IsI a)) (hr : Px prog w A (eval r env) s₀ (IsI b)) :
    ∀ x s, Gr [] s₀ s → IsI a x s.heap → Px prog w A (eval r env) s (fun y h => IsI a x h ∧ IsI b y h) := fun x s g p => (hr.from g).mono fun _ _ _ q => ⟨p, q⟩
theorem px_tlt {l r pos whole} {a b : Int} (hl : Px prog w A (eval l env) s₀ (IsI a)) (hr : Px prog w A (eval r env) s₀ (IsI b)) (hm : behindInMarks .Lt r = false := by with_unfolding_all rfl) :
    Px prog w A (isTrue (.Compare l [.Lt] [r] pos) env whole) s₀ (fun c _ => c = decide (a < b)) :=
  px_test hl (two_ints hl hr) (fun x y s g p => by obtain ⟨⟨t, rfl⟩, ⟨u, rfl⟩⟩ := p; exact fun s' Q E g' k => wpAny_lt_int (k _ _ (.refl _ _) rfl)) hm
theorem px_tne {l r pos whole} {a b : Int} (hl : Px prog w A (eval l env) s₀ (IsI a)) (hr : Px prog w A (eval r env) s₀ (IsI b)) (hm : behindInMarks .NotEq r = false := by with_unfolding_all rfl) :
    Px prog w A (isTrue (.Compare l [.NotEq] [r] pos) env whole) s₀ (fun c _ => c = (a != b)) :=
  px_test hl (two_ints hl hr) (fun x y s g p => by obtain ⟨⟨t, rfl⟩, ⟨u, rfl⟩⟩ := p; exact fun s' Q E g' k => PySem.P.ne_int (k _ _ (.refl _ _) rfl)) hm
theorem px_teq {l r pos whole} {a b : Int} (hl : Px prog w A (eval l env) s₀ (IsI a)) (hr : Px prog w A (eval r env) s₀ (IsI b)) (hm : behindInMarks .Eq r = false := by with_unfolding_all rfl) :
    Px prog w A (isTrue (.Compare l [.Eq] [r] pos) env whole) s₀ (fun c _ => c = (a == b)) :=
  px_test hl (two_ints hl hr) (fun x y s g p => by obtain ⟨⟨t, rfl⟩, ⟨u, rfl⟩⟩ := p; exact fun s' Q E g' k => PySem.P.eq_int (k _ _ (.refl _ _) rfl)) hm
end
end Mine
end

section
open PySem PySem.W PyProof.Rows
set_option maxRecDepth 100000
set_option linter.unusedVariables false
namespace Mine

theorem Gr.frame {W : List Addr} {s s₁ s₂ : Shared} (h₁ : Gr [] s s₁) (h₂ : Gr W s₁ s₂) (hW : ∀ b ∈ W, s.heap.get? b = none) : Gr [] s s₂ := by
  obtain ⟨k, ⟨h, tk, rfl⟩⟩ := h₁
  obtain ⟨k', ⟨h', tk', rfl⟩⟩ := h₂
  exact ⟨fun b o _ e => k' b o (fun hb => by rw [hW b hb] at e; cases e) (k b o (by simp) e), ⟨h', tk', rfl⟩⟩
theorem Gr.of_fresh {W : List Addr} {s s₁ s₂ : Shared} {a : Addr} {o : Obj} (h₂ : Gr W s₁ s₂) (h₁ : Gr [] s s₁) (hW : ∀ b ∈ W, s.heap.get? b = none) (e : s.heap.get? a = some o) : s₂.heap.get? a = some o := (h₁.frame h₂ hW).k a o e

def retOf : Flow → Value
  | .ret v => v
  | _ => .none

section
variable {prog : Program} {w : World} {A : Around} {s₀ : Shared} {R : Value → Heap → Prop}

/-- a statement list run in a frame: all its ends are told by O; it raises nothing -/
abbrev Sx (prog : Program) (w : World) (A : Around) {α : Type} (t : Sem α) (s : Shared) (O : α → Shared → Prop) : Prop := ∀ E, wpAny (model prog w) A t O E s

theorem px_def {a : Addr} {o : Obj} {fd : FuncData} {body : List Stmt} {vals : List Value} {binds : List (Str × Value)} (ho : s₀.heap.get? a = some o) (hdata : o.data = .func fd) (hlim : s₀.heap.NoLimit) (hcd : s₀.heap.CodeRec fd.code fd.qualname)
    (hroom : A.depth < recursionLimit) (hbody : fd.body = .stmts body) (hbind : bindArgs fd ⟨vals, []⟩ = pure binds)
    (hcell : ∀ x ∈ fd.scope.names, x.2 ≠ .cell) (hloc : ∀ x ∈ binds, fd.scope.names.lookup x.1 = some .local)
    (h : ∀ s s₁ L, Gr [] s₀ s → Gr [] s s₁ → s.heap.get? L = none → s₁.heap.Ns L (fun x => binds.reverse.lookup x) →
      Sx prog w (A.deeper (callEnv fd L a)) (execs body (callEnv fd L a)) s₁ (fun f s₂ => Gr [L] s₁ s₂ ∧ R (retOf f) s₂.heap))
    (hco : fd.scope.isCoroutine = false := by rfl) (hgen : fd.scope.isGenerator = false := by rfl) (hk : fd.scope.kind = .function := by rfl) :
    Px prog w A (call (.ref a) vals) s₀ R := fun s Q E g k => by
  refine wpAny_call (codeAny_call_plain hroom (g.k _ _ ho) hdata (hlim.keeps g.k) (hcd.keeps g.k) hbody hbind hcell hloc (fun h₀ hns keep => ?_) hco hgen hk)
  have hL : s.heap.get? s.heap.objs.size = none := by
    cases e : s.heap.get? s.heap.objs.size with
    | none => rfl
    | some o' => exact absurd (Heap.lt_size e) (Nat.lt_irrefl _)
  refine wpAny_mono (h s _ s.heap.objs.size g (.heap0 keep) hL hns _) (fun f s₂ q => ?_) fun _ _ e => e
  exact k _ s₂ (Gr.frame (.heap0 keep) q.1 (by simpa using hL)) (by cases f <;> exact q.2)

theorem px_defC {a : Addr} {o : Obj} {fd : FuncData} {body : List Stmt} {vals : List Value} {binds : List (Str × Value)} (ho : s₀.heap.get? a = some o) (hdata : o.data = .func fd) (hlim : s₀.heap.NoLimit) (hcd : s₀.heap.CodeRec fd.code fd.qualname)
    (hroom : A.depth < recursionLimit) (hbody : fd.body = .stmts body) (hbind : bindArgs fd ⟨vals, []⟩ = pure binds) (hclo : fd.closure = [])
    (hkind : ∀ L, ∀ x ∈ binds, fd.scope.names.lookup x.1 = some .local ∨ (fd.scope.names.lookup x.1 = some .cell ∧ ((cellsFrom L fd.scope.names []).lookup x.1).isSome = true))
    (h : ∀ s s₁ L, Gr [] s₀ s → s.heap.objs.size = L → InCallC s L (bindL (callEnvC fd L a).kindOf binds fun _ => none) (callEnvC fd L a).cells (bindC (callEnvC fd L a).kindOf binds fun _ => none) s₁ → Gr [] s s₁ →
      ∃ W, (∀ b ∈ W, L ≤ b) ∧ Sx prog w (A.deeper (callEnvC fd L a)) (execs body (callEnvC fd L a)) s₁ (fun f s₂ => Gr W s₁ s₂ ∧ R (retOf f) s₂.heap))
    (hco : fd.scope.isCoroutine = false := by rfl) (hgen : fd.scope.isGenerator = false := by rfl) (hk : fd.scope.kind = .function := by rfl) :
    Px prog w A (call (.ref a) vals) s₀ R := fun s Q E g k => by
  refine wpAny_call (codeAny_call_cells hroom (g.k _ _ ho) hdata (hlim.keeps g.k) (hcd.keeps g.k) hbody hbind hclo (hkind _) (fun s₁ x => ?_) hco hgen hk)
  have g₁ : Gr [] s s₁ := by
    obtain ⟨h', tk, rfl, hk'⟩ := x.done
    exact .heap0 hk'
  obtain ⟨W, hW, hb⟩ := h s s₁ s.heap.objs.size g rfl x g₁
  refine wpAny_mono (hb _) (fun f s₂ q => ?_) fun _ _ e => e
  refine k _ s₂ (Gr.frame g₁ q.1 fun b hm => ?_) (by cases f <;> exact q.2)
  cases e : s.heap.get? b with
  | none => rfl
  | some o' => exact absurd (Heap.lt_size e) (Nat.not_lt.mpr (hW b hm))

variable {env : Env} {P : Value → Heap → Prop} {s : Shared} {O : Flow → Shared → Prop}

theorem sx_nil (h : O .next s) : Sx prog w A (execs [] env) s O := fun E => wpAny_execs_nil h
theorem sx_cons {st rest} (h : Sx prog w A (exec st env) s (fun f s' => match f with | .next => Sx prog w A (execs rest env) s' O | f => O f s')) : Sx prog w A (execs (st :: rest) env) s O := fun E =>
  wpAny_execs_cons (wpAny_mono (h E) (fun f s' q => by cases f <;> first | exact q E | exact q) fun _ _ e => e)

/-- the map with one name set -/
abbrev upd (m : Str → Option Value) (x : Str) (v : Value) : Str → Option Value := fun y => if y = x then some v else m y

theorem sx_store {x : Str} {m : Str → Option Value} {v : Value} {O' : Unit → Shared → Prop} (hn : s.heap.Ns env.locals m) (h : ∀ s₂, s₂.heap.Ns env.locals (upd m x v) → Gr [env.locals] s s₂ → O' () s₂)
    (hk : env.scope.kind = .function := by rfl) (hl : env.kindOf x = some .local := by rfl) : Sx prog w A (storeName env x v) s O' := fun E =>
  wpAny_storeName_local hl hn (fun h' hn' hs => h _ hn' (.heap fun b o hb e => hs.extBut b o (by simpa using hb) e)) (by rw [hk]; rfl)

theorem sx_assign {x : Str} {px pos : Pos} {e : Expr} {m : Str → Option Value} (hn : s.heap.Ns env.locals m) (he : Px prog w A (eval e env) s P)
    (h : ∀ v s₁ s₂, Gr [] s s₁ → P v s₁.heap → s₂.heap.Ns env.locals (upd m x v) → Gr [env.locals] s₁ s₂ → O .next s₂)
    (hs : swapsWith e (some (.Name x px)) pos.line env = pure false := by rfl) (hk : env.scope.kind = .function := by rfl) (hl : env.kindOf x = some .local := by rfl) :
    Sx prog w A (exec (.Assign [.Name x px] e pos) env) s O := fun E =>
  wpAny_Assign_Name (he.use (.refl _ _) fun v s₁ g₁ p₁ => sx_store (hn.keeps g₁.k) (fun s₂ hn₂ g₂ => h v s₁ s₂ g₁ p₁ hn₂ g₂) hk hl E) hs

theorem sx_return {e : Expr} {pos : Pos} (he : Px prog w A (eval e env) s P) (h : ∀ v s₁, Gr [] s s₁ → P v s₁.heap → O (.ret v) s₁) : Sx prog w A (exec (.Return (some e) pos) env) s O := fun E =>
  wpAny_Return_some (he.use (.refl _ _) fun v s₁ g₁ p₁ => h v s₁ g₁ p₁)

theorem sx_if {t : Expr} {body orelse : List Stmt} {pos : Pos} {b : Bool} (ht : Px prog w A (isTrue t env (eval t env)) s (fun c _ => c = b))
    (h : ∀ s₁, Gr [] s s₁ → if b = true then Sx prog w A (execs body env) s₁ O else Sx prog w A (execs orelse env) s₁ O) : Sx prog w A (exec (.If t body orelse pos) env) s O := fun E =>
  wpAny_If (ht.use (.refl _ _) fun c s₁ g₁ e₁ => by
    have hb := h s₁ g₁
    subst e₁
    cases c with
    | true => simpa using hb E
    | false => simpa using hb E)
end

/-- a record stands there -/
def IsIt (h : Heap) (I : Addr) : Prop := ∃ o vs, h.get? I = some o ∧ o.data = .fields vs

/-- a value that can be walked: n items, each with P -/
def Itb (prog : Program) (w : World) (A : Around) (h : Heap) (xv : Value) (own : List Addr) (n : Nat) (P : Nat → Value → Prop) : Prop :=
  ∀ (s : Shared) (Q : Value → Shared → Prop) (E : Value → Shared → Prop), (∀ b o, h.get? b = some o → s.heap.get? b = some o) →
    (∀ s' I St, Gr [] s s' → s.heap.get? I = none → (∀ i h, St i h → IsIt h I) → Walks prog w A I (I :: own) [I] n P St → St 0 s'.heap → (∀ b ∈ own, b < s'.heap.objs.size) → Q (.ref I) s') → wpAny (model prog w) A (pyIter xv) Q E s

theorem Itb.keeps {prog : Program} {w : World} {A : Around} {h h' : Heap} {xv : Value} {own : List Addr} {n : Nat} {P : Nat → Value → Prop} (x : Itb prog w A h xv own n P) (k : ∀ b o, h.get? b = some o → h'.get? b = some o) : Itb prog w A h' xv own n P :=
  fun s Q E hk hQ => x s Q E (fun b o e => hk b o (k b o e)) hQ

theorem get_size (h : Heap) : h.get? h.objs.size = none := by
  cases e : h.get? h.objs.size with
  | none => rfl
  | some o' => exact absurd (Heap.lt_size e) (Nat.lt_irrefl _)

theorem walks_monoP {prog : Program} {w : World} {A : Around} {I : Addr} {fp wr : List Addr} {n : Nat} {P P' : Nat → Value → Prop} {St : Nat → Heap → Prop} (W : Walks prog w A I fp wr n P St) (h : ∀ i v, i < n → P i v → P' i v) : Walks prog w A I fp wr n P' St where
  sub := W.sub
  frame := W.frame
  item := fun i s Q E hi st hQ => W.item i s Q E hi st fun v h' tk p st' k => hQ v h' tk (h i v hi p) st' k
  done := W.done
  self := W.self

section
variable {prog : Program} {w : World} {A : Around}
theorem itb_list {h : Heap} {a : Addr} {items : Array Value} (hh : A.handled = none) (hl : h.IsList a items) : Itb prog w A h (.ref a) [a] items.size (fun i v => items[i]? = some v) := fun s Q E k hQ => by
  have hl' : s.heap.IsList a items := hl.at fun o e => k _ _ e
  have hlt : a < s.heap.objs.size := let ⟨_, e, _⟩ := hl'; Heap.lt_size e
  refine wpAny_pyIter_list hl' (hQ _ s.heap.objs.size _ (Gr.heap0 (tk := s.toks) fun b o e => Heap.get?_push_of_some _ e) (get_size _) (fun i h st => let ⟨o, ho, _, hd⟩ := st.1; ⟨o, _, ho, hd⟩) (Walks.list hh _ a (Nat.ne_of_lt hlt) items) ⟨⟨_, Heap.get?_push_size _ rfl, rfl, rfl⟩, hl'.at fun o e => Heap.get?_push_of_some _ e⟩ fun b hb => ?_)
  simp only [List.mem_cons, List.not_mem_nil, or_false] at hb
  subst hb
  simp only [Heap.size_push]
  exact Nat.lt_succ_of_lt hlt

theorem itb_tuple {h : Heap} {a : Addr} {items : Array Value} (hh : A.handled = none) (hl : h.IsTuple a items) : Itb prog w A h (.ref a) [a] items.size (fun i v => items[i]? = some v) := fun s Q E k hQ => by
  have hl' : s.heap.IsTuple a items := hl.at fun o e => k _ _ e
  have hlt : a < s.heap.objs.size := let ⟨_, e, _⟩ := hl'; Heap.lt_size e
  refine wpAny_pyIter_tuple hl' (hQ _ s.heap.objs.size _ (Gr.heap0 (tk := s.toks) fun b o e => Heap.get?_push_of_some _ e) (get_size _) (fun i h st => let ⟨o, ho, _, hd⟩ := st.1; ⟨o, _, ho, hd⟩) (Walks.tuple hh _ a (Nat.ne_of_lt hlt) items) ⟨⟨_, Heap.get?_push_size _ rfl, rfl, rfl⟩, hl'.at fun o e => Heap.get?_push_of_some _ e⟩ fun b hb => ?_)
  simp only [List.mem_cons, List.not_mem_nil, or_false] at hb
  subst hb
  simp only [Heap.size_push]
  exact Nat.lt_succ_of_lt hlt

theorem itb_range {h : Heap} {r : Addr} {n : Nat} {t u v : Tok} (hh : A.handled = none) (hr : IsRange h r 0 n 1 t u v) (hn : n < 2 ^ 60) : Itb prog w A h (.ref r) [] n (fun i v => ∃ t, v = .int i t) := fun s Q E k hQ => by
  have hr' := k _ _ hr
  have hs : Builtin.Range.rangeSize 0 (n : Int) 1 = n := by rw [rangeSize_one]; split <;> omega
  have W := walks_monoP (P' := fun (i : Nat) (v : Value) => ∃ t, v = .int (i : Int) t) (Walks.range (prog := prog) (w := w) hh s.heap.objs.size 0 1 n) (fun i v _ p => by obtain ⟨t, rfl⟩ := p; exact ⟨t, by simp⟩)
  refine wpAny_pyIter_range hr' (small_one (by omega) (by omega) (by omega) (by omega)) (hQ _ s.heap.objs.size _ (Gr.heap0 (tk := s.toks) fun b o e => Heap.get?_push_of_some _ e) (get_size _) (fun i h st => ⟨_, _, st, rfl⟩) W ?_ fun b hb => ?_)
  · rw [hs]
    have := Heap.get?_push_size s.heap (o := { cls := .type "range_iterator", data := .fields #[rawInt 0, rawInt n, rawInt 1] }) rfl
    simpa using this
  · cases hb
end
end Mine
end

section
open PySem PySem.W PyProof.Rows
set_option maxRecDepth 100000
set_option linter.unusedVariables false
namespace Mine
section
variable {prog : Program} {w : World} {A : Around} {env : Env} {s : Shared} {O : Flow → Shared → Prop}

theorem sx_for {target iter : Expr} {body : List Stmt} {pos : Pos} {own : List Addr} {n : Nat} {P : Nat → Value → Prop} (W : List Addr) (J : Nat → Shared → Prop)
    (he : Px prog w A (eval iter env) s (fun v h => Itb prog w A h v own n P)) (hown : ∀ b ∈ own, b ∉ W) (hW : ∀ b ∈ W, ∃ o, s.heap.get? b = some o)
    (h0 : ∀ s', Gr [] s s' → J 0 s') (hJ : ∀ i s' s'' I, s.heap.get? I = none → IsIt s'.heap I → J i s' → Gr [I] s' s'' → J i s'')
    (turn : ∀ i v s₁, i < n → P i v → J i s₁ → Sx prog w A (assign target env v) s₁ (fun _ s₂ => Sx prog w A (execs body env) s₂ (fun f s₃ => match f with
      | .next | .cont => J (i + 1) s₃ ∧ ∀ b o, b ∉ W → s₁.heap.get? b = some o → s₃.heap.get? b = some o
      | .brk => False
      | .ret v => O (.ret v) s₃)))
    (fin : ∀ s', J n s' → O .next s')
    (hs : ∀ x, foldedSetIterable iter env x = pure x := by intro _; rfl) (ht : ∀ it v, letOwnedTupleGo target it v = pure () := by intro _ _; rfl) :
    Sx prog w A (exec (.For target iter body [] pos) env) s O := fun E => by
  refine wpAny_For (he.use (.refl _ _) fun xv s₁ g₁ hi => ?_) hs
  refine hi s₁ _ _ (fun _ _ e => e) fun s₂ I St g₂ hI hI' Wk hst hown' => ?_
  have hIs : s.heap.get? I = none := by
    cases e : s.heap.get? I with
    | none => rfl
    | some o => rw [g₁.k _ _ e] at hI; cases hI
  have hIW : I ∉ W := fun hm => by obtain ⟨o, e⟩ := hW I hm; rw [hIs] at e; cases e
  refine codeAny_forLoop_any (fun k s' => ∃ i, i ≤ n ∧ k = n + 1 - i ∧ St i s'.heap ∧ J i s') ?_ (n + 1) ⟨0, Nat.zero_le _, rfl, hst, h0 s₂ (g₁.trans g₂)⟩
  rintro k s' ⟨i, hi, rfl, hst', hj⟩
  by_cases hlt : i < n
  · refine Wk.item i s' _ _ hlt hst' fun v h' tk p hst₁ hk₁ => ?_
    have gI : Gr [I] s' { s' with heap := h', toks := tk } := .heap fun b o hb e => hk₁ b o hb e
    have hj₁ := hJ i s' _ I hIs (hI' i _ hst') hj gI
    show wpAny _ _ (letOwnedTupleGo target (.ref I) v) _ _ _
    refine wpAny_of_eq (ht _ _) (wpAny_mono (turn i v _ hlt p hj₁ _) (fun _ s₂ q => wpAny_mono (q _) (fun f s₃ z => ?_) fun _ _ e => e) fun _ _ e => e)
    cases f with
    | brk => exact z.elim
    | ret v => exact z
    | next | cont =>
      have ⟨z1, z2⟩ := z
      have hst3 : St (i + 1) s₃.heap := Wk.frame _ _ _ hst₁ fun b hb o e => by
        rcases List.mem_cons.mp hb with rfl | hb
        · exact z2 _ o hIW e
        · exact z2 b o (hown b hb) e
      exact ⟨n + 1 - (i + 1), by omega, i + 1, hlt, rfl, hst3, z1⟩
  · have hin : i = n := by omega
    subst hin
    refine Wk.done s' _ _ hst' fun h' tk hk' => ?_
    exact wpAny_execs_nil (fin _ (hJ i s' _ I hIs (hI' i _ hst') hj (.heap fun b o hb e => hk' b o hb e)))

theorem comp_loop {elt iter : Expr} {x : Str} {px : Pos} {scope : Scope} {pos : Pos} {I D : Addr} {cenv : Env} {own : List Addr} {n : Nat} {P : Nat → Value → Prop} {St : Nat → Heap → Prop} {m : Str → Option Value}
    {R : Result → Shared → Prop} (W : List Addr) (F : Nat → Value → Heap → Prop) (Wk : Walks prog w A I (I :: own) [I] n P St) (hst : St 0 s.heap) (hD : s.heap.PlainList D #[]) (hC : s.heap.Ns cenv.locals m)
    (hDW : D ∈ W) (hCW : cenv.locals ∈ W) (hIW : I ∈ W) (hDC : D ≠ cenv.locals) (hDI : D ≠ I) (hCI : cenv.locals ≠ I) (hDo : D ∉ own) (hCo : cenv.locals ∉ own) (hsz : n ≤ sizeLine)
    (hF : ∀ i y h h', F i y h → (∀ b o, b ∉ W → h.get? b = some o → h'.get? b = some o) → F i y h')
    (helt : ∀ i v s' m', i < n → P i v → Gr W s s' → (∀ b ∈ [I, D, cenv.locals], (∃ o, s.heap.get? b = some o) → ∃ o, s'.heap.get? b = some o) → s'.heap.Ns cenv.locals m' → m' x = some v → Px prog w A (eval elt cenv) s' (F i))
    (hlive : ∀ i h, St i h → IsIt h I)
    (hR : ∀ s' ys m', Gr W s s' → s'.heap.Ns cenv.locals m' → s'.heap.PlainList D ys → ys.size = n → (∀ i (hi : i < ys.size), F i ys[i] s'.heap) → R (.ok .next) s')
    (hx : cenv.kindOf x = some .local) (hk : cenv.scope.kind = .function) :
    codeAny (model prog w) A (.compLoop (.ListComp elt [⟨.Name x px, iter, [], 0⟩] scope pos) 0 (.ref I) (.ref D) cenv) R s := by
  refine codeAny_compLoop_tests (fun k s' => ∃ i ys m', i ≤ n ∧ k = n + 1 - i ∧ St i s'.heap ∧ Gr W s s' ∧ s'.heap.Ns cenv.locals m' ∧ s'.heap.PlainList D ys ∧ ys.size = i ∧ (∀ j (hj : j < ys.size), F j ys[j] s'.heap)) ?_ (n + 1)
    ⟨0, #[], m, Nat.zero_le _, rfl, hst, .refl _ _, hC, hD, rfl, fun j hj => absurd hj (by simp)⟩
  rintro k s' ⟨i, ys, m', hi, rfl, hst', g, hC', hD', hys, hFs⟩
  by_cases hlt : i < n
  · refine Wk.item i s' _ _ hlt hst' fun v h' tk p hst₁ hk₁ => ?_
    have g₁ : Gr [I] s' { s' with heap := h', toks := tk } := .heap fun b o hb e => hk₁ b o hb e
    refine wpAny_assign_Name (sx_store (env := cenv) (m := m') (hC'.at' fun o e => g₁.keep _ o (by simpa using hCI) e) (fun s₂ hn₂ g₂ => ?_) hk hx _)
    rw [List.forIn_nil]
    refine wpAny_pure ?_
    simp only [if_true]
    have gI : Gr W s s₂ := (g.trans (g₁.mono (by simpa using hIW))).trans (g₂.mono (by simpa using hCW))
    have hD2 : s₂.heap.PlainList D ys := by
      obtain ⟨nn, e⟩ := hD'
      exact ⟨nn, g₂.keep _ _ (by simpa using hDC) (g₁.keep _ _ (by simpa using hDI) e)⟩
    have hst2 : St (i + 1) s₂.heap := Wk.frame _ _ _ hst₁ fun b hb o e => g₂.keep b o (by
      simp only [List.mem_cons, List.not_mem_nil, or_false]
      rintro rfl
      rcases List.mem_cons.mp hb with h | h
      · exact hCI h
      · exact hCo h) e
    refine (helt i v s₂ _ hlt p gI (fun b hb _ => ?_) hn₂ (by simp [upd])).use (.refl _ _) fun y s₃ g₃ py => ?_
    · simp only [List.mem_cons, List.not_mem_nil, or_false] at hb
      rcases hb with rfl | rfl | rfl
      · obtain ⟨o, _, e, _⟩ := hlive _ _ hst2; exact ⟨o, e⟩
      · obtain ⟨nn, e⟩ := hD2; exact ⟨_, e⟩
      · obtain ⟨o, _, _, e, _⟩ := hn₂; exact ⟨o, e⟩
    have hD3 : s₃.heap.PlainList D ys := by obtain ⟨nn, e⟩ := hD2; exact ⟨nn, g₃.k _ _ e⟩
    refine wpAny_list_append_plain (hsz := by omega) hD3 fun h₄ hl₄ hs₄ => ?_
    have g₄ : Gr [D] s₃ { s₃ with heap := h₄ } := .heap fun b o hb e => hs₄.extBut b o (by simpa using hb) e
    have gall : Gr W s { s₃ with heap := h₄ } := (gI.trans g₃.any).trans (g₄.mono (by simpa using hDW))
    have step : ∀ j y, F j y s'.heap → F j y h₄ := fun j y f => hF j y _ _ f fun b o hb e =>
      g₄.keep b o (by simp only [List.mem_cons, List.not_mem_nil, or_false]; rintro rfl; exact hb hDW) (g₃.k b o (g₂.keep b o (by simp only [List.mem_cons, List.not_mem_nil, or_false]; rintro rfl; exact hb hCW)
        (g₁.keep b o (by simp only [List.mem_cons, List.not_mem_nil, or_false]; rintro rfl; exact hb hIW) e)))
    refine ⟨n + 1 - (i + 1), by omega, i + 1, ys.push y, _, hlt, rfl, ?_, gall, (hn₂.keeps g₃.k).at' fun o e => g₄.keep _ o (by simpa using Ne.symm hDC) e, hl₄, by simp [hys], ?_⟩
    · exact Wk.frame _ _ _ hst2 fun b hb o e => g₄.keep b o (by
        simp only [List.mem_cons, List.not_mem_nil, or_false]
        rintro rfl
        rcases List.mem_cons.mp hb with h | h
        · exact hDI h
        · exact hDo h) (g₃.k b o e)
    · intro j hj
      rw [Array.size_push] at hj
      rw [Array.getElem_push]
      split
      · rename_i h1; exact step j _ (hFs j h1)
      · rename_i h1
        have hji : j = i := by omega
        subst hji
        exact hF _ _ _ _ py fun b o hb e => g₄.keep b o (by simp only [List.mem_cons, List.not_mem_nil, or_false]; rintro rfl; exact hb hDW) e
  · have hin : i = n := by omega
    subst hin
    refine Wk.done s' _ _ hst' fun h' tk hk' => ?_
    have g₁ : Gr [I] s' { s' with heap := h', toks := tk } := .heap fun b o hb e => hk' b o hb e
    refine hR _ ys m' (g.trans (g₁.mono (by simpa using hIW))) (hC'.at' fun o e => g₁.keep _ o (by simpa using hCI) e) ?_ hys fun j hj => ?_
    · obtain ⟨nn, e⟩ := hD'; exact ⟨nn, g₁.keep _ _ (by simpa using hDI) e⟩
    · exact hF _ _ _ _ (hFs j hj) fun b o hb e => g₁.keep b o (by simp only [List.mem_cons, List.not_mem_nil, or_false]; rintro rfl; exact hb hIW) e

/-- the block of a comprehension, from the iterator on -/
theorem comp_block {elt iter : Expr} {x : Str} {px : Pos} {scope : Scope} {cl : List (Str × Addr)} {pos : Pos} {I : Addr} {own : List Addr} {n : Nat} {P : Nat → Value → Prop} {St : Nat → Heap → Prop} {E : Value → Shared → Prop}
    {RR : Value → Addr → Result → Shared → Prop} (F : List Addr → Nat → Value → Heap → Prop) (Wk : Walks prog w A I (I :: own) [I] n P St) (hst : St 0 s.heap) (hlive : ∀ i h, St i h → IsIt h I) (hown : ∀ b ∈ own, b < s.heap.objs.size)
    (hcell : ∀ y ∈ scope.names, y.2 ≠ .cell) (hkind : scope.kind = .function) (hx : scope.names.lookup x = some .local) (hsz : n ≤ sizeLine)
    (hF : ∀ W i y h h', F W i y h → (∀ b o, b ∉ W → h.get? b = some o → h'.get? b = some o) → F W i y h')
    (helt : ∀ C D i v s' m', s.heap.get? C = none → s.heap.get? D = none → i < n → P i v → Gr [I, D, C] s s' → (∀ b ∈ [I, D, C], ∃ o, s'.heap.get? b = some o) → s'.heap.Ns C m' → m' x = some v → Px prog w A (eval elt (compEnvC scope cl C env)) s' (F [I, D, C] i))
    (hR : ∀ C D s' ys m', s.heap.get? C = none → s.heap.get? D = none → C ≠ D → Gr [I, D, C] s s' → s'.heap.Ns C m' → s'.heap.PlainList D ys → ys.size = n → (∀ i (hi : i < ys.size), F [I, D, C] i ys[i] s'.heap) → RR (.ref D) C (.ok .next) s') :
    wpAny (model prog w) A (newList []) (fun acc s₃ => wpAny (model prog w) A (newFunctionEnv scope env.globals cl [] env.qual none .none (some env)) (fun cenv s₄ =>
      codeAny (model prog w) A (.compStart (.ListComp elt [⟨.Name x px, iter, [], 0⟩] scope pos) 0 (.ref I) acc { cenv with scope := relabel scope env }) (RR acc cenv.locals) s₄) E s₃) E s := by
  refine wpAny_newObj_type (wpAny_newFunctionEnv hcell (by intro y hy; simp at hy) (fun h₁ hns₁ hsb₁ => ?_) hkind)
  dsimp only at hns₁ hsb₁ ⊢
  generalize hH2 : s.heap.push { cls := .type "list", dict := none, data := .seq ([] : List Value).toArray } = H2 at hns₁ hsb₁ ⊢
  have hC : H2.objs.size = s.heap.objs.size + 1 := by rw [← hH2, Heap.size_push]
  have hDC : s.heap.objs.size ≠ H2.objs.size := by rw [hC]; exact Nat.ne_of_lt (Nat.lt_succ_self _)
  have fresh : ∀ a, s.heap.objs.size ≤ a → s.heap.get? a = none := fun a ha => by
    cases e : s.heap.get? a with
    | none => rfl
    | some o' => exact absurd (Heap.lt_size e) (Nat.not_lt.mpr ha)
  have old : ∀ b o, s.heap.get? b = some o → h₁.get? b = some o := fun b o e => hsb₁.extBut b o (by rw [hC]; exact Nat.ne_of_lt (Nat.lt_succ_of_lt (Heap.lt_size e))) (Heap.get?_push_of_some _ (hH2 ▸ Heap.get?_push_of_some _ e))
  have hacc : h₁.PlainList s.heap.objs.size #[] := ⟨_, hsb₁.extBut _ _ hDC (Heap.get?_push_of_some _ (hH2 ▸ Heap.get?_push_size _ rfl))⟩
  have hst₁ : St 0 h₁ := Wk.frame _ _ _ hst fun b _ o e => old b o e
  obtain ⟨oI, vI, eI, _⟩ := hlive _ _ hst
  have hI := Heap.lt_size eI
  have loop : ∀ s₃ : Shared, s₃ = { s with heap := h₁, toks := s.toks + ([] : List (Str × Value)).length } →
      codeAny (model prog w) A (.compLoop (.ListComp elt [⟨.Name x px, iter, [], 0⟩] scope pos) 0 (.ref I) (.ref s.heap.objs.size) (compEnvC scope cl H2.objs.size env))
        (RR (.ref s.heap.objs.size) H2.objs.size) s₃ := by
    rintro s₃ rfl
    have g₀ : Gr [I, s.heap.objs.size, H2.objs.size] s { s with heap := h₁, toks := s.toks + ([] : List (Str × Value)).length } := .heap fun b o _ e => old b o e
    refine comp_loop (cenv := compEnvC scope cl H2.objs.size env) [I, s.heap.objs.size, H2.objs.size] (F [I, s.heap.objs.size, H2.objs.size]) Wk hst₁ hacc hns₁ (by simp) (by show H2.objs.size ∈ _; simp) (by simp) hDC (Nat.ne_of_gt hI) (Nat.ne_of_gt (by show I < H2.objs.size; rw [hC]; exact Nat.lt_succ_of_lt hI))
      (fun hm => Nat.lt_irrefl _ (hown _ hm)) (fun hm => by have q : H2.objs.size < s.heap.objs.size := hown _ hm; omega) hsz (fun i y h h' f k => hF _ i y h h' f k)
      (fun i v s' m' hi p g hl hn hm => helt _ _ i v s' m' (fresh _ (by omega)) (fresh _ (Nat.le_refl _)) hi p (g₀.trans g) (fun b hb => hl b hb ?_) hn hm) hlive ?_ (lookup_relabel_local hx) (by show scope.kind = _; exact hkind)
    · simp only [List.mem_cons, List.not_mem_nil, or_false] at hb
      rcases hb with rfl | rfl | rfl
      · exact ⟨_, old _ _ eI⟩
      · obtain ⟨_, e⟩ := hacc; exact ⟨_, e⟩
      · obtain ⟨o, _, _, e, _⟩ := hns₁; exact ⟨o, e⟩
    · intro s' ys m' g hn hp hy hf
      exact hR _ _ s' ys m' (fresh _ (by omega)) (fresh _ (Nat.le_refl _)) (Ne.symm hDC) (g₀.trans g) hn hp hy hf
  exact codeAny_compStart_list (loop _ rfl) (Wk.self 0 _ _ _ hst₁ (loop _ rfl))

/-- a comprehension of one clause without a test, as an expression -/
theorem px_comp {elt iter : Expr} {x : Str} {px : Pos} {scope : Scope} {cl : List (Str × Addr)} {pos : Pos} {own : List Addr} {n : Nat} {P : Nat → Value → Prop} (F : List Addr → Nat → Value → Heap → Prop)
    (hclos : closureFor scope env = pure cl) (hiter : Px prog w A (eval iter env) s (fun v h => Itb prog w A h v own n P)) (hsz : n ≤ sizeLine)
    (hF : ∀ W i y h h', F W i y h → (∀ b o, b ∉ W → h.get? b = some o → h'.get? b = some o) → F W i y h')
    (helt : ∀ W C i v s' m', i < n → P i v → Gr W s s' → (∀ b ∈ W, s.heap.get? b = none ∧ ∃ o, s'.heap.get? b = some o) → C ∈ W → s'.heap.Ns C m' → m' x = some v → Px prog w A (eval elt (compEnvC scope cl C env)) s' (F W i))
    (hx : scope.names.lookup x = some .local := by rfl) (hcell : ∀ y ∈ scope.names, y.2 ≠ .cell := by decide) (hkind : scope.kind = .function := by rfl)
    (hnames : ∀ y ∈ scope.names, y.2 = .local → scope.names.lookup y.1 = some .local := by decide)
    (hs : ∀ x, foldedSetIterable iter env x = pure x := by intro _; rfl) :
    Px prog w A (eval (.ListComp elt [⟨.Name x px, iter, [], 0⟩] scope pos) env) s
      (fun v h => ∃ D ys W, v = .ref D ∧ s.heap.get? D = none ∧ h.PlainList D ys ∧ ys.size = n ∧ (∀ b ∈ W, s.heap.get? b = none) ∧ ∀ i (hi : i < ys.size), F W i ys[i] h) := fun s₁ Q E g k => by
  rw [eval_ListComp]
  refine wpAny_comprehension_free (use := none) rfl hs hclos hkind hnames (hiter.use g fun xv s₂ g₂ hi => hi s₂ _ _ (fun _ _ e => e) fun s₃ I St g₃ hI hlive Wk hst hown => ?_)
  have gs := (g.trans g₂).trans g₃
  have up : ∀ b, s₃.heap.get? b = none → s.heap.get? b = none := fun b e => by
    cases h : s.heap.get? b with
    | none => rfl
    | some o => rw [gs.k _ _ h] at e; cases e
  have hIs : s.heap.get? I = none := by
    cases e : s.heap.get? I with
    | none => rfl
    | some o => rw [(g.trans g₂).k _ _ e] at hI; cases hI
  refine comp_block (RR := fun acc C => compPost (model prog w) A E none Q acc C) F Wk hst hlive (fun b hb => ?_) hcell hkind hx hsz hF (fun C D i v s' m' hC hD hi p g' hl hn hm => ?_) ?_
  · exact hown b hb
  · refine helt [I, D, C] C i v s' m' hi p (gs.any.trans g') (fun b hb => ⟨?_, hl b hb⟩) (by simp) hn hm
    simp only [List.mem_cons, List.not_mem_nil, or_false] at hb
    rcases hb with rfl | rfl | rfl
    · exact hIs
    · exact up _ hD
    · exact up _ hC
  · intro C D s' ys m' hC hD hCD g' hn hp hy hf
    refine ⟨m', hn, fun h'' hs'' => ?_⟩
    have g'' : Gr [C] s' { s' with heap := h'' } := .heap fun b o hb e => hs''.extBut b o (by simpa using hb) e
    have gg : Gr [I, D, C] s₁ { s' with heap := h'' } := ((g₂.trans g₃).any.trans g').trans (g''.mono (by simp))
    have hW1 : ∀ b ∈ [I, D, C], s.heap.get? b = none := fun b hb => by
      simp only [List.mem_cons, List.not_mem_nil, or_false] at hb
      rcases hb with rfl | rfl | rfl
      · exact hIs
      · exact up _ hD
      · exact up _ hC
    have hW2 : ∀ b ∈ [I, D, C], s₁.heap.get? b = none := fun b hb => by
      have up1 : ∀ b, s₃.heap.get? b = none → s₁.heap.get? b = none := fun b e => by
        cases h : s₁.heap.get? b with
        | none => rfl
        | some o => rw [(g₂.trans g₃).k _ _ h] at e; cases e
      simp only [List.mem_cons, List.not_mem_nil, or_false] at hb
      rcases hb with rfl | rfl | rfl
      · cases e : s₁.heap.get? b with
        | none => rfl
        | some o => rw [g₂.k _ _ e] at hI; cases hI
      · exact up1 _ hD
      · exact up1 _ hC
    refine k _ _ (Gr.frame (.refl _ _) gg hW2) ⟨D, ys, [I, D, C], rfl, up _ hD, ?_, hy, hW1, fun i hi => ?_⟩
    · obtain ⟨nn, e⟩ := hp; exact ⟨nn, g''.keep _ _ (by simpa using Ne.symm hCD) e⟩
    · exact hF _ _ _ _ _ (hf i hi) fun b o hb e => g''.keep b o (by simp only [List.mem_cons, List.not_mem_nil, or_false] at hb ⊢; rintro rfl; exact hb (.inr (.inr rfl))) e

theorem none_back {s s' : Shared} {b : Addr} (g : Gr [] s s') (e : s'.heap.get? b = none) : s.heap.get? b = none := by
  cases h : s.heap.get? b with
  | none => rfl
  | some o => rw [g.k _ _ h] at e; cases e

/-- y = [elt for x in iter], y a local name -/
theorem sx_comp {elt iter : Expr} {x y : Str} {px py : Pos} {scope : Scope} {cl : List (Str × Addr)} {pos spos : Pos} {own : List Addr} {n : Nat} {P : Nat → Value → Prop} {m : Str → Option Value} (F : List Addr → Nat → Value → Heap → Prop)
    (hn : s.heap.Ns env.locals m) (hclos : closureFor scope env = pure cl) (hiter : Px prog w A (eval iter env) s (fun v h => Itb prog w A h v own n P)) (hsz : n ≤ sizeLine)
    (hF : ∀ W i y h h', F W i y h → (∀ b o, b ∉ W → h.get? b = some o → h'.get? b = some o) → F W i y h')
    (helt : ∀ W C i v s' m', i < n → P i v → Gr W s s' → (∀ b ∈ W, (b = env.locals ∨ s.heap.get? b = none) ∧ ∃ o, s'.heap.get? b = some o) → C ∈ W → s'.heap.Ns C m' → m' x = some v → Px prog w A (eval elt (compEnvC scope cl C env)) s' (F W i))
    (h : ∀ D ys W s₂, s.heap.get? D = none → s₂.heap.PlainList D ys → ys.size = n → (∀ b ∈ W, b = env.locals ∨ s.heap.get? b = none) → (∀ i (hi : i < ys.size), F W i ys[i] s₂.heap) → s₂.heap.Ns env.locals (upd m y (.ref D)) → Gr [env.locals] s s₂ → O .next s₂)
    (hsw : swapsWith (.ListComp elt [⟨.Name x px, iter, [], 0⟩] scope pos) (some (.Name y py)) spos.line env = pure true := by rfl)
    (hx : scope.names.lookup x = some .local := by rfl) (hcell : ∀ y ∈ scope.names, y.2 ≠ .cell := by decide) (hkind : scope.kind = .function := by rfl)
    (hnames : ∀ y ∈ scope.names, y.2 = .local → scope.names.lookup y.1 = some .local := by decide) (hek : env.scope.kind = .function := by rfl) (hy : env.kindOf y = some .local := by rfl)
    (hs : ∀ x, foldedSetIterable iter env x = pure x := by intro _; rfl) :
    Sx prog w A (exec (.Assign [.Name y py] (.ListComp elt [⟨.Name x px, iter, [], 0⟩] scope pos) spos) env) s O := fun E => by
  rw [exec_Assign_Name_used _ _ _ _ hsw]
  refine wpAny_bind (wpAny_standAt (wpAny_bind ?_))
  show wpAny _ A (do let _ ← comprehension (.ListComp elt [⟨.Name x px, iter, [], 0⟩] scope pos) scope env _ (newList []) false (eval iter env) (some (assign (.Name y py) env))) _ _ s
  refine wpAny_bind (wpAny_mono (wpAny_comprehension_free (use := some (assign (.Name y py) env)) (Q := fun _ s' => O .next s') rfl hs hclos hkind hnames
    (hiter.use (.refl _ _) fun xv s₂ g₂ hi => hi s₂ _ _ (fun _ _ e => e) fun s₃ I St g₃ hI hlive Wk hst hown => ?_)) (fun _ s' hq => wpAny_pure (wpAny_pure hq)) fun _ _ e => e)
  have gs := g₂.trans g₃
  have hIs := none_back g₂ hI
  have hnL : ∀ {b : Addr}, s.heap.get? b = none → env.locals ≠ b := fun hb e => by obtain ⟨o, _, _, eo, _⟩ := hn; rw [← e, eo] at hb; cases hb
  refine comp_block (RR := fun acc C => compPost (model prog w) A E (some (assign (.Name y py) env)) (fun _ s' => O .next s') acc C) (fun W => F (env.locals :: W)) Wk hst hlive hown hcell hkind hx hsz
    (fun W i y h h' f k => hF _ _ _ _ _ f fun b o hb e => k b o (fun q => hb (List.mem_cons_of_mem _ q)) e) (fun C D i v s' m' hC hD hi p g' hl hn' hm => ?_) ?_
  · refine helt (env.locals :: [I, D, C]) C i v s' m' hi p (gs.any.trans (g'.mono fun b hb => List.mem_cons_of_mem _ hb)) (fun b hb => ?_) (by simp) hn' hm
    rcases List.mem_cons.mp hb with rfl | hb
    · obtain ⟨o, _, _, eo, _⟩ := hn
      refine ⟨.inl rfl, o, g'.keep _ _ ?_ (gs.k _ _ eo)⟩
      simp only [List.mem_cons, List.not_mem_nil, or_false, not_or]
      exact ⟨hnL hIs, hnL (none_back gs hD), hnL (none_back gs hC)⟩
    · refine ⟨.inr ?_, hl b hb⟩
      simp only [List.mem_cons, List.not_mem_nil, or_false] at hb
      rcases hb with rfl | rfl | rfl
      · exact hIs
      · exact none_back gs hD
      · exact none_back gs hC
  · intro C D s' ys m' hC hD hCD g' hnC hp hys hf
    have hL : env.locals ∉ [I, D, C] := by
      simp only [List.mem_cons, List.not_mem_nil, or_false, not_or]
      exact ⟨hnL hIs, hnL (none_back gs hD), hnL (none_back gs hC)⟩
    have hnL' : s'.heap.Ns env.locals m := (hn.keeps gs.k).at' fun o e => g'.keep _ o hL e
    show wpAny _ A (assign (.Name y py) env (.ref D)) _ _ _
    refine wpAny_assign_Name (sx_store hnL' (fun s₄ hn₄ g₄ => ?_) hek hy E)
    refine ⟨m', hnC.at' fun o e => g₄.keep _ o (by simpa using Ne.symm (hnL (none_back gs hC))) e, fun h'' hs'' => ?_⟩
    have g'' : Gr [C] s₄ { s₄ with heap := h'' } := .heap fun b o hb e => hs''.extBut b o (by simpa using hb) e
    have gg : Gr (env.locals :: [I, D, C]) s { s₄ with heap := h'' } := ((gs.any.trans (g'.mono fun b hb => List.mem_cons_of_mem _ hb)).trans (g₄.mono (by simp))).trans (g''.mono (by simp))
    refine h D ys (env.locals :: [I, D, C]) _ (none_back gs hD) ?_ hys (fun b hb => ?_) (fun i hi => ?_) ?_ ?_
    · obtain ⟨nn, e⟩ := hp
      exact ⟨nn, g''.keep _ _ (by simpa using Ne.symm hCD) (g₄.keep _ _ (by simpa using Ne.symm (hnL (none_back gs hD))) e)⟩
    · rcases List.mem_cons.mp hb with rfl | hb
      · exact .inl rfl
      · simp only [List.mem_cons, List.not_mem_nil, or_false] at hb
        rcases hb with rfl | rfl | rfl
        · exact .inr hIs
        · exact .inr (none_back gs hD)
        · exact .inr (none_back gs hC)
    · refine hF _ _ _ _ _ (hf i hi) fun b o hb e => g''.keep b o (fun q => hb ?_) (g₄.keep b o (fun q => hb ?_) e)
      · simp only [List.mem_cons, List.not_mem_nil, or_false] at q; subst q; simp
      · simp only [List.mem_cons, List.not_mem_nil, or_false] at q; subst q; simp
    · exact hn₄.at' fun o e => g''.keep _ o (by simpa using hnL (none_back gs hC)) e
    · refine ⟨fun b o hb e => gg.keep b o ?_ e, gg.same⟩
      simp only [List.mem_cons, List.not_mem_nil, or_false] at hb ⊢
      rintro (q | rfl | rfl | rfl)
      · exact hb q
      · rw [hIs] at e; cases e
      · rw [none_back gs hD] at e; cases e
      · rw [none_back gs hC] at e; cases e
end
end Mine
end

section
open PySem PySem.W PyProof.Rows
set_option maxRecDepth 1000000
set_option linter.unusedVariables false
namespace Mine
namespace F
open PySem
theorem mro_ba : mroOf (.type "bytearray") = pure [.type "bytearray", .type "object"] := by rw [mroOf_type]; kernel_rfl
theorem look_ba_new : typeLookup (.type "bytearray") "__new__" = pure (some (.builtin "bytearray.__new__")) := by rw [typeLookup_type, builtinLookup_eq_fast]; kernel_rfl
theorem slot_ba_init : Slot "bytearray" "__init__" "bytearray.__init__" :=
  .of (owner := "bytearray") (n := "__init__") (by rw [typeLookup_type, builtinLookup_eq_fast]; kernel_rfl) (by decide +kernel) (by decide +kernel) (by decide +kernel)
    (by first | exact .inl (by decide +kernel) | exact .inr (by decide +kernel)) (by rw [isSubtype_type]; kernel_rfl)
theorem sub_ba : isSubtype (.type "bytearray") (.type "bytearray") = pure true := by rw [isSubtype_type]; kernel_rfl
theorem called_ba : TypeCalled "bytearray" "bytearray.__new__" "bytearray.__init__" :=
  ⟨by decide +kernel, by decide +kernel, ⟨_, _, mro_ba⟩, madeBy_type mro_ba look_ba_new (by decide +kernel), by decide +kernel, sub_ba, slot_ba_init⟩
theorem typeCall_ba (a : Value) : checkTypeCall "bytearray" ⟨[a], []⟩ = pure () := by kernel_rfl
theorem newCall_ba (a : Value) : checkBuiltinCall "bytearray.__new__" ⟨[.type "bytearray", a], []⟩ = pure () := by kernel_rfl
theorem plain_ba_new : plainId "bytearray.__new__" = true := by decide +kernel
theorem entry_ba_new : entryFor table "bytearray.__new__" = some Builtin.«list.__new__» := entryFor_alias (id' := "list.__new__") (by kernel_rfl) (by decide +kernel) (by decide +kernel) (by kernel_rfl)
theorem entry_ba_init : entryFor table "bytearray.__init__" = some Builtin.«bytearray.__init__» := by first | exact entryFor_of_fast (by kernel_rfl) | exact entryFor_of_tree (by kernel_rfl)
theorem plain_ba_init : plainId "bytearray.__init__" = true := by decide +kernel
theorem plain_ba_init_loop : plainId "bytearray.__init__.loop" = true := by decide +kernel
theorem entry_ba_init_loop : entryFor table "bytearray.__init__.loop" = some Builtin.«bytearray.__init__.loop» := by first | exact entryFor_of_fast (by kernel_rfl) | exact entryFor_of_tree (by kernel_rfl)
set_option maxHeartbeats 4000000 in
theorem owner_ba_new : ("bytearray.__new__".splitOn ".__new__").headD "" = "bytearray" := by simp +decide [String.splitOn, String.splitOnAux]
theorem ba_bind (v : Value) : Builtin.Bytes.bindOptional "bytearray.__init__" "bytearray" ["source", "encoding", "errors"] [v] [] = pure [some v, none, none] := by kernel_rfl
theorem ba_release : typeLookup (.type "bytearray") "__release_buffer__" = pure (some (.builtin "bytearray.__release_buffer__")) := by rw [typeLookup_type, builtinLookup_eq_fast]; kernel_rfl
theorem args_ba_init (a b : Value) : argsOk "bytearray.__init__" ⟨[a, b], []⟩ := by rfl
end F

/-- a bytearray object -/
abbrev IsBA (h : Heap) (a : Addr) (b : Array UInt8) : Prop := h.get? a = some { cls := .type "bytearray", data := .bytearray b }

section
variable {prog : Program} {w : World} {A : Around} {E : Value → Shared → Prop} {s : Shared}

theorem code_ba_new (a : Value) {Q₁ : Value → Shared → Prop}
    (h : Q₁ (.ref s.heap.objs.size) { s with heap := s.heap.push { cls := .type "bytearray", data := .bytearray #[] } }) :
    codeAny (model prog w) A (.call (.builtin "bytearray.__new__") ⟨[.type "bytearray", a], []⟩) (wants Q₁ E) s := by
  refine codeAny_of_tree ?_
  show wpAny _ A.in1 (do checkBuiltinCall "bytearray.__new__" ⟨[.type "bytearray", a], []⟩; again (.builtin "bytearray.__new__" ⟨[.type "bytearray", a], []⟩)) _ _ s
  refine wpAny_bind (wpAny_of_eq (F.newCall_ba a) (wpAny_pure ⟨plainId_quiet F.plain_ba_new _, codeAny_builtin_stack F.entry_ba_new rfl fun p st => ?_⟩))
  rw [Around.under_plainId F.plain_ba_new _]
  have hsub := F.sub_ba
  have hown := F.owner_ba_new
  obtain ⟨hp, g, d, tk, os⟩ := s
  simp only [hown]
  wp_walk
  exact h

theorem ba_slotOwn {D : Addr} {Q : Bool → Shared → Prop} (hT : s.TypeIs (.ref D) "bytearray") (h : Q true s) : wpAny (model prog w) A (Builtin.Bytes.slotIsOwn (.ref D) "__release_buffer__") Q E s := by
  unfold Builtin.Bytes.slotIsOwn
  refine wpAny_bind (wpAny_specialOf hT F.ba_release ?_)
  show wpAny _ A (if (!("bytearray.__release_buffer__".endsWith ("." ++ "__release_buffer__"))) = true then _ else _) _ _ _
  refine bm_if_false (by decide +kernel) ?_
  have e : ("bytearray.__release_buffer__".dropRight ("__release_buffer__".length + 1)) = "bytearray" := by decide +kernel
  show wpAny _ A (isInstance (.ref D) (.type ("bytearray.__release_buffer__".dropRight ("__release_buffer__".length + 1)))) _ _ _
  rw [e]
  exact wpAny_isInstance hT F.sub_ba h
theorem ba_ownRelease {D : Addr} {Q : Bool → Shared → Prop} (hT : s.TypeIs (.ref D) "bytearray") (h : Q false s) : wpAny (model prog w) A (Builtin.Bytes.ownRelease (.ref D)) Q E s :=
  wpAny_bind (ba_slotOwn hT (wpAny_pure h))

theorem ba_typeIs {s : Shared} {D : Addr} {b : Array UInt8} (h : IsBA s.heap D b) : s.TypeIs (.ref D) "bytearray" := ⟨_, h, rfl⟩

end
end Mine
end

section
open PySem PySem.W PyProof.Rows
set_option maxRecDepth 100000
set_option linter.unusedVariables false
namespace Mine
open PySem.Sem (wp)

/-- an id that holds no bytearray while it runs -/
def okId (id : String) : Bool := !(Builtin.Bytes.decodersThatHold.contains id || ["bytearray.__contains__", "bytearray.__mod__", "bytearray.__rmod__", "_struct.pack_into.held", "bytearray.find.held"].contains id)
def okc : Code → Bool
  | .builtin id _ => okId id
  | _ => true
/-- no code below holds a bytearray -/
def FreeB (l : List (Code × Pos)) : Prop := ∀ x ∈ l, okc x.1 = true
def Free (Γ : Ctx) : Prop := okc Γ.code = true ∧ FreeB Γ.below
theorem freeB_append {l l' : List (Code × Pos)} : FreeB l → FreeB l' → FreeB (l ++ l') := fun a b x hx => (List.mem_append.mp hx).elim (a x) (b x)

/-- wpAny, in contexts without a holder of a bytearray on the stack -/
def wpF {α : Type} (M : Model) (A : Around) (t : Sem α) (Q : α → Shared → Prop) (E : Value → Shared → Prop) (s : Shared) : Prop :=
  ∀ Γ p, Γ.In A → Free Γ → wp M Γ t (fun a _ s' => Q a s') (fun e _ s' => E e s') p s
def codeF (M : Model) (A : Around) (c : Code) (R : Result → Shared → Prop) (s : Shared) : Prop :=
  ∀ Γ p, Γ.code = c → Γ.Below A → FreeB Γ.below → wpCode M Γ R p s

section
variable {α β : Type} {M : Model} {A : Around} {E : Value → Shared → Prop} {s : Shared}

theorem wpF_of {t : Sem α} {Q : α → Shared → Prop} (h : wpAny M A t Q E s) : wpF M A t Q E s := fun Γ p hΓ _ => h Γ p hΓ
theorem codeF_of {c : Code} {R : Result → Shared → Prop} (h : codeAny M A c R s) : codeF M A c R s := fun Γ p hc hΓ _ => h Γ p hc hΓ
theorem wpF_pure {a : α} {Q : α → Shared → Prop} (h : Q a s) : wpF M A (pure a) Q E s := fun _ _ _ _ => h
theorem wpF_mono {t : Sem α} {Q Q' : α → Shared → Prop} {E' : Value → Shared → Prop} (h : wpF M A t Q E s) (hQ : ∀ a s, Q a s → Q' a s) (hE : ∀ e s, E e s → E' e s) : wpF M A t Q' E' s :=
  fun Γ p hΓ hf => Sem.wp_mono M Γ t (fun a _ s => hQ a s) (fun e _ s => hE e s) p s (h Γ p hΓ hf)
theorem wpF_bind {m : Sem α} {f : α → Sem β} {Q : β → Shared → Prop} (h : wpF M A m (fun a s' => wpF M A (f a) Q E s') E s) : wpF M A (m >>= f) Q E s := fun Γ p hΓ hf => by
  rw [Sem.wp_bind']
  exact Sem.wp_mono M Γ m (fun a p' s' h' => h' Γ p' hΓ hf) (fun _ _ _ h' => h') p s (h Γ p hΓ hf)
/-- the head by a rule of the library, the rest here -/
theorem wpF_bindA {m : Sem α} {f : α → Sem β} {Q : β → Shared → Prop} (h : wpAny M A m (fun a s' => wpF M A (f a) Q E s') E s) : wpF M A (m >>= f) Q E s := wpF_bind (wpF_of h)
theorem wpF_holding {vs : List Value} {m : Sem α} {Q : α → Shared → Prop} (h : wpF M A m Q E s) : wpF M A (holding vs m) Q E s :=
  fun Γ p hΓ hf => by rw [Sem.wp_holding]; exact h Γ p hΓ hf
theorem wpF_operate {vs : List Value} {m : Sem Value} {Q : Value → Shared → Prop} (h : wpF M A m Q E s) : wpF M A (operate vs m) Q E s :=
  fun Γ p hΓ hf => by rw [Sem.wp_operate]; exact h Γ p hΓ hf
theorem wpF_attempt {m : Sem α} {Q : Except Value α → Shared → Prop} (h : wpF M A m (fun a => Q (.ok a)) (fun e => Q (.error e)) s) : wpF M A m.attempt Q E s := fun Γ p hΓ hf => by
  rw [Sem.wp_attempt]; exact h Γ p hΓ hf
theorem wpF_onRaise {m : Sem α} {k : Value → Sem Unit} {Q : α → Shared → Prop} (h : wpF M A m Q (fun e s' => wpAny M A (k e) (fun _ s'' => E e s'') E s') s) : wpF M A (m.onRaise k) Q E s := fun Γ p hΓ hf => by
  rw [Sem.wp_onRaise]
  exact Sem.wp_mono M Γ m (fun _ _ _ h' => h') (fun e p' s' h' => h' Γ p' hΓ) p s (h Γ p hΓ hf)
theorem wpF_of_eq {t : Sem α} {a : α} {Q : α → Shared → Prop} (h : t = pure a) (hQ : Q a s) : wpF M A t Q E s := h ▸ wpF_pure hQ
theorem wpF_if_false {c : Bool} {a b : Sem α} {Q : α → Shared → Prop} (hc : c = false) (h : wpF M A b Q E s) : wpF M A (if c = true then a else b) Q E s := by subst hc; exact h
theorem wpF_if_true {c : Bool} {a b : Sem α} {Q : α → Shared → Prop} (hc : c = true) (h : wpF M A a Q E s) : wpF M A (if c = true then a else b) Q E s := by subst hc; exact h
/-- the head by a rule of the library, in the plain form -/
theorem wpF_step {t : Sem α} {Q : α → Shared → Prop} (h : wpAny M A t Q E s) : wpF M A t Q E s := wpF_of h

theorem wpF_run {c : Code} {h : Option Value} {Q : Flow → Shared → Prop} (hc : codeF M (A.mark h) c (fun r s' => match r with | .ok f => Q f s' | .error e => E e s') s) (hnb : h ≠ some byPass := by intro x; cases x) : wpF M A (run c h) Q E s :=
  fun Γ p hΓ hf => by
    rw [Sem.wp_run]
    exact hc _ p rfl (hΓ.enter c h p hnb) (fun x hx => by
      rcases List.mem_cons.mp hx with rfl | hx
      · exact hf.1
      · exact hf.2 x hx)
theorem wpF_runValue {c : Code} {Q : Value → Shared → Prop} (hc : codeF M A c (fun r s' => match r with | .ok (.ret v) => Q v s' | .ok _ => False | .error e => E e s') s) : wpF M A (runValue c) Q E s := fun Γ p hΓ hf => by
  rw [Sem.wp_runValue]
  exact hc _ p rfl (hΓ.enter c none p (by intro x; cases x)) (fun x hx => by
    rcases List.mem_cons.mp hx with rfl | hx
    · exact hf.1
    · exact hf.2 x hx)
theorem wpF_call {f : Value} {pos : List Value} {kw : List (Str × Value)} {Q : Value → Shared → Prop} (hc : codeF M A (.call f ⟨pos, kw⟩) (fun r s' => match r with | .ok (.ret v) => Q v s' | .ok _ => False | .error e => E e s') s) : wpF M A (call f pos kw) Q E s := wpF_runValue hc

theorem codeF_mono {c : Code} {R R' : Result → Shared → Prop} (h : codeF M A c R s) (hR : ∀ r s, R r s → R' r s) : codeF M A c R' s := fun Γ p hc hΓ hf => wpCode_mono hR (h Γ p hc hΓ hf)
theorem codeF_of_tree {c : Code} {R : Result → Shared → Prop} (hok : okc c = true)
    (h : wpF M (A.under c) (M.den c) (fun fin s' => match fin with | .done f => R (.ok f) s' | .again c' => c'.quiet = true ∧ codeF M A c' R s') (fun e s' => R (.error e) s') s) : codeF M A c R s := fun Γ p hc hΓ hf => by
  rw [wpCode_iff_wp, hc]
  refine Sem.wp_mono M Γ _ (fun fin p' s' h' => ?_) (fun _ _ _ h' => h') p s (h Γ p (hc ▸ hΓ.in) ⟨by rw [hc]; exact hok, hf⟩)
  cases fin with
  | done f => exact h'
  | again c' => exact ⟨h'.1, h'.2 (Γ.goto c') p' rfl (hΓ.goto c') hf⟩
theorem codeF_loop {c : Code} {R : Result → Shared → Prop} (hok : okc c = true) (hq : c.quiet = true) (I : Nat → Shared → Prop)
    (turn : ∀ n s, I n s → wpF M (A.under c) (M.den c)
      (fun fin s' => match fin with | .done f => R (.ok f) s' | .again c' => (c' = c ∧ ∃ m, m < n ∧ I m s') ∨ (c'.quiet = true ∧ codeF M A c' R s')) (fun e s' => R (.error e) s') s)
    (n : Nat) (h : I n s) : codeF M A c R s := by
  induction n using Nat.strongRecOn generalizing s with
  | ind n ih =>
    refine codeF_of_tree hok (wpF_mono (turn n s h) (fun fin s' hf => ?_) fun _ _ h' => h')
    cases fin with
    | done f => exact hf
    | again c' =>
      rcases hf with ⟨rfl, m, hm, hI⟩ | hf
      · exact ⟨hq, ih m hm hI⟩
      · exact hf

/-- no one holds the bytearray -/
theorem exportedF {self : Value} {Q : Bool → Shared → Prop} (h : Q false s) : wpF M A (Builtin.Bytes.exported self) Q E s := fun Γ p hΓ hf => by
  unfold Builtin.Bytes.exported
  rw [Sem.wp_bind']
  show wp M Γ stack _ _ p s
  unfold stack
  rw [Sem.wp_stack]
  show Q _ s
  have hl : FreeB ((Γ.code, p) :: Γ.below) := fun x hx => by
    rcases List.mem_cons.mp hx with rfl | hx
    · exact hf.1
    · exact hf.2 x hx
  generalize ((Γ.code, p) :: Γ.below) = l at hl ⊢
  refine Eq.mpr (congrArg (fun b => Q b s) (?_ : List.any l _ = false)) h
  rw [List.any_eq_false]
  intro x hx
  have hx := hl x hx
  split <;> simp_all [okc, okId]
end
end Mine
end

section
open PySem PySem.W PyProof.Rows
set_option maxRecDepth 100000
set_option linter.unusedVariables false
namespace Mine
open PySem.Calls

/-- what is asked of the call behind the top: as the library's, but of contexts without a holder of a bytearray -/
abbrev WalkF (q : Program) (loose : List Str) (XP : (Str → Option Value) → Heap → Prop) (YP : World → Heap → Prop) (r : RowW) (d : DefRec) (kwd : List (Str × Expr)) : Prop :=
  ∀ (w : World) (s₀ s₁ : Shared) (mg mb : Str → Option Value), Ground q loose r.records XP w s₀ mg mb s₁.heap → YP w s₁.heap → ∀ (a : Addr) (o : Obj) (pm cd doc dV kV : Value), s₁.heap.get? a = some o →
    o.data = .func { docDef d.name d.params d.body d.scope pm cd doc with defaults := dV, kwdefaults := kV } → s₁.heap.CodeRec cd d.name → Dflts mg s₁.heap d.params kwd dV kV → mg d.name = some (.ref a) → s₁.gens = #[] →
    ∀ (args : List WData) (vals : List Value) (as : List Addr), r.claim.pre args = true → WData.layableAll args = true → ReadsAllW r.records (classAt s₀.heap) s₁.heap vals args as → WellAll w.params s₁.heap vals args → (∀ a ∈ as, (a == sysModules) = false) →
      wpF (model r.prog w) callerA (PySem.call (.ref a) vals) (fun v s' => GoodWG r.claim (classAt s₀.heap) (ExcName.means s₀.heap) args s₁ (.ok (.ret v)) s')
        (fun e s' => GoodWG r.claim (classAt s₀.heap) (ExcName.means s₀.heap) args s₁ (.error e) s') s₁

def theCaller : Ctx := ⟨.builtin "claim.caller" {}, none, none, [], none⟩
theorem caller_free : Free theCaller := ⟨by decide +kernel, fun _ h => nomatch h⟩

/-- the caller's own thread ends as the tree does -/
theorem thread_endsF {prog : Program} {w : World} {t : Sem Fin} {s : Shared} {R : Result → Shared → Prop} (hreg : s.asleep)
    (h : wpF (model prog w) callerA t (fun fin s' => ∃ f, fin = .done f ∧ R (.ok f) s' ∧ AllBare s'.gens) (fun e s' => R (.error e) s' ∧ AllBare s'.gens) s) :
    ∃ n r s' s'', runN (denote table) prog w n s ⟨t, .builtin "claim.caller" {}, default, []⟩ = .halted (outcomeOf r) s' ∧
      schedN (denote table) prog w n (.single s ⟨t, .builtin "claim.caller" {}, default, []⟩) = .halted (outcomeOf r) s' ∧ s'.forget = s''.forget ∧ R r s'' := by
  have key : Sem.wp (model prog w) theCaller t (Sem.finPost (model prog w) theCaller fun r s' => R r s' ∧ leftWithCleanup s'.gens = false) (fun e _ s' => R (.error e) s' ∧ leftWithCleanup s'.gens = false) default s := by
    refine Sem.wp_mono _ _ _ (fun fin p' s' z => ?_) (fun e p' s' z => ⟨z.1, leftWithCleanup_false_of_bare z.2⟩) _ _ (h theCaller default caller_in caller_free)
    obtain ⟨f, rfl, z1, z2⟩ := z
    exact ⟨z1, leftWithCleanup_false_of_bare z2⟩
  obtain ⟨n, r, s₁, s₂, hs, hn, hfo, hR⟩ := wp_halts_full (M := model prog w) (R := R) hreg key
  exact ⟨n, r, s₂, s₁, hn, hs, hfo, hR⟩

end Mine

/-- the head's bridge for such a call. It bears the library's short name under this namespace, so that the head's tactic, run here, takes this one. -/
theorem Mine.PySem.W.holds_open {r : OpenRow} {q : Program} {loose : List Str} {Xt : Shared → Bool} {XP : (Str → Option Value) → Heap → Prop} {α : Type} {Yf : Shared → α} {Ya : World → α} {YP : World → Heap → Prop} {d : DefRec} {kwd : List (Str × Expr)} {N : Nat}
    (left : LeftO r.prog q loose Xt Yf Ya N) (hY : ∀ w s, Yf s = Ya w → YP w s.heap) (hYk : ∀ w h h', YP w h → (∀ b o, h.get? b = some o → h'.get? b = some o) → YP w h')
    (hX : ∀ s, Xt s = true → XP (s.heap.nsMap mainGlobals) s.heap) (hXk : ∀ mg h h', XP mg h → (∀ b o, h.get? b = some o → h'.get? b = some o) → XP mg h')
    (hdef : defOf q r.name = some (d, kwd)) (hp : r.prog.theDef r.name = some (d.params, d.body, d.scope)) (hk : kwWritten? d.params.kwonlyargs d.params.kw_defaults = some kwd) (hRf : ∀ s, Xt s = true → RecFacts r.records s.heap) (hwr : (!r.writes || r.records.isEmpty) = true)
    (k1 : r.wellSaid = true) (ok : (chainsOk q && opensWell r.prog && (frees r.toRowW && r.within.isEmpty)) = true) (hb : r.prog.bare) (hw : r.toRowW.promised)
    (call : WalkF q loose XP YP r.toRowW d kwd) : r.Holds := by
  refine ⟨k1, hw, ?_⟩
  obtain ⟨hok, hfr⟩ := Bool.and_eq_true_iff.mp ok
  obtain ⟨hch, hopen⟩ := Bool.and_eq_true_iff.mp hok
  obtain ⟨hfr, hwi⟩ := Bool.and_eq_true_iff.mp hfr
  obtain ⟨hsame, hu, ha, hap, hm⟩ := frees_parts hfr
  have hwi : r.toRowW.claim.within = [] := List.isEmpty_iff.mp hwi
  refine ⟨⟨hb, hopen, by show r.makers.map _ = []; rw [hm]; rfl⟩, hw.witness, fun w => ⟨(left.behind hX hch w).1, fun s' hs' => ?_⟩⟩
  obtain ⟨s₀, hf, hg0, s, hT, hz, hgens, hg, G0, y⟩ := (left.behind (XP := fun mg h => XP mg h ∧ RecFacts r.records h) (fun s hs => ⟨hX s hs, hRf s hs⟩) hch w).2 s' hs'
  have RF := G0.X.2
  have G : Ground q loose [] XP w s (s.heap.nsMap mainGlobals) (s.heap.nsMap builtinsNs) s.heap := ⟨G0.T, G0.B, G0.D, G0.TE, G0.TD, G0.W, G0.X.1, G0.cls, G0.has, G0.apart, G0.once, G0.K⟩
  have hgens : s.gens = #[] := Array.eq_empty_of_size_eq_zero (beq_iff_eq.mp hgens)
  refine ⟨s₀, hf, hg0, s, hT, fun n hn => ?_, RF.1, RF.2.1, ?_⟩
  · obtain rfl : n = r.name := by split at hn <;> simp_all
    exact pinned_of_view hg G hdef hp hk
  intro args hpre hlay ord hord
  have G₀ : Ground q loose r.records XP w s _ _ s.heap := RF.ground G
  obtain ⟨⟨vs, s₁⟩, hlaid⟩ := Option.isSome_iff_exists.mp (layAllW_isSome (P := w.params) (ord := ord) G₀.has args r.args s (pre_splitW hpre).1)
  have keeps := layAllW_keeps _ _ _ hlaid
  have hal := layAllW_rest _ _ _ hlaid
  obtain ⟨as, hrd, hin, hold⟩ := reads_layAllW hord _ _ _ hlaid hlay s₁.heap (fun _ _ e => e)
  have L : Laid r.records w s s₁ args vs as := ⟨⟨ord, hord, hlaid⟩, hrd, hin, hold, keeps, hal.1.trans hgens, hal.2.2.1⟩
  have G₁ := G₀.keeps hXk keeps
  obtain ⟨a, o, pm, cd, doc, dV, kV, h1, h2, h3, h4, h5⟩ := G₁.fn hdef
  have go := call w s s₁ _ _ G₁ (hYk _ _ _ (hY w s y) keeps) a o pm cd doc dV kV h2 h3 h4 h5 (defOf_name hdef ▸ h1) L.gens args vs as hpre hlay L.reads L.well (L.low G₀.low)
  have hi := ident_freeW (r := r.toRowW) hu ha hap
  let K : Result → Shared → Prop := fun res s' => r.toRowW.claim.Ends s args vs s₁ res s' ∧ s'.os = s.os ∧ (r.writes = true → namesKept r.prog r.keeps s.heap s'.heap ∧ ∀ x ∈ r.records, ∀ a, classAt s.heap x.1 = some a → recordClass s'.heap a x.1 (x.2.map (·.1)) = true)
  have fin : ∀ res s', GoodWG r.toRowW.claim (classAt s.heap) (ExcName.means s.heap) args s₁ res s' → K res s' ∧ AllBare s'.gens := fun res s' g => by
    have z := g.laid (c := r.toRowW.claim) hsame hwi hi L
    exact ⟨⟨z.1, z.2.1, fun q => ⟨namesKept_of hT hg r.keeps keeps g.2.1.old, noTable hwr q⟩⟩, z.2.2⟩
  obtain ⟨n, res, t', t'', hrun, hsched, hfo, ⟨hcase, hos, hkp⟩⟩ := thread_endsF (prog := r.prog) (w := w) (s := s₁) (R := K)
    (t := do match ← nsGet mainNs r.name with
      | some f => do ret (← PySem.call f vs)
      | none => unsupported "claim.caller:no-such-global") (Shared.asleep_of_life hal.2.2.2 hz)
    (wpF_bindA (wpAny_nsGet G₁.T.g (by
      rw [h1]
      exact wpF_bind (wpF_mono go (fun v s' g => wpF_pure ⟨_, rfl, fin _ _ g⟩) fun e s' g => fin _ _ g))))
  obtain ⟨eh, _, _, eo, _⟩ := Shared.forget_eq hfo
  have hcase := hcase.congr eh
  rw [← eh] at hkp
  rw [← eo] at hos
  have hlife : t'.heap.life = s.heap.life := (runN_life _ _ _ hrun).trans hal.2.2.2
  refine ⟨vs, s₁, hlaid, n, _, t', hsched, ?_, (fun _ i x hx => by rw [hgens] at hx; simp at hx), hkp, by rw [hlife], Shared.rest_eq hos⟩
  rcases hcase with ⟨v, rfl, d1, d2, d3, d4, d5⟩ | ⟨e, ob, cls, rfl, d1, d2, d3, d4, d5⟩
  · exact .inl ⟨v, rfl, d1, d2, d3, fun b o y _ => d4 b o y, d5⟩
  · exact .inr ⟨e, ob, cls, rfl, d1, d2, d3, d4, fun b o y _ => d5 b o y⟩
end

section
open PySem PySem.W PyProof.Rows
set_option maxRecDepth 100000
namespace Mine
set_option maxHeartbeats 8000000 in
open_top hd for PySem.Challenge.rw_ax6023_01
end Mine
end

section
open PySem PySem.W PyProof.Rows
set_option maxRecDepth 100000
set_option linter.unusedVariables false
namespace Mine
def P0 : Params := { strHash := fun _ => 0, shareClass := fun _ => 0, mergeTok := id, idOf := fun _ => 0, idOfShared := fun _ _ => 0, followText := fun _ => false, idOfImm := fun _ => 0 }
noncomputable def fn (a : Addr) : FuncData := match (hd.heap_39 P0).lookup a with
  | some ⟨_, _, .func fd, _⟩ => fd
  | _ => default
noncomputable def bodyOf (fd : FuncData) : List Stmt := match fd.body with
  | .stmts b => b
  | _ => []
noncomputable def esOf (P : Params) (a : Addr) : Array DictEntry := match (hd.heap_39 P).lookup a with
  | some ⟨_, _, .dict es _, _⟩ => es
  | _ => #[]
noncomputable def gm (P : Params) (x : Str) : Option Value := nsFind (esOf P 3) x
def strKey (e : DictEntry) : Bool := match e.key with
  | .str .. => true
  | _ => false
theorem strKeys_of {es : Array DictEntry} (h : es.toList.all strKey = true) : StrKeys es := fun e he => by
  have := List.all_eq_true.mp h e (by simpa using he)
  unfold strKey at this
  split at this
  · rename_i x t q; exact ⟨x, t, q⟩
  · cases this

/-- what every frame of the text finds -/
structure Wd (P : Params) (h : Heap) : Prop where
  K : (hd.heap_39 P).In h
  b : ∃ mb, h.Ns builtinsNs mb ∧ ∀ x : Str, x ≠ "__name__" → mb x = bootBuiltins x
  lim : h.NoLimit
theorem Wd.keeps {P h h'} (X : Wd P h) (k : ∀ b o, h.get? b = some o → h'.get? b = some o) : Wd P h' := ⟨fun a o e => k _ _ (X.K a o e), let ⟨mb, n, e⟩ := X.b; ⟨mb, n.keeps k, e⟩, X.lim.keeps k⟩

theorem g_ns {P h} (X : (hd.heap_39 P).In h) : h.Ns mainGlobals (gm P) := ⟨_, esOf P 3, _, X 3 _ rfl, rfl, strKeys_of (by rfl), fun _ => rfl⟩

section
variable {prog : Program} {w : World} {A : Around} {s₀ : Shared} {env : Env} {P : Params}
theorem px_glob {x : Str} {pos : Pos} {v : Value} (X : Wd P s₀.heap) (hg : env.globals = mainGlobals := by rfl) (hv : gm P x = some v := by rfl) (hk : env.scope.kind = .function := by rfl) (hl : env.kindOf x = some .globalImplicit := by rfl)
    (hd : (x == ("__debug__" : Str)) = false := by decide) : Px prog w A (eval (.Name x pos) env) s₀ (IsV v) := px_global (hg ▸ g_ns X.K) hv hk hl hd
theorem px_bi {x : Str} {pos : Pos} {v : Value} (X : Wd P s₀.heap) (hg : env.globals = mainGlobals := by rfl) (hb : env.builtins = builtinsNs := by rfl) (hm : gm P x = none := by rfl) (hv : bootBuiltins x = some v := by rfl) (hn : x ≠ "__name__" := by decide)
    (hk : env.scope.kind = .function := by rfl) (hl : env.kindOf x = some .globalImplicit := by rfl)
    (hd : (x == ("__debug__" : Str)) = false := by decide) : Px prog w A (eval (.Name x pos) env) s₀ (IsV v) := by
  obtain ⟨mb, n, e⟩ := X.b
  exact px_builtin (hg ▸ g_ns X.K) hm (hb ▸ n) ((e x hn).trans hv) hk hl hd
end

theorem fn78 {P h} (X : Wd P h) : h.get? 78 = some { cls := .type "function", data := .func (fn 78) } := X.K 78 _ rfl
theorem code78 {P h} (X : Wd P h) : h.CodeRec (fn 78).code (fn 78).qualname := ⟨_, _, _, _, rfl, X.K 77 _ rfl, rfl, rfl⟩
theorem bi_len : bootBuiltins (Str.ofString "len") = some (.builtin "len") := by rfl
theorem bi_list : bootBuiltins (Str.ofString "list") = some (.type "list") := by rfl

end Mine
end

section
open PySem PySem.W PyProof.Rows
set_option maxRecDepth 100000
set_option linter.unusedVariables false
namespace Mine
section
variable {prog : Program} {w : World} {A : Around} {s₀ : Shared} {env : Env} {P R : Value → Heap → Prop}

theorem px_tuple2 {e f : Expr} {k : Nat} {pos : Pos} {P₂ : Value → Value → Heap → Prop} (he : Px prog w A (eval e env) s₀ P) (hf : ∀ a s, Gr [] s₀ s → P a s.heap → Px prog w A (eval f env) s (P₂ a))
    (h : ∀ a b h₁ h₂ r, P₂ a b h₁ → (∀ b o, h₁.get? b = some o → h₂.get? b = some o) → h₁.get? r = none → h₂.get? r = some { cls := .type "tuple", data := .seq #[a, b] } → R (.ref r) h₂)
    (hs : starEach [e, f] env = [(false, eval e env), (false, eval f env)] := by rfl) : Px prog w A (eval (.Tuple [e, f] k pos) env) s₀ R := fun s Q E g kk =>
  Tuple_ ((px_args2 he hf hs).use g fun vs s₁ g₁ p₁ => by
    obtain ⟨a, b, rfl, p⟩ := p₁
    refine wpAny_newObj_type (kk _ _ (g₁.trans (Gr.heap0 (tk := s₁.toks) fun b o e => Heap.get?_push_of_some _ e)) ?_) (by size_fits)
    exact h a b s₁.heap _ _ p (fun b o e => Heap.get?_push_of_some _ e) (get_size _) (Heap.get?_push_size _ rfl))

theorem Gr.iter {W : List Addr} {s s' s'' : Shared} {I : Addr} (x : Gr W s s') (y : Gr [I] s' s'') (h : s.heap.get? I = none) : Gr W s s'' := by
  obtain ⟨k, ⟨a, tk, rfl⟩⟩ := x
  obtain ⟨k', ⟨a', tk', rfl⟩⟩ := y
  exact ⟨fun b o hb e => k' b o (by simp only [List.mem_cons, List.not_mem_nil, or_false]; rintro rfl; rw [h] at e; cases e) (k b o hb e), ⟨_, _, rfl⟩⟩
theorem ns_ne {h : Heap} {L I : Addr} {m : Str → Option Value} (hn : h.Ns L m) (e : h.get? I = none) : L ≠ I := by rintro rfl; obtain ⟨o, _, _, e', _⟩ := hn; rw [e] at e'; cases e'
theorem list_ne {h : Heap} {L I : Addr} {m : Array Value} (hn : h.IsList L m) (e : h.get? I = none) : L ≠ I := by rintro rfl; obtain ⟨o, e', _⟩ := hn; rw [e] at e'; cases e'
theorem ns_live {h : Heap} {L : Addr} {m : Str → Option Value} (hn : h.Ns L m) : ∀ b ∈ [L], ∃ o, h.get? b = some o := fun b hb => by
  simp only [List.mem_cons, List.not_mem_nil, or_false] at hb; subst hb; obtain ⟨o, _, _, e, _⟩ := hn; exact ⟨o, e⟩
theorem Gr.ns {s s' : Shared} {L : Addr} {W : List Addr} {m : Str → Option Value} (x : Gr W s s') (hn : s.heap.Ns L m) (h : L ∉ W) : s'.heap.Ns L m := hn.at' fun o e => x.keep _ o h e
theorem Gr.ns1 {s s' : Shared} {L I : Addr} {m : Str → Option Value} (x : Gr [I] s s') (hn : s.heap.Ns L m) (h : L ≠ I) : s'.heap.Ns L m := x.ns hn (by simpa using h)
theorem sx_bind {x : Str} {pos : Pos} {m : Str → Option Value} {v : Value} {s : Shared} {O' : Unit → Shared → Prop} (hn : s.heap.Ns env.locals m) (h : ∀ s₂, s₂.heap.Ns env.locals (upd m x v) → Gr [env.locals] s s₂ → O' () s₂)
    (hk : env.scope.kind = .function := by rfl) (hl : env.kindOf x = some .local := by rfl) : Sx prog w A (assign (.Name x pos) env v) s O' := fun E => wpAny_assign_Name (sx_store hn h hk hl E)

theorem bits_le_of {b : Int} (h : b.natAbs < 2 ^ 64) : Builtin.Int.intBits b ≤ 64 := intBits_le_64 (by omega) (by omega)
theorem mulOk_right {a b : Int} (h : b.natAbs < 2 ^ 64) : IntMulOk a b := by
  have := bits_le_of h
  unfold IntMulOk
  simp only [Bool.and_eq_true, decide_eq_true_eq, not_and]
  intro ⟨_, h2⟩
  exfalso
  have : shortFactorBits = 64 := rfl
  omega
theorem two_pow_bits {n : Nat} (h : n < 60) : ((2 : Int) ^ n).natAbs < 2 ^ 64 := by
  rw [Int.natAbs_pow]
  exact Nat.pow_lt_pow_right (by omega) (by omega)
theorem bits_two : Builtin.Int.intBits 2 = 2 := by decide +kernel

/-- 2 ** e -/
theorem px_two_pow {k pos : _} {r : Expr} {n : Nat} {pos'} (hr : Px prog w A (eval r env) s₀ (IsI n)) (hn : n < 60) : Px prog w A (eval (.BinOp (.Constant (.int 2) k pos) .Pow r pos') env) s₀ (IsI (2 ^ n)) :=
  (px_pow px_int hr (by omega) (by rw [bits_two]; omega)).mono fun v h _ p => by simpa using p
end
end Mine
end

section
open PySem PySem.W PyProof.Rows
set_option maxRecDepth 100000
set_option linter.unusedVariables false
namespace Mine

def numW (d : Nat) (xs : List Int) : Int := xs.foldl (fun a v => a * 2 ^ d + v) 0
def manyW (d n : Nat) : Nat := (n * d + 7) / 8

def NumOut (d : Nat) (xs : List Int) (v : Value) (h : Heap) : Prop := ∃ a wt mt, v = .ref a ∧ h.get? a = some { cls := .type "tuple", data := .seq #[.int (numW d xs * 2 ^ (8 * manyW d xs.length - xs.length * d)) wt, .int (manyW d xs.length : Nat) mt] }

theorem bind78 (r d : Value) : bindArgs (fn 78) ⟨[r, d], []⟩ = pure [(Str.ofString "row", r), (Str.ofString "depth", d)] := by rfl

section
variable {prog : Program} {w : World} {A : Around} {s₀ : Shared} {P : Params}
theorem px_law_number (X : Wd P s₀.heap) (hh : A.handled = none) (hA : A.depth < 900) {r : Addr} {xs : List Int} {d : Nat} {t : Tok} (hr : LI s₀.heap r xs) (hd : d ≤ 8) (hx : xs.length ≤ 1000) :
    Px prog w A (call (.ref 78) [.ref r, .int d t]) s₀ (NumOut d xs) := by
  obtain ⟨vs, hl, hi⟩ := hr
  refine px_def (fn78 X) rfl X.lim (code78 X) (by have : recursionLimit = 1000 := rfl; omega) (body := bodyOf (fn 78)) rfl (bind78 _ _) (by decide) (by simp; exact ⟨rfl, rfl⟩) fun s s₁ L g g₁ hL hn => ?_
  have base : ∀ {s'}, Gr [L] s₁ s' → Gr [] s₀ s' := fun x => g.trans (g₁.frame x (by simpa using hL))
  have hrL : r ≠ L := by rintro rfl; obtain ⟨o, e, _⟩ := hl; rw [g.k _ _ e] at hL; cases hL
  have hlen := hi.length
  have hsz : vs.toArray.size = xs.length := by simp [hlen]
  -- worth = 0
  refine sx_cons (sx_assign hn px_int fun v s₂ s₃ g₂ p₂ hn₃ g₃ => ?_)
  obtain ⟨t₀, rfl⟩ := p₂
  have g₁₃ : Gr [L] s₁ s₃ := (g₂.any).trans g₃
  have hl₃ : s₃.heap.IsList r vs.toArray := hl.at fun o e => (base g₁₃).k _ _ e
  -- the loop
  refine sx_cons (sx_for [L] (fun i s' => Gr [L] s₃ s' ∧ ∃ m u, s'.heap.Ns L m ∧ m (Str.ofString "row") = some (.ref r) ∧ m (Str.ofString "depth") = some (.int d t) ∧ m (Str.ofString "worth") = some (.int (numW d (xs.take i)) u))
    (own := [r]) (n := vs.toArray.size) (P := fun i v => vs.toArray[i]? = some v) ((px_local hn₃ rfl).mono fun v s' g' e => by subst e; exact itb_list hh (hl₃.at fun o e => g'.k _ _ e)) (by simpa using hrL) (ns_live hn₃)
    (fun s' g' => ⟨g'.any, _, t₀, hn₃.keeps g'.k, rfl, rfl, rfl⟩) (fun i s' s'' I hI _ hJ gI => ?_) ?_ ?_)
  · obtain ⟨gj, m, u, hm, h1, h2, h3⟩ := hJ
    exact ⟨gj.iter gI hI, m, u, gI.ns1 hm (ns_ne hn₃ hI), h1, h2, h3⟩
  · rintro i v s₄ hi' hv ⟨gj, m, u, hm, h1, h2, h3⟩
    obtain ⟨y, ty, rfl, hy⟩ := IntsAre.at hi i v (by simpa using hv)
    refine sx_bind hm fun s₅ hn₅ g₅ => ?_
    refine sx_cons (sx_assign hn₅ (px_add (px_mul ((px_local hn₅ (by simp [upd]; exact h3)).mono fun v s' _ e => ⟨u, e⟩) (px_two_pow ((px_local hn₅ (by simp [upd]; exact h2)).mono fun v s' _ e => ⟨t, e⟩) (by omega)) (mulOk_right (two_pow_bits (by omega)))) ((px_local hn₅ (by simp [upd] <;> rfl)).mono fun v s' _ e => ⟨ty, e⟩)) fun v s₆ s₇ g₆ p₆ hn₇ g₇ => sx_nil ?_)
    obtain ⟨u', rfl⟩ := p₆
    have gg : Gr [L] s₄ s₇ := (g₅.trans g₆.any).trans g₇
    refine ⟨⟨gj.trans gg, _, u', hn₇, ?_, ?_, ?_⟩, gg.keep⟩
    · simp [upd]; exact h1
    · simp [upd]; exact h2
    · simp [upd]
      rw [List.take_add_one, hy]
      simp [numW]
  · rintro s₄ ⟨gj, m, u, hm, h1, h2, h3⟩
    rw [hsz, List.take_length] at h3
    have g₁₄ := g₁₃.trans gj
    have X₄ : Wd P s₄.heap := X.keeps (base g₁₄).k
    have hlr : ∀ s', Gr [] s₀ s' → Px prog w (A.deeper (callEnv (fn 78) L 78)) (call (.builtin "len") [.ref r]) s' (IsI xs.length) := fun s' g' => px_len_LI ⟨vs, hl.at fun o e => g'.k _ _ e, hi⟩ (by omega)
    -- many
    refine sx_cons (sx_assign hm (px_fdiv (px_add (px_mul (px_call1 (px_bi X₄) (px_local hm h1) (fun a s' g' e => by subst e; exact hlr s' ((base g₁₄).trans g'))) ((px_local hm h2).mono fun v s' _ e => ⟨t, e⟩) (mulOk_right (by omega))) px_int) px_int (by decide) (by decide)) fun v s₅ s₆ g₅ p₅ hn₆ g₆ => ?_)
    obtain ⟨um, rfl⟩ := p₅
    have hM : ((xs.length : Int) * d + 7).fdiv 8 = (manyW d xs.length : Nat) := by
      unfold manyW
      rw [Int.fdiv_eq_ediv_of_nonneg _ (by decide)]
      omega
    rw [hM] at hn₆
    have g₁₆ := (g₁₄.trans g₅.any).trans g₆
    have X₆ : Wd P s₆.heap := X.keeps (base g₁₆).k
    have hld : xs.length * d ≤ 1000 * 8 := Nat.mul_le_mul hx hd
    have hm8 : xs.length * d ≤ 8 * manyW d xs.length ∧ 8 * manyW d xs.length - xs.length * d < 8 := by unfold manyW; omega
    -- the end
    refine sx_cons (sx_return (px_tuple2 (R := NumOut d xs) (P₂ := fun a b h => IsI (numW d xs * 2 ^ (8 * manyW d xs.length - xs.length * d)) a h ∧ IsI (manyW d xs.length : Nat) b h) (px_mul ((px_local hn₆ (by simp [upd]; exact h3)).mono fun v s' _ e => ⟨u, e⟩) (px_two_pow (n := 8 * manyW d xs.length - xs.length * d)
        ((px_sub (px_mul px_int ((px_local hn₆ (by simp [upd] <;> rfl)).mono fun v s' _ e => ⟨um, e⟩) (mulOk_right (by unfold manyW; omega))) (px_mul (px_call1 (px_bi X₆) (px_local hn₆ (by simp [upd]; exact h1)) (fun a s' g' e => by subst e; exact hlr s' ((base g₁₆).trans g'))) ((px_local hn₆ (by simp [upd]; exact h2)).mono fun v s' _ e => ⟨t, e⟩) (mulOk_right (by omega)))).mono fun v s' _ e => by
          obtain ⟨tt, rfl⟩ := e
          exact ⟨tt, by congr 1; omega⟩) (by omega)) (mulOk_right (two_pow_bits (by omega))))
      (fun a s' g' p => ((px_local (hn₆.keeps g'.k) (by simp [upd] <;> rfl)).mono fun v s'' _ e => ⟨p, ⟨um, e⟩⟩)) (fun a b h₁ h₂ r' p k e e' => by
        obtain ⟨⟨t1, rfl⟩, ⟨t2, rfl⟩⟩ := p
        exact ⟨r', t1, t2, rfl, e'⟩)) fun v s₇ g₇ p₇ => ⟨g₁₆.trans g₇.any, p₇⟩)
end
end Mine
end

section
open PySem PySem.W PyProof.Rows
set_option maxRecDepth 100000
set_option linter.unusedVariables false
namespace Mine

def PxF (prog : Program) (w : World) (A : Around) {α : Type} (t : Sem α) (s₀ : Shared) (P : α → Heap → Prop) : Prop :=
  ∀ (s : Shared) (Q : α → Shared → Prop) (E : Value → Shared → Prop), Gr [] s₀ s → (∀ v s', Gr [] s s' → P v s'.heap → Q v s') → wpF (model prog w) A t Q E s
theorem Px.F {prog : Program} {w : World} {A : Around} {α : Type} {t : Sem α} {s₀ : Shared} {P : α → Heap → Prop} (x : Px prog w A t s₀ P) : PxF prog w A t s₀ P := fun s Q E g k => wpF_of (x s Q E g k)

section
variable {prog : Program} {w : World} {A : Around} {E : Value → Shared → Prop} {s : Shared}

theorem ba_exportsOf {D : Addr} {b : Array UInt8} {Q : Nat → Shared → Prop} (hD : IsBA s.heap D b) (h : Q 0 s) : wpAny (model prog w) A (Builtin.Bytes.exportsOf (.ref D)) Q E s := by
  unfold Builtin.Bytes.exportsOf
  exact wpAny_bind (wpAny_load hD (wpAny_pure h))
theorem ba_held {D : Addr} {b : Array UInt8} {Q : Bool → Shared → Prop} (hD : IsBA s.heap D b) (h : Q false s) :
    wpF (model prog w) A (Builtin.Bytes.exported (.ref D) <||> (do return (← Builtin.Bytes.exportsOf (.ref D)) > 0)) Q E s := by
  refine wpF_bind (exportedF ?_)
  exact wpF_of (wpAny_bind (ba_exportsOf hD (wpAny_pure h)))
theorem ba_write {D : Addr} {b : Array UInt8} {f : Array UInt8 → Array UInt8} {Q : Unit → Shared → Prop} (hD : IsBA s.heap D b) (hz : (f b).size ≤ sizeLine) (h : ∀ h', IsBA h' D (f b) → Heap.SameBut D s.heap h' → Q () { s with heap := h' }) :
    wpAny (model prog w) A (Builtin.Bytes.write (.ref D) f) Q E s := by
  show wpAny _ _ (updateBytearray D f) _ _ _
  unfold updateBytearray
  refine wpAny_bind (wpAny_load hD ?_)
  show wpAny _ _ (update D (Obj.mapBytearray f) >>= fun _ => lookBehind D) _ _ _
  refine wpAny_bind (wpAny_update hD ?_)
  have hS₂ : (s.heap.update D (Obj.mapBytearray f)).get? D = some { cls := .type "bytearray", data := .bytearray (f b) } := Heap.get?_update_self (Obj.mapBytearray f) hD rfl
  refine wpAny_lookBehind hS₂ ?_ (h _ hS₂ (Heap.SameBut.update ..))
  show (if (f b).size > sizeLine then some "bytearray:memory" else none) = none
  rw [if_neg (Nat.not_lt.mpr hz)]

theorem good_take {vs : List Value} {ns : List Int} (h : IntsAre vs ns) (hr : ∀ n ∈ ns, 0 ≤ n ∧ n < 256) : (vs.takeWhile fun | .int i _ => decide (0 ≤ i) && decide (i < 256) | _ => false) = vs := by
  induction h with
  | nil => rfl
  | cons n t h ih =>
    have h1 := hr n (by simp)
    rw [List.takeWhile_cons]
    simp only [decide_eq_true h1.1, decide_eq_true h1.2, Bool.and_true, if_true]
    rw [ih fun m hm => hr m (List.mem_cons_of_mem _ hm)]
theorem good_bytes {vs : List Value} {ns : List Int} (h : IntsAre vs ns) : (vs.filterMap fun | .int i _ => some i.toNat.toUInt8 | _ => none).toArray = byteArr ns := by
  unfold byteArr
  congr 1
  induction h with
  | nil => rfl
  | cons n t h ih => rw [List.filterMap_cons, List.map_cons, ih]
theorem asStr_list {l : Addr} {items : Array Value} {Q : Option PySem.Str → Shared → Prop} (hl : s.heap.IsList l items) (h : Q none s) : wpAny (model prog w) A (asStr? (.ref l)) Q E s := by
  obtain ⟨o, ho, _, n, hd⟩ := hl
  unfold asStr?
  show wpAny _ _ (load l >>= _) _ _ _
  refine wpAny_bind (wpAny_load ho ?_)
  rw [hd]
  exact wpAny_pure h
theorem buffer_list {id : String} {full : Bool} {l : Addr} {items : Array Value} {Q : Option (Array UInt8) → Shared → Prop} (hl : s.heap.IsList l items) (h : Q none s) : wpAny (model prog w) A (Builtin.Bytes.buffer? id (.ref l) full) Q E s := by
  unfold Builtin.Bytes.buffer?
  refine wpAny_bind (wpAny_specialOf hl.typeIs F.bm_no_buffer ?_)
  refine wpAny_bind (wpAny_specialOf hl.typeIs F.bm_no_buffer ?_)
  exact wpAny_pure h
theorem ba_init_list {D l : Addr} {vs : List Value} {ns : List Int} {Q : Fin → Shared → Prop} (hD : IsBA s.heap D #[]) (hl : s.heap.IsList l vs.toArray) (hi : IntsAre vs ns) (hr : ∀ n ∈ ns, 0 ≤ n ∧ n < 256) (hz : ns.length ≤ sizeLine)
    (hQ : ∀ h', IsBA h' D (byteArr ns) → Heap.SameBut D s.heap h' → Q (.done (.ret .none)) { s with heap := h' }) :
    wpF (model prog w) A (Builtin.«bytearray.__init__» ⟨[.ref D, .ref l], []⟩) Q E s := by
  have hT : s.TypeIs (.ref D) "bytearray" := ba_typeIs hD
  obtain ⟨ol, hol, hoc, nl, hod⟩ := id hl
  unfold Builtin.«bytearray.__init__»
  refine wpF_bindA (ba_ownRelease hT ?_)
  refine wpF_if_false rfl ?_
  refine wpF_bindA (wpAny_of_eq (F.ba_bind _) ?_)
  dsimp only
  refine wpF_bindA (wpAny_of_eq (a := ()) rfl ?_)
  refine wpF_bindA (wpAny_of_eq (a := ()) rfl ?_)
  refine wpF_bind (ba_held hD ?_)
  refine wpF_if_false rfl ?_
  refine wpF_of (wpAny_bind (ba_write hD (Nat.zero_le _) fun h₁ hD₁ hs₁ => ?_))
  have hDl : l ≠ D := by
    rintro rfl
    have hD' : s.heap.get? l = some _ := hD
    rw [hol] at hD'
    cases hD'
    exact absurd (Value.type.inj hoc) (by decide)
  have hol₁ : h₁.get? l = some ol := (hs₁.2 l hDl).trans hol
  have hl₁ : h₁.IsList l vs.toArray := ⟨ol, hol₁, hoc, nl, hod⟩
  have hT₁ : ({ s with heap := h₁ } : Shared).TypeIs (.ref l) "list" := Heap.IsList.typeIs (s := { s with heap := h₁ }) hl₁
  refine wpAny_bind (asStr_list hl₁ ?_)
  refine bm_if_false rfl ?_
  refine wpAny_bind (bm_if_false rfl (bm_if_false rfl (wpAny_pure ?_)))
  refine wpAny_bind (wpAny_specialOf hT₁ F.bm_no_index ?_)
  refine bm_if_false rfl ?_
  refine wpAny_bind (buffer_list hl₁ ?_)
  dsimp only
  refine wpAny_bind (wpAny_typeOf hT₁ ?_)
  refine bm_if_true rfl ?_
  refine wpAny_bind (wpAny_seqItems hol₁ hod ?_)
  dsimp only
  generalize hT : List.takeWhile _ vs = T
  have e1 : T = vs := hT.symm.trans (good_take hi hr)
  subst e1
  have e3 : T.toArray[T.length]? = none := by simp
  rw [e3]
  generalize hB : (List.filterMap _ T).toArray = B
  have e2 : B = byteArr ns := hB.symm.trans (good_bytes hi)
  subst e2
  refine wpAny_bind (wpAny_rule (wpAny_bind (ba_write hD₁ (by rw [byteArr_size]; exact hz) fun h₂ hD₂ hs₂ => wpAny_pure ?_)))
  exact hQ h₂ hD₂ (hs₁.trans hs₂)

end
end Mine
end

section
open PySem PySem.W PyProof.Rows
set_option maxRecDepth 100000
set_option linter.unusedVariables false
namespace Mine

section
variable {prog : Program} {w : World} {A : Around} {E : Value → Shared → Prop} {s : Shared} {R : Result → Shared → Prop}

theorem codeF_builtin {id : String} {args : Args} {b : Builtin} (hok : okId id = true) (hb : entryFor table id = some b)
    (h : wpF (model prog w) (A.under (.builtin id args)) (b args) (fun fin s' => match fin with | .done f => R (.ok f) s' | .again c' => c'.quiet = true ∧ codeF (model prog w) A c' R s') (fun e s' => R (.error e) s') s) :
    codeF (model prog w) A (.builtin id args) R s := by
  refine codeF_of_tree hok ?_
  show wpF _ _ (match entryFor table id with | some b => b args | none => unsupported ((withoutEnding? id "#data").getD id)) _ _ s
  rw [hb]; exact h
theorem codeF_call_builtin {id : String} {args : Args} {b : Builtin} (hok : okId id = true) (hq : plainId id = true) (hb : entryFor table id = some b)
    (h : wpAny (model prog w) A.in1 (checkBuiltinCall id args) (fun _ s₁ => wpF (model prog w) A.in1 (b args)
      (fun fin s' => match fin with | .done f => R (.ok f) s' | .again c' => c'.quiet = true ∧ codeF (model prog w) A c' R s') (fun e s' => R (.error e) s') s₁)
      (fun e s' => R (.error e) s') s) : codeF (model prog w) A (.call (.builtin id) args) R s := by
  refine codeF_of_tree rfl ?_
  show wpF _ A.in1 (do checkBuiltinCall id args; again (.builtin id args)) _ _ s
  refine wpF_bindA (wpAny_mono h (fun _ s₁ h₁ => wpF_pure (And.intro (plainId_quiet hq _) (codeF_builtin hok hb ?_))) fun _ _ h' => h')
  rw [Around.under_plainId hq _]
  exact h₁
theorem wpF_call_entry {T : String} {name : Str} {id : String} {b : Builtin} {self : Value} {rest : List Value} {Q : Value → Shared → Prop} (hok : okId id = true) (h : Slot T name id) (hT : s.TypeIs self T) (hb : entryFor table id = some b)
    (hc : wpF (model prog w) A.in1 (b ⟨self :: rest, []⟩) (fun fin s' => match fin with | .done (.ret v) => Q v s' | .done _ => False | .again c' => c'.quiet = true ∧ codeF (model prog w) A c' (fun r s' => match r with | .ok (.ret v) => Q v s' | .ok _ => False | .error e => E e s') s') E s)
    (ha : argsOk id ⟨self :: rest, []⟩ := by rfl) : wpF (model prog w) A (call (.builtin id) (self :: rest)) Q E s := by
  refine wpF_call (codeF_call_builtin hok h.plain hb (h.check _ _ _ _ _ _ _ _ hT ha (wpF_mono hc (fun fin s' h' => ?_) fun _ _ h' => h')))
  cases fin with
  | done f => cases f <;> exact h'
  | again c' => exact h'
theorem wpF_callSpecial_slot {self : Value} {T : String} {name : Str} {id : String} {args : List Value} {kw : List (Str × Value)} {Q : Option Value → Shared → Prop} (hT : s.TypeIs self T) (h : Slot T name id)
    (hc : wpF (model prog w) A (call (.builtin id) (self :: args) kw) (fun v => Q (some v)) E s) : wpF (model prog w) A (callSpecial? self name args kw) Q E s := by
  simp only [callSpecial?]
  refine wpF_bindA (wpAny_specialOf hT h.lookup ?_)
  simp only [h.bind]
  exact wpF_holding (wpF_bind (wpF_pure (wpF_bind (wpF_mono hc (fun v s' h' => wpF_pure h') fun _ _ h' => h'))))

/-- a type called, its __init__ by a rule for contexts without a holder -/
theorem callTypeF {T newId initId : String} {Bi : Builtin} {args : List Value} {Q Q₁ : Value → Shared → Prop} (ft : TypeCalled T newId initId) (hokI : okId initId = true)
    (hct : checkTypeCall T ⟨args, []⟩ = pure ()) (entryI : entryFor table initId = some Bi)
    (hnew : codeAny (model prog w) A.in1 (.call (.builtin newId) ⟨.type T :: args, []⟩) (wants Q₁ E) s)
    (hnext : ∀ obj s₁, Q₁ obj s₁ → s₁.TypeIs obj T ∧ argsOk initId ⟨obj :: args, []⟩ ∧
      wpF (model prog w) A.in1.in1 (Bi ⟨obj :: args, []⟩)
        (fun fin s' => match fin with | .done (.ret v) => v = .none ∧ Q obj s' | .done _ => False | .again c' => c'.quiet = true ∧ codeF (model prog w) A.in1 c' (fun r s' => match r with | .ok (.ret v) => v = .none ∧ Q obj s' | .ok _ => False | .error e => E e s') s') E s₁) :
    wpF (model prog w) A (call (.type T) args) Q E s := by
  obtain ⟨c, tl, hmro⟩ := ft.mro
  refine wpF_call (codeF_of_tree rfl ?_)
  show wpF _ _ (callAny (.type T) _) _ _ _
  refine wpF_pure ⟨Code.quiet_builtin _ (by decide +kernel), codeF_builtin (by decide +kernel) F.entry_type_call ?_⟩
  rw [Around.under_plain (weight_type_call_type T args []) rfl]
  unfold Builtin.«type.__call__»
  dsimp only
  refine wpF_if_false ft.notType ?_
  refine wpF_if_false ft.canCreate ?_
  refine wpF_bindA (wpAny_of_eq hct ?_)
  refine wpF_bindA (wpAny_of_eq hmro ?_)
  refine wpF_if_false rfl ?_
  refine wpF_bindA (wpAny_of_eq ft.made ?_)
  dsimp only
  refine wpF_bind (wpF_pure ?_)
  refine wpF_bind (wpF_holding (wpF_of (wpAny_call (codeAny_mono hnew fun r s₁ hr => ?_))))
  cases r with
  | error e => exact hr
  | ok fl =>
    cases fl with
    | ret obj =>
      obtain ⟨hT, hok, hsi⟩ := hnext _ _ hr
      refine wpF_bindA (wpAny_isInstance hT ft.sub ?_)
      refine wpF_if_false rfl ?_
      refine wpF_bind (wpF_holding (wpF_callSpecial_slot hT ft.init (wpF_call_entry hokI ft.init hT entryI ?_ hok)))
      refine wpF_mono hsi (fun fin s₂ h₂ => ?_) fun _ _ e => e
      cases fin with
      | done f =>
        cases f with
        | ret v =>
          obtain ⟨rfl, hq⟩ := h₂
          exact wpF_if_false rfl (wpF_pure hq)
        | _ => exact h₂.elim
      | again c' =>
        refine ⟨h₂.1, codeF_mono h₂.2 fun r s₃ h₃ => ?_⟩
        cases r with
        | error e => exact h₃
        | ok f =>
          cases f with
          | ret v =>
            obtain ⟨rfl, hq⟩ := h₃
            exact wpF_if_false rfl (wpF_pure hq)
          | _ => exact h₃.elim
    | _ => exact hr.elim

/-- bytearray(l), l a list of ints that are bytes -/
theorem px_ba_list {l : Addr} {ns : List Int} {s₀ : Shared} (hl : LI s₀.heap l ns) (hr : ∀ n ∈ ns, 0 ≤ n ∧ n < 256) (hz : ns.length ≤ sizeLine) :
    PxF prog w A (call (.type "bytearray") [.ref l]) s₀ (fun v h => ∃ D, v = .ref D ∧ s₀.heap.get? D = none ∧ IsBA h D (byteArr ns)) := fun s Q E g k => by
  obtain ⟨vs, hl, hi⟩ := hl
  refine callTypeF (Q₁ := fun obj s₁ => ∃ D, obj = .ref D ∧ Gr [] s s₁ ∧ s.heap.get? D = none ∧ IsBA s₁.heap D #[]) F.called_ba (by decide +kernel) (F.typeCall_ba _) F.entry_ba_init
    (code_ba_new _ ⟨_, rfl, .heap0 (tk := s.toks) fun b o e => Heap.get?_push_of_some _ e, get_size _, Heap.get?_push_size _ rfl⟩) fun obj s₁ h₁ => ?_
  obtain ⟨D, rfl, g₁, hD, hB⟩ := h₁
  refine ⟨ba_typeIs hB, F.args_ba_init _ _, ba_init_list hB (hl.at fun o e => (g.trans g₁).k _ _ e) hi hr hz fun h' hB' hs' => ⟨rfl, ?_⟩⟩
  have g₂ : Gr [D] s₁ { s₁ with heap := h' } := .heap fun b o hb e => hs'.extBut b o (by simpa using hb) e
  exact k _ _ (Gr.frame g₁ g₂ (by simpa using hD)) ⟨D, rfl, none_back g hD, hB'⟩
end
end Mine
end

section
open PySem PySem.W PyProof.Rows
set_option maxRecDepth 1000000
set_option linter.unusedVariables false
namespace Mine
namespace F
theorem ba_getattribute : typeLookup (.type "bytearray") "__getattribute__" = pure (some (.builtin "bytearray.__getattribute__")) := by rw [typeLookup_type, builtinLookup_eq_fast]; kernel_rfl
theorem ba_getattr_none : typeLookup (.type "bytearray") "__getattr__" = pure none := by rw [typeLookup_type, builtinLookup_eq_fast]; kernel_rfl
theorem canon_ba_getattribute : (Manifest.canonical "bytearray.__getattribute__" != "object.__getattribute__") = false := by decide +kernel
theorem slot_ba_extend : Slot "bytearray" "extend" "bytearray.extend" :=
  .of (owner := "bytearray") (n := "extend") (by rw [typeLookup_type, builtinLookup_eq_fast]; kernel_rfl) (by decide +kernel) (by decide +kernel) (by decide +kernel)
    (by first | exact .inl (by decide +kernel) | exact .inr (by decide +kernel)) (by rw [isSubtype_type]; kernel_rfl)
theorem type_ba_extend : typeOf (.builtin "bytearray.extend") = pure (.type "method_descriptor") := by kernel_rfl
theorem entry_ba_extend : entryFor table "bytearray.extend" = some Builtin.«bytearray.extend» := by first | exact entryFor_of_fast (by kernel_rfl) | exact entryFor_of_tree (by kernel_rfl)
theorem entry_ba_extend_loop : entryFor table "bytearray.extend.loop" = some Builtin.«bytearray.extend.loop» := by first | exact entryFor_of_fast (by kernel_rfl) | exact entryFor_of_tree (by kernel_rfl)
theorem entry_ba_extend_end : entryFor table "bytearray.extend.end" = some Builtin.«bytearray.extend.end» := by first | exact entryFor_of_fast (by kernel_rfl) | exact entryFor_of_tree (by kernel_rfl)
theorem plain_ba_extend_loop : plainId "bytearray.extend.loop" = true := by decide +kernel
theorem plain_ba_extend_end : plainId "bytearray.extend.end" = true := by decide +kernel
theorem args_ba_extend (a b : Value) : argsOk "bytearray.extend" ⟨[a, b], []⟩ := by rfl
end F

section
variable {prog : Program} {w : World} {A : Around} {E : Value → Shared → Prop} {s : Shared} {env : Env}

theorem getMethod_ba_extend {M : Model} {D : Addr} {b : Array UInt8} {pl : Sem Bool} {Q : Value × List Value → Shared → Prop} (hD : IsBA s.heap D b) (h : Q (.builtin "bytearray.extend", [.ref D]) s) : wpAny M A (getMethod (.ref D) "extend" pl) Q E s := by
  have hT := ba_typeIs hD
  unfold getMethod
  refine wpAny_bind (wpAny_specialOf hT F.ba_getattribute ?_)
  show wpAny M A (if (Manifest.canonical "bytearray.__getattribute__" != "object.__getattribute__") = true then _ else _) Q E s
  rw [F.canon_ba_getattribute, if_neg Bool.false_ne_true]
  refine wpAny_bind (wpAny_specialOf hT F.ba_getattr_none ?_)
  refine wpAny_bind (wpAny_specialOf hT F.slot_ba_extend.lookup ?_)
  refine wpAny_bind (wpAny_of_eq F.type_ba_extend ?_)
  refine wpAny_bind (wpAny_load hD ?_)
  exact wpAny_bind (wpAny_rule (wpAny_pure h))

/-- callWith of a builtin or a type, the call in contexts without a holder -/
theorem callWithF {pos : Pos} {f : Value} {first : List Value} {args : List (Bool × Sem Value)} {Q : Value → Shared → Prop} (hf : (∃ id, f = .builtin id) ∨ ∃ T, f = .type T) (hplain : args.any (·.1) = false)
    (h : wpAny (model prog w) A (evalArgs f true args []) (fun a s₁ => wpF (model prog w) A (call f (first ++ a.pos) a.kw) Q E s₁) E s) : wpF (model prog w) A (callWith pos f first args []) Q E s := by
  unfold callWith
  refine wpF_bindA (wpAny_holding (wpAny_mono h (fun a s₁ h₁ => wpF_bindA (wpAny_standAt ?_)) fun _ _ x => x))
  simp only [hplain, List.any_nil, Bool.or_false]
  rcases hf with ⟨id, rfl⟩ | ⟨T, rfl⟩
  · refine wpF_bind (wpF_pure ?_)
    exact wpF_bind (wpF_mono h₁ (fun r s₂ hr => wpF_bindA (wpAny_holding (wpAny_point (wpF_pure hr)))) fun _ _ x => x)
  · refine wpF_bind (wpF_pure ?_)
    exact wpF_bind (wpF_mono h₁ (fun r s₂ hr => wpF_bindA (wpAny_holding (wpAny_point (wpF_pure hr)))) fun _ _ x => x)

theorem pxF_callT1 {f T : _} {p pos : Pos} {e : Expr} {s₀ : Shared} {P R : Value → Heap → Prop} (hf : Px prog w A (eval (.Name f p) env) s₀ (IsV (.type T)))
    (he : Px prog w A (eval e env) s₀ P) (h : ∀ a s, Gr [] s₀ s → P a s.heap → PxF prog w A (call (.type T) [a]) s R) (hs : starEach [e] env = [(false, eval e env)] := by rfl) :
    PxF prog w A (eval (.Call (.Name f p) [e] [] pos) env) s₀ R := fun s Q E g k => by
  show wpF _ A (do callWith pos (← eval (.Name f p) env) [] (backTo pos (starEach [e] env)) (backToKw pos (keywordEach [] env))) Q E s
  refine wpF_bindA (hf.use g fun v' s₁ g₁ e₁ => ?_)
  obtain rfl := e₁
  refine callWithF (.inr ⟨_, rfl⟩) (by rw [hs]; rfl) ?_
  have ha := px_args1 (pos := pos) he hs
  rw [hs] at ha ⊢
  refine Calls.evalArgs_plain (ha.use (g.trans g₁) fun vs s₂ g₂ p₂ => ?_)
  obtain ⟨a, rfl, pa⟩ := p₂
  exact h a s₂ ((g.trans g₁).trans g₂) pa s₂ Q E (.refl _ _) fun v s₃ g₃ p₃ => k v s₃ ((g₁.trans g₂).trans g₃) p₃
end
end Mine
end

section
open PySem PySem.W PyProof.Rows
set_option maxRecDepth 100000
set_option linter.unusedVariables false
namespace Mine
section
variable {prog : Program} {w : World} {A : Around} {E : Value → Shared → Prop} {s : Shared}

theorem byteArr_append (a b : List Int) : byteArr a ++ byteArr b = byteArr (a ++ b) := by simp [byteArr]

theorem ba_checkResize {D : Addr} {b : Array UInt8} {Q : Unit → Shared → Prop} (hD : IsBA s.heap D b) (h : Q () s) : wpF (model prog w) A (Builtin.Bytes.checkResize (.ref D)) Q E s := by
  unfold Builtin.Bytes.checkResize
  exact wpF_bind (ba_held hD (wpF_if_false rfl (wpF_pure h)))
theorem ba_payload {D : Addr} {b : Array UInt8} {Q : Array UInt8 → Shared → Prop} (hD : IsBA s.heap D b) (h : Q b s) : wpAny (model prog w) A (Builtin.Bytes.payload (.ref D)) Q E s := by
  unfold Builtin.Bytes.payload Builtin.Bytes.payload?
  exact wpAny_bind (wpAny_bind (wpAny_load hD (wpAny_pure (wpAny_pure h))))

theorem ba_extend_loop {R : Result → Shared → Prop} {D l I S : Addr} {vs : List Value} {ns : List Int} {b : Array UInt8} (hh : A.handled = none) (hi : IntsAre vs ns) (hr : ∀ n ∈ ns, 0 ≤ n ∧ n < 256) (hz : b.size + ns.length ≤ sizeLine)
    (hIS : I ≠ S) (hlI : l ≠ I) (hlS : l ≠ S) (hDI : D ≠ I) (hDS : D ≠ S) :
    ∀ (k i : Nat) (s : Shared), ns.length - i = k → i ≤ ns.length → s.heap.IsList l vs.toArray → s.heap.IsListIter I l i → IsBA s.heap S (byteArr (ns.take i)) → IsBA s.heap D b →
      (∀ h', (∀ x o, x ≠ I → x ≠ S → x ≠ D → s.heap.get? x = some o → h'.get? x = some o) → IsBA h' D (b ++ byteArr ns) → R (.ok (.ret .none)) { s with heap := h' }) →
      codeF (model prog w) A (.builtin "bytearray.extend.loop" ⟨[.ref D, .ref l, .ref I, .ref S], []⟩) R s := by
  have hlen : vs.length = ns.length := hi.length
  intro k
  induction k with
  | zero =>
    intro i s hk hle hl hit hS hD hR
    have hin : i = ns.length := by omega
    subst hin
    refine codeF_builtin (by decide +kernel) F.entry_ba_extend_loop ?_
    rw [Around.under_plainId F.plain_ba_extend_loop _]
    show wpF _ A.in1 (pyNext (.ref I) >>= _) _ _ s
    refine wpF_bindA (wpAny_pyNext_list_end hh hit hl (by simp [hlen]) fun h' he => ?_)
    have hS' : IsBA h' S (byteArr ns) := by have := he S _ (Ne.symm hIS) hS; rwa [List.take_length] at this
    have hD' : IsBA h' D b := he D _ hDI hD
    refine wpF_pure ⟨plainId_quiet F.plain_ba_extend_end _, codeF_builtin (by decide +kernel) F.entry_ba_extend_end ?_⟩
    rw [Around.under_plainId F.plain_ba_extend_end _]
    show wpF _ A.in1 (point >>= _) _ _ _
    refine wpF_bindA (wpAny_point ?_)
    refine wpF_bindA (ba_payload (s := { s with heap := h' }) hS' ?_)
    show wpF _ A.in1 (if (!(byteArr ns).isEmpty) = true then (Builtin.Bytes.checkResize (.ref D) >>= fun _ => Builtin.Bytes.write (.ref D) (· ++ byteArr ns) >>= fun _ => ret .none) else (Builtin.Bytes.write (.ref D) (· ++ byteArr ns) >>= fun _ => ret .none)) _ _ _
    have go : wpF (model prog w) A.in1 (Builtin.Bytes.write (.ref D) (· ++ byteArr ns) >>= fun _ => ret .none) (fun fin s' => match fin with | .done f => R (.ok f) s' | .again c' => c'.quiet = true ∧ codeF (model prog w) A c' R s') (fun e s' => R (.error e) s') { s with heap := h' } := by
      refine wpF_bindA (ba_write (s := { s with heap := h' }) hD' (by rw [Array.size_append, byteArr_size]; exact hz) fun h₂ hD₂ hs₂ => wpF_pure ?_)
      exact hR h₂ (fun x o hxI hxS hxD e => hs₂.extBut x o hxD (he x o hxI e)) hD₂
    cases hb : (byteArr ns).isEmpty with
    | true => exact wpF_if_false rfl go
    | false => exact wpF_if_true rfl (wpF_bind (ba_checkResize (s := { s with heap := h' }) hD' go))
  | succ k ih =>
    intro i s hk hle hl hit hS hD hR
    have hlt : i < ns.length := by omega
    obtain ⟨x, hx⟩ : ∃ x, vs[i]? = some x := ⟨vs[i]'(by omega), List.getElem?_eq_getElem (by omega)⟩
    obtain ⟨n, t, rfl, hn⟩ := IntsAre.at hi i x hx
    obtain ⟨h0, h1⟩ := hr n (List.mem_of_getElem? hn)
    refine codeF_builtin (by decide +kernel) F.entry_ba_extend_loop ?_
    rw [Around.under_plainId F.plain_ba_extend_loop _]
    show wpF _ A.in1 (pyNext (.ref I) >>= _) _ _ s
    refine wpF_of (wpAny_bind (wpAny_pyNext_list_item (x := .int n t) hit hl (by simpa using hx) fun h' hit' hs => ?_))
    have hS' : IsBA h' S (byteArr (ns.take i)) := (hs.2 S (Ne.symm hIS)).trans hS
    have hD' : IsBA h' D b := (hs.2 D hDI).trans hD
    have hv : Builtin.Bytes.byteValue (.int n t) = pure n.toNat.toUInt8 := by
      unfold Builtin.Bytes.byteValue
      show (if (decide (n < 0) || decide (n ≥ 256)) = true then _ else _) = _
      rw [if_neg (by simp; omega)]
      first | done | rfl
    refine wpAny_bind (wpAny_tryCatch (wpAny_holding (wpAny_of_eq hv ?_)))
    refine wpAny_bind (wpAny_letGo ?_)
    refine wpAny_bind (ba_write (s := { s with heap := h' }) hS' ?_ fun h₂ hS₂ hs₂ => ?_)
    · rw [Array.size_push, byteArr_size, List.length_take]; omega
    refine wpAny_pure ⟨plainId_quiet F.plain_ba_extend_loop _, ih (i + 1) { s with heap := h₂ } (by omega) hlt ?_ ?_ ?_ ?_ fun h3 hk3 hD3 => ?_⟩
    · exact (hl.extBut hs.extBut hlI).extBut hs₂.extBut hlS
    · exact hit'.extBut hs₂.extBut hIS
    · rw [byteArr_take hn]; exact hS₂
    · exact (hs₂.2 D hDS).trans hD'
    · exact hR h3 (fun x o hxI hxS hxD e => hk3 x o hxI hxS hxD (hs₂.extBut x o hxS (hs.extBut x o hxI e))) hD3

theorem lengthHint_list {id : String} {l : Addr} {items : Array Value} {Q : Unit → Shared → Prop} (hl : s.heap.IsList l items) (h : Q () s) : wpAny (model prog w) A (Builtin.Bytes.lengthHint id (.ref l)) Q E s := by
  unfold Builtin.Bytes.lengthHint
  refine wpAny_bind (wpAny_specialOf hl.typeIs slot_list_len.lookup ?_)
  dsimp only
  rw [F.bm_split]
  dsimp only
  refine wpAny_bind (wpAny_isInstance hl.typeIs F.bm_sub_list ?_)
  refine bm_if_false rfl ?_
  refine bm_if_true (by decide +kernel) ?_
  exact wpAny_pure h

/-- a.extend(l) -/
theorem ba_extend_call {D l : Addr} {b : Array UInt8} {ns : List Int} {Q : Value → Shared → Prop} (hh : A.handled = none) (hD : IsBA s.heap D b) (hl : LI s.heap l ns) (hr : ∀ n ∈ ns, 0 ≤ n ∧ n < 256) (hz : b.size + ns.length ≤ sizeLine)
    (hQ : ∀ s', Gr [D] s s' → IsBA s'.heap D (b ++ byteArr ns) → Q .none s') : wpF (model prog w) A (call (.builtin "bytearray.extend") [.ref D, .ref l]) Q E s := by
  obtain ⟨vs, hl, hi⟩ := hl
  have hT := ba_typeIs hD
  have hDl : l ≠ D := by
    rintro rfl
    obtain ⟨o, e, hc, _⟩ := hl
    have hD' : s.heap.get? l = some _ := hD
    rw [e] at hD'
    cases hD'
    exact absurd (Value.type.inj hc) (by decide)
  refine wpF_call_entry (by decide +kernel) F.slot_ba_extend hT F.entry_ba_extend ?_ (F.args_ba_extend _ _)
  unfold Builtin.«bytearray.extend»
  refine wpF_bindA (wpAny_of_eq (a := (.ref D, .ref l)) rfl ?_)
  dsimp only
  refine wpF_bindA (wpAny_specialOf hl.typeIs F.bm_no_buffer ?_)
  refine wpF_if_false rfl ?_
  refine wpF_bindA (wpAny_tryCatch (wpAny_pyIter_list hl ?_))
  have hl₁ : (s.heap.push { cls := .type "list_iterator", data := .fields #[.ref l, .int 0 0] }).IsList l vs.toArray := hl.push _
  refine wpF_bindA (wpAny_holding (lengthHint_list (s := { s with heap := s.heap.push { cls := .type "list_iterator", data := .fields #[.ref l, .int 0 0] } }) hl₁ ?_))
  refine wpF_bindA ?_
  unfold Builtin.Bytes.newBytearray
  refine wpAny_newObj_type ?_ (Nat.zero_le _)
  have hI : ((s.heap.push { cls := .type "list_iterator", data := .fields #[.ref l, .int 0 0] }).push { cls := .type "bytearray", data := .bytearray #[] }).IsListIter s.heap.objs.size l 0 :=
    ⟨_, Heap.get?_push_of_some _ (Heap.get?_push_size _ rfl), rfl, rfl⟩
  have hlt : l < s.heap.objs.size := let ⟨_, e, _⟩ := hl; Heap.lt_size e
  have hDt : D < s.heap.objs.size := Heap.lt_size hD
  have hsz : (s.heap.push { cls := .type "list_iterator", data := .fields #[.ref l, .int 0 0] }).objs.size = s.heap.objs.size + 1 := Heap.size_push _ _
  refine wpF_pure ⟨plainId_quiet F.plain_ba_extend_loop _, ?_⟩
  refine ba_extend_loop (I := s.heap.objs.size) (S := (s.heap.push { cls := .type "list_iterator", data := .fields #[.ref l, .int 0 0] }).objs.size) hh hi hr hz (by rw [hsz]; exact Nat.ne_of_lt (Nat.lt_succ_self _)) (Nat.ne_of_lt hlt) (by rw [hsz]; exact Nat.ne_of_lt (Nat.lt_succ_of_lt hlt))
    (Nat.ne_of_lt hDt) (by rw [hsz]; exact Nat.ne_of_lt (Nat.lt_succ_of_lt hDt)) ns.length 0 _ rfl (Nat.zero_le _) (hl₁.push _) hI (Heap.get?_push_size _ rfl) (Heap.get?_push_of_some _ (Heap.get?_push_of_some _ hD)) fun h' hk hB => ?_
  refine hQ _ (.heap (tk := s.toks) fun x o hx e => hk x o (Nat.ne_of_lt (Heap.lt_size e)) (by rw [hsz]; exact Nat.ne_of_lt (Nat.lt_succ_of_lt (Heap.lt_size e))) (by simpa using hx) (Heap.get?_push_of_some _ (Heap.get?_push_of_some _ e))) hB
end
end Mine
end

section
open PySem PySem.W PyProof.Rows
set_option maxRecDepth 1000000
set_option linter.unusedVariables false
namespace Mine
namespace F
theorem gen_no_index : typeLookup (.type "generator") "__index__" = pure none := by rw [typeLookup_type, builtinLookup_eq_fast]; kernel_rfl
theorem gen_no_buffer : typeLookup (.type "generator") "__buffer__" = pure none := by rw [typeLookup_type, builtinLookup_eq_fast]; kernel_rfl
end F
section
variable {prog : Program} {w : World} {A : Around} {E : Value → Shared → Prop} {s : Shared}

theorem asStr_gen {a : Addr} {g : Nat} {Q : Option PySem.Str → Shared → Prop} (hg : s.heap.IsGen a g) (h : Q none s) : wpAny (model prog w) A (asStr? (.ref a)) Q E s := by
  obtain ⟨o, nm, qn, ho, _, hd, _⟩ := hg
  unfold asStr?
  show wpAny _ _ (load a >>= _) _ _ _
  refine wpAny_bind (wpAny_load ho ?_)
  rw [hd]
  exact wpAny_pure h
theorem buffer_gen {id : String} {full : Bool} {a : Addr} {g : Nat} {Q : Option (Array UInt8) → Shared → Prop} (hg : s.heap.IsGen a g) (h : Q none s) : wpAny (model prog w) A (Builtin.Bytes.buffer? id (.ref a) full) Q E s := by
  unfold Builtin.Bytes.buffer?
  refine wpAny_bind (wpAny_specialOf hg.typeIs F.gen_no_buffer ?_)
  refine wpAny_bind (wpAny_specialOf hg.typeIs F.gen_no_buffer ?_)
  exact wpAny_pure h

/-- the loop that fills the bytearray from an iterator of the logic -/
theorem ba_init_loop {R : Result → Shared → Prop} {D I : Addr} {fp wr : List Addr} {G : Array GenState → Array GenState → Prop} {ns : List Int} {P : Nat → Value → Prop} {St : Nat → Shared → Prop}
    (Wk : WalksS prog w A.in1 I fp wr G ns.length P St) (hP : ∀ i v, P i v → ∃ n t, ns[i]? = some n ∧ v = .int n t) (hr : ∀ n ∈ ns, 0 ≤ n ∧ n < 256) (hz : ns.length ≤ sizeLine) (hD' : D ∉ fp) :
    ∀ (k i : Nat) (s : Shared), ns.length - i = k → i ≤ ns.length → St i s → IsBA s.heap D (byteArr (ns.take i)) →
      (∀ s', Moved (D :: wr) G s s' → IsBA s'.heap D (byteArr ns) → R (.ok (.ret .none)) s') →
      codeAny (model prog w) A (.builtin "bytearray.__init__.loop" ⟨[.ref D, .ref I], []⟩) R s := by
  have hDw : D ∉ wr := fun h => hD' (Wk.sub _ h)
  have hsub : ∀ b ∈ wr, b ∈ D :: wr := fun b hb => List.mem_cons_of_mem _ hb
  intro k
  induction k with
  | zero =>
    intro i s hk hi hst hB hR
    have hin : i = ns.length := by omega
    subst hin
    refine codeAny_builtin F.entry_ba_init_loop ?_
    rw [Around.under_plainId F.plain_ba_init_loop _]
    show wpAny _ A.in1 (pyNext (.ref I) >>= _) _ _ s
    refine wpAny_bind (Wk.done s _ _ hst fun s' hm => ?_)
    refine wpAny_pure (hR s' (hm.mono hsub) ?_)
    have := hm.heap D _ hDw hB
    rwa [List.take_length] at this
  | succ k ih =>
    intro i s hk hi hst hB hR
    have hlt : i < ns.length := by omega
    refine codeAny_builtin F.entry_ba_init_loop ?_
    rw [Around.under_plainId F.plain_ba_init_loop _]
    show wpAny _ A.in1 (pyNext (.ref I) >>= _) _ _ s
    refine wpAny_bind (Wk.item i s _ _ hlt hst fun v s' hp hst' hm => ?_)
    obtain ⟨n, t, hn, rfl⟩ := hP i v hp
    obtain ⟨h0, h1⟩ := hr n (List.mem_of_getElem? hn)
    have hv : Builtin.Bytes.byteValue (.int n t) = pure n.toNat.toUInt8 := by
      unfold Builtin.Bytes.byteValue
      show (if (decide (n < 0) || decide (n ≥ 256)) = true then _ else _) = _
      rw [if_neg (by simp; omega)]
      first | done | rfl
    have hB' := hm.heap D _ hDw hB
    refine wpAny_bind (wpAny_holding (wpAny_of_eq hv ?_))
    refine wpAny_bind (wpAny_letGo ?_)
    refine wpAny_bind (ba_write hB' ?_ fun h₂ hB₂ hs₂ => ?_)
    · rw [Array.size_push, byteArr_size, List.length_take]; omega
    refine wpAny_pure ⟨plainId_quiet F.plain_ba_init_loop _, ih (i + 1) { s' with heap := h₂ } (by omega) hlt (Wk.frame _ s' h₂ s'.toks hst' (Nat.le_refl _) fun b hb o e => hs₂.extBut b o (fun q => hD' (q ▸ hb)) e) ?_ fun s'' hm'' hB'' => hR s'' ?_ hB''⟩
    · rw [byteArr_take hn]; exact hB₂
    · exact Moved.trans Wk.gtrans ((hm.mono hsub).then_heap (Nat.le_refl _) fun b o hb e => hs₂.extBut b o (fun q => hb (q ▸ List.mem_cons_self)) e) hm''

theorem ba_init_gen {D a : Addr} {g : Nat} {fp wr : List Addr} {G : Array GenState → Array GenState → Prop} {ns : List Int} {P : Nat → Value → Prop} {St : Nat → Shared → Prop} {Q : Fin → Shared → Prop}
    (Wk : WalksS prog w A.in1 a fp wr G ns.length P St) (hP : ∀ i v, P i v → ∃ n t, ns[i]? = some n ∧ v = .int n t) (hr : ∀ n ∈ ns, 0 ≤ n ∧ n < 256) (hz : ns.length ≤ sizeLine) (hDf : D ∉ fp)
    (hD : IsBA s.heap D #[]) (hg : s.heap.IsGen a g) (hst : St 0 s)
    (hQ : ∀ s', Moved (D :: wr) G s s' → IsBA s'.heap D (byteArr ns) → Q (.done (.ret .none)) s') :
    wpF (model prog w) A.in1 (Builtin.«bytearray.__init__» ⟨[.ref D, .ref a], []⟩) (fun fin s' => match fin with | .done f => Q (.done f) s' | .again c' => c'.quiet = true ∧ codeF (model prog w) A c' (fun r s' => match r with | .ok f => Q (.done f) s' | .error e => E e s') s') E s := by
  have hT : s.TypeIs (.ref D) "bytearray" := ba_typeIs hD
  have haD : a ≠ D := by
    rintro rfl
    obtain ⟨o, _, _, e, hc, _⟩ := hg
    have hD' : s.heap.get? a = some _ := hD
    rw [e] at hD'
    cases hD'
    exact absurd (Value.type.inj hc) (by decide)
  unfold Builtin.«bytearray.__init__»
  refine wpF_bindA (ba_ownRelease hT ?_)
  refine wpF_if_false rfl ?_
  refine wpF_bindA (wpAny_of_eq (F.ba_bind _) ?_)
  dsimp only
  refine wpF_bindA (wpAny_of_eq (a := ()) rfl ?_)
  refine wpF_bindA (wpAny_of_eq (a := ()) rfl ?_)
  refine wpF_bind (ba_held hD ?_)
  refine wpF_if_false rfl ?_
  refine wpF_of (wpAny_bind (ba_write hD (Nat.zero_le _) fun h₁ hD₁ hs₁ => ?_))
  have hg₁ : h₁.IsGen a g := hg.sameBut hs₁ haD
  have hT₁ : ({ s with heap := h₁ } : Shared).TypeIs (.ref a) "generator" := Heap.IsGen.typeIs (s := { s with heap := h₁ }) hg₁
  refine wpAny_bind (asStr_gen (s := { s with heap := h₁ }) hg₁ ?_)
  refine bm_if_false rfl ?_
  refine wpAny_bind (bm_if_false rfl (bm_if_false rfl (wpAny_pure ?_)))
  refine wpAny_bind (wpAny_specialOf hT₁ F.gen_no_index ?_)
  refine bm_if_false rfl ?_
  refine wpAny_bind (buffer_gen (s := { s with heap := h₁ }) hg₁ ?_)
  dsimp only
  refine wpAny_bind (wpAny_typeOf hT₁ ?_)
  refine bm_if_false rfl ?_
  have hst₁ : St 0 { s with heap := h₁ } := Wk.frame 0 s h₁ s.toks hst (Nat.le_refl _) fun b hb o e => hs₁.extBut b o (fun q => hDf (q ▸ hb)) e
  refine wpAny_bind (wpAny_tryCatch (Wk.self 0 { s with heap := h₁ } _ _ hst₁ ?_))
  refine wpAny_pure ⟨plainId_quiet F.plain_ba_init_loop _, codeF_of (ba_init_loop Wk hP hr hz hDf ns.length 0 _ rfl (Nat.zero_le _) hst₁ hD₁ fun s' hm hB => hQ s' ?_ hB)⟩
  exact Moved.trans (s' := { s with heap := h₁ }) Wk.gtrans ⟨fun b o hb e => hs₁.extBut b o (fun q => hb (q ▸ List.mem_cons_self)) e, Wk.grefl _, rfl, rfl, Nat.le_refl _⟩ hm
end
end Mine
end

section
open PySem PySem.W PyProof.Rows
set_option maxRecDepth 1000000
set_option linter.unusedVariables false
namespace Mine
namespace F
theorem slot_bai_next : Slot "bytearray_iterator" "__next__" "bytearray_iterator.__next__" :=
  .of (owner := "bytearray_iterator") (n := "__next__") (by rw [typeLookup_type, builtinLookup_eq_fast]; kernel_rfl) (by decide +kernel) (by decide +kernel) (by decide +kernel)
    (by first | exact .inl (by decide +kernel) | exact .inr (by decide +kernel)) (by rw [isSubtype_type]; kernel_rfl)
theorem slot_bai_iter : Slot "bytearray_iterator" "__iter__" "bytearray_iterator.__iter__" :=
  .of (owner := "bytearray_iterator") (n := "__iter__") (by rw [typeLookup_type, builtinLookup_eq_fast]; kernel_rfl) (by decide +kernel) (by decide +kernel) (by decide +kernel)
    (by first | exact .inl (by decide +kernel) | exact .inr (by decide +kernel)) (by rw [isSubtype_type]; kernel_rfl)
theorem slot_ba_iter : Slot "bytearray" "__iter__" "bytearray.__iter__" :=
  .of (owner := "bytearray") (n := "__iter__") (by rw [typeLookup_type, builtinLookup_eq_fast]; kernel_rfl) (by decide +kernel) (by decide +kernel) (by decide +kernel)
    (by first | exact .inl (by decide +kernel) | exact .inr (by decide +kernel)) (by rw [isSubtype_type]; kernel_rfl)
theorem entry_bai_next : entryFor table "bytearray_iterator.__next__" = some Builtin.«bytearray_iterator.__next__» := by first | exact entryFor_of_fast (by kernel_rfl) | exact entryFor_of_tree (by kernel_rfl)
theorem entry_ba_iter : entryFor table "bytearray.__iter__" = some Builtin.«bytearray.__iter__» := by first | exact entryFor_of_fast (by kernel_rfl) | exact entryFor_of_tree (by kernel_rfl)
theorem entry_bai_iter : entryFor table "bytearray_iterator.__iter__" = some Builtin.«dict_keyiterator.__iter__» :=
  entryFor_alias (id' := "dict_keyiterator.__iter__") (by kernel_rfl) (by decide +kernel) (by decide +kernel) (by kernel_rfl)
theorem args_bai_next (a : Value) : argsOk "bytearray_iterator.__next__" ⟨[a], []⟩ := by rfl
theorem args_bai_iter (a : Value) : argsOk "bytearray_iterator.__iter__" ⟨[a], []⟩ := by rfl
theorem args_ba_iter (a : Value) : argsOk "bytearray.__iter__" ⟨[a], []⟩ := by rfl
end F

abbrev IsBAIter (h : Heap) (it a : Addr) (i : Nat) : Prop := h.get? it = some { cls := .type "bytearray_iterator", data := .fields #[.ref a, rawInt i] }

section
variable {prog : Program} {w : World} {A : Around} {E : Value → Shared → Prop} {s : Shared}

theorem pyIter_ba {a : Addr} {b : Array UInt8} {Q : Value → Shared → Prop} (hb : IsBA s.heap a b) (h : Q (.ref s.heap.objs.size) { s with heap := s.heap.push { cls := .type "bytearray_iterator", data := .fields #[.ref a, rawInt 0] } }) :
    wpAny (model prog w) A (pyIter (.ref a)) Q E s := by
  have hT := ba_typeIs hb
  refine wpAny_pyIter_slot hT F.slot_ba_iter (wpAny_call_entry F.slot_ba_iter hT F.entry_ba_iter ?_ (F.args_ba_iter _))
  show wpAny _ _ (newFields "bytearray_iterator" [.ref a, rawInt 0] >>= fun v => ret v) _ _ s
  refine wpAny_bind ?_
  unfold newFields
  refine wpAny_newObj_type (wpAny_pure ⟨_, rfl, "bytearray_iterator", _, ⟨_, Heap.get?_push_size _ rfl, rfl⟩, F.slot_bai_next.lookup, h⟩) (by size_fits)
theorem pyIter_bai {it a : Addr} {i : Nat} {Q : Value → Shared → Prop} (hb : IsBAIter s.heap it a i) (h : Q (.ref it) s) : wpAny (model prog w) A (pyIter (.ref it)) Q E s := by
  have hT : s.TypeIs (.ref it) "bytearray_iterator" := ⟨_, hb, rfl⟩
  refine wpAny_pyIter_slot hT F.slot_bai_iter (wpAny_call_entry F.slot_bai_iter hT F.entry_bai_iter ?_ (F.args_bai_iter _))
  show wpAny _ _ (ret (.ref it)) _ _ s
  exact wpAny_pure ⟨_, rfl, "bytearray_iterator", _, hT, F.slot_bai_next.lookup, h⟩

theorem nextOf_bai_item {it a : Addr} {i : Nat} {b : Array UInt8} {c : UInt8} {Q : Value → Shared → Prop} (hit : IsBAIter s.heap it a i) (hb : IsBA s.heap a b) (hc : b[i]? = some c)
    (h : ∀ h' t k, IsBAIter h' it a (i + 1) → Heap.SameBut it s.heap h' → Q (.int c.toNat t) { s with heap := h', toks := k }) : wpAny (model prog w) A (Builtin.SmallTypes.nextOf (.ref it)) Q E s := by
  have hT : s.TypeIs (.ref it) "bytearray_iterator" := ⟨_, hit, rfl⟩
  unfold Builtin.SmallTypes.nextOf
  refine wpAny_bind (wpAny_callSpecial?_slot (name := Str.ofString "__next__") hT F.slot_bai_next (wpAny_call_entry F.slot_bai_next hT F.entry_bai_next ?_ (F.args_bai_next _)))
  show wpAny _ _ (field (.ref it) 0 >>= _) _ _ s
  refine wpAny_bind (wpAny_field hit rfl (x := .ref a) rfl ?_)
  show wpAny _ _ (load a >>= _) _ _ s
  refine wpAny_bind (wpAny_load hb ?_)
  show wpAny _ _ (field (.ref it) 1 >>= _) _ _ s
  refine wpAny_bind (wpAny_field hit rfl (x := rawInt i) rfl ?_)
  show wpAny _ _ (match b[i]? with | some c => (setField (.ref it) 1 (rawInt ((i : Int) + 1)) >>= fun _ => retInt c.toNat) | none => _) _ _ s
  rw [hc]
  refine wpAny_bind (wpAny_setField_rec hit (by simp) fun h₁ hit₁ hs₁ => ?_)
  refine wpAny_bind (wpAny_mkInt (wpAny_pure ⟨_, rfl, ?_⟩))
  exact wpAny_pure (h h₁ _ _ hit₁ hs₁)

/-- the exception that ends an iteration -/
def IsStop (h : Heap) (e : Value) : Prop := ∃ x o, e = .ref x ∧ h.get? x = some o ∧ o.cls = .type "StopIteration"

theorem stopIteration_ {Q : α → Shared → Prop} (hh : A.handled = none) (h : ∀ e h', IsStop h' e → (∀ b o, s.heap.get? b = some o → h'.get? b = some o) → E e { s with heap := h' }) : wpAny (model prog w) A (Builtin.SmallTypes.stopIteration : Sem α) Q E s := by
  unfold Builtin.SmallTypes.stopIteration
  refine wpAny_bind ?_
  simp only [newExc, newTuple]
  refine wpAny_bind (wpAny_newObj_type ?_ (by size_fits))
  refine wpAny_bind (m := firstArgMember _ _) (wpAny_of_eq (a := Value.none) (by first | rfl | (simp only [firstArgMember]; rfl)) ?_)
  refine wpAny_newObj_type ?_ (by size_fits)
  simp only [raiseNew]
  refine wpAny_bind (wpAny_handled ?_)
  rw [hh]
  refine wpAny_bind (wpAny_pure (wpAny_throw ?_))
  exact h _ _ ⟨_, _, rfl, Heap.get?_push_size _ rfl, rfl⟩ fun b o e => Heap.get?_push_of_some _ (Heap.get?_push_of_some _ e)

theorem nextOf_bai_end {it a : Addr} {i : Nat} {b : Array UInt8} {Q : Value → Shared → Prop} (hh : A.handled = none) (hit : IsBAIter s.heap it a i) (hb : IsBA s.heap a b) (hc : b.size ≤ i)
    (h : ∀ e h', IsStop h' e → (∀ x o, x ≠ it → s.heap.get? x = some o → h'.get? x = some o) → E e { s with heap := h' }) : wpAny (model prog w) A (Builtin.SmallTypes.nextOf (.ref it)) Q E s := by
  have hT : s.TypeIs (.ref it) "bytearray_iterator" := ⟨_, hit, rfl⟩
  unfold Builtin.SmallTypes.nextOf
  refine wpAny_bind (wpAny_callSpecial?_slot (name := Str.ofString "__next__") hT F.slot_bai_next (wpAny_call_entry F.slot_bai_next hT F.entry_bai_next ?_ (F.args_bai_next _)))
  show wpAny _ _ (field (.ref it) 0 >>= _) _ _ s
  refine wpAny_bind (wpAny_field hit rfl (x := .ref a) rfl ?_)
  show wpAny _ _ (load a >>= _) _ _ s
  refine wpAny_bind (wpAny_load hb ?_)
  show wpAny _ _ (field (.ref it) 1 >>= _) _ _ s
  refine wpAny_bind (wpAny_field hit rfl (x := rawInt i) rfl ?_)
  show wpAny _ _ (match b[i]? with | some c => _ | none => _) _ _ s
  rw [Array.getElem?_eq_none hc]
  refine wpAny_bind (wpAny_rule (wpAny_bind (wpAny_setField_rec hit (by simp) fun h₁ hit₁ hs₁ => wpAny_bind (wpAny_letGo ?_))))
  exact stopIteration_ hh fun e h' he hk => h e h' he fun x o hx e' => hk x o (hs₁.extBut x o hx e')
end
end Mine
end

section
open PySem PySem.W PyProof.Rows
set_option maxRecDepth 100000
set_option linter.unusedVariables false
namespace Mine
abbrev IsZipN (h : Heap) (z TI TO : Addr) (f0 f1 : Value) : Prop := h.get? z = some { cls := .type "zip", data := .fields #[f0, f1, .bool false, .ref TI, .ref TO] }
abbrev IsTup (h : Heap) (T : Addr) (items : Array Value) : Prop := h.get? T = some { cls := .type "tuple", data := .seq items }

/-- the part of the bytes that the turn i draws -/
def cut (bl : List Int) (n i : Nat) : List Int := (bl.drop (i * n)).take n

section
variable {prog : Program} {w : World} {A : Around} {E : Value → Shared → Prop} {s : Shared}

/-- the addresses of a zip of one bytearray iterator -/
structure ZA (z TI TO it a : Addr) : Prop where
  zTI : z ≠ TI
  zTO : z ≠ TO
  zit : z ≠ it
  za : z ≠ a
  TITO : TI ≠ TO
  TIit : TI ≠ it
  TOit : TO ≠ it
  TOa : TO ≠ a
  ita : it ≠ a

theorem ints_snoc {vs : List Value} {ns : List Int} {m : Int} {t : Tok} (q : IntsAre vs ns) : IntsAre (vs ++ [.int m t]) (ns ++ [m]) := by
  induction q with
  | nil => exact .cons m t .nil
  | cons n t q ih => exact .cons n t ih
theorem byte_at {bl : List Int} (hr : ∀ x ∈ bl, 0 ≤ x ∧ x < 256) {j : Nat} (hlt : j < bl.length) : (byteArr bl)[j]? = some (bl[j]).toNat.toUInt8 ∧ ((bl[j]).toNat.toUInt8.toNat : Int) = bl[j] := by
  refine ⟨by unfold byteArr; simp [hlt], ?_⟩
  have := hr _ (List.getElem_mem hlt)
  rw [Nat.toUInt8, UInt8.toNat_ofNat']
  omega

theorem zip_items {it a : Addr} {n i : Nat} {bl : List Int} {Q : Option Fin × Array Value → Shared → Prop} (hita : it ≠ a) (hr : ∀ x ∈ bl, 0 ≤ x ∧ x < 256) (hi : i * n + n ≤ bl.length) (hit : IsBAIter s.heap it a (i * n)) (hb : IsBA s.heap a (byteArr bl))
    (f : Value → Option Fin × Array Value → Sem (ForInStep (Option Fin × Array Value)))
    (hf : ∀ items s' Q', wpAny (model prog w) A (Builtin.SmallTypes.nextOf (.ref it)) (fun x s'' => Q' (ForInStep.yield (none, items.push x)) s'') E s' → wpAny (model prog w) A (f (.ref it) (none, items)) Q' E s')
    (h : ∀ items h' k, IntsAre items.toList (cut bl n i) → IsBAIter h' it a (i * n + n) → (∀ x o, x ≠ it → s.heap.get? x = some o → h'.get? x = some o) → Q (none, items) { s with heap := h', toks := k }) :
    wpAny (model prog w) A (forIn (List.replicate n (Value.ref it)) (none, #[]) f) Q E s := by
  refine wpAny_forIn_list f (fun rest r s' => ∃ items k h' tk, r = (none, items) ∧ k ≤ n ∧ rest = List.replicate (n - k) (Value.ref it) ∧ s' = { s with heap := h', toks := tk } ∧ IntsAre items.toList ((bl.drop (i * n)).take k) ∧ IsBAIter h' it a (i * n + k) ∧
    (∀ x o, x ≠ it → s.heap.get? x = some o → h'.get? x = some o)) Q ?_ ?_ _ _ ⟨#[], 0, s.heap, s.toks, rfl, Nat.zero_le _, rfl, rfl, by simpa using IntsAre.nil, by simpa using hit, fun _ _ _ e => e⟩
  · rintro x rest r s' ⟨items, k, h', tk, rfl, hk, hrest, rfl, hia, hit', hk'⟩
    have hkn : k < n := by
      rcases Nat.lt_or_ge k n with q | q
      · exact q
      · rw [show n - k = 0 by omega] at hrest; cases hrest
    have hrw : n - k = (n - (k + 1)) + 1 := by omega
    rw [hrw, List.replicate_succ] at hrest
    obtain ⟨rfl, rfl⟩ := List.cons.inj hrest
    have hlt : i * n + k < bl.length := by omega
    obtain ⟨hc, hv⟩ := byte_at hr hlt
    refine hf _ _ _ (nextOf_bai_item (s := { s with heap := h', toks := tk }) hit' (hk' a _ (Ne.symm hita) hb) hc fun h₁ t tk₁ hit₁ hs₁ => ?_)
    refine ⟨_, k + 1, h₁, tk₁, rfl, hkn, rfl, rfl, ?_, by rw [← Nat.add_assoc]; exact hit₁, fun x o hx e => hs₁.extBut x o hx (hk' x o hx e)⟩
    rw [List.take_add_one, List.getElem?_drop, List.getElem?_eq_getElem hlt, hv]
    simpa using ints_snoc hia
  · rintro r s' ⟨items, k, h', tk, rfl, hk, hrest, rfl, hia, hit', hk'⟩
    have hkn : k = n := by
      rcases Nat.lt_or_ge k n with q | q
      · have : n - k = (n - (k + 1)) + 1 := by omega
        rw [this, List.replicate_succ] at hrest; cases hrest
      · omega
    subst hkn
    exact h items h' tk hia hit' hk'

/-- zip's turn, the tuple that it owned still alive -/
theorem zip_next_more {z TI TO it a : Addr} {n i a0 : Nat} {f1 : Value} {o0 : Obj} {bl : List Int} {Q : Value → Shared → Prop} (D : ZA z TI TO it a) (hr : ∀ x ∈ bl, 0 ≤ x ∧ x < 256) (hn : 0 < n) (hi : i * n + n ≤ bl.length) (hsz : n ≤ 1000)
    (hz : IsZipN s.heap z TI TO (rawInt a0) f1) (h0 : s.heap.get? a0 = some o0) (hTI : IsTup s.heap TI (Array.replicate n (.ref it))) (hit : IsBAIter s.heap it a (i * n)) (hb : IsBA s.heap a (byteArr bl))
    (hQ : ∀ T items h' k f1', IsZipN h' z TI TO (rawInt a0) f1' → IsBAIter h' it a (i * n + n) → h'.get? T = some { cls := .type "tuple", data := .seq items } → IntsAre items.toList (cut bl n i) → s.heap.get? T = none → (∀ x o, x ≠ it → x ≠ z → s.heap.get? x = some o → h'.get? x = some o) → Q (.ref T) { s with heap := h', toks := k }) :
    wpAny (model prog w) A (Builtin.«zip.__next__» ⟨[.ref z], []⟩) (fun fin s' => ∃ v, fin = .done (.ret v) ∧ Q v s') E s := by
  show wpAny _ _ (field (.ref z) 2 >>= _) _ _ _
  refine wpAny_bind (wpAny_field hz rfl (x := .bool false) rfl ?_)
  show wpAny _ _ (field (.ref z) 3 >>= _) _ _ _
  refine wpAny_bind (wpAny_field hz rfl (x := .ref TI) rfl ?_)
  refine wpAny_bind (wpAny_seqItems hTI rfl ?_)
  dsimp only
  refine bm_if_false (by simp; omega) ?_
  have free : ∀ Q' : Bool → Shared → Prop, (∀ h' f1', IsZipN h' z TI TO (rawInt a0) f1' → Heap.SameBut z s.heap h' → Q' false { s with heap := h' }) → wpAny (model prog w) A (Builtin.SmallTypes.ownedTupleIsFree (.ref z)) Q' E s := fun Q' k => by
    unfold Builtin.SmallTypes.ownedTupleIsFree
    refine wpAny_bind (wpAny_field hz rfl (x := rawInt a0) rfl ?_)
    show wpAny _ _ (loadIfAlive ((a0 : Int).toNat) >>= _) _ _ _
    refine wpAny_bind (m := loadIfAlive ((a0 : Int).toNat)) (fun Γ p _ => ?_)
    show Sem.wp _ Γ (.loadIfAlive ((a0 : Int).toNat) .pure) _ _ p s
    rw [Sem.wp_loadIfAlive, Int.toNat_natCast, h0, Sem.wp_pure]
    show wpAny _ _ (if (some o0).isNone = true then _ else _) _ _ _
    refine bm_if_false rfl ?_
    refine wpAny_bind (wpAny_field hz rfl (x := f1) rfl ?_)
    by_cases hf : (f1 != Value.bool true) = true
    · refine bm_if_true hf (wpAny_bind (wpAny_setField_rec hz (by simp) fun h₁ hz₁ hs₁ => wpAny_pure (k h₁ _ hz₁ hs₁)))
    · refine bm_if_false (by simpa using hf) (wpAny_pure (k s.heap f1 hz (.refl ..)))
  refine wpAny_bind (free _ fun h₁ f1' hz₁ hs₁ => ?_)
  refine bm_if_false rfl ?_
  rw [← Array.forIn_toList, Array.toList_replicate]
  have hit₁ : IsBAIter h₁ it a (i * n) := (hs₁.2 it (Ne.symm D.zit)).trans hit
  have hb₁ : IsBA h₁ a (byteArr bl) := (hs₁.2 a (Ne.symm D.za)).trans hb
  refine wpAny_bind (zip_items (s := { s with heap := h₁ }) D.ita hr hi hit₁ hb₁ _ (fun items s' Q' hn' => ?_) fun items h₂ k₂ hia hit₂ hk₂ => ?_)
  · refine wpAny_bind (wpAny_holding ?_)
    show wpAny _ _ (if (Value.bool false == Value.bool true) = true then _ else (Builtin.SmallTypes.nextOf (.ref it) >>= fun x => Pure.pure (some x))) _ _ _
    refine bm_if_false rfl (wpAny_bind (wpAny_mono hn' (fun x s'' q => wpAny_pure (wpAny_pure q)) fun _ _ e => e))
  · dsimp only
    have hlen : items.toList.length ≤ 1000 := by
      have := hia.length
      rw [this]; unfold cut; rw [List.length_take]; omega
    refine wpAny_bind ?_
    unfold newTuple
    refine wpAny_newObj_type ?_ (by show items.toList.toArray.size ≤ sizeLine; rw [List.size_toArray]; have : sizeLine = 2 ^ 24 := rfl; omega)
    refine wpAny_pure ⟨_, rfl, hQ _ items _ _ f1' (Heap.get?_push_of_some _ (hk₂ z _ D.zit hz₁)) (Heap.get?_push_of_some _ hit₂) ?_ hia ?_ fun x o hx hxz e => Heap.get?_push_of_some _ (hk₂ x o hx (hs₁.extBut x o hxz e))⟩
    · have := Heap.get?_push_size h₂ (o := { cls := .type "tuple", data := .seq items.toList.toArray }) rfl
      simpa using this
    · cases e : s.heap.get? h₂.objs.size with
      | none => rfl
      | some o =>
        exfalso
        by_cases hx : h₂.objs.size = it
        · have := Heap.lt_size hit₂; rw [hx] at this; exact Nat.lt_irrefl _ this
        · by_cases hxz : h₂.objs.size = z
          · have := Heap.lt_size (hk₂ z _ D.zit hz₁); rw [hxz] at this; exact Nat.lt_irrefl _ this
          · exact Nat.lt_irrefl _ (Heap.lt_size (hk₂ _ o hx (hs₁.extBut _ o hxz e)))
end
end Mine
end

section
open PySem PySem.W PyProof.Rows
set_option maxRecDepth 100000
set_option linter.unusedVariables false
namespace Mine
section
variable {prog : Program} {w : World} {A : Around} {E : Value → Shared → Prop} {s : Shared}

theorem ints_set {items : Array Value} {ns : List Int} {k : Nat} {m : Int} {t : Tok} (hk : ns.length = k) (hs : k < items.size) (h : IntsAre (items.toList.take k) ns) : IntsAre ((items.setIfInBounds k (.int m t)).toList.take (k + 1)) (ns ++ [m]) := by
  rw [Array.toList_setIfInBounds, List.take_add_one, List.take_set_of_le (Nat.le_refl _), List.getElem?_set_self (by simpa using hs)]
  exact ints_snoc h

theorem zip_owned {z TI TO it a : Addr} {n i : Nat} {items₀ : Array Value} {bl : List Int} {Q : Option Fin × Unit → Shared → Prop} (D : ZA z TI TO it a) (hr : ∀ x ∈ bl, 0 ≤ x ∧ x < 256) (hi : i * n + n ≤ bl.length) (hit : IsBAIter s.heap it a (i * n)) (hb : IsBA s.heap a (byteArr bl))
    (hTO : IsTup s.heap TO items₀) (hz : items₀.size = n)
    (f : Value × Nat → Option Fin × Unit → Sem (ForInStep (Option Fin × Unit)))
    (hf : ∀ k items s' Q', items.size = n → IsTup s'.heap TO items → (∀ E', wpAny (model prog w) A (Builtin.SmallTypes.nextOf (.ref it)) (fun x s'' => IsTup s''.heap TO items ∧ ∀ h', IsTup h' TO (items.setIfInBounds k x) → Heap.SameBut TO s''.heap h' → Q' (ForInStep.yield (none, ())) { s'' with heap := h' }) E' s') → wpAny (model prog w) A (f (.ref it, k) (none, ())) Q' E s')
    (h : ∀ items h' k, items.size = n → IntsAre items.toList (cut bl n i) → IsTup h' TO items → IsBAIter h' it a (i * n + n) → (∀ x o, x ≠ it → x ≠ TO → s.heap.get? x = some o → h'.get? x = some o) → Q (none, ()) { s with heap := h', toks := k }) :
    wpAny (model prog w) A (forIn ((List.replicate n (Value.ref it)).zipIdx) (none, ()) f) Q E s := by
  refine wpAny_forIn_list f (fun rest r s' => ∃ items k h' tk, r = (none, ()) ∧ k ≤ n ∧ rest = (List.replicate (n - k) (Value.ref it)).zipIdx k ∧ s' = { s with heap := h', toks := tk } ∧ items.size = n ∧ IntsAre (items.toList.take k) ((bl.drop (i * n)).take k) ∧ IsTup h' TO items ∧ IsBAIter h' it a (i * n + k) ∧
    (∀ x o, x ≠ it → x ≠ TO → s.heap.get? x = some o → h'.get? x = some o)) Q ?_ ?_ _ _ ⟨items₀, 0, s.heap, s.toks, rfl, Nat.zero_le _, rfl, rfl, hz, by simpa using IntsAre.nil, hTO, by simpa using hit, fun _ _ _ _ e => e⟩
  · rintro x rest r s' ⟨items, k, h', tk, rfl, hk, hrest, rfl, hsz, hia, hTO', hit', hk'⟩
    have hkn : k < n := by
      rcases Nat.lt_or_ge k n with q | q
      · exact q
      · rw [show n - k = 0 by omega] at hrest; cases hrest
    have hrw : n - k = (n - (k + 1)) + 1 := by omega
    rw [hrw, List.replicate_succ, List.zipIdx_cons] at hrest
    obtain ⟨rfl, rfl⟩ := List.cons.inj hrest
    have hlt : i * n + k < bl.length := by omega
    obtain ⟨hc, hv⟩ := byte_at hr hlt
    refine hf k items _ _ hsz hTO' fun E' => (nextOf_bai_item (s := { s with heap := h', toks := tk }) hit' (hk' a _ (Ne.symm D.ita) (Ne.symm D.TOa) hb) hc fun h₁ t tk₁ hit₁ hs₁ => ?_)
    refine ⟨(hs₁.2 TO D.TOit).trans hTO', fun h₂ hTO₂ hs₂ => ⟨_, k + 1, h₂, tk₁, rfl, hkn, rfl, rfl, by simpa using hsz, ?_, hTO₂, ?_, fun x o hx hxT e => hs₂.extBut x o hxT (hs₁.extBut x o hx (hk' x o hx hxT e))⟩⟩
    · rw [List.take_add_one (l := bl.drop (i * n)), List.getElem?_drop, List.getElem?_eq_getElem hlt, hv]
      refine ints_set ?_ (by omega) hia
      rw [List.length_take, List.length_drop]; omega
    · rw [← Nat.add_assoc]; exact (hs₂.2 it (Ne.symm D.TOit)).trans hit₁
  · rintro r s' ⟨items, k, h', tk, rfl, hk, hrest, rfl, hsz, hia, hTO', hit', hk'⟩
    have hkn : k = n := by
      rcases Nat.lt_or_ge k n with q | q
      · have : n - k = (n - (k + 1)) + 1 := by omega
        rw [this, List.replicate_succ, List.zipIdx_cons] at hrest; cases hrest
      · omega
    subst hkn
    refine h items h' tk hsz ?_ hTO' hit' hk'
    rwa [List.take_of_length_le (by simp [hsz])] at hia

/-- zip's first turn -/
theorem zip_next_first {z TI TO it a : Addr} {n : Nat} {items₀ : Array Value} {bl : List Int} {Q : Value → Shared → Prop} (D : ZA z TI TO it a) (hr : ∀ x ∈ bl, 0 ≤ x ∧ x < 256) (hn : 0 < n) (hi : n ≤ bl.length) (hsz : n ≤ 1000)
    (hz : IsZipN s.heap z TI TO .none (.bool false)) (hTI : IsTup s.heap TI (Array.replicate n (.ref it))) (hTO : IsTup s.heap TO items₀) (h₀ : items₀.size = n) (hit : IsBAIter s.heap it a 0) (hb : IsBA s.heap a (byteArr bl))
    (hQ : ∀ (T : Addr) items h' k, IsZipN h' z TI TO (rawInt T) (.bool false) → IsBAIter h' it a n → h'.get? T = some { cls := .type "tuple", data := .seq items } → IntsAre items.toList (cut bl n 0) → s.heap.get? T = none → (∀ x o, x ≠ it → x ≠ z → x ≠ TO → s.heap.get? x = some o → h'.get? x = some o) → Q (.ref T) { s with heap := h', toks := k }) :
    wpAny (model prog w) A (Builtin.«zip.__next__» ⟨[.ref z], []⟩) (fun fin s' => ∃ v, fin = .done (.ret v) ∧ Q v s') E s := by
  show wpAny _ _ (field (.ref z) 2 >>= _) _ _ _
  refine wpAny_bind (wpAny_field hz rfl (x := .bool false) rfl ?_)
  show wpAny _ _ (field (.ref z) 3 >>= _) _ _ _
  refine wpAny_bind (wpAny_field hz rfl (x := .ref TI) rfl ?_)
  refine wpAny_bind (wpAny_seqItems hTI rfl ?_)
  dsimp only
  refine bm_if_false (by simp; omega) ?_
  refine wpAny_bind ?_
  unfold Builtin.SmallTypes.ownedTupleIsFree
  refine wpAny_bind (wpAny_field hz rfl (x := .none) rfl (wpAny_pure ?_))
  refine bm_if_true rfl ?_
  refine wpAny_bind (wpAny_rule ?_)
  refine wpAny_bind (wpAny_field hz rfl (x := .ref TO) rfl ?_)
  dsimp only
  refine wpAny_bind (wpAny_setField_rec hz (by simp) fun h₁ hz₁ hs₁ => ?_)
  replace hz₁ : IsZipN h₁ z TI TO .ellipsis (.bool false) := hz₁
  rw [Array.toList_replicate]
  have hit₁ : IsBAIter h₁ it a (0 * n) := by rw [Nat.zero_mul]; exact (hs₁.2 it (Ne.symm D.zit)).trans hit
  have hb₁ : IsBA h₁ a (byteArr bl) := (hs₁.2 a (Ne.symm D.za)).trans hb
  have hTO₁ : IsTup h₁ TO items₀ := (hs₁.2 TO (Ne.symm D.zTO)).trans hTO
  refine wpAny_bind (zip_owned (s := { s with heap := h₁ }) (i := 0) D hr (by omega) hit₁ hb₁ hTO₁ h₀ _ (fun k items s' Q' hsz' hT' hn' => ?_) fun items h₂ k₂ hsz₂ hia hTO₂ hit₂ hk₂ => ?_)
  · have hL : sizeLine = 2 ^ 24 := rfl
    refine wpAny_bind (wpAny_onRaise ?_)
    show wpAny _ _ (if (Value.bool false == Value.bool true) = true then _ else (Builtin.SmallTypes.nextOf (.ref it) >>= fun x => Pure.pure (some x))) _ _ _
    refine bm_if_false rfl (wpAny_bind (wpAny_mono (hn' fun _ _ => False) (fun x s'' q => wpAny_pure ?_) fun _ _ e => e.elim))
    dsimp only
    refine wpAny_bind (wpAny_seqItems q.1 rfl ?_)
    dsimp only
    refine wpAny_bind (wpAny_updateSeq q.1 rfl (wpAny_bind (wpAny_letGo (wpAny_pure (q.2 _ ?_ (Heap.SameBut.update ..))))) (by omega) (by rw [Array.size_setIfInBounds]; omega))
    show (s''.heap.update TO _).get? TO = _
    rw [Heap.get?_update_self _ q.1 rfl]
    simp [Obj.mapSeq]
  · dsimp only
    refine wpAny_bind (wpAny_seqItems hTO₂ rfl ?_)
    dsimp only
    refine wpAny_bind ?_
    unfold newTuple
    have hL : sizeLine = 2 ^ 24 := rfl
    refine wpAny_newObj_type ?_ (by show items.toList.toArray.size ≤ sizeLine; simp; omega)
    have hz₂ : IsZipN (h₂.push { cls := .type "tuple", data := .seq items.toList.toArray }) z TI TO .ellipsis (.bool false) := Heap.get?_push_of_some _ (hk₂ z _ D.zit D.zTO hz₁)
    refine wpAny_bind ?_
    show wpAny _ _ (setField (.ref z) 0 (rawInt h₂.objs.size) >>= fun _ => setField (.ref z) 1 (.bool false)) _ _ _
    refine wpAny_bind (wpAny_setField_rec (s := { s with heap := h₂.push { cls := .type "tuple", data := .seq items.toList.toArray }, toks := k₂ }) hz₂ (by simp) fun h₃ hz₃ hs₃ => ?_)
    refine wpAny_setField_rec (s := { s with heap := h₃, toks := k₂ }) hz₃ (by simp) fun h₄ hz₄ hs₄ => wpAny_pure ⟨_, rfl, ?_⟩
    have hzT : h₂.objs.size ≠ z := fun q => by have := Heap.lt_size (hk₂ z _ D.zit D.zTO hz₁); rw [q] at this; exact Nat.lt_irrefl _ this
    refine hQ _ items h₄ _ hz₄ ((hs₄.2 it (Ne.symm D.zit)).trans ((hs₃.2 it (Ne.symm D.zit)).trans (Heap.get?_push_of_some _ (by rw [Nat.zero_mul, Nat.zero_add] at hit₂; exact hit₂)))) ((hs₄.2 _ hzT).trans ((hs₃.2 _ hzT).trans ?_)) hia ?_
      fun x o hx hxz hxT e => hs₄.extBut x o hxz (hs₃.extBut x o hxz (Heap.get?_push_of_some _ (hk₂ x o hx hxT (hs₁.extBut x o hxz e))))
    · have := Heap.get?_push_size h₂ (o := { cls := .type "tuple", data := .seq items.toList.toArray }) rfl
      simpa using this
    · cases e : s.heap.get? h₂.objs.size with
      | none => rfl
      | some o =>
        exfalso
        by_cases hx : h₂.objs.size = it
        · have := Heap.lt_size hit₂; rw [hx] at this; exact Nat.lt_irrefl _ this
        · by_cases hxT : h₂.objs.size = TO
          · have := Heap.lt_size hTO₂; rw [hxT] at this; exact Nat.lt_irrefl _ this
          · exact Nat.lt_irrefl _ (Heap.lt_size (hk₂ _ o hx hxT (hs₁.extBut _ o hzT e)))
end
end Mine
end

section
open PySem PySem.W PyProof.Rows
set_option maxRecDepth 100000
set_option linter.unusedVariables false
namespace Mine
section
variable {prog : Program} {w : World} {A : Around} {E : Value → Shared → Prop} {s : Shared}

/-- zip's end: the iterator has ended, the tuple that it owned is alive -/
theorem zip_next_end {z TI TO it a : Addr} {n a0 j : Nat} {f1 : Value} {o0 : Obj} {bl : List Int} {Q : Fin → Shared → Prop} (hh : A.handled = none) (D : ZA z TI TO it a) (hn : 0 < n) (hj : bl.length ≤ j)
    (hz : IsZipN s.heap z TI TO (rawInt a0) f1) (h0 : s.heap.get? a0 = some o0) (hTI : IsTup s.heap TI (Array.replicate n (.ref it))) (hit : IsBAIter s.heap it a j) (hb : IsBA s.heap a (byteArr bl))
    (hE : ∀ e h', IsStop h' e → (∀ x o, x ≠ it → x ≠ z → s.heap.get? x = some o → h'.get? x = some o) → E e { s with heap := h' }) :
    wpAny (model prog w) A (Builtin.«zip.__next__» ⟨[.ref z], []⟩) Q E s := by
  show wpAny _ _ (field (.ref z) 2 >>= _) _ _ _
  refine wpAny_bind (wpAny_field hz rfl (x := .bool false) rfl ?_)
  show wpAny _ _ (field (.ref z) 3 >>= _) _ _ _
  refine wpAny_bind (wpAny_field hz rfl (x := .ref TI) rfl ?_)
  refine wpAny_bind (wpAny_seqItems hTI rfl ?_)
  dsimp only
  refine bm_if_false (by simp; omega) ?_
  have free : ∀ Q' : Bool → Shared → Prop, (∀ h' f1', IsZipN h' z TI TO (rawInt a0) f1' → Heap.SameBut z s.heap h' → Q' false { s with heap := h' }) → wpAny (model prog w) A (Builtin.SmallTypes.ownedTupleIsFree (.ref z)) Q' E s := fun Q' k => by
    unfold Builtin.SmallTypes.ownedTupleIsFree
    refine wpAny_bind (wpAny_field hz rfl (x := rawInt a0) rfl ?_)
    show wpAny _ _ (loadIfAlive ((a0 : Int).toNat) >>= _) _ _ _
    refine wpAny_bind (m := loadIfAlive ((a0 : Int).toNat)) (fun Γ p _ => ?_)
    show Sem.wp _ Γ (.loadIfAlive ((a0 : Int).toNat) .pure) _ _ p s
    rw [Sem.wp_loadIfAlive, Int.toNat_natCast, h0, Sem.wp_pure]
    show wpAny _ _ (if (some o0).isNone = true then _ else _) _ _ _
    refine bm_if_false rfl ?_
    refine wpAny_bind (wpAny_field hz rfl (x := f1) rfl ?_)
    by_cases hf : (f1 != Value.bool true) = true
    · refine bm_if_true hf (wpAny_bind (wpAny_setField_rec hz (by simp) fun h₁ hz₁ hs₁ => wpAny_pure (k h₁ _ hz₁ hs₁)))
    · refine bm_if_false (by simpa using hf) (wpAny_pure (k s.heap f1 hz (.refl ..)))
  refine wpAny_bind (free _ fun h₁ f1' hz₁ hs₁ => ?_)
  refine bm_if_false rfl ?_
  rw [← Array.forIn_toList, Array.toList_replicate]
  have hit₁ : IsBAIter h₁ it a j := (hs₁.2 it (Ne.symm D.zit)).trans hit
  have hb₁ : IsBA h₁ a (byteArr bl) := (hs₁.2 a (Ne.symm D.za)).trans hb
  obtain ⟨m, rfl⟩ : ∃ m, n = m + 1 := ⟨n - 1, by omega⟩
  rw [List.replicate_succ, List.forIn_cons]
  refine wpAny_bind (wpAny_bind (wpAny_bind (wpAny_holding ?_)))
  show wpAny _ _ (if (Value.bool false == Value.bool true) = true then _ else (Builtin.SmallTypes.nextOf (.ref it) >>= fun x => Pure.pure (some x))) _ _ _
  refine bm_if_false rfl (wpAny_bind (nextOf_bai_end (s := { s with heap := h₁ }) hh hit₁ hb₁ (by unfold byteArr; simpa using hj) fun e h' he hk => ?_))
  exact hE e h' he fun x o hx hxz e => hk x o hx (hs₁.extBut x o hxz e)

variable {z TI TO it a : Addr} {n : Nat} {bl : List Int}

/-- a zip of n times one iterator of a bytearray, after i turns -/
structure ZipAt (h : Heap) (z TI TO it a : Addr) (bl : List Int) (n i : Nat) : Prop where
  z : (i = 0 ∧ IsZipN h z TI TO .none (.bool false) ∧ ∃ items, items.size = n ∧ IsTup h TO items) ∨ (∃ (a0 : Addr) (f1 : Value) (o0 : Obj), IsZipN h z TI TO (rawInt a0) f1 ∧ h.get? a0 = some o0 ∧ a0 ≠ z ∧ a0 ≠ it)
  TI : IsTup h TI (Array.replicate n (.ref it))
  it : IsBAIter h it a (i * n)
  a : IsBA h a (byteArr bl)

theorem ZipAt.keep {h h' : Heap} {i : Nat} (q : ZipAt h z TI TO it a bl n i) (hk : ∀ x o, h.get? x = some o → h'.get? x = some o) : ZipAt h' z TI TO it a bl n i where
  z := by
    rcases q.z with ⟨e, hz, items, hi, hT⟩ | ⟨a0, f1, o0, hz, h0, n1, n2⟩
    · exact .inl ⟨e, hk _ _ hz, items, hi, hk _ _ hT⟩
    · exact .inr ⟨a0, f1, o0, hk _ _ hz, hk _ _ h0, n1, n2⟩
  TI := hk _ _ q.TI
  it := hk _ _ q.it
  a := hk _ _ q.a

theorem ZipAt.keepBut {h h' : Heap} {i : Nat} {S : Addr} {xs : Array Value} {c : Nat} (q : ZipAt h z TI TO it a bl n i) (hk : ∀ x o, x ≠ S → h.get? x = some o → h'.get? x = some o) (hS : h.get? S = some { cls := .type "list", data := .seq xs c })
    (hl : ∃ o, h'.get? S = some o) : ZipAt h' z TI TO it a bl n i := by
  have up : ∀ {x o}, h.get? x = some o → o.cls ≠ .type "list" → h'.get? x = some o := fun {x o} e c => hk _ _ (fun q => by subst q; rw [hS] at e; cases e; exact c rfl) e
  refine ⟨?_, up q.TI (by simp), up q.it (by simp), up q.a (by simp)⟩
  obtain ⟨oS, hl⟩ := hl
  rcases q.z with ⟨e, hz, items, hi, hT⟩ | ⟨a0, f1, o0, hz, h0, n1, n2⟩
  · exact .inl ⟨e, up hz (by simp), items, hi, up hT (by simp)⟩
  · by_cases q0 : a0 = S
    · exact .inr ⟨a0, f1, oS, up hz (by simp), by rw [q0]; exact hl, n1, n2⟩
    · exact .inr ⟨a0, f1, o0, up hz (by simp), hk _ _ q0 h0, n1, n2⟩

/-- a turn of the zip as pyNext -/
theorem pyNext_zip_item {i : Nat} {Q : Option Value → Shared → Prop} (D : ZA z TI TO it a) (hr : ∀ x ∈ bl, 0 ≤ x ∧ x < 256) (hn : 0 < n) (hi : i * n + n ≤ bl.length) (hsz : n ≤ 1000)
    (hq : ZipAt s.heap z TI TO it a bl n i)
    (hQ : ∀ T items h' k, ZipAt h' z TI TO it a bl n (i + 1) → h'.get? T = some { cls := .type "tuple", data := .seq items } → IntsAre items.toList (cut bl n i) → s.heap.get? T = none →
      (∀ x o, x ≠ it → x ≠ z → (i = 0 → x ≠ TO) → s.heap.get? x = some o → h'.get? x = some o) → Q (some (.ref T)) { s with heap := h', toks := k }) :
    wpAny (model prog w) A (pyNext (.ref z)) Q E s := by
  have hT : s.TypeIs (.ref z) "zip" := by
    rcases hq.z with ⟨_, hz, _⟩ | ⟨a0, f1, o0, hz, _⟩
    · exact ⟨_, hz, rfl⟩
    · exact ⟨_, hz, rfl⟩
  have e1 : (i + 1) * n = i * n + n := Nat.succ_mul ..
  unfold pyNext
  refine wpAny_bind (wpAny_attempt (wpAny_callSpecial?_slot (name := Str.ofString "__next__") hT F.slot_zip_next
    (wpAny_call_entry F.slot_zip_next hT F.entry_zip_next ?_ (F.args_zip_next_1 _))))
  rcases hq.z with ⟨rfl, hz, items₀, hi0, hTO⟩ | ⟨a0, f1, o0, hz, h0, n1, n2⟩
  · have hit := hq.it
    rw [Nat.zero_mul] at hit hi
    have lt : ∀ {x o}, s.heap.get? x = some o → ∀ {T}, s.heap.get? T = none → T ≠ x := fun e _ e' q => by subst q; rw [e] at e'; cases e'
    refine zip_next_first D hr hn (by omega) hsz hz hq.TI hTO hi0 hit hq.a fun T items h' k hz' hit' hT' hia hT0 hk => ?_
    refine wpAny_pure (hQ T items h' k ⟨.inr ⟨T, _, _, hz', hT', lt hz hT0, lt hit hT0⟩, hk TI _ D.TIit (Ne.symm D.zTI) D.TITO hq.TI, ?_, hk a _ (Ne.symm D.ita) (Ne.symm D.za) (Ne.symm D.TOa) hq.a⟩ hT' hia hT0 fun x o h1 h2 h3 e => hk x o h1 h2 (h3 rfl) e)
    · rw [e1, Nat.zero_mul, Nat.zero_add]; exact hit'
  · refine zip_next_more D hr hn hi hsz hz h0 hq.TI hq.it hq.a fun T items h' k f1' hz' hit' hT' hia hT0 hk => ?_
    refine wpAny_pure (hQ T items h' k ⟨.inr ⟨a0, f1', o0, hz', hk a0 _ n2 n1 h0, n1, n2⟩, hk TI _ D.TIit (Ne.symm D.zTI) hq.TI, by rw [e1]; exact hit',
      hk a _ (Ne.symm D.ita) (Ne.symm D.za) hq.a⟩ hT' hia hT0 fun x o h1 h2 h3 e => hk x o h1 h2 e)

theorem pyNext_zip_end {i : Nat} {Q : Option Value → Shared → Prop} (hh : A.handled = none) (D : ZA z TI TO it a) (hn : 0 < n) (hi : 0 < i) (hj : bl.length ≤ i * n)
    (hq : ZipAt s.heap z TI TO it a bl n i)
    (hQ : ∀ h', (∀ x o, x ≠ it → x ≠ z → s.heap.get? x = some o → h'.get? x = some o) → Q none { s with heap := h' }) :
    wpAny (model prog w) A (pyNext (.ref z)) Q E s := by
  rcases hq.z with ⟨rfl, hz, _⟩ | ⟨a0, f1, o0, hz, h0, n1, n2⟩
  · omega
  have hT : s.TypeIs (.ref z) "zip" := ⟨_, hz, rfl⟩
  unfold pyNext
  refine wpAny_bind (wpAny_attempt (wpAny_callSpecial?_slot (name := Str.ofString "__next__") hT F.slot_zip_next
    (wpAny_call_entry F.slot_zip_next hT F.entry_zip_next (zip_next_end hh D hn hj hz h0 hq.TI hq.it hq.a fun e h' he hk => ?_) (F.args_zip_next_1 _))))
  obtain ⟨x, o, rfl, ho, hc⟩ := he
  refine wpAny_bind (wpAny_isInstance (T := "StopIteration") (b := true) ⟨o, ho, hc⟩ isSubtype_stop ?_)
  exact wpAny_pure (hQ _ hk)
end
end Mine
end

section
open PySem PySem.W PyProof.Rows
set_option maxRecDepth 100000
set_option linter.unusedVariables false
namespace Mine
def All2 {α β : Type} (R : α → β → Prop) (xs : List α) (ys : List β) : Prop := xs.length = ys.length ∧ ∀ (i : Nat) x y, xs[i]? = some x → ys[i]? = some y → R x y
namespace All2
variable {α β : Type} {R R' : α → β → Prop} {xs : List α} {ys : List β}
theorem nil : All2 R [] [] := ⟨rfl, fun i x y h => by simp at h⟩
theorem snoc (h : All2 R xs ys) {x : α} {y : β} (hx : R x y) : All2 R (xs ++ [x]) (ys ++ [y]) := by
  refine ⟨by simp [h.1], fun i a b ha hb => ?_⟩
  rcases Nat.lt_trichotomy i xs.length with q | q | q
  · rw [List.getElem?_append_left q] at ha
    rw [List.getElem?_append_left (h.1 ▸ q)] at hb
    exact h.2 i a b ha hb
  · rw [List.getElem?_append_right (by omega)] at ha
    rw [List.getElem?_append_right (by rw [← h.1]; omega)] at hb
    rw [q, Nat.sub_self] at ha
    rw [q, h.1, Nat.sub_self] at hb
    cases ha; cases hb; exact hx
  · rw [List.getElem?_eq_none (by simp; omega)] at ha; cases ha
theorem mono (h : All2 R xs ys) (k : ∀ x y, R x y → R' x y) : All2 R' xs ys := ⟨h.1, fun i x y a b => k x y (h.2 i x y a b)⟩
theorem take (h : All2 R xs ys) (n : Nat) : All2 R (xs.take n) (ys.take n) := ⟨by simp [h.1], fun i x y a b => by
  rw [List.getElem?_take] at a b
  by_cases hi : i < n
  · rw [if_pos hi] at a b
    exact h.2 i x y a b
  · rw [if_neg hi] at a
    cases a⟩
end All2

def TupI (h : Heap) (v : Value) (c : List Int) : Prop := ∃ T items, v = .ref T ∧ h.get? T = some { cls := .type "tuple", data := .seq items } ∧ IntsAre items.toList c

namespace F
theorem zip_no_len : typeLookup (.type "zip") "__len__" = pure none := by rw [typeLookup_type, builtinLookup_eq_fast]; kernel_rfl
theorem zip_no_hint : typeLookup (.type "zip") "__length_hint__" = pure none := by rw [typeLookup_type, builtinLookup_eq_fast]; kernel_rfl
end F

section
variable {prog : Program} {w : World} {A : Around} {s : Shared} {R : Result → Shared → Prop} {z TI TO it a : Addr} {n m : Nat} {bl : List Int}

abbrev IsLst (h : Heap) (S : Addr) (xs : Array Value) (c : Nat) : Prop := h.get? S = some { cls := .type "list", dict := none, data := .seq xs c, slots := #[] }

theorem TupI.keep {h h' : Heap} {v : Value} {c : List Int} (q : TupI h v c) (k : ∀ x o, o.cls = .type "tuple" → h.get? x = some o → h'.get? x = some o) : TupI h' v c := by
  obtain ⟨T, items, e, hT, hia⟩ := q
  exact ⟨T, items, e, k _ _ rfl hT, hia⟩

theorem zip_loop (hh : A.in1.handled = none) (D : ZA z TI TO it a) (hr : ∀ x ∈ bl, 0 ≤ x ∧ x < 256) (hn : 0 < n) (hlen : bl.length = m * n) (hm : 0 < m) (hm1 : m ≤ 1000) (hsz : n ≤ 1000) (S : Addr) (hSz : S ≠ z) (hSit : S ≠ it) (hSTO : S ≠ TO) (res : Value) :
    ∀ (k i : Nat) (s : Shared) (acc : Array Value) (c : Nat), m - i = k → i ≤ m → ZipAt s.heap z TI TO it a bl n i → IsLst s.heap S acc c → All2 (TupI s.heap) acc.toList ((List.range i).map (cut bl n)) →
    (∀ acc' c' h' k', IsLst h' S acc' c' → All2 (TupI h') acc'.toList ((List.range m).map (cut bl n)) → (∀ x o, x ≠ it → x ≠ z → x ≠ TO → x ≠ S → s.heap.get? x = some o → h'.get? x = some o) → R (.ok (.ret res)) { s with heap := h', toks := k' }) →
    codeAny (model prog w) A (.builtin "list.extend.loop" ⟨[.ref S, .ref z, res], []⟩) R s := by
  intro k
  induction k with
  | zero =>
    intro i s acc c hk hi hq hS hacc hR
    have hin : i = m := by omega
    subst hin
    refine codeAny_builtin F.entry_extend_loop ?_
    rw [Around.under_plainId F.plain_extend_loop _]
    show wpAny _ A.in1 (pyNext (.ref z) >>= _) _ _ s
    refine wpAny_bind (pyNext_zip_end hh D hn hm (by omega) hq fun h' hk' => wpAny_pure (hR acc c h' s.toks (hk' S _ hSit hSz hS) (hacc.mono fun v cc q => q.keep ?_) fun x o h1 h2 h3 h4 e => hk' x o h1 h2 e))
    intro x o ho e
    refine hk' x o (fun q => ?_) (fun q => ?_) e
    · subst q; rw [hq.it] at e; cases e; simp at ho
    · subst q
      rcases hq.z with ⟨_, hz, _⟩ | ⟨_, _, _, hz, _⟩ <;> (rw [hz] at e; cases e; simp at ho)
  | succ k ih =>
    intro i s acc c hk hi hq hS hacc hR
    have hlt : i < m := by omega
    refine codeAny_builtin F.entry_extend_loop ?_
    rw [Around.under_plainId F.plain_extend_loop _]
    show wpAny _ A.in1 (pyNext (.ref z) >>= _) _ _ s
    have hin : i * n + n ≤ bl.length := by
      rw [hlen, ← Nat.succ_mul]; exact Nat.mul_le_mul_right n hlt
    have hacl : acc.size = i := by have := hacc.1; simpa using this
    refine wpAny_bind (pyNext_zip_item D hr hn hin hsz hq fun T items h' tk hq' hT hia hT0 hk' => ?_)
    have hS' := hk' S _ hSit hSz (fun _ => hSTO) hS
    have hup : ∀ x o, x ≠ S → h'.get? x = some o → (h'.update S (Obj.mapSeq (·.push (.ref T)))).get? x = some o := fun x o hx e => (Heap.get?_update_other _ _ (Ne.symm hx)).trans e
    have hL : sizeLine = 2 ^ 24 := rfl
    have hSn := Heap.get?_update_self (Obj.mapSeq (·.push (Value.ref T))) hS' rfl
    show wpAny _ A.in1 (updateSeq S (·.push (.ref T)) >>= _) _ _ _
    refine wpAny_bind ?_
    refine wpAny_updateSeq hS' rfl (wpAny_pure ⟨plainId_quiet F.plain_extend_loop _, ih (i + 1) _ (acc.push (.ref T)) _ (by omega) hlt (hq'.keepBut hup hS' ⟨_, hSn⟩) hSn ?_ fun acc' c' h'' k'' h1 h2 h3 => ?_⟩)
      (by omega) (by show (acc.push (.ref T)).size ≤ sizeLine + 1; rw [Array.size_push]; omega)
    · rw [Array.toList_push, List.range_succ, List.map_append]
      have nS : ∀ x o, o.cls = .type "tuple" → h'.get? x = some o → x ≠ S := fun x o ho e q => by subst q; rw [hS'] at e; cases e; simp at ho
      refine All2.snoc ?_ ⟨T, items, rfl, hup T _ (nS _ _ rfl hT) hT, hia⟩
      by_cases hi0 : i = 0
      · subst hi0
        have : acc = #[] := Array.eq_empty_of_size_eq_zero hacl
        subst this
        exact All2.nil
      · refine hacc.mono fun v cc q => q.keep fun x o ho e => ?_
        have e' : h'.get? x = some o := by
          refine hk' x o (fun q => ?_) (fun q => ?_) (fun q => absurd q hi0) e
          · subst q; rw [hq.it] at e; cases e; simp at ho
          · subst q
            rcases hq.z with ⟨_, hz, _⟩ | ⟨_, _, _, hz, _⟩ <;> (rw [hz] at e; cases e; simp at ho)
        exact hup x o (nS x o ho e') e'
    · exact hR acc' c' h'' k'' h1 h2 fun x o e1 e2 e3 e4 e => h3 x o e1 e2 e3 e4 (hup x o e4 (hk' x o e1 e2 (fun _ => e3) e))
end

section
variable {prog : Program} {w : World} {A : Around} {E : Value → Shared → Prop} {s : Shared} {z TI TO it a : Addr} {n m : Nat} {bl : List Int}

theorem ZipAt.typ {h : Heap} {i : Nat} (q : ZipAt h z TI TO it a bl n i) : ∃ o, h.get? z = some o ∧ o.cls = .type "zip" := by
  rcases q.z with ⟨_, hz, _⟩ | ⟨_, _, _, hz, _⟩
  · exact ⟨_, hz, rfl⟩
  · exact ⟨_, hz, rfl⟩

/-- list(zip) -/
theorem call_list_zip {Q : Value → Shared → Prop} (hh : A.handled = none) (D : ZA z TI TO it a) (hr : ∀ x ∈ bl, 0 ≤ x ∧ x < 256) (hn : 0 < n) (hlen : bl.length = m * n) (hm : 0 < m) (hm1 : m ≤ 1000) (hsz : n ≤ 1000)
    (hq : ZipAt s.heap z TI TO it a bl n 0) (hTO : TO < s.heap.objs.size)
    (hQ : ∀ acc' c' h' k', IsLst h' s.heap.objs.size acc' c' → All2 (TupI h') acc'.toList ((List.range m).map (cut bl n)) → (∀ x o, x ≠ it → x ≠ z → x ≠ TO → s.heap.get? x = some o → h'.get? x = some o) → Q (.ref s.heap.objs.size) { s with heap := h', toks := k' }) :
    wpAny (model prog w) A (call (.type "list") [.ref z]) Q E s := by
  have hh1 : A.in1.in1.handled = none := hh
  refine callType_codes (Q₁ := fun obj s₁ => obj = .ref s.heap.objs.size ∧ s₁ = { s with heap := s.heap.push { cls := .type "list", data := .seq #[] } }) F.called_list (F.typeCall_list_1 _) F.entry_list_init
    (code_list_new _ ⟨rfl, rfl⟩) fun obj s₁ h₁ => ?_
  obtain ⟨rfl, rfl⟩ := h₁
  have hS : (s.heap.push { cls := .type "list", data := .seq #[] }).get? s.heap.objs.size = some { cls := .type "list", data := .seq #[] } := Heap.get?_push_size _ rfl
  refine ⟨⟨_, hS, rfl⟩, F.args_list_init_2 _ _, ?_⟩
  have hq1 : ZipAt (s.heap.push { cls := .type "list", data := .seq #[] }) z TI TO it a bl n 0 := hq.keep fun x o e => Heap.get?_push_of_some _ e
  obtain ⟨oz, hoz, hcz⟩ := hq.typ
  have hSz : s.heap.objs.size ≠ z := Nat.ne_of_gt (Heap.lt_size hoz)
  have hSit : s.heap.objs.size ≠ it := Nat.ne_of_gt (Heap.lt_size hq.it)
  have hSTO : s.heap.objs.size ≠ TO := Nat.ne_of_gt hTO
  show wpAny _ A.in1.in1 (do let old ← Builtin.List.listItems (.ref s.heap.objs.size); Builtin.List.listUpdate (.ref s.heap.objs.size) (fun _ => #[]); letGo old.toList.reverse; Builtin.List.listExtendWith (.ref s.heap.objs.size) (.ref z) .none) _ _ _
  refine wpAny_bind ?_
  unfold Builtin.List.listItems
  refine wpAny_bind (wpAny_seqItems hS rfl (wpAny_pure ?_))
  show wpAny _ A.in1.in1 (updateSeq s.heap.objs.size (fun _ => #[]) >>= fun _ => letGo (#[] : Array Value).toList.reverse >>= fun _ => Builtin.List.listExtendWith (.ref s.heap.objs.size) (.ref z) .none) _ _ _
  refine wpAny_bind (wpAny_updateSeq hS rfl ?_)
  have hS₂ := Heap.get?_update_self (Obj.mapSeq (fun _ => (#[] : Array Value))) hS rfl
  refine wpAny_bind (wpAny_letGo ?_)
  have hup₂ : ∀ x o, x ≠ s.heap.objs.size → (s.heap.push { cls := .type "list", data := .seq #[] }).get? x = some o → ((s.heap.push { cls := .type "list", data := .seq #[] }).update s.heap.objs.size (Obj.mapSeq (fun _ => (#[] : Array Value)))).get? x = some o := fun x o hx e => (Heap.get?_update_other _ _ (Ne.symm hx)).trans e
  have hq2 := hq1.keepBut hup₂ hS ⟨_, hS₂⟩
  unfold Builtin.List.listExtendWith
  obtain ⟨oz2, hoz2, hcz2⟩ := hq2.typ
  have hT2 : Shared.TypeIs { s with heap := (s.heap.push { cls := .type "list", data := .seq #[] }).update s.heap.objs.size (Obj.mapSeq (fun _ => (#[] : Array Value))) } (.ref z) "zip" := ⟨_, hoz2, hcz2⟩
  refine wpAny_bind (wpAny_typeOf hT2 ?_)
  have h1 : Builtin.List.listSameRef (.ref s.heap.objs.size) (.ref z) = false := by simp [Builtin.List.listSameRef, hSz]
  have h2 : (Value.type "zip" == Value.type "list") = false := by decide
  have h3 : (Value.type "zip" == Value.type "tuple") = false := by decide
  simp only [h1, h2, h3, Bool.or_false, Bool.false_eq_true, if_false]
  refine wpAny_bind ?_
  have iter : ∀ Q' : Value → Shared → Prop, Q' (.ref z) { s with heap := (s.heap.push { cls := .type "list", data := .seq #[] }).update s.heap.objs.size (Obj.mapSeq (fun _ => (#[] : Array Value))) } → wpAny (model prog w) A.in1.in1 (pyIter (.ref z)) Q' (fun e s' => wants (fun r s₂ => r = .none ∧ Q (.ref s.heap.objs.size) s₂) E (.error e) s') { s with heap := (s.heap.push { cls := .type "list", data := .seq #[] }).update s.heap.objs.size (Obj.mapSeq (fun _ => (#[] : Array Value))) } := fun Q' hQ' => by
    refine wpAny_pyIter_slot hT2 F.slot_zip_iter (wpAny_call_entry F.slot_zip_iter hT2 F.entry_zip_iter ?_ (F.args_zip_iter_1 _))
    show wpAny _ _ (ret (.ref z)) _ _ _
    exact wpAny_pure ⟨_, rfl, "zip", _, hT2, F.slot_zip_next.lookup, hQ'⟩
  refine iter _ ?_
  refine wpAny_bind (wpAny_holding ?_)
  unfold Builtin.List.listLengthHint
  refine wpAny_bind (wpAny_specialOf hT2 F.zip_no_len ?_)
  show wpAny _ _ (specialOf (Value.ref z) (Str.ofString "__length_hint__") >>= _) _ _ _
  refine wpAny_bind (wpAny_specialOf hT2 F.zip_no_hint ?_)
  refine wpAny_pure ?_
  show wpAny _ _ (rule "list.extend.makes-room" >>= fun _ => Builtin.List.listTouch (.ref s.heap.objs.size) >>= fun _ =>
    again (.builtin "list.extend.loop" ⟨[.ref s.heap.objs.size, .ref z, .none], []⟩)) _ _ _
  refine wpAny_bind (wpAny_rule ?_)
  refine wpAny_bind ?_
  show wpAny _ _ (updateSeq s.heap.objs.size (·.push .none) >>= fun _ => updateSeq s.heap.objs.size (·.pop)) _ _ _
  refine wpAny_bind (wpAny_updateSeq hS₂ rfl ?_)
  have hS₃ := Heap.get?_update_self (Obj.mapSeq (·.push Value.none)) hS₂ rfl
  refine wpAny_updateSeq (hz := by seq_fits) hS₃ rfl ?_
  have hS₄ := Heap.get?_update_self (Obj.mapSeq (·.pop)) hS₃ rfl
  have oth : ∀ x o, x ≠ s.heap.objs.size → ((s.heap.push { cls := .type "list", data := .seq #[] }).update s.heap.objs.size (Obj.mapSeq (fun _ => (#[] : Array Value)))).get? x = some o →
      ((((s.heap.push { cls := .type "list", data := .seq #[] }).update s.heap.objs.size (Obj.mapSeq (fun _ => (#[] : Array Value)))).update s.heap.objs.size (Obj.mapSeq (·.push Value.none))).update s.heap.objs.size (Obj.mapSeq (·.pop))).get? x = some o :=
    fun x o hb e => (Heap.get?_update_other _ _ (Ne.symm hb)).trans ((Heap.get?_update_other _ _ (Ne.symm hb)).trans e)
  have hq4 := hq2.keepBut oth hS₂ ⟨_, hS₄⟩
  refine wpAny_pure ⟨plainId_quiet F.plain_extend_loop _, ?_⟩
  have hx : ∀ x o, s.heap.get? x = some o → x ≠ s.heap.objs.size := fun x o e => Nat.ne_of_lt (Heap.lt_size e)
  have up : ∀ x o, s.heap.get? x = some o → _ := fun x o e => oth x o (hx x o e) (hup₂ x o (hx x o e) (Heap.get?_push_of_some _ e))
  generalize ((((s.heap.push { cls := .type "list", data := .seq #[] }).update s.heap.objs.size (Obj.mapSeq (fun _ => (#[] : Array Value)))).update s.heap.objs.size (Obj.mapSeq (·.push Value.none))).update s.heap.objs.size (Obj.mapSeq (·.pop))) = h4 at *
  have hS4' : ∃ c4, IsLst h4 s.heap.objs.size #[] c4 := ⟨_, hS₄⟩
  clear hS₄
  obtain ⟨c4, hS₄⟩ := hS4'
  refine zip_loop (m := m) (A := A.in1) hh1 D hr hn hlen hm hm1 hsz _ hSz hSit hSTO .none m 0 { s with heap := h4 } #[] c4 rfl (Nat.zero_le _) hq4 hS₄ All2.nil fun acc' c' h' k' e1 e2 e3 => ?_
  exact ⟨rfl, hQ acc' c' h' k' e1 e2 fun x o q1 q2 q3 e => e3 x o q1 q2 q3 (hx x o e) (up x o e)⟩
end
end Mine
end

section
open PySem PySem.W PyProof.Rows
set_option maxRecDepth 100000
set_option linter.unusedVariables false
namespace Mine
namespace F
theorem plain_iter : plainId "iter" = true := by decide +kernel
theorem entry_iter : entryFor table "iter" = some Builtin.«iter» := by first | exact entryFor_of_fast (by kernel_rfl) | exact entryFor_of_tree (by kernel_rfl)
theorem check_iter (a : Value) : checkBuiltinCall "iter" ⟨[a], []⟩ = pure () := by kernel_rfl
end F
section
variable {prog : Program} {w : World} {A : Around} {E : Value → Shared → Prop} {s : Shared}

/-- iter(bytearray) -/
theorem call_iter_ba {a : Addr} {b : Array UInt8} {Q : Value → Shared → Prop} (hb : IsBA s.heap a b) (h : Q (.ref s.heap.objs.size) { s with heap := s.heap.push { cls := .type "bytearray_iterator", data := .fields #[.ref a, rawInt 0] } }) :
    wpAny (model prog w) A (call (.builtin "iter") [.ref a]) Q E s := by
  refine wpAny_call (codeAny_call_builtin F.plain_iter F.entry_iter (wpAny_of_eq (F.check_iter _) ?_))
  show wpAny _ _ (pyIter (.ref a) >>= fun v => ret v) _ _ s
  exact wpAny_bind (pyIter_ba hb (wpAny_pure h))

theorem mulListG {l : Addr} {items : Array Value} {k : Nat} {x : Int} {u : Tok} {Q : Value → Shared → Prop} (hl : IsLst s.heap l items k) (hlo : -(2 ^ 63 : Int) ≤ x) (hhi : x < 2 ^ 63) (hsz : items.size * x.toNat ≤ 2 ^ 24)
    (h : Q (.ref s.heap.objs.size) { s with heap := s.heap.push { cls := .type "list", data := .seq (List.foldl (fun x1 x2 => x1 ++ x2) #[] (List.replicate (if items.isEmpty = true then 0 else x.toNat) items)) } }) :
    wpAny (model prog w) A (binaryOp .Mult (.ref l) (.int x u)) Q E s :=
  wpAny_binaryOp_repeat_ref (T := "list") (U := "int") (by decide) ⟨_, hl, rfl⟩ (fun s' => typeIs_int s' x u) noFill_list_mul F.fills_int_mul F.slot_int_rmul repeat_list F.slot_int_index.lookup
    (call_meets F.slot_int_rmul (typeIs_int s x u) F.entry_int_rmul (F.args_int_rmul_2 _ _) (lm_int_rmul_list_any x u l items k none #[])
      ⟨hl, rfl, ⟨_, hl, rfl⟩, call_meets F.slot_list_mul ⟨_, hl, rfl⟩ F.entry_list_mul (F.args_list_mul_2 _ _)
        (lm_list_mul_any l items k none #[] x u (by simp [Builtin.List.listFitsIndex]; omega) (by omega) (by simp [Builtin.List.listTooLong, sizeLine]; omega))
        ⟨hl, h⟩⟩)

/-- [v] * n -/
theorem mulList1 {l : Addr} {v : Value} {k n : Nat} {x : Int} {u : Tok} {Q : Value → Shared → Prop} (ho : IsLst s.heap l #[v] k) (hx : x = n) (hn : n ≤ 1000)
    (h : Q (.ref s.heap.objs.size) { s with heap := s.heap.push { cls := .type "list", data := .seq (Array.replicate n v) } }) :
    wpAny (model prog w) A (binaryOp .Mult (.ref l) (.int x u)) Q E s := by
  have e : List.foldl (fun x1 x2 => x1 ++ x2) #[] (List.replicate (if (#[v] : Array Value).isEmpty = true then 0 else x.toNat) #[v]) = Array.replicate n v := by
    rw [listMul_foldl_if]
    have : ∀ n : Nat, (List.replicate n (#[v] : Array Value).toList).flatten = List.replicate n v := fun n => by
      induction n with
      | zero => rfl
      | succ n ih => rw [List.replicate_succ, List.flatten_cons, ih]; rfl
    rw [hx, Int.toNat_natCast, this]; simp
  have h1 : (#[v] : Array Value).size = 1 := rfl
  have h2 : x.toNat = n := by omega
  refine mulListG ho (by omega) (by omega) (by rw [h1, h2]; omega) ?_
  rw [e]
  exact h

/-- the arguments `*[..]` of a call -/
theorem evalArgs_star {f : Value} {x : Sem Value} {Q : Args → Shared → Prop}
    (h : wpAny (model prog w) A x (fun v s₁ => ∃ l xs k, v = .ref l ∧ IsLst s₁.heap l xs k ∧ xs.size ≤ 1000 ∧ ∀ h', (∀ b o, s₁.heap.get? b = some o → h'.get? b = some o) → Q ⟨xs.toList, []⟩ { s₁ with heap := h' }) E s) :
    wpAny (model prog w) A (evalArgs f true [(true, x)] []) Q E s := by
  unfold evalArgs
  refine wpAny_bind ?_
  refine wpAny_mono h (fun v s₁ h₁ => wpAny_bind (wpAny_pure ?_)) fun _ _ e => e
  obtain ⟨l, xs, k, rfl, hl, hsz, hQ⟩ := h₁
  show wpAny _ _ (holding _ _) _ _ s₁
  refine wpAny_holding ?_
  show wpAny _ _ (evalAll [] >>= fun kw => _) _ _ s₁
  refine wpAny_bind (wpAny_pure ?_)
  refine wpAny_bind ?_
  have hT : s₁.TypeIs (.ref l) "list" := ⟨_, hl, rfl⟩
  refine wpAny_bind ?_
  unfold notIterableAtAll
  refine wpAny_bind (wpAny_specialOf hT F.slot_list_iter.lookup ?_)
  refine wpAny_pure ?_
  refine bm_if_false (by simp) ?_
  refine wpAny_holding (wpAny_collect_seq l (.inl rfl) hl rfl rfl (fun h' hk => wpAny_pure (hQ h' hk)) (by have : sizeLine = 2 ^ 24 := rfl; omega))

theorem callWith_type_star {pos : Pos} {T : String} {x : Sem Value} {Q : Value → Shared → Prop}
    (h : wpAny (model prog w) A (evalArgs (.type T) true [(true, x)] []) (fun a s₁ => wpAny (model prog w) A (call (.type T) a.pos a.kw) Q E s₁) E s) :
    wpAny (model prog w) A (callWith pos (.type T) [] [(true, x)] []) Q E s := by
  unfold callWith
  refine wpAny_bind (wpAny_holding (wpAny_mono h (fun a s₁ h₁ => wpAny_bind (wpAny_standAt ?_)) fun _ _ x => x))
  refine wpAny_bind (wpAny_pure ?_)
  refine wpAny_bind (wpAny_operateT (wpAny_mono h₁ (fun r s₂ hr => wpAny_bind (wpAny_holding (wpAny_point (wpAny_pure hr)))) fun _ _ x => x))
end
end Mine
end

section
open PySem PySem.W PyProof.Rows
set_option maxRecDepth 100000
set_option linter.unusedVariables false
namespace Mine
namespace F
theorem typeCall_zip_n (n : Nat) (hn : n = 2 ∨ n = 4 ∨ n = 8) (v : Value) : checkTypeCall "zip" ⟨List.replicate n v, []⟩ = pure () := by
  rcases hn with rfl | rfl | rfl <;> kernel_rfl
theorem newCall_zip_n (n : Nat) (hn : n = 2 ∨ n = 4 ∨ n = 8) (v : Value) : checkBuiltinCall "zip.__new__" ⟨.type "zip" :: List.replicate n v, []⟩ = pure () := by
  rcases hn with rfl | rfl | rfl <;> kernel_rfl
theorem args_object_init_n (n : Nat) (hn : n = 2 ∨ n = 4 ∨ n = 8) (v o : Value) : argsOk "object.__init__" ⟨o :: List.replicate n v, []⟩ := by
  unfold argsOk; rw [signature?_of (id := "object.__init__") (n := ['_', '_', 't', 'i', 'n', 'i', '_', '_']) (o := ['t', 'c', 'e', 'j', 'b', 'o']) (by kernel_rfl) PySem.F.owner_object]
  rcases hn with rfl | rfl | rfl <;> kernel_rfl
end F
theorem zip_nes {N it a : Nat} (h1 : it < N) (h2 : a < N) : N + 2 ≠ N ∧ N + 2 ≠ N + 1 ∧ N + 2 ≠ it ∧ N + 2 ≠ a ∧ N ≠ N + 1 ∧ N ≠ it ∧ N + 1 ≠ it ∧ N + 1 ≠ a := by omega
section
variable {prog : Program} {w : World} {A : Around} {E : Value → Shared → Prop} {s : Shared}

theorem iterAll_same {it a : Addr} {i n : Nat} {Q : List Value → Shared → Prop} (hit : IsBAIter s.heap it a i) (h : Q (List.replicate n (.ref it)) s) :
    wpAny (model prog w) A (Builtin.SmallTypes.iterAll (List.replicate n (.ref it))) Q E s := by
  unfold Builtin.SmallTypes.iterAll
  refine wpAny_bind (wpAny_forIn_list _ (fun rest (r : Array Value) s' => ∃ k, k ≤ n ∧ rest = List.replicate (n - k) (Value.ref it) ∧ r = Array.replicate k (.ref it) ∧ s' = s) _ ?_ ?_ _ _ ⟨0, Nat.zero_le _, rfl, rfl, rfl⟩)
  · rintro x rest r s' ⟨k, hk, hrest, rfl, rfl⟩
    have hkn : k < n := by
      rcases Nat.lt_or_ge k n with q | q
      · exact q
      · rw [show n - k = 0 by omega] at hrest; cases hrest
    rw [show n - k = (n - (k + 1)) + 1 by omega, List.replicate_succ] at hrest
    obtain ⟨rfl, rfl⟩ := List.cons.inj hrest
    refine wpAny_bind (wpAny_holding (pyIter_bai hit (wpAny_pure ⟨k + 1, hkn, rfl, ?_, rfl⟩)))
    rw [Array.replicate_succ]
  · rintro r s' ⟨k, hk, hrest, rfl, rfl⟩
    have hkn : k = n := by
      rcases Nat.lt_or_ge k n with q | q
      · rw [show n - k = (n - (k + 1)) + 1 by omega, List.replicate_succ] at hrest; cases hrest
      · omega
    subst hkn
    exact wpAny_pure (by rw [Array.toList_replicate]; exact h)

def zip1 (h : Heap) (n : Nat) (it : Addr) : Heap := h.push { cls := .type "tuple", data := .seq (Array.replicate n (.ref it)) }
def zip2 (h : Heap) (n : Nat) (it : Addr) : Heap := (zip1 h n it).push { cls := .type "tuple", data := .seq (Array.replicate n .none) }
def zip3 (h : Heap) (n : Nat) (it : Addr) : Heap := (zip2 h n it).push { cls := .type "zip", data := .fields #[.none, .bool false, .bool false, .ref h.objs.size, .ref (zip1 h n it).objs.size] }

theorem meets_zip_n (it a : Addr) (i n : Nat) (hn : n ≤ 1000) :
    Meets (Builtin.«zip.__new__» ⟨.type "zip" :: List.replicate n (.ref it), []⟩) (fun _ R s => IsBAIter s.heap it a i ∧ R (.ok (.ret (.ref (zip2 s.heap n it).objs.size))) { s with heap := zip3 s.heap n it }) :=
  .of_wp fun prog w A R s h => by
    obtain ⟨hit, h⟩ := h
    have hsub := sub_zip
    have hL : sizeLine = 2 ^ 24 := rfl
    show wpAny _ _ (Builtin.SmallTypes.newClass "zip" ⟨.type "zip" :: List.replicate n (.ref it), []⟩ >>= _) _ _ _
    refine wpAny_bind ?_
    unfold Builtin.SmallTypes.newClass
    refine wpAny_bind (wpAny_pure ?_)
    refine bm_if_false rfl ?_
    refine wpAny_bind (wpAny_of_eq hsub ?_)
    refine bm_if_false rfl (wpAny_pure ?_)
    dsimp only
    rw [if_neg (by decide)]
    refine wpAny_bind (iterAll_same hit ?_)
    refine wpAny_bind ?_
    unfold newTuple
    refine wpAny_newObj_type ?_ (by show (List.replicate n (Value.ref it)).toArray.size ≤ sizeLine; simp; omega)
    refine wpAny_bind ?_
    refine wpAny_newObj_type ?_ (by show ((List.replicate n (Value.ref it)).map fun _ => Value.none).toArray.size ≤ sizeLine; simp; omega)
    refine wpAny_bind ?_
    unfold Builtin.SmallTypes.newRecord
    have e1 : (List.replicate n (Value.ref it)).toArray = Array.replicate n (Value.ref it) := by simp
    have e2 : ((List.replicate n (Value.ref it)).map fun _ => Value.none).toArray = Array.replicate n Value.none := by simp
    rw [e1, e2]
    refine wpAny_newObj_type (wpAny_pure ⟨_, rfl, h⟩) (by simp only [sizeOk, Builtin.SmallTypes.ownedTupleFields, List.size_toArray, List.length_append, List.length_cons, List.length_nil, sizeLine_eq]; omega)

/-- zip(it, .., it) -/
theorem call_zip_n {it a : Addr} {n : Nat} {bl : List Int} {Q : Value → Shared → Prop} (hn : n = 2 ∨ n = 4 ∨ n = 8) (hit : IsBAIter s.heap it a 0) (hb : IsBA s.heap a (byteArr bl)) (hita : it ≠ a)
    (hQ : ∀ z TI TO h', ZA z TI TO it a → ZipAt h' z TI TO it a bl n 0 → TO < h'.objs.size → s.heap.get? z = none → s.heap.get? TO = none → (∀ x o, s.heap.get? x = some o → h'.get? x = some o) → Q (.ref z) { s with heap := h' }) :
    wpAny (model prog w) A (call (.type "zip") (List.replicate n (.ref it))) Q E s := by
  have hn1 : n ≤ 1000 := by omega
  refine callType_new F.called_zip (by decide) (F.typeCall_zip_n n hn _) (F.newCall_zip_n n hn _) (fun obj => F.args_object_init_n n hn _ _) F.entry_zip_new
    (meets_zip_n it a 0 n hn1) ⟨hit, ?_⟩
  have up : ∀ x o, s.heap.get? x = some o → (zip3 s.heap n it).get? x = some o := fun x o e => Heap.get?_push_of_some _ (Heap.get?_push_of_some _ (Heap.get?_push_of_some _ e))
  have z1 : (zip1 s.heap n it).objs.size = s.heap.objs.size + 1 := Heap.size_push ..
  have z2 : (zip2 s.heap n it).objs.size = s.heap.objs.size + 2 := by rw [zip2, Heap.size_push, z1]
  have z3 : (zip3 s.heap n it).objs.size = s.heap.objs.size + 3 := by rw [zip3, Heap.size_push, z2]
  have g3 : (zip3 s.heap n it).get? (zip2 s.heap n it).objs.size = some _ := Heap.get?_push_size _ rfl
  have g2 : (zip3 s.heap n it).get? (zip1 s.heap n it).objs.size = some _ := Heap.get?_push_of_some _ (Heap.get?_push_size _ rfl)
  have g1 : (zip3 s.heap n it).get? s.heap.objs.size = some _ := Heap.get?_push_of_some _ (Heap.get?_push_of_some _ (Heap.get?_push_size _ rfl))
  rw [z1, z2] at g3
  rw [z1] at g2
  rw [z2]
  have lit : it < s.heap.objs.size := Heap.lt_size hit
  have la : a < s.heap.objs.size := Heap.lt_size hb
  have ne := zip_nes lit la
  refine ⟨⟨_, g3, rfl⟩, hQ (s.heap.objs.size + 2) s.heap.objs.size (s.heap.objs.size + 1) (zip3 s.heap n it) ⟨?_, ?_, ?_, ?_, ?_, ?_, ?_, ?_, hita⟩ ⟨.inl ⟨rfl, g3, _, ?_, g2⟩, g1, by rw [Nat.zero_mul]; exact up _ _ hit, up _ _ hb⟩ (by rw [z3]; exact Nat.lt_of_succ_le (Nat.le_succ _)) (Heap.get?_none_of_le (Nat.le_add_right _ _)) (Heap.get?_none_of_le (Nat.le_add_right _ _)) up⟩
  · exact ne.1
  · exact ne.2.1
  · exact ne.2.2.1
  · exact ne.2.2.2.1
  · exact ne.2.2.2.2.1
  · exact ne.2.2.2.2.2.1
  · exact ne.2.2.2.2.2.2.1
  · exact ne.2.2.2.2.2.2.2
  · simp
end
end Mine
end

section
open PySem PySem.W PyProof.Rows
set_option maxRecDepth 100000
set_option linter.unusedVariables false
namespace Mine
section
variable {prog : Program} {w : World} {A : Around} {s₀ : Shared} {env : Env} {R : Value → Heap → Prop}

theorem new_none {h : Heap} : h.get? h.objs.size = none := Heap.get?_none_of_le (Nat.le_refl _)
/-- fresh in a later heap, so fresh in an earlier one -/
theorem noneBack {s s' : Shared} {x : Addr} (g : Gr [] s s') (e : s'.heap.get? x = none) : s.heap.get? x = none := by
  cases h : s.heap.get? x with
  | none => rfl
  | some o => rw [g.k _ _ h] at e; cases e

theorem px_list1 {e : Expr} {pos : Pos} {P : Value → Heap → Prop} (he : Px prog w A (eval e env) s₀ P) (hst : ∀ v h h', (∀ b o, h.get? b = some o → h'.get? b = some o) → P v h → P v h')
    (hs : starEach [e] env = [(false, eval e env)] := by rfl) :
    Px prog w A (eval (.List [e] pos) env) s₀ (fun v h => ∃ l x, v = .ref l ∧ IsLst h l #[x] 0 ∧ P x h) := fun s Q E g k => by
  refine List_ ((px_args1 he hs).use g fun vs s₁ g₁ p₁ => ?_)
  obtain ⟨x, rfl, px⟩ := p₁
  refine wpAny_newObj_type (k _ _ (g₁.trans (.heap0 fun b o e => Heap.get?_push_of_some _ e)) ⟨_, x, rfl, Heap.get?_push_size _ rfl, hst _ _ _ (fun b o e => Heap.get?_push_of_some _ e) px⟩) (by show ([x] : List Value).toArray.size ≤ sizeLine; rw [sizeLine_eq]; simp)

variable {a : Addr} {bl : List Int} {n : Nat}
def ZipOut (s : Shared) (a : Addr) (bl : List Int) (n : Nat) (v : Value) (h : Heap) : Prop := ∃ z TI TO it, v = .ref z ∧ ZA z TI TO it a ∧ ZipAt h z TI TO it a bl n 0 ∧ TO < h.objs.size ∧ s.heap.get? it = none ∧ s.heap.get? z = none ∧ s.heap.get? TO = none

theorem px_zipn {e1 e2 : Expr} {zn : Str} {zp pos pb sp : Pos} (hz : Px prog w A (eval (.Name zn zp) env) s₀ (IsV (.type "zip"))) (hn : n = 2 ∨ n = 4 ∨ n = 8)
    (h1 : Px prog w A (eval e1 env) s₀ (fun v h => ∃ l it, v = .ref l ∧ IsLst h l #[.ref it] 0 ∧ IsBAIter h it a 0 ∧ s₀.heap.get? it = none))
    (h2 : Px prog w A (eval e2 env) s₀ (IsI n)) (hb : IsBA s₀.heap a (byteArr bl)) :
    Px prog w A (eval (.Call (.Name zn zp) [.Starred (.BinOp e1 .Mult e2 pb) sp] [] pos) env) s₀ (ZipOut s₀ a bl n) := fun s Q E g k => by
  refine Call_ (hz.use g fun v' s₁ g₁ e₁ => ?_)
  obtain rfl := e₁
  refine callWith_type_star (evalArgs_star ?_)
  have key : Px prog w A (eval (.BinOp e1 .Mult e2 pb) env) s₀ (fun v h => ∃ l it xs k, v = .ref l ∧ xs = Array.replicate n (.ref it) ∧ IsLst h l xs k ∧ IsBAIter h it a 0 ∧ s₀.heap.get? it = none) :=
    px_BinOp h1 (P₂ := fun x y h => (∃ l it, x = .ref l ∧ IsLst h l #[.ref it] 0 ∧ IsBAIter h it a 0 ∧ s₀.heap.get? it = none) ∧ IsI n y h)
      (fun x s₂ g₂ p₂ => fun s₃ Q E g₃ k => (h2.use (g₂.trans g₃) fun y s₄ g₄ p₄ => k y s₄ g₄ ⟨by
        obtain ⟨l, it, rfl, q1, q2, q3⟩ := p₂
        exact ⟨l, it, rfl, (g₃.trans g₄).k _ _ q1, (g₃.trans g₄).k _ _ q2, q3⟩, p₄⟩))
      fun x y s₂ g₂ p₂ => fun s₃ Q E g₃ k => by
        obtain ⟨⟨l, it, rfl, q1, q2, q3⟩, t, rfl⟩ := p₂
        exact mulList1 (g₃.k _ _ q1) rfl (by omega) (k _ _ (.heap0 fun b o e => Heap.get?_push_of_some _ e) ⟨_, it, _, 0, rfl, rfl, Heap.get?_push_size _ rfl, Heap.get?_push_of_some _ (g₃.k _ _ q2), q3⟩)
  refine wpAny_bind (key.use (g.trans g₁) fun v s₂ g₂ p₂ => wpAny_bind (wpAny_standAt (wpAny_pure ?_)))
  obtain ⟨l, it, xs, kk, rfl, rfl, hl, hit, hit0⟩ := p₂
  refine ⟨l, _, kk, rfl, hl, by simp; omega, fun h₃ hk₃ => ?_⟩
  have g₀₂ := (g.trans g₁).trans g₂
  have g₂₃ : Gr [] s₂ { s₂ with heap := h₃ } := .heap0 hk₃
  rw [Array.toList_replicate]
  have hita : it ≠ a := fun q => by rw [q, hb] at hit0; cases hit0
  refine call_zip_n hn (hk₃ _ _ hit) (hk₃ _ _ (g₀₂.k _ _ hb)) hita fun z TI TO h₄ D hq hTO hz0 hTO0 hk₄ => ?_
  have g₃₄ : Gr [] { s₂ with heap := h₃ } { s₂ with heap := h₄ } := .heap0 hk₄
  exact k _ _ (((g₁.trans g₂).trans g₂₃).trans g₃₄) ⟨z, TI, TO, it, rfl, D, hq, hTO, hit0, noneBack (g₀₂.trans g₂₃) hz0, noneBack (g₀₂.trans g₂₃) hTO0⟩

/-- the call of group -/
theorem px_group_expr {e1 e2 : Expr} {ln zn : Str} {lp lpos zp pos pb sp : Pos} {m : Nat} (hh : A.handled = none) (hl : Px prog w A (eval (.Name ln lp) env) s₀ (IsV (.type "list"))) (hz : Px prog w A (eval (.Name zn zp) env) s₀ (IsV (.type "zip"))) (hn : n = 2 ∨ n = 4 ∨ n = 8)
    (h1 : ∀ s, Gr [] s₀ s → Px prog w A (eval e1 env) s (fun v h => ∃ l it, v = .ref l ∧ IsLst h l #[.ref it] 0 ∧ IsBAIter h it a 0 ∧ s.heap.get? it = none))
    (h2 : Px prog w A (eval e2 env) s₀ (IsI n)) (hb : IsBA s₀.heap a (byteArr bl)) (hr : ∀ x ∈ bl, 0 ≤ x ∧ x < 256) (hlen : bl.length = m * n) (hm : 0 < m) (hm1 : m ≤ 1000) 
    (hs : starEach [.Call (.Name zn zp) [.Starred (.BinOp e1 .Mult e2 pb) sp] [] pos] env = [(false, eval (.Call (.Name zn zp) [.Starred (.BinOp e1 .Mult e2 pb) sp] [] pos) env)] := by rfl) :
    Px prog w A (eval (.Call (.Name ln lp) [.Call (.Name zn zp) [.Starred (.BinOp e1 .Mult e2 pb) sp] [] pos] [] lpos) env) s₀ (fun v h => ∃ S acc c, v = .ref S ∧ IsLst h S acc c ∧ All2 (TupI h) acc.toList ((List.range m).map (cut bl n))) := fun s Q E g k => by
  refine Call_ (hl.use g fun v' s₁ g₁ e₁ => ?_)
  obtain rfl := e₁
  have g₀₁ := g.trans g₁
  refine PySem.callWith_type (by rw [hs]; rfl) ?_
  rw [hs]
  refine Calls.evalArgs_plain (Calls.spliced_cons ((px_zipn (hz.from g₀₁) hn (h1 s₁ g₀₁) (h2.from g₀₁) (g₀₁.k _ _ hb)).use (.refl _ _) fun v s₂ g₂ p₂ => Calls.spliced_nil ?_))
  obtain ⟨z, TI, TO, it, rfl, D, hq, hTO, n1, n2, n3⟩ := p₂
  refine call_list_zip hh D hr (by omega) hlen hm hm1 (by omega) hq hTO fun acc c h' tk hS hacc hk => k _ _ ?_ ⟨_, acc, c, rfl, hS, hacc⟩
  exact g₁.trans (Gr.frame (W := [it, z, TO]) g₂ (.heap fun b o hb e => by
    simp only [List.mem_cons, List.not_mem_nil, or_false, not_or] at hb
    exact hk b o hb.1 hb.2.1 hb.2.2 e) fun b hb => by
    simp only [List.mem_cons, List.not_mem_nil, or_false] at hb
    rcases hb with rfl | rfl | rfl
    · exact n1
    · exact n2
    · exact n3)
end

theorem bind49 (r d : Value) : bindArgs (fn 49) ⟨[r, d], []⟩ = pure [(Str.ofString "s", r), (Str.ofString "n", d)] := by rfl
theorem fn49 {P h} (X : Wd P h) : h.get? 49 = some { cls := .type "function", data := .func (fn 49) } := X.K 49 _ rfl
theorem code49 {P h} (X : Wd P h) : h.CodeRec (fn 49).code (fn 49).qualname := ⟨_, _, _, _, rfl, X.K 48 _ rfl, rfl, rfl⟩

section
variable {prog : Program} {w : World} {A : Around} {s₀ : Shared} {P : Params} {a : Addr} {bl : List Int} {n m : Nat} {t : Tok}

def GroupOut (bl : List Int) (n m : Nat) (v : Value) (h : Heap) : Prop := ∃ S acc c, v = .ref S ∧ IsLst h S acc c ∧ All2 (TupI h) acc.toList ((List.range m).map (cut bl n))

theorem px_group (X : Wd P s₀.heap) (hh : A.handled = none) (hA : A.depth < 900) (hn : n = 2 ∨ n = 4 ∨ n = 8) (hb : IsBA s₀.heap a (byteArr bl)) (hr : ∀ x ∈ bl, 0 ≤ x ∧ x < 256) (hlen : bl.length = m * n) (hm : 0 < m) (hm1 : m ≤ 1000) :
    Px prog w A (call (.ref 49) [.ref a, .int n t]) s₀ (GroupOut bl n m) := by
  refine px_def (fn49 X) rfl X.lim (code49 X) (by have : recursionLimit = 1000 := rfl; omega) (body := bodyOf (fn 49)) rfl (bind49 _ _) (by decide) (by simp; exact ⟨rfl, rfl⟩) fun s s₁ L g g₁ hL hns => ?_
  have X₁ : Wd P s₁.heap := X.keeps (g.trans g₁).k
  have hb₁ := (g.trans g₁).k _ _ hb
  refine sx_cons (sx_return (px_group_expr (s₀ := s₁) (a := a) (bl := bl) (n := n) (m := m) hh (px_bi X₁) (px_bi X₁) hn (fun s' g' => ?_) ((px_local hns rfl).mono fun v s' _ e => ⟨t, e⟩) hb₁ hr hlen hm hm1) fun v s₂ g₂ p₂ => ⟨g₂.any, p₂⟩)
  refine (px_list1 (P := fun v h => ∃ it, v = .ref it ∧ IsBAIter h it a 0 ∧ s'.heap.get? it = none) (px_call1 (px_bi (X₁.keeps g'.k)) (px_local (hns.keeps g'.k) rfl) fun x s₂ g₂ p₂ => ?_) (fun v h h' hk ⟨it, e, q, q0⟩ => ⟨it, e, hk _ _ q, q0⟩)).mono fun v h _ ⟨l, x, e1, e2, it, e3, e4, e5⟩ => ⟨l, it, e1, e3 ▸ e2, e4, e5⟩
  subst p₂
  intro s₃ Q E g₃ k
  exact call_iter_ba ((g'.trans (g₂.trans g₃)).k _ _ hb₁) (k _ _ (.heap0 fun b o e => Heap.get?_push_of_some _ e) ⟨_, rfl, Heap.get?_push_size _ rfl, noneBack (g₂.trans g₃) new_none⟩)
end
end Mine
end

section
open PySem PySem.W PyProof.Rows
set_option maxRecDepth 100000
set_option linter.unusedVariables false
namespace Mine
namespace F
theorem slot_ba_len : Slot "bytearray" "__len__" "bytearray.__len__" :=
  .of (owner := "bytearray") (n := "__len__") (by rw [typeLookup_type, builtinLookup_eq_fast]; kernel_rfl) (by decide +kernel) (by decide +kernel) (by decide +kernel) (by first | exact .inl (by decide +kernel) | exact .inr (by decide +kernel)) (by rw [isSubtype_type]; kernel_rfl)
theorem entry_ba_len : entryFor table "bytearray.__len__" = some Builtin.«bytearray.__len__» := by
  first | exact entryFor_of_fast (by kernel_rfl) | exact entryFor_of_tree (by kernel_rfl)
theorem args_ba_len (a : Value) : argsOk "bytearray.__len__" ⟨[a], []⟩ := by rfl
end F

def IsF (x : UInt64) (v : Value) (_ : Heap) : Prop := ∃ t, v = .float x t

/-! what the floats of the walk are -/
def spbF (d : Nat) : UInt64 := Float64.ofFrac false 8 d
def spbOk (d : Nat) : Bool := !Float64.isInf (spbF d) && (match Float64.decode (spbF d) with | .fin sg m e => Float64.truncOf sg m e == ((8 / d : Nat) : Int) | _ => false)
theorem spb_ok : (spbOk 1 && spbOk 2 && spbOk 4) = true := by decide +kernel

def quoF (n k : Nat) : UInt64 := Float64.div (Float64.ofInt n) (Float64.ofInt k)
def exF (n k : Nat) : UInt64 := Float64.sub (Float64.ofInt (((n + k - 1) / k : Nat) * k : Int)) (Float64.ofInt n)
def exOk (n k : Nat) : Bool := !Float64.isInf (Float64.ofInt n) && !Float64.isInf (Float64.ofInt k) && !Float64.isZero (Float64.ofInt k)
  && Float64.isFinite (quoF n k) && !Float64.isNaN (quoF n k) && !Float64.isInf (quoF n k) && (match Float64.decode (quoF n k) with | .fin sg m e => Float64.ceilOf sg m e == (((n + k - 1) / k : Nat) : Int) | _ => false)
  && !Float64.isInf (Float64.ofInt (((n + k - 1) / k : Nat) * k : Int))
  && (match Float64.decode (exF n k) with | .fin sg m e => Float64.truncOf sg m e == (((n + k - 1) / k * k - n : Nat) : Int) | _ => false)
theorem ex_ok : ((List.range 37).all fun n => exOk n 2 && exOk n 4 && exOk n 8) = true := by decide +kernel
theorem ex_at {n k : Nat} (hn : n < 37) (hk : k = 2 ∨ k = 4 ∨ k = 8) : exOk n k = true := by
  have := List.all_eq_true.mp ex_ok n (by simpa using hn)
  simp only [Bool.and_eq_true] at this
  rcases hk with rfl | rfl | rfl
  · exact this.1.1
  · exact this.1.2
  · exact this.2

section
variable {prog : Program} {w : World} {A : Around} {E : Value → Shared → Prop} {s : Shared}
theorem call_len_ba {a : Addr} {b : Array UInt8} {Q : Value → Shared → Prop} (hb : IsBA s.heap a b) (hsz : b.size ≤ 1000) (h : ∀ t tk, Q (.int b.size t) { s with toks := tk }) :
    wpAny (model prog w) A (call (.builtin "len") [.ref a]) Q E s := by
  refine Calls.call_function_entry PySem.kind_len PySem.plain_len PySem.entry_len (PySem.args_len1 _) ?_
  unfold Builtin.«len»
  refine wpAny_bind (m := oneArg "len" _) (wpAny_pure ?_)
  refine wpAny_bind (m := callSpecial? (.ref a) (Str.ofString "__len__")) (wpAny_callSpecial?_slot (name := Str.ofString "__len__") (ba_typeIs hb) F.slot_ba_len
    (wpAny_call_entry F.slot_ba_len (ba_typeIs hb) F.entry_ba_len ?_ (F.args_ba_len _)))
  show wpAny _ _ (Builtin.Bytes.payload (.ref a) >>= fun p => retInt p.size) _ _ s
  refine wpAny_bind (ba_payload hb (wpAny_bind (wpAny_mkInt (wpAny_pure ⟨_, rfl, ?_⟩))))
  refine wpAny_bind (wpAny_holding (wpAny_pure ?_))
  refine wpAny_bind (wpAny_letGo ?_)
  show wpAny _ _ (if ((b.size : Nat) : Int) < 0 then _ else _) _ _ _
  rw [if_neg (by omega)]
  show wpAny _ _ (if ((b.size : Nat) : Int) ≥ 2 ^ 63 then _ else _) _ _ _
  rw [if_neg (by omega)]
  exact wpAny_bind (wpAny_mkInt (wpAny_pure ⟨_, rfl, h _ _⟩))
end

section
variable {prog : Program} {w : World} {A : Around} {s₀ : Shared} {env : Env} {R : Value → Heap → Prop}

/-- the number of digits in an octet -/
theorem px_spb {inn : Str} {ip pos pb : Pos} {e8 ed : Expr} {d : Nat} (hd : d = 1 ∨ d = 2 ∨ d = 4) (hI : Px prog w A (eval (.Name inn ip) env) s₀ (IsV (.type "int")))
    (h8 : Px prog w A (eval e8 env) s₀ (IsI 8)) (he : Px prog w A (eval ed env) s₀ (IsI d)) (hs : starEach [.BinOp e8 .Div ed pb] env = [(false, eval (.BinOp e8 .Div ed pb) env)] := by rfl) :
    Px prog w A (eval (.Call (.Name inn ip) [.BinOp e8 .Div ed pb] [] pos) env) s₀ (IsI ((8 / d : Nat) : Int)) := by
  have ok : spbOk d = true := by
    have := spb_ok
    simp only [Bool.and_eq_true] at this
    rcases hd with rfl | rfl | rfl
    · exact this.1.1
    · exact this.1.2
    · exact this.2
  unfold spbOk at ok
  rw [Bool.and_eq_true] at ok
  obtain ⟨o1, o2⟩ := ok
  have e : (decide ((8 : Int) < 0) != decide ((d : Int) < 0)) = false := by
    have h1 : ¬ (d : Int) < 0 := by omega
    rw [decide_eq_false h1]; rfl
  have hx : Float64.ofFrac (decide ((8 : Int) < 0) != decide ((d : Int) < 0)) (Int.natAbs 8) ((d : Int).natAbs) = spbF d := by
    rw [e, Int.natAbs_natCast]; rfl
  have hdiv : Px prog w A (eval (.BinOp e8 .Div ed pb) env) s₀ (IsF (spbF d)) := px_iop h8 he fun t u s g => fun s' Q E g' k => by
    refine AutoIntOps.truediv_2 (by simp; omega) (by rw [hx]; simpa using o1) ?_
    rw [hx]
    exact k _ _ .tok ⟨_, rfl⟩
  refine px_call1 hI hdiv (fun a s g p => fun s' Q E g' k => ?_)
  obtain ⟨t, rfl⟩ := p
  split at o2
  · rename_i sg m e hdec
    refine call_int_float hdec ?_
    rw [eq_of_beq o2]
    exact k _ _ .tok ⟨_, rfl⟩
  · cases o2

/-- the length as a float -/
theorem px_flen {fn' ln : Str} {fp lp pos lpos : Pos} {ea : Expr} {a : Addr} {b : Array UInt8} {k : Nat} (hk : k = 2 ∨ k = 4 ∨ k = 8) (hF : Px prog w A (eval (.Name fn' fp) env) s₀ (IsV (.type "float"))) (hL : Px prog w A (eval (.Name ln lp) env) s₀ (IsV (.builtin "len")))
    (ha : Px prog w A (eval ea env) s₀ (IsV (.ref a))) (hb : IsBA s₀.heap a b) (hsz : b.size < 37) (hs : starEach [ea] env = [(false, eval ea env)] := by rfl)
    (hs2 : starEach [.Call (.Name ln lp) [ea] [] lpos] env = [(false, eval (.Call (.Name ln lp) [ea] [] lpos) env)] := by rfl) :
    Px prog w A (eval (.Call (.Name fn' fp) [.Call (.Name ln lp) [ea] [] lpos] [] pos) env) s₀ (IsF (Float64.ofInt b.size)) := by
  have ok := ex_at hsz hk
  refine px_call1 hF (px_call1 (R := IsI b.size) hL ha (fun v s g e => fun s' Q E g' k => ?_) (hs := hs)) (fun v s g p => fun s' Q E g' k => ?_) (hs := hs2)
  · subst e
    exact call_len_ba ((g.trans g').k _ _ hb) (by omega) fun t tk => k _ _ .tok ⟨t, rfl⟩
  · obtain ⟨t, rfl⟩ := p
    refine call_float_int ?_ (k _ _ .tok ⟨_, rfl⟩)
    unfold exOk at ok
    simp only [Bool.and_eq_true, Bool.not_eq_true'] at ok
    simp [ok.1.1.1.1.1.1.1.1]

/-- how many are lacking -/
theorem px_extra {cn : Str} {cp pos pq pm ps : Pos} {en es es2 en2 : Expr} {n k : Nat} (hh : A.handled = none) (hk : k = 2 ∨ k = 4 ∨ k = 8) (hn : n < 37) (hC : Px prog w A (eval (.Name cn cp) env) s₀ (IsV (.builtin "math.ceil")))
    (h1 : Px prog w A (eval en env) s₀ (IsF (Float64.ofInt n))) (h2 : Px prog w A (eval es env) s₀ (IsI k)) (h3 : Px prog w A (eval es2 env) s₀ (IsI k)) (h4 : Px prog w A (eval en2 env) s₀ (IsF (Float64.ofInt n)))
    (hs : starEach [.BinOp en .Div es pq] env = [(false, eval (.BinOp en .Div es pq) env)] := by rfl) :
    Px prog w A (eval (.BinOp (.BinOp (.Call (.Name cn cp) [.BinOp en .Div es pq] [] pos) .Mult es2 pm) .Sub en2 ps) env) s₀ (IsF (exF n k)) := by
  have ok := ex_at hn hk
  unfold exOk at ok
  simp only [Bool.and_eq_true, Bool.not_eq_true'] at ok
  obtain ⟨⟨⟨⟨⟨⟨⟨⟨o1, o2⟩, o3⟩, o4⟩, o5⟩, o6⟩, o7⟩, o8⟩, o9⟩ := ok
  have hq : Px prog w A (eval (.BinOp en .Div es pq) env) s₀ (IsF (quoF n k)) := px_BinOp h1 (P₂ := fun x y h => IsF (Float64.ofInt n) x h ∧ IsI k y h) (fun v s g p => (h2.from g).mono fun _ _ _ q => ⟨p, q⟩) fun x y s g p => fun s' Q E g' k' => by
    obtain ⟨⟨t, rfl⟩, u, rfl⟩ := p
    exact AutoFloatOps.truediv_fi_2 (by simp [o2]) (by simp [o3]) (k' _ _ .tok ⟨_, rfl⟩)
  have hc : Px prog w A (eval (.Call (.Name cn cp) [.BinOp en .Div es pq] [] pos) env) s₀ (IsI (((n + k - 1) / k : Nat) : Int)) := by
    refine px_call1 hC hq (fun v s g p => fun s' Q E g' k' => ?_)
    obtain ⟨t, rfl⟩ := p
    refine Flt.call_ceil_float hh (fun c => by rw [o5] at c; cases c) (fun c => by rw [o6] at c; cases c) fun _ => ?_
    split at o7
    · rename_i sg m e hdec
      rw [Flt.toInt_fin hdec, eq_of_beq o7]
      exact k' _ _ .tok ⟨_, rfl⟩
    · cases o7
  refine px_BinOp (px_mul hc h3 (mulOk_right (by omega))) (P₂ := fun x y h => IsI ((((n + k - 1) / k : Nat) : Int) * k) x h ∧ IsF (Float64.ofInt n) y h) (fun v s g p => (h4.from g).mono fun _ _ _ q => ⟨p, q⟩) fun x y s g p => fun s' Q E g' k' => ?_
  obtain ⟨⟨t, rfl⟩, u, rfl⟩ := p
  exact AutoFloatOps.sub_if_1 (by rw [o8]; exact Bool.false_ne_true) (k' _ _ .tok ⟨_, rfl⟩)

/-- the float as an int -/
theorem px_intex {inn : Str} {ip pos : Pos} {e : Expr} {n k : Nat} (hk : k = 2 ∨ k = 4 ∨ k = 8) (hn : n < 37) (hI : Px prog w A (eval (.Name inn ip) env) s₀ (IsV (.type "int"))) (he : Px prog w A (eval e env) s₀ (IsF (exF n k)))
    (hs : starEach [e] env = [(false, eval e env)] := by rfl) :
    Px prog w A (eval (.Call (.Name inn ip) [e] [] pos) env) s₀ (IsI (((n + k - 1) / k * k - n : Nat) : Int)) := by
  have ok := ex_at hn hk
  unfold exOk at ok
  simp only [Bool.and_eq_true, Bool.not_eq_true'] at ok
  obtain ⟨⟨⟨⟨⟨⟨⟨⟨o1, o2⟩, o3⟩, o4⟩, o5⟩, o6⟩, o7⟩, o8⟩, o9⟩ := ok
  refine px_call1 hI he (fun v s g p => fun s' Q E g' k' => ?_) (hs := hs)
  obtain ⟨t, rfl⟩ := p
  split at o9
  · rename_i sg m e hdec
    refine call_int_float hdec ?_
    rw [eq_of_beq o9]
    exact k' _ _ .tok ⟨_, rfl⟩
  · cases o9
end
end Mine
end

section
open PySem PySem.W PyProof.Rows
set_option maxRecDepth 100000
set_option linter.unusedVariables false
namespace Mine
open PySem.Sem (wp)

/-- Seg, in contexts without a holder of a bytearray -/
def SegF (M : Model) (A : Around) (R : GenEnd) (Y : Protocol) : Nat → Shared → Code → Sem Fin → List Frame → Shared → Prop
  | 0 => fun s₀ c t fs s => ∀ Γ p, Γ.code = c → Γ.Woken A → FreeB Γ.below → ∃ e s', Runs M Γ p t fs s e s' ∧ SegEnd R Y 0 (fun _ _ _ _ => False) s₀ e s'
  | n + 1 => fun s₀ c t fs s => ∀ Γ p, Γ.code = c → Γ.Woken A → FreeB Γ.below → ∃ e s', Runs M Γ p t fs s e s' ∧
      SegEnd R Y (n + 1) (fun c' t' fs' s'' => SegF M A R Y n s'' c' t' fs' s'') s₀ e s'
def SegF.next (M : Model) (A : Around) (R : GenEnd) (Y : Protocol) : Nat → Code → Sem Fin → List Frame → Shared → Prop
  | 0 => fun _ _ _ _ => False
  | n + 1 => fun c t fs s'' => SegF M A R Y n s'' c t fs s''
theorem segF_iff {M : Model} {A : Around} {R : GenEnd} {Y : Protocol} {n : Nat} {s₀ c t fs s} :
    SegF M A R Y n s₀ c t fs s ↔ ∀ Γ p, Γ.code = c → Γ.Woken A → FreeB Γ.below → ∃ e s', Runs M Γ p t fs s e s' ∧ SegEnd R Y n (SegF.next M A R Y n) s₀ e s' := by
  cases n <;> rfl

section
variable {M : Model} {A : Around} {R : GenEnd} {Y : Protocol} {n : Nat} {s₀ : Shared} {c : Code} {fs : List Frame} {s : Shared}

theorem segF_wrap {α : Type} {m : Sem α} {K : α → Sem Fin} {H : Value → Sem Fin} {gd lv} (hc : okc c = true) (hfs : FreeB (fs.map Frame.where_))
    (h : wpF M (A.over c fs) m (fun a s' => SegF M A R Y n s₀ c (K a) fs s') (fun x s' => SegF M A R Y n s₀ c (H x) fs s') s) :
    SegF M A R Y n s₀ c (m.wrap K H gd lv) fs s := by
  rw [segF_iff]
  rintro Γ p rfl hΓ hf
  exact runs_wrap_of_wp K H gd lv m (h (Γ.over fs) p (hΓ.over fs) ⟨hc, freeB_append hfs hf⟩) (fun a p' s' h' => segF_iff.mp h' Γ p' rfl hΓ hf)
    (fun x p' s' h' => segF_iff.mp h' Γ p' rfl hΓ hf)
theorem segF_bind {α : Type} {m : Sem α} {K : α → Sem Fin} (hc : okc c = true) (hfs : FreeB (fs.map Frame.where_))
    (h : wpF M (A.over c fs) m (fun a s' => SegF M A R Y n s₀ c (K a) fs s') (fun x s' => SegF M A R Y n s₀ c (.raise x) fs s') s) :
    SegF M A R Y n s₀ c (m >>= K) fs s := by
  rw [Sem.bind_eq_wrap']; exact segF_wrap hc hfs h
theorem segF_at {p' : Pos} {k : Unit → Sem Fin} (hc : okc c = true) (hfs : FreeB (fs.map Frame.where_)) (h : SegF M A R Y n s₀ c (k ()) fs s) : SegF M A R Y n s₀ c (.at p' k) fs s :=
  segF_wrap (m := standAt p') (K := k) (H := .raise) (gd := id) (lv := id) hc hfs (wpF_of (wpAny_standAt h))
theorem segF_point {l : List Value} {k : Unit → Sem Fin} (hc : okc c = true) (hfs : FreeB (fs.map Frame.where_)) (h : SegF M A R Y n s₀ c (k ()) fs s) : SegF M A R Y n s₀ c (.point l k) fs s :=
  segF_wrap (m := point) (K := k) (H := .raise) (gd := id) (lv := fun _ => l) hc hfs (wpF_of (wpAny_point h))
theorem segF_call {c' : Code} {h g l} {k : Result → Sem Fin} (hc : ∀ p, SegF M A R Y n s₀ c' (M.den c') (.ret k h g l c p [] :: fs) s) :
    SegF M A R Y n s₀ c (.call c' h g l k) fs s := by
  rw [segF_iff]
  rintro Γ p rfl hΓ hf
  obtain ⟨e, s', hr, he⟩ := segF_iff.mp (hc p) (Γ.goto c') p rfl (hΓ.goto c') hf
  exact ⟨e, s', runs_call_seg hr, he⟩
theorem segF_leaf {k h g l c₁ p₁ kp} (r : Result) (hk : SegF M A R Y n s₀ c₁ (k r) fs s) : SegF M A R Y n s₀ c (leafOf r) (.ret k h g l c₁ p₁ kp :: fs) s := by
  rw [segF_iff]
  rintro Γ p rfl hΓ hf
  obtain ⟨e, s', hr, he⟩ := segF_iff.mp hk (Γ.goto c₁) p₁ rfl (hΓ.goto c₁) hf
  exact ⟨e, s', Runs.pop r hr, he⟩
theorem segF_again {c' : Code} (hq : c'.quiet = true) (hc : SegF M A R Y n s₀ c' (M.den c') fs s) : SegF M A R Y n s₀ c (.pure (.again c')) fs s := by
  rw [segF_iff]
  rintro Γ p rfl hΓ hf
  obtain ⟨e, s', hr, he⟩ := segF_iff.mp hc (Γ.goto c') p rfl (hΓ.goto c') hf
  exact ⟨e, s', Runs.head (c₁ := c') (fun _ _ x => .again hq x) hr, he⟩
theorem segF_end (r : Result) (h : R n s₀ r s) : SegF M A R Y n s₀ c (leafOf r) [] s := by
  rw [segF_iff]
  rintro Γ p rfl _ _
  exact ⟨.ret r, s, Runs.leaf r, h⟩
theorem segF_yield {v g l} {k : Resume → Sem Fin} (hfs : splitAtGen fs = none) (hg : g = false) (hfg : fs.any Frame.guarded = false)
    (h : Y n s₀ v s fun r s'' => SegF M A R Y n s'' c (k r) fs s'') : SegF M A R Y (n + 1) s₀ c (.yield v g l k) fs s := by
  rintro Γ p rfl _ _
  exact ⟨_, s, Runs.yield' fs hfs, And.intro (by simp [End.quiet, hg, hfg]) h⟩
end

def GoesF (M : Model) (A : Around) (R : GenEnd) (Y : Protocol) (n : Nat) (gs : GenState) (r : Resume) (s : Shared) : Prop :=
  match gs with
  | .fresh c => r = .send .none ∧ SegF M A R Y n s c (M.den c) [] s
  | .suspended k _ c _ fs _ => SegF M A R Y n s c (k r) fs s
  | _ => False

theorem wpF_resume {M : Model} {A : Around} {R : GenEnd} {Y : Protocol} {n : Nat} {E : Value → Shared → Prop} {s : Shared} {g : Nat} {gs : GenState}
    {r : Resume} {l : List Value} {α : Type} {k : GenResult → Sem α} {Q : α → Shared → Prop} (hg : s.gens[g]? = some gs)
    (hgo : GoesF M A R Y n gs r (s.setGen g .running))
    (hR : ∀ x s₁, R n (s.setGen g .running) x s₁ → wpF M A (k (End.ret x).result) Q E (s₁.setGen g .finished))
    (hY : ∀ v s₁ gs', gs'.bare = true → Y (n - 1) (s.setGen g .running) v s₁ (fun r' s'' => match n with | 0 => False | m + 1 => GoesF M A R Y m gs' r' s'') →
      wpF M A (k (.yielded v)) Q E (s₁.setGen g gs')) :
    wpF M A (.resume g r l k) Q E s := by
  intro Γ p hΓ hfr
  rw [Sem.wp_resume]
  have hB : ∀ c, (Γ.wake c p).Woken A := fun c => hΓ.wake c p
  have hFB : ∀ c, FreeB (Γ.wake c p).below := fun c x hx => by
    rcases List.mem_cons.mp (show x ∈ (Γ.code, p) :: Γ.below from hx) with rfl | hx
    · exact hfr.1
    · exact hfr.2 x hx
  have fin : ∀ e₁ s₁, SegEnd R Y n (SegF.next M A R Y n) (s.setGen g .running) e₁ s₁ →
      wp M Γ (k e₁.result) (fun a _ s' => Q a s') (fun e _ s' => E e s') p (s₁.setGen g e₁.genState) := by
    intro e₁ s₁ he
    cases e₁ with
    | ret x => exact hR x s₁ he Γ p hΓ hfr
    | susp v g₀ l₀ k₀ c₀ p₀ fs₀ =>
      refine hY v s₁ _ (End.bare_of_quiet he.1) ?_ Γ p hΓ hfr
      cases n with
      | zero => exact he.2
      | succ m => exact he.2
  have hqt : ∀ e₁ s₁, SegEnd R Y n (SegF.next M A R Y n) (s.setGen g .running) e₁ s₁ → e₁.quiet = true := by
    intro e₁ s₁ he
    cases e₁ with
    | ret x => rfl
    | susp v g₀ l₀ k₀ c₀ p₀ fs₀ => exact he.1
  cases gs with
  | fresh c =>
    obtain ⟨rfl, hs⟩ := hgo
    obtain ⟨e₁, s₁, hr, he⟩ := segF_iff.mp hs (Γ.wake c p) p rfl (hB c) (hFB c)
    exact ⟨_, _, by unfold Wakes; rw [hg]; exact ⟨e₁, s₁, hr, hqt e₁ s₁ he, rfl, rfl⟩, fin e₁ s₁ he⟩
  | suspended k₀ l₀ c₀ p₀ fs₀ cl =>
    obtain ⟨e₁, s₁, hr, he⟩ := segF_iff.mp hgo (Γ.wake c₀ p) p₀ rfl (hB c₀) (hFB c₀)
    exact ⟨_, _, by unfold Wakes; rw [hg]; exact ⟨e₁, s₁, hr, hqt e₁ s₁ he, rfl, rfl⟩, fin e₁ s₁ he⟩
  | running => exact hgo.elim
  | finished => exact hgo.elim

section
variable {prog : Program} {w : World} {A : Around} {E : Value → Shared → Prop} {s : Shared}

theorem pyNext_genF {a : Addr} {g n : Nat} {gs : GenState} {P : Nat → Shared → Shared → Prop} {Y : Protocol} {Q : Option Value → Shared → Prop} (hh : A.handled = none)
    (hl : s.heap.NoLimit) (hroom : A.depth < recursionLimit)
    (hg : s.heap.IsGen a g) (hgs : s.gens[g]? = some gs)
    (hgo : GoesF (model prog w) A.in1 (fun n s₀ r s₁ => r = .ok (.ret .none) ∧ P n s₀ s₁) Y n gs (.send .none) (s.setGen g .running))
    (hY : ∀ v s₁ gs', gs'.bare = true → Y (n - 1) (s.setGen g .running) v s₁ (fun r' s'' => match n with
        | 0 => False
        | m + 1 => GoesF (model prog w) A.in1 (fun n s₀ r s₁ => r = .ok (.ret .none) ∧ P n s₀ s₁) Y m gs' r' s'') → Q (some v) (s₁.setGen g gs'))
    (hP : ∀ s₁, P n (s.setGen g .running) s₁ → ∀ h', (∀ b o, s₁.heap.get? b = some o → h'.get? b = some o) → Q none { s₁.setGen g .finished with heap := h' }) :
    wpF (model prog w) A (pyNext (.ref a)) Q E s := by
  unfold pyNext
  refine wpF_bind (wpF_attempt (wpF_callSpecial_slot (name := Str.ofString "__next__") hg.typeIs slot_gen_next
    (wpF_call_entry (by decide +kernel) slot_gen_next hg.typeIs entry_gen_next ?_ (args_gen_next _))))
  show wpF _ A.in1 (Builtin.Generator.genWake (.ref a) (.send .none)) _ _ s
  unfold Builtin.Generator.genWake
  refine wpF_bindA (wpAny_holding (wpAny_genNumber hg ?_))
  refine wpF_bindA (wpAny_genState hgs ?_)
  cases gs with
  | running => exact hgo.elim
  | finished => exact hgo.elim
  | _ =>
    refine wpF_bindA (wpAny_roomToWake hl hroom ?_)
    show wpF _ A.in1 (.resume g (.send .none) [] _) _ _ s
    refine wpF_resume hgs hgo (fun x s₁ hx => ?_) (fun v s₁ gs' hb hv => ?_)
    · obtain ⟨rfl, hp⟩ := hx
      refine wpF_of ?_
      show wpAny _ A.in1 (newExc (.type "StopIteration") [] >>= _) _ _ _
      refine wpAny_bind ?_
      simp only [newExc, newTuple]
      refine wpAny_bind (wpAny_newObj_type ?_ (by size_fits))
      refine wpAny_bind (m := firstArgMember _ _) (wpAny_of_eq (a := Value.none) (by first | rfl | (simp only [firstArgMember]; rfl)) ?_)
      refine wpAny_newObj_type ?_ (by size_fits)
      simp only [raiseNew]
      refine wpAny_bind (wpAny_bind (wpAny_handled ?_))
      first | rw [show A.in1.handled = none from hh] | rw [hh]
      refine wpAny_throw ?_
      refine wpF_bindA (wpAny_isInstance (T := "StopIteration") (b := true) ⟨_, Heap.get?_push_size _ rfl, rfl⟩ isSubtype_stop ?_)
      exact wpF_pure (hP s₁ hp _ fun b o hb => Heap.get?_push_of_some _ (Heap.get?_push_of_some _ hb))
    · exact wpF_pure (wpF_pure (hY v s₁ gs' hb hv))
end
end Mine
end

section
open PySem PySem.W PyProof.Rows
set_option maxRecDepth 100000
set_option linter.unusedVariables false
namespace Mine
open PySem.Sem (wp)

section
variable {M : Model} {A : Around} {R : GenEnd} {Y : Protocol} {n : Nat} {s₀ : Shared} {c : Code} {fs : List Frame} {s : Shared} {env : Env}
  {K : Flow → Sem Fin} {H : Value → Sem Fin} {gd : Bool → Bool} {lv : List Value → List Value}

abbrev NoE : Value → Shared → Prop := fun _ _ => False

theorem segF_bind_wrap {α β : Type} {m : Sem α} {K : α → Sem β} {K' : β → Sem Fin} {H' : Value → Sem Fin} {gd lv} (hc : okc c = true) (hfs : FreeB (fs.map Frame.where_))
    (h : wpF M (A.over c fs) m (fun a s' => SegF M A R Y n s₀ c ((K a).wrap K' H' gd lv) fs s') NoE s) : SegF M A R Y n s₀ c ((m >>= K).wrap K' H' gd lv) fs s := by
  rw [Sem.bind_eq_wrap', Sem.wrap_wrap]
  exact segF_wrap hc hfs (wpF_mono h (fun _ _ q => q) fun _ _ q => q.elim)

theorem segF_stmt {st : Stmt} {rest : List Stmt} (hc : okc c = true) (hfs : FreeB (fs.map Frame.where_))
    (h : wpF M (A.over c fs) (exec st env) (fun f s' => f = .next ∧ SegF M A R Y n s₀ c ((execs rest env).wrap K H gd lv) fs s') NoE s) :
    SegF M A R Y n s₀ c ((execs (st :: rest) env).wrap K H gd lv) fs s := by
  rw [execs_cons_wrap]
  refine segF_wrap hc hfs (wpF_mono h (fun f s' q => ?_) fun _ _ q => q.elim)
  obtain ⟨rfl, q⟩ := q
  exact q
theorem segF_last {st : Stmt} (h : SegF M A R Y n s₀ c ((exec st env).wrap K H gd lv) fs s) :
    SegF M A R Y n s₀ c ((execs [st] env).wrap K H gd lv) fs s := by
  rw [execs_cons_wrap, Sem.wrap_congr (exec st env) gd lv (K' := K) (H' := H) (fun f => by cases f <;> rfl) (fun _ => rfl)]
  exact h

theorem segF_Expr_Yield {e : Expr} {ypos pos : Pos} (hc : okc c = true) (hw : FreeB (fs.map Frame.where_)) (hfs : splitAtGen fs = none) (hgd : gd false = false) (hfg : fs.any Frame.guarded = false)
    (h : wpF M (A.over c fs) (eval e env) (fun v s' => ∀ kap : Resume → Shared → Prop,
        (∀ x s'', (match x with | .ref _ => False | _ => SegF M A R Y n s'' c (K .next) fs s'') → kap (.send x) s'') → Y n s₀ v s' kap) NoE s) (hco : env.scope.isCoroutine = false := by rfl) (hi : interactive env = false := by rfl) :
    SegF M A R Y (n + 1) s₀ c ((exec (.Expr (.Yield (some e) ypos) pos) env).wrap K H gd lv) fs s := by
  rw [exec_Expr env _ pos hi rfl]
  show SegF M A R Y (n + 1) s₀ c (.at pos fun _ => ((eval e env >>= fun v => (standAt ypos >>= fun _ => yieldOut env v)) >>= fun x =>
    dropValue (.Yield (some e) ypos) pos x).wrap K H gd lv) fs s
  have hy : ∀ v, yieldOut env v = yieldValue v := fun v => by simp only [yieldOut, hco, Bool.false_eq_true, if_false]
  simp only [hy]
  refine segF_at hc hw ?_
  rw [Sem.bind_eq_wrap', Sem.bind_eq_wrap', Sem.wrap_wrap, Sem.wrap_wrap]
  refine segF_wrap hc hw (wpF_mono h (fun v s' h' => ?_) fun _ _ x => x.elim)
  refine segF_at hc hw (segF_yield hfs hgd hfg ?_)
  refine h' _ fun x s'' hx => ?_
  cases x <;> first | exact hx | exact hx.elim

def ownK (env : Env) (K : Flow → Sem Fin) (H : Value → Sem Fin) (gd : Bool → Bool) (lv : List Value → List Value) : Result → Sem Fin := fun r =>
  ((match r with | .ok f => (.pure f : Sem Flow) | .error e => .raise e).onRaise fun (x : Value) => do
        if (← field x 1) == Value.none then unsupported "frame.own-activation:exception-without-traceback"
        setFlight x env.frame).wrap K H gd lv

theorem segF_For {target iter : Expr} {body orelse : List Stmt} {pos : Pos} (hc : okc c = true) (hw : FreeB (fs.map Frame.where_))
    (h : wpF M (A.over c fs) (eval iter env) (fun v s₁ => wpF M (A.over c fs) (pyIter v) (fun it s₂ => ∀ p,
      SegF M A R Y n s₀ (.forLoop target it body orelse env) (M.den (.forLoop target it body orelse env)) (.ret (ownK env K H gd lv) none (gd false) (lv []) c p [] :: fs) s₂) NoE s₁) NoE s)
    (hs : ∀ x, foldedSetIterable iter env x = pure x := by intro _; rfl) :
    SegF M A R Y n s₀ c ((exec (.For target iter body orelse pos) env).wrap K H gd lv) fs s := by
  show SegF M A R Y n s₀ c (.at pos fun _ => (eval iter env >>= fun v => foldedSetIterable iter env v >>= fun x => standAt iter.pos >>= fun _ => holding [x] (pyIter x) >>= fun it =>
    runOwn (.forLoop target it body orelse env) env).wrap K H gd lv) fs s
  refine segF_at hc hw (segF_bind_wrap hc hw (wpF_mono h (fun v s₁ h₁ => ?_) fun _ _ q => q))
  refine segF_bind_wrap hc hw (wpF_of_eq (hs v) ?_)
  refine segF_bind_wrap hc hw (wpF_of (wpAny_standAt ?_))
  refine segF_bind_wrap hc hw (wpF_holding (wpF_mono h₁ (fun it s₂ h₂ => ?_) fun _ _ q => q))
  exact segF_call h₂
end

section
variable {prog : Program} {w : World} {A : Around} {R : GenEnd} {Y : Protocol} {n : Nat} {s₀ : Shared} {fs : List Frame} {s : Shared} {env : Env}

theorem segF_forLoop {target : Expr} {it : Value} {body : List Stmt} (hw : FreeB (fs.map Frame.where_))
    (h : wpF (model prog w) (A.over (.forLoop target it body [] env) fs) (pyNext it) (fun o s' => match o with
      | none => SegF (model prog w) A R Y n s₀ (.block [] env) ((model prog w).den (.block [] env)) fs s'
      | some v => wpF (model prog w) (A.over (.forLoop target it body [] env) fs) (assign target env v) (fun _ s'' => ∀ H gd lv, gd false = false →
          SegF (model prog w) A R Y n s₀ (.forLoop target it body [] env) ((execs body env).wrap (fun f => match f with
            | .next | .cont => .pure (.again (.forLoop target it body [] env))
            | .brk => .pure (.done .next)
            | .ret v => .pure (.done (.ret v))) H gd lv) fs s'') NoE s') NoE s)
    (ht : ∀ it v, letOwnedTupleGo target it v = pure () := by intro _ _; rfl) :
    SegF (model prog w) A R Y n s₀ (.forLoop target it body [] env) ((model prog w).den (.forLoop target it body [] env)) fs s := by
  show SegF _ A R Y n s₀ _ ((forTurn target it body [] env).onRaise (fun x => do noteFrame x env; theTreesLotGoes x)) fs s
  rw [Sem.onRaise_eq_wrap]
  unfold forTurn
  refine segF_bind_wrap rfl hw (wpF_of (wpAny_standAt ?_))
  refine segF_bind_wrap rfl hw (wpF_onRaise (wpF_mono h (fun o s' h' => ?_) fun _ _ q => q.elim))
  cases o with
  | none => exact segF_again rfl h'
  | some v =>
    refine segF_bind_wrap rfl hw (wpF_of_eq (ht _ _) ?_)
    refine segF_bind_wrap rfl hw (wpF_mono h' (fun _ s'' h'' => ?_) fun _ _ q => q)
    have h3 := h'' (fun e => (do noteFrame e env; theTreesLotGoes e : Sem Unit).bind fun _ => .raise e) (fun g => id (id g)) (fun l => id (id l)) rfl
    rw [Sem.bind_eq_wrap', Sem.wrap_wrap]
    refine Eq.mpr (congrArg (fun t => SegF (model prog w) A R Y n s₀ (.forLoop target it body [] env) t fs s'') (Sem.wrap_congr (execs body env) _ _ (fun f => ?_) (fun e => rfl))) h3
    cases f <;> rfl

theorem segF_func {body : List Stmt} (hw : FreeB (fs.map Frame.where_))
    (h : ∀ H gd lv, gd false = false → SegF (model prog w) A R Y n s₀ (.func body env) ((execs body env).wrap (fun f => .pure (.done (.ret (match f with | .ret v => v | _ => .none)))) H gd lv) fs s) :
    SegF (model prog w) A R Y n s₀ (.func body env) ((model prog w).den (.func body env)) fs s := by
  show SegF _ A R Y n s₀ _ (.point [] fun _ => ((execs body env).onRaise (leaving env)) >>= _) fs s
  refine segF_point rfl hw ?_
  rw [Sem.onRaise_eq_wrap, Sem.bind_eq_wrap', Sem.wrap_wrap]
  rw [Sem.wrap_congr (execs body env) _ _ (K' := fun f => .pure (.done (.ret (match f with | .ret v => v | _ => .none))))
    (H' := fun e => (leaving env e).wrap (fun _ => .raise e) .raise id id) (fun f => by cases f <;> rfl)
    (fun e => by rw [Sem.bind_eq_wrap, Sem.wrap_wrap]; rfl)]
  exact h _ _ _ rfl

/-- the end of a loop that stands in a function: back to its body -/
theorem segF_block_end {K : Flow → Sem Fin} {H : Value → Sem Fin} {gd : Bool → Bool} {lv : List Value → List Value} {g : Bool} {l : List Value} {c : Code} {p : Pos}
    (h : SegF (model prog w) A R Y n s₀ c (K .next) fs s) :
    SegF (model prog w) A R Y n s₀ (.block [] env) ((model prog w).den (.block [] env)) (.ret (ownK env K H gd lv) none g l c p [] :: fs) s :=
  segF_leaf (k := ownK env K H gd lv) (.ok .next) h
theorem segF_func_end {body : List Stmt} (h : R n s₀ (.ok (.ret .none)) s) : SegF (model prog w) A R Y n s₀ (.func body env) (.pure (.done (.ret (match (Flow.next : Flow) with | .ret v => v | _ => .none)))) [] s :=
  segF_end (.ok (.ret .none)) h
end
end Mine
end

section
open PySem PySem.W PyProof.Rows
set_option maxRecDepth 1000000
set_option linter.unusedVariables false
namespace Mine

noncomputable def mbStmt : Stmt := (bodyOf (fn 56)).getD 3 (.Pass ⟨0, 0, 0, 0⟩)
noncomputable def mbA : Arguments := match mbStmt with | .FunctionDef _ a .. => a | _ => ⟨[], [], none, [], [], none, []⟩
noncomputable def mbB : List Stmt := match mbStmt with | .FunctionDef _ _ b .. => b | _ => []
noncomputable def mbS : Scope := match mbStmt with | .FunctionDef _ _ _ _ _ _ s .. => s | _ => (fn 56).scope
noncomputable def mbP : Pos := match mbStmt with | .FunctionDef _ _ _ _ _ _ _ _ _ p => p | _ => ⟨0, 0, 0, 0⟩
theorem mbStmt_eq : mbStmt = .FunctionDef "make_byte" mbA mbB [] none [] mbS none "make_byte" mbP := rfl
noncomputable def mbQ : Str := (fn 56).qualname ++ ".<locals>." ++ "make_byte"

noncomputable def loopStmt : Stmt := (bodyOf (fn 56)).getD 4 (.Pass ⟨0, 0, 0, 0⟩)
noncomputable def loopB : List Stmt := match loopStmt with | .For _ _ b .. => b | _ => []
noncomputable def yieldE : Expr := match loopB.getD 5 (.Pass ⟨0, 0, 0, 0⟩) with | .Expr (.Yield (some e) _) _ => e | _ => .Name "" ⟨0, 0, 0, 0⟩
noncomputable def geE : Expr := match yieldE with | .Call _ [e] _ _ => e | _ => .Name "" ⟨0, 0, 0, 0⟩
noncomputable def geP : Pos := match geE with | .GeneratorExp _ _ _ p => p | _ => ⟨0, 0, 0, 0⟩
noncomputable def geQ : Str := (fn 56).qualname ++ ".<locals>." ++ "<genexpr>"

theorem body56 : bodyOf (fn 56) = [(bodyOf (fn 56)).getD 0 (.Pass ⟨0, 0, 0, 0⟩), (bodyOf (fn 56)).getD 1 (.Pass ⟨0, 0, 0, 0⟩), (bodyOf (fn 56)).getD 2 (.Pass ⟨0, 0, 0, 0⟩), mbStmt, loopStmt] := rfl
theorem pos_ne : (geP.line == mbP.line) = false := rfl

theorem codeAmong_other {pos : Pos} {a b : Int} {c : Value} (l : List Value) (h : TriplesOk l) (hn : ((a == (pos.line : Int)) && (b == (pos.col : Int))) = false) : codeAmong pos (l ++ [rawInt a, rawInt b, c]) = codeAmong pos l := by
  fun_induction TriplesOk l with
  | case1 => simp only [List.nil_append, rawInt, codeAmong, hn, Bool.false_eq_true, if_false]
  | case2 a' t b' u x rest ih => simp only [List.cons_append, codeAmong]; rw [ih h]
  | case3 l h1 h2 => exact h.elim

/-- an entry of the table of inner code objects -/
def Ent (h : Heap) (ps : Array Value) (pos : Pos) (qn : Str) : Prop := codeAmong pos ps.toList = none ∨ ∃ c', codeAmong pos ps.toList = some (.ref c') ∧ c' ≠ 51 ∧ h.CodeRec (.ref c') qn

structure Wf (P : Params) (h : Heap) : Prop where
  w : Wd P h
  m : ∃ mg bm ob, BMod h mainGlobals mg bm ob
  tab : ∃ ps, h.IsCode 55 51 ps ∧ h.TableAt 55 51 ps ∧ Ent h ps mbP mbQ ∧ Ent h ps geP geQ

theorem CodeRec.but {h h' : Heap} {c : Value} {q : Str} {a : Addr} (x : h.CodeRec c q) (hne : c ≠ .ref a) (k : ∀ b o, b ≠ a → h.get? b = some o → h'.get? b = some o) : h'.CodeRec c q := by
  obtain ⟨c', oc, vs, tq, rfl, e, r⟩ := x
  exact ⟨c', oc, vs, tq, rfl, k c' oc (fun e' => hne (by rw [e'])) e, r⟩
theorem CodeRec.keeps {h h' : Heap} {c : Value} {q : Str} (x : h.CodeRec c q) (k : ∀ b o, h.get? b = some o → h'.get? b = some o) : h'.CodeRec c q := by
  obtain ⟨c', oc, vs, tq, rfl, e, r⟩ := x
  exact ⟨c', oc, vs, tq, rfl, k c' oc e, r⟩
theorem Ent.but {h h' : Heap} {ps : Array Value} {pos : Pos} {qn : Str} (x : Ent h ps pos qn) (k : ∀ b o, b ≠ 51 → h.get? b = some o → h'.get? b = some o) : Ent h' ps pos qn := by
  rcases x with x | ⟨c', x, hne, hr⟩
  · exact .inl x
  · exact .inr ⟨c', x, hne, CodeRec.but hr (fun e => hne (Value.ref.inj e)) k⟩

variable {P : Params}
theorem k51 : (hd.heap_39 P).lookup 51 = none := rfl
theorem Wd.but51 {h h' : Heap} (X : Wd P h) (k : ∀ b o, b ≠ 51 → h.get? b = some o → h'.get? b = some o) : Wd P h' where
  K := fun a o e => k a o (fun q => by subst q; rw [k51] at e; cases e) (X.K a o e)
  b := by
    obtain ⟨mb, n, e⟩ := X.b
    exact ⟨mb, n.extBut (fun b o hb e => k b o hb e) (by decide), e⟩
  lim := X.lim.extBut (fun b o hb e => k b o hb e) (by decide)

theorem Wf.keeps {h h' : Heap} (X : Wf P h) (k : ∀ b o, h.get? b = some o → h'.get? b = some o) : Wf P h' where
  w := X.w.keeps k
  m := let ⟨mg, bm, ob, M⟩ := X.m; ⟨mg, bm, ob, M.keeps k⟩
  tab := let ⟨ps, a, b, c, d⟩ := X.tab; ⟨ps, a.keeps k, b.keeps k, c.but fun b o _ e => k b o e, d.but fun b o _ e => k b o e⟩
/-- all kept but the table, and it as it was -/
theorem Wf.grow {h h' : Heap} {ps : Array Value} {pos : Pos} {c' : Addr} {qn : Str} (X : Wf P h) (hx : Heap.ExtBut 51 h h') (hc : h.IsCode 55 51 ps) (ht : h.TableAt 55 51 ps) (h1 : Ent h ps mbP mbQ) (h2 : Ent h ps geP geQ)
    (hc' : h'.IsCode 55 51 (ps ++ #[rawInt pos.line, rawInt pos.col, .ref c'])) (ht' : h'.TableAt 55 51 (ps ++ #[rawInt pos.line, rawInt pos.col, .ref c'])) (hr : h'.CodeRec (.ref c') qn) (hne : c' ≠ 51)
    (hp : (pos = mbP ∧ qn = mbQ ∧ codeAmong mbP ps.toList = none) ∨ (pos = geP ∧ qn = geQ ∧ codeAmong geP ps.toList = none)) : Wf P h' := by
  obtain ⟨mg, bm, ob, M⟩ := X.m
  have hT : TriplesOk ps.toList := by obtain ⟨_, _, _, _, _, _, _, _, _, _, _, _, _, _, _, _, _, _, _, t, _⟩ := hc; exact t
  have eT : ∀ x y z : Value, (ps ++ #[x, y, z]).toList = ps.toList ++ [x, y, z] := fun x y z => by simp
  refine ⟨X.w.but51 hx, ⟨mg, bm, ob, M.extBut ht hx⟩, _, hc', ht', ?_, ?_⟩
  · rcases hp with ⟨rfl, rfl, hn⟩ | ⟨rfl, rfl, hn⟩
    · exact .inr ⟨c', by rw [eT]; exact codeAmong_snoc _ hT hn, hne, hr⟩
    · have e := codeAmong_other (pos := mbP) (a := geP.line) (b := geP.col) (c := .ref c') ps.toList hT (by rfl)
      rcases h1.but hx with x | ⟨c₁, x, r⟩
      · exact .inl (by rw [eT, e]; exact x)
      · exact .inr ⟨c₁, by rw [eT, e]; exact x, r⟩
  · rcases hp with ⟨rfl, rfl, hn⟩ | ⟨rfl, rfl, hn⟩
    · have e := codeAmong_other (pos := geP) (a := mbP.line) (b := mbP.col) (c := .ref c') ps.toList hT (by rfl)
      rcases h2.but hx with x | ⟨c₁, x, r⟩
      · exact .inl (by rw [eT, e]; exact x)
      · exact .inr ⟨c₁, by rw [eT, e]; exact x, r⟩
    · exact .inr ⟨c', by rw [eT]; exact codeAmong_snoc _ hT hn, hne, hr⟩

section
variable {M : Model} {A : Around} {E : Value → Shared → Prop} {s : Shared}

theorem mb_code {env : Env} {firstLine : Nat} {name : Str} {p : Arguments} {scope : Scope} {body : FuncBody} {Q : Value → Shared → Prop} (hc : env.code = .ref 55) (X : Wf P s.heap)
    (hQ : ∀ c' h' tk, Heap.ExtBut 51 s.heap h' → Wf P h' → h'.CodeRec (.ref c') mbQ → c' ≠ 51 → Q (.ref c') { s with heap := h', toks := tk }) : wpAny M A (functionCode env mbP firstLine name mbQ p scope body) Q E s := by
  obtain ⟨ps, h1, h2, h3, h4⟩ := X.tab
  have h3' := h3
  rcases h3 with hn | ⟨c', hf, hne, hr⟩
  · refine wpAny_functionCodeX hc h1 h2 hn fun c' h' tk hx hge hlt hcd hr htb _ => ?_
    have hne : c' ≠ 51 := fun q => by have := h1.lt.2; rw [← q] at this; exact Nat.lt_irrefl _ (Nat.lt_of_lt_of_le this hge)
    exact hQ c' h' tk hx (X.grow hx h1 h2 h3' h4 hcd htb hr hne (.inl ⟨rfl, rfl, hn⟩)) hr hne
  · exact wpAny_functionCode_hit hc h1 hf (hQ c' s.heap s.toks (fun _ _ _ e => e) X hr hne)
theorem ge_code {env : Env} {scope : Scope} {Q : Value → Shared → Prop} (hc : env.code = .ref 55) (X : Wf P s.heap)
    (hQ : ∀ c' h' tk, Heap.ExtBut 51 s.heap h' → Wf P h' → h'.CodeRec (.ref c') geQ → c' ≠ 51 → s.heap.objs.size ≤ h'.objs.size → Q (.ref c') { s with heap := h', toks := tk }) : wpAny M A (genexprCode env geP geQ scope) Q E s := by
  obtain ⟨ps, h1, h2, h3, h4⟩ := X.tab
  have h4' := h4
  rcases h4 with hn | ⟨c', hf, hne, hr⟩
  · refine wpAny_genexprCodeX hc h1 h2 hn fun c' h' tk hx hge hlt hcd hr htb _ => ?_
    have hne : c' ≠ 51 := fun q => by have := h1.lt.2; rw [← q] at this; exact Nat.lt_irrefl _ (Nat.lt_of_lt_of_le this hge)
    exact hQ c' h' tk hx (X.grow hx h1 h2 h3 h4' hcd htb hr hne (.inr ⟨rfl, rfl, hn⟩)) hr hne (Nat.le_of_lt (Nat.lt_of_le_of_lt hge hlt))
  · exact wpAny_genexprCode_hit hc h1 hf (hQ c' s.heap s.toks (fun _ _ _ e => e) X hr hne (Nat.le_refl _))
end
end Mine
end

section
open PySem PySem.W PyProof.Rows
set_option maxRecDepth 1000000
set_option linter.unusedVariables false
namespace Mine

noncomputable def mbFd (c1 : Addr) (c' pm : Value) (tup : Addr) : FuncData := { name := "make_byte", qualname := mbQ, params := mbA, body := .stmts mbB, scope := mbS, globals := mainGlobals, closure := [("bitdepth", c1)], closureTuple := .ref tup, code := c', builtins := builtinsNs, defaults := .none, kwdefaults := .none, pyModule := pm, doc := .none }
def MbAt (h : Heap) (F c1 : Addr) : Prop := ∃ c' pm tup, h.get? F = some { cls := .type "function", data := .func (mbFd c1 (.ref c') pm tup) } ∧ c' ≠ 51 ∧ h.CodeRec (.ref c') mbQ

variable {P : Params}
noncomputable abbrev env56 (L : Addr) : Env := callEnvC (fn 56) L 56

theorem live_ne {h : Heap} {b a : Addr} {o : Obj} (e : h.get? b = some o) (ha : h.get? a = none) : b ≠ a := fun q => by subst q; rw [ha] at e; cases e
theorem Wd.but {hc h h' : Heap} {a : Addr} (B : Wd P hc) (X : Wd P h) (ha : hc.get? a = none) (k : ∀ b ob, b ≠ a → h.get? b = some ob → h'.get? b = some ob) : Wd P h' where
  K := fun b o e => k b o (live_ne (B.K b o e) ha) (X.K b o e)
  b := by
    obtain ⟨mb, n, e⟩ := X.b
    obtain ⟨_, ⟨_, _, _, e', _⟩, _⟩ := B.b
    exact ⟨mb, n.extBut (fun b o hb e => k b o hb e) (live_ne e' ha), e⟩
  lim := by
    obtain ⟨_, ⟨_, _, _, e', _⟩, _⟩ := B.lim
    exact X.lim.extBut (fun b o hb e => k b o hb e) (live_ne e' ha)
/-- all kept but one thing made later than hc -/
theorem Wf.but {hc h h' : Heap} {a : Addr} {o : Obj} (B : Wf P hc) (X : Wf P h) (ha : hc.get? a = none) (ho : h.get? a = some o) (hd : o.data ≠ .plain) (hf : ∀ c q, h.CodeRec (.ref c) q → c ≠ a)
    (k : ∀ b ob, b ≠ a → h.get? b = some ob → h'.get? b = some ob) : Wf P h' where
  w := B.w.but X.w ha k
  m := by
    obtain ⟨mg, bm, ob, M⟩ := X.m
    obtain ⟨_, _, _, ⟨_, _, _, e', _⟩, _⟩ := B.m
    refine ⟨mg, bm, ob, M.ns.extBut (fun b o hb e => k b o hb e) (live_ne e' ha), M.name, M.ne, k _ _ (fun q => ?_) M.obj, M.cls, M.dict, M.data⟩
    have := M.obj
    rw [q, ho] at this
    cases this
    exact hd M.data
  tab := by
    obtain ⟨ps, a1, a2, a3, a4⟩ := X.tab
    obtain ⟨_, b1, b2, _, _⟩ := B.tab
    have h55 : 55 ≠ a := by obtain ⟨⟨_, _, e, _⟩, _⟩ := b2; exact live_ne e ha
    have h51 : 51 ≠ a := live_ne b2.2 ha
    have en : ∀ {pos qn}, Ent h ps pos qn → Ent h' ps pos qn := fun {pos qn} x => by
      rcases x with x | ⟨c', x, hne, hr⟩
      · exact .inl x
      · exact .inr ⟨c', x, hne, CodeRec.but hr (fun e => hf _ _ hr (Value.ref.inj e)) k⟩
    exact ⟨ps, a1.extBut k h55 h51, a2.extBut k h55 h51, en a3, en a4⟩
theorem codeRec_ne {h : Heap} {a c : Addr} {o : Obj} {q : Str} (ho : h.get? a = some o) (hd : ∀ vs, o.data ≠ .fields vs) (x : h.CodeRec (.ref c) q) : c ≠ a := fun e => by
  obtain ⟨c', oc, vs, tq, e1, e2, e3, _⟩ := x
  have := Value.ref.inj e1
  subst this e
  rw [ho] at e2; cases e2
  exact hd _ e3
theorem Wf.ne51 {h : Heap} (X : Wf P h) : h.objs.size ≠ 51 := by
  obtain ⟨_, b1, _⟩ := X.tab
  exact Nat.ne_of_gt b1.lt.2

section
variable {M : Model} {A : Around} {E : Value → Shared → Prop} {s : Shared} {L : Addr}

theorem mb_tree : exec mbStmt (env56 L) = (do
    standAt mbP
    let f ← holding [] (makeFunction "make_byte" mbQ mbA (.stmts mbB) mbS (env56 L) [] [] [] mbP mbP.line)
    standAt mbP
    bindName (env56 L) "make_byte" f
    pure .next) := by rfl
theorem mb_clos : closureFor mbS (env56 L) = pure [((Str.ofString "bitdepth"), L + 1)] := by rfl

theorem exec_mb {Q : Flow → Shared → Prop} {hc₀ : Heap} (B : Wf P hc₀) (hB : hc₀.get? (L + 2) = none) (X : Wf P s.heap) {v₀ : Option Value} (hc : s.heap.IsCell (L + 2) v₀) (hL : L + 2 ≠ 51)
    (hQ : ∀ F h' tk, (∀ b o, b ≠ 51 → b ≠ L + 2 → s.heap.get? b = some o → h'.get? b = some o) → s.heap.get? F = none → h'.IsCell (L + 2) (some (.ref F)) → MbAt h' F (L + 1) → Wf P h' → Q .next { s with heap := h', toks := tk }) :
    wpAny M A (exec mbStmt (env56 L)) Q E s := by
  rw [mb_tree]
  refine wpAny_bind (wpAny_standAt (wpAny_bind (wpAny_holding ?_)))
  unfold makeFunction
  refine wpAny_bind (wpAny_pure ?_)
  refine wpAny_bind (wpAny_pure ?_)
  refine wpAny_bind (wpAny_pure ?_)
  refine wpAny_bind (wpAny_of_eq mb_clos ?_)
  refine bm_if_false rfl ?_
  refine wpAny_bind (wpAny_newTextTuple ?_)
  have k₁ : ∀ ob b o, s.heap.get? b = some o → (s.heap.push ob).get? b = some o := fun ob b o e => Heap.get?_push_of_some _ e
  generalize hob : ({ cls := .type "tuple", data := .seq _ } : Obj) = ob
  have X₁ : Wf P (s.heap.push ob) := X.keeps (k₁ ob)
  refine wpAny_bind (mb_code rfl X₁ fun c' h₂ tk₂ hx₂ X₂ hr₂ hne => ?_)
  obtain ⟨mg, bm, obm, BM⟩ := X₂.m
  refine wpAny_bind (wpAny_builtinsFor BM.ns BM.name BM.ne BM.obj BM.cls BM.dict BM.data ?_)
  refine wpAny_bind (wpAny_nsGet BM.ns ?_)
  refine wpAny_bind (wpAny_pure ?_)
  refine wpAny_newObj_type ?_ (by size_fits)
  generalize hfo : ({ cls := .type "function", data := _ } : Obj) = fo
  have kp : ∀ ob b o, h₂.get? b = some o → (h₂.push ob).get? b = some o := fun ob b o e => Heap.get?_push_of_some _ e
  refine wpAny_bind (wpAny_standAt (wpAny_bind ?_))
  have hc₂ : h₂.IsCell (L + 2) v₀ := by
    obtain ⟨o, e, d⟩ := hc
    exact ⟨o, hx₂ _ _ hL (k₁ ob _ _ e), d⟩
  refine wpAny_bindName (wpAny_storeName_cell (c := L + 2) (v₀ := v₀) rfl rfl rfl (hc₂.keeps (kp fo)) fun h₃ hc₃ hs₃ => wpAny_pure ?_)
  have hFL : h₂.objs.size ≠ L + 2 := by obtain ⟨o, e, _⟩ := hc₂; exact Nat.ne_of_gt (Heap.lt_size e)
  refine hQ h₂.objs.size h₃ _ (fun b o h1 h2 e => hs₃.extBut b o h2 (kp fo b o (hx₂ b o h1 (k₁ ob b o e)))) ?_ hc₃ ⟨c', _, _, hfo ▸ hs₃.extBut _ _ hFL (Heap.get?_push_size _ (by rw [← hfo]; rfl)), hne, ?_⟩ ?_
  · cases e : s.heap.get? h₂.objs.size with
    | none => rfl
    | some o => exact absurd (Heap.lt_size (hx₂ _ o X₂.ne51 (k₁ ob _ _ e))) (Nat.lt_irrefl _)
  all_goals
    obtain ⟨oc, ec, dc⟩ := hc₂.keeps (kp fo)
    have nf : ∀ vs, oc.data ≠ .fields vs := fun vs q => by rw [dc] at q; cases q
    have np : oc.data ≠ .plain := fun q => by rw [dc] at q; cases q
  · exact CodeRec.but (CodeRec.keeps hr₂ (kp fo)) (fun e => codeRec_ne ec nf (CodeRec.keeps hr₂ (kp fo)) (Value.ref.inj e)) hs₃.extBut
  · exact Wf.but B (X₂.keeps (kp fo)) hB ec np (fun c q x => codeRec_ne ec nf x) hs₃.extBut
end
end Mine
end

section
open PySem PySem.W PyProof.Rows
set_option maxRecDepth 1000000
set_option linter.unusedVariables false
namespace Mine
theorem numW_bound (d : Nat) : ∀ (xs : List Int) (a B : Int), 0 ≤ a → a < B → (∀ x ∈ xs, 0 ≤ x ∧ x < 2 ^ d) → 0 ≤ xs.foldl (fun a v => a * 2 ^ d + v) a ∧ xs.foldl (fun a v => a * 2 ^ d + v) a < B * 2 ^ (d * xs.length)
  | [], a, B, h0, h1, _ => by simpa using ⟨h0, h1⟩
  | x :: xs, a, B, h0, h1, hx => by
    have ⟨x0, x1⟩ := hx x (by simp)
    have h2 : (0 : Int) < 2 ^ d := Int.pow_pos (by decide)
    have h3 : a * 2 ^ d + x < B * 2 ^ d := by
      have : (a + 1) * 2 ^ d ≤ B * 2 ^ d := Int.mul_le_mul_of_nonneg_right (by omega) (Int.le_of_lt h2)
      rw [Int.add_mul] at this
      omega
    have h4 : 0 ≤ a * 2 ^ d + x := Int.add_nonneg (Int.mul_nonneg h0 (Int.le_of_lt h2)) x0
    have := numW_bound d xs (a * 2 ^ d + x) (B * 2 ^ d) h4 h3 fun y hy => hx y (List.mem_cons_of_mem _ hy)
    rw [List.foldl_cons, List.length_cons, show d * (xs.length + 1) = d + d * xs.length by rw [Nat.mul_succ, Nat.add_comm], Int.pow_add, ← Int.mul_assoc]
    exact this
theorem ipow_le {a b : Nat} (h : a ≤ b) : (2 : Int) ^ a ≤ 2 ^ b := by
  have := Nat.pow_le_pow_right (n := 2) (by decide) h
  exact_mod_cast this
theorem numW_lt {d : Nat} {xs : List Int} (hx : ∀ x ∈ xs, 0 ≤ x ∧ x < 2 ^ d) : 0 ≤ numW d xs ∧ numW d xs < 2 ^ (d * xs.length) := by
  have := numW_bound d xs 0 1 (by decide) (by decide) hx
  rwa [Int.one_mul] at this

section
variable {prog : Program} {w : World} {A : Around} {s₀ : Shared} {P : Params}

theorem bindmb {c1 : Addr} {c' pm : Value} {tup : Addr} (b : Value) : bindArgs (mbFd c1 c' pm tup) ⟨[b], []⟩ = pure [(Str.ofString "block", b)] := by rfl

theorem px_mb (X : Wf P s₀.heap) (hh : A.handled = none) (hA : A.depth < 950) {F c1 : Addr} {d : Nat} {t : Tok} {b : Value} {c : List Int} (hF : MbAt s₀.heap F c1) (hc : s₀.heap.IsCell c1 (some (.int d t))) (hb : TupI s₀.heap b c) (hx : ∀ x ∈ c, 0 ≤ x ∧ x < 2 ^ d) (hcl : d * c.length ≤ 8) (hd : 0 < d) :
    Px prog w A (call (.ref F) [b]) s₀ (IsI (numW d c)) := by
  obtain ⟨c', pm, tup, hF, _, hr⟩ := hF
  obtain ⟨T, items, rfl, hT, hi⟩ := hb
  refine px_def hF rfl X.w.lim hr (by have : recursionLimit = 1000 := rfl; omega) (body := mbB) rfl (bindmb _) (show ∀ x ∈ mbS.names, x.2 ≠ .cell by decide) (by simp; rfl) fun s s₁ L g g₁ hL hn => ?_
  have base : ∀ {s'}, Gr [L] s₁ s' → Gr [] s₀ s' := fun x => g.trans (g₁.frame x (by simpa using hL))
  have hTL : T ≠ L := by rintro rfl; rw [g.k _ _ hT] at hL; cases hL
  have hlen := hi.length
  refine sx_cons (sx_assign hn px_int fun v s₂ s₃ g₂ p₂ hn₃ g₃ => ?_)
  obtain ⟨t₀, rfl⟩ := p₂
  have g₁₃ : Gr [L] s₁ s₃ := (g₂.any).trans g₃
  have hT₃ : s₃.heap.get? T = _ := (base g₁₃).k _ _ hT
  refine sx_cons (sx_for [L] (fun i s' => Gr [L] s₃ s' ∧ ∃ m u, s'.heap.Ns L m ∧ m (Str.ofString "block") = some (.ref T) ∧ m (Str.ofString "res") = some (.int (numW d (c.take i)) u))
    (own := [T]) (n := items.size) (P := fun i v => items[i]? = some v) ((px_local hn₃ rfl).mono fun v s' g' e => by subst e; exact itb_tuple hh ⟨_, g'.k _ _ hT₃, rfl, _, rfl⟩) (by simpa using hTL) (ns_live hn₃)
    (fun s' g' => ⟨g'.any, _, t₀, hn₃.keeps g'.k, rfl, rfl⟩) (fun i s' s'' I hI _ hJ gI => ?_) ?_ ?_)
  · obtain ⟨gj, m, u, hm, h1, h2⟩ := hJ
    exact ⟨gj.iter gI hI, m, u, gI.ns1 hm (ns_ne hn₃ hI), h1, h2⟩
  · rintro i v s₄ hi' hv ⟨gj, m, u, hm, h1, h2⟩
    obtain ⟨y, ty, rfl, hy⟩ := IntsAre.at hi i v (by simpa using hv)
    have hc₄ : s₄.heap.IsCell c1 (some (.int d t)) := by
      obtain ⟨o, e, hd⟩ := hc
      exact ⟨o, (base (g₁₃.trans gj)).k _ _ e, hd⟩
    have hdl : d ≤ 8 := by
      have : d * 1 ≤ d * c.length := Nat.mul_le_mul_left d (by have := List.getElem?_eq_some_iff.mp hy; obtain ⟨h, _⟩ := this; omega)
      omega
    have hbd : (numW d (c.take i)).natAbs < 2 ^ 64 := by
      have ⟨b0, b1⟩ := numW_lt (d := d) (xs := c.take i) fun x hx' => hx x (List.mem_of_mem_take hx')
      have : (2 : Int) ^ (d * (c.take i).length) ≤ 2 ^ 8 := ipow_le (Nat.le_trans (Nat.mul_le_mul_left d (by rw [List.length_take]; omega)) hcl)
      omega
    refine sx_bind hm fun s₅ hn₅ g₅ => ?_
    have hc₅ : s₅.heap.IsCell c1 (some (.int d t)) := by
      obtain ⟨o, e, hd⟩ := hc
      exact ⟨o, (base ((g₁₃.trans gj).trans g₅)).k _ _ e, hd⟩
    refine sx_cons (sx_assign hn₅ (px_add (px_shl ((px_local hn₅ (by simp [upd]; exact h2)).mono fun v s' _ e => ⟨u, e⟩) ((px_free rfl hc₅).mono fun v s' _ e => (⟨t, e⟩ : IsI (d : Int) v s'.heap)) (by omega) (by omega) hbd) ((px_local hn₅ (by simp [upd] <;> rfl)).mono fun v s' _ e => ⟨ty, e⟩)) fun v s₆ s₇ g₆ p₆ hn₇ g₇ => sx_nil ?_)
    obtain ⟨u', rfl⟩ := p₆
    have gg : Gr [L] s₄ s₇ := (g₅.trans g₆.any).trans g₇
    refine ⟨⟨gj.trans gg, _, u', hn₇, ?_, ?_⟩, gg.keep⟩
    · simp [upd]; exact h1
    · simp [upd]
      rw [List.take_add_one, hy]
      simp [numW]
  · rintro s₄ ⟨gj, m, u, hm, h1, h2⟩
    rw [show items.size = c.length by rw [← hlen]; simp, List.take_length] at h2
    exact sx_cons (sx_return ((px_local hm h2).mono fun v s' _ e => (⟨u, e⟩ : IsI (numW d c) v s'.heap)) fun v s₅ g₅ p₅ => ⟨(g₁₃.trans gj).trans g₅.any, p₅⟩)
end
end Mine
end

section
open PySem PySem.W PyProof.Rows
set_option maxRecDepth 1000000
set_option linter.unusedVariables false
namespace Mine
variable {P : Params}

/-- what may lie at an address that is written: no module object, no code object -/
def Soft (h : Heap) (a : Addr) : Prop := ∀ o, h.get? a = some o → o.data ≠ .plain ∧ ∀ vs q t, (q = mbQ ∨ q = geQ) → o.data = .fields vs → vs[1]? ≠ some (.str q t)
theorem Soft.none {h : Heap} {a : Addr} (e : h.get? a = none) : Soft h a := fun o e' => by rw [e] at e'; cases e'
theorem Soft.code {h : Heap} {a c : Addr} {q : Str} (x : Soft h a) (hq : q = mbQ ∨ q = geQ) (r : h.CodeRec (.ref c) q) : c ≠ a := fun e => by
  obtain ⟨c', oc, vs, tq, e1, e2, e3, e4⟩ := r
  have := Value.ref.inj e1
  subst this e
  exact (x oc e2).2 vs _ _ hq e3 e4
theorem Soft.iter {h : Heap} {I l : Addr} {i : Nat} (x : h.IsListIter I l i) : Soft h I := fun o e => by
  obtain ⟨o', e', _, hd⟩ := x
  rw [e] at e'; cases e'
  exact ⟨fun q => (by rw [hd] at q; cases q), fun vs q t _ q' => (by rw [hd] at q'; cases q'; simp)⟩

theorem Wf.butL {hc h h' : Heap} {W : List Addr} (B : Wf P hc) (X : Wf P h) (hW : ∀ a ∈ W, hc.get? a = none ∧ Soft h a)
    (k : ∀ b ob, b ∉ W → h.get? b = some ob → h'.get? b = some ob) : Wf P h' where
  w := by
    refine ⟨fun b o e => k b o (fun m => ?_) (X.w.K b o e), ?_, ?_⟩
    · exact live_ne (B.w.K b o e) (hW b m).1 rfl
    · obtain ⟨mb, ⟨o, es, ep, e, r⟩, e2⟩ := X.w.b
      obtain ⟨_, ⟨_, _, _, e', _⟩, _⟩ := B.w.b
      exact ⟨mb, ⟨o, es, ep, k _ _ (fun m => live_ne e' (hW _ m).1 rfl) e, r⟩, e2⟩
    · obtain ⟨mc, ⟨o, es, ep, e, r⟩, e2⟩ := X.w.lim
      obtain ⟨_, ⟨_, _, _, e', _⟩, _⟩ := B.w.lim
      exact ⟨mc, ⟨o, es, ep, k _ _ (fun m => live_ne e' (hW _ m).1 rfl) e, r⟩, e2⟩
  m := by
    obtain ⟨mg, bm, ob, ⟨o, es, ep, e, r⟩, M2, M3, M4, M5, M6, M7⟩ := X.m
    obtain ⟨_, _, _, ⟨_, _, _, e', _⟩, _⟩ := B.m
    exact ⟨mg, bm, ob, ⟨o, es, ep, k _ _ (fun m => live_ne e' (hW _ m).1 rfl) e, r⟩, M2, M3, k _ _ (fun m => ((hW _ m).2 _ M4).1 M7) M4, M5, M6, M7⟩
  tab := by
    obtain ⟨ps, a1, a2, a3, a4⟩ := X.tab
    obtain ⟨_, b1, b2, _, _⟩ := B.tab
    have h55 : 55 ∉ W := fun m => by obtain ⟨⟨_, _, e, _⟩, _⟩ := b2; exact live_ne e (hW _ m).1 rfl
    have h51 : 51 ∉ W := fun m => live_ne b2.2 (hW _ m).1 rfl
    have en : ∀ {pos qn}, (qn = mbQ ∨ qn = geQ) → Ent h ps pos qn → Ent h' ps pos qn := fun {pos qn} hq x => by
      rcases x with x | ⟨c', x, hne, hr⟩
      · exact .inl x
      · obtain ⟨c'', oc, vs, tq, e1, e2, r⟩ := id hr
        have e1 := Value.ref.inj e1
        subst e1
        exact .inr ⟨c', x, hne, c', oc, vs, tq, rfl, k c' oc (fun m => (hW _ m).2.code hq hr rfl) e2, r⟩
    refine ⟨ps, ?_, ?_, en (.inl rfl) a3, en (.inr rfl) a4⟩
    · obtain ⟨o, vs, file, tf, flags, tg, inF, text, tt, op, a, r1, r2, r3, r4, r5, r6, b, r⟩ := a1
      exact ⟨o, vs, file, tf, flags, tg, inF, text, tt, op, k _ _ h55 a, r1, r2, r3, r4, r5, r6, k _ _ h51 b, r⟩
    · obtain ⟨⟨o, vs, a, r⟩, t⟩ := a2
      exact ⟨⟨o, vs, k _ _ h55 a, r⟩, k _ _ h51 t⟩

theorem MbAt.keep {h h' : Heap} {F c1 : Addr} {W : List Addr} (x : MbAt h F c1) (hW : ∀ a ∈ W, Soft h a ∧ a ≠ F) (k : ∀ b ob, b ∉ W → h.get? b = some ob → h'.get? b = some ob) : MbAt h' F c1 := by
  obtain ⟨c', pm, tup, e, hne, hr⟩ := x
  obtain ⟨c'', oc, vs, tq, e1, e2, r⟩ := id hr
  have e1 := Value.ref.inj e1
  subst e1
  exact ⟨c', pm, tup, k _ _ (fun m => (hW _ m).2 rfl) e, hne, c', oc, vs, tq, rfl, k c' oc (fun m => (hW _ m).1.code (.inl rfl) hr rfl) e2, r⟩

theorem passing_all (n : Nat) : passing (fun _ => true) n 0 = List.range n := by unfold passing; simp

section
variable {prog : Program} {w : World} {A : Around} {E : Value → Shared → Prop} {s : Shared}
/-- bytearray(a), a a generator of the logic -/
theorem call_ba_gen {a : Addr} {g : Nat} {fp wr : List Addr} {G : Array GenState → Array GenState → Prop} {ns : List Int} {Pi : Nat → Value → Prop} {St : Nat → Shared → Prop} {Q : Value → Shared → Prop}
    (Wk : WalksS prog w A.in1.in1 a fp wr G ns.length Pi St) (hP : ∀ i v, Pi i v → ∃ n t, ns[i]? = some n ∧ v = .int n t) (hr : ∀ n ∈ ns, 0 ≤ n ∧ n < 256) (hz : ns.length ≤ sizeLine) (hfp : ∀ b ∈ fp, b < s.heap.objs.size)
    (hg : s.heap.IsGen a g) (hst : St 0 s)
    (hQ : ∀ s', Moved (s.heap.objs.size :: wr) G { s with heap := s.heap.push { cls := .type "bytearray", data := .bytearray #[] } } s' → IsBA s'.heap s.heap.objs.size (byteArr ns) → Q (.ref s.heap.objs.size) s') :
    wpF (model prog w) A (call (.type "bytearray") [.ref a]) Q E s := by
  refine callTypeF (Q₁ := fun obj s₁ => obj = .ref s.heap.objs.size ∧ s₁ = { s with heap := s.heap.push { cls := .type "bytearray", data := .bytearray #[] } }) F.called_ba (by decide +kernel) (F.typeCall_ba _) F.entry_ba_init
    (code_ba_new _ ⟨rfl, rfl⟩) fun obj s₁ h₁ => ?_
  obtain ⟨rfl, rfl⟩ := h₁
  have hD : IsBA (s.heap.push { cls := .type "bytearray", data := .bytearray #[] }) s.heap.objs.size #[] := Heap.get?_push_size _ rfl
  refine ⟨ba_typeIs hD, F.args_ba_init _ _, wpF_mono (ba_init_gen (A := A.in1) (Q := fun fin s' => match fin with | .done (.ret v) => v = .none ∧ Q (.ref s.heap.objs.size) s' | _ => False) Wk hP hr hz (fun m => Nat.lt_irrefl _ (hfp _ m)) hD (hg.push _)
    (Wk.frame 0 s _ s.toks hst (Nat.le_refl _) fun b _ o e => Heap.get?_push_of_some _ e) fun s' hm hB => ⟨rfl, hQ s' hm hB⟩) (fun fin s' q => ?_) fun _ _ q => q⟩
  cases fin with
  | done f => cases f <;> exact q
  | again c' =>
    refine ⟨q.1, codeF_mono q.2 fun r s'' q' => ?_⟩
    cases r with
    | error e => exact q'
    | ok f => cases f <;> exact q'

/-- the relation of a walk that makes generators: what `Kp` says is kept, the generators out of S stand, the new ones are bare -/
structure Gk (Kp : Addr → Prop) (S : List Nat) (s s' : Shared) : Prop where
  keep : ∀ b o, Kp b → s.heap.get? b = some o → s'.heap.get? b = some o
  size : s.gens.size ≤ s'.gens.size
  gens : ∀ i, i ∉ S → i < s.gens.size → s'.gens[i]? = s.gens[i]?
  bare : ∀ i x, s'.gens[i]? = some x → i ∈ S ∨ s.gens.size ≤ i → x.bare = true
  drawn : s'.drawn = s.drawn
  os : s'.os = s.os
theorem Gk.of {W : List Addr} {Kp : Addr → Prop} {S : List Nat} {s s' : Shared} (g : Gr W s s') (hK : ∀ b, Kp b → b ∉ W) (hS : S = []) : Gk Kp S s s' := by
  subst hS
  obtain ⟨k, h, tk, rfl⟩ := g
  refine ⟨fun b o hb e => k b o (hK b hb) e, Nat.le_refl _, fun _ _ _ => rfl, fun i x e hi => ?_, rfl, rfl⟩
  rcases hi with hi | hi
  · cases hi
  · have e' : s.gens[i]? = some x := e
    rw [Array.getElem?_eq_none hi] at e'; cases e'
theorem Gk.refl {Kp : Addr → Prop} {s : Shared} : Gk Kp [] s s := Gk.of (Gr.refl [] s) (fun _ _ => by simp) rfl
theorem Gk.trans {Kp : Addr → Prop} {S : List Nat} {s s' s'' : Shared} (x : Gk Kp S s s') (y : Gk Kp S s' s'') : Gk Kp S s s'' where
  keep := fun b o hb e => y.keep b o hb (x.keep b o hb e)
  size := Nat.le_trans x.size y.size
  gens := fun i hi hl => (y.gens i hi (Nat.lt_of_lt_of_le hl x.size)).trans (x.gens i hi hl)
  bare := fun i z e hi => by
    by_cases hs : i ∈ S
    · exact y.bare i z e (.inl hs)
    by_cases hl : s'.gens.size ≤ i
    · exact y.bare i z e (.inr hl)
    · rw [y.gens i hs (Nat.lt_of_not_le hl)] at e
      exact x.bare i z e hi
  drawn := y.drawn.trans x.drawn
  os := y.os.trans x.os
theorem Gk.mono {Kp Kp' : Addr → Prop} {S S' : List Nat} {s s' : Shared} (x : Gk Kp S s s') (h : ∀ b, Kp' b → Kp b) (hS : S = S' ∨ S = []) (hb : ∀ i x, i ∈ S' → s.gens[i]? = some x → x.bare = true) : Gk Kp' S' s s' where
  keep := fun b o hb e => x.keep b o (h b hb) e
  size := x.size
  gens := fun i hi hl => x.gens i (by rcases hS with rfl | rfl <;> simp_all) hl
  bare := fun i z e hi => by
    rcases hS with rfl | rfl
    · exact x.bare i z e hi
    · rcases Nat.lt_or_ge i s.gens.size with q | q
      · rcases hi with hi | hi
        · rw [x.gens i (by simp) q] at e
          exact hb i z hi e
        · exact absurd hi (Nat.not_le.mpr q)
      · exact x.bare i z e (.inr q)
  drawn := x.drawn
  os := x.os
end
end Mine
end

section
open PySem PySem.W PyProof.Rows
set_option maxRecDepth 1000000
set_option linter.unusedVariables false
namespace Mine
theorem Gr.keeps {s s' : Shared} (x : Gr [] s s') : Keeps s s' := let ⟨h, tk, e⟩ := x.same; ⟨h, tk, e, fun b o q => by have := x.k b o q; rw [e] at this; exact this⟩
variable {P : Params}
noncomputable def geElt : Expr := match geE with | .GeneratorExp e _ _ _ => e | _ => .Name "" ⟨0, 0, 0, 0⟩
noncomputable def geIter : Expr := match geE with | .GeneratorExp _ [⟨_, i, _, _⟩] _ _ => i | _ => .Name "" ⟨0, 0, 0, 0⟩
noncomputable def gePx : Pos := match geE with | .GeneratorExp _ [⟨.Name _ p, _, _, _⟩] _ _ => p | _ => ⟨0, 0, 0, 0⟩
noncomputable def geS : Scope := match geE with | .GeneratorExp _ _ s _ => s | _ => (fn 56).scope
noncomputable def yPos : Pos := match yieldE with | .Call _ _ _ p => p | _ => ⟨0, 0, 0, 0⟩
noncomputable def yNp : Pos := match yieldE with | .Call (.Name _ p) _ _ _ => p | _ => ⟨0, 0, 0, 0⟩
theorem geE_eq : geE = .GeneratorExp geElt [⟨.Name "block" gePx, geIter, [], 0⟩] geS geP := rfl
theorem yieldE_eq : yieldE = .Call (.Name "bytearray" yNp) [.GeneratorExp geElt [⟨.Name "block" gePx, geIter, [], 0⟩] geS geP] [] yPos := rfl
theorem ge_clos {L : Addr} : closureFor geS (env56 L) = pure [((Str.ofString "make_byte"), L + 2)] := by rfl

theorem Wf.ne51d {h : Heap} (X : Wf P h) {b : Addr} {o : Obj} (e : h.get? b = some o) (hd : ∀ vs, o.data ≠ .fields vs) : b ≠ 51 := fun q => by
  obtain ⟨ps, _, a2, _⟩ := X.tab
  have := a2.2
  rw [← q, e] at this
  cases this
  exact hd _ rfl
theorem MbAt.but51 {h h' : Heap} (X : Wf P h) {F c1 : Addr} (x : MbAt h F c1) (k : ∀ b ob, b ≠ 51 → h.get? b = some ob → h'.get? b = some ob) : MbAt h' F c1 := by
  obtain ⟨c', pm, tup, e, hne, hr⟩ := x
  exact ⟨c', pm, tup, k _ _ (X.ne51d e (fun vs q => by cases q)) e, hne, CodeRec.but hr (fun q => hne (Value.ref.inj q)) k⟩
theorem IsCell.but51 {h h' : Heap} (X : Wf P h) {c : Addr} {v : Option Value} (x : h.IsCell c v) (k : ∀ b ob, b ≠ 51 → h.get? b = some ob → h'.get? b = some ob) : h'.IsCell c v := by
  obtain ⟨o, e, d⟩ := x
  exact ⟨o, k _ _ (X.ne51d e (fun vs q => by rw [d] at q; cases q)) e, d⟩

section
variable {prog : Program} {w : World} {A : Around} {E : Value → Shared → Prop} {s : Shared} {L S F : Addr} {d : Nat} {t : Tok} {acc : Array Value} {c : Nat} {css : List (List Int)} {m : Str → Option Value}

theorem eval_yieldE {hc : Heap} {Q : Value → Shared → Prop} (B : Wf P hc) (X : Wf P s.heap) (hsz : ∀ b o, b ≠ 51 → hc.get? b = some o → s.heap.get? b = some o) (hh : A.handled = none) (hA : A.depth < 900) (hn : s.heap.Ns L m) (hbl : m (Str.ofString "blocks") = some (.ref S)) (hS : IsLst s.heap S acc c)
    (hac : All2 (TupI s.heap) acc.toList css) (hcs : ∀ c ∈ css, (∀ x ∈ c, 0 ≤ x ∧ x < 2 ^ d) ∧ d * c.length ≤ 8) (hd : 0 < d) (hz : css.length ≤ 1000) (hmb : s.heap.IsCell (L + 2) (some (.ref F))) (hF : MbAt s.heap F (L + 1)) (hbd : s.heap.IsCell (L + 1) (some (.int d t)))
    (hQ : ∀ D s', Gk (· ≠ 51) [] s s' → Wf P s'.heap → s.heap.get? D = none → IsBA s'.heap D (byteArr (css.map (numW d))) → Q (.ref D) s') :
    wpF (model prog w) A (eval yieldE (env56 L)) Q E s := by
  rw [yieldE_eq]
  show wpF _ A (do callWith yPos (← eval (.Name "bytearray" yNp) (env56 L)) [] (backTo yPos (starEach [.GeneratorExp geElt [⟨.Name "block" gePx, geIter, [], 0⟩] geS geP] (env56 L))) (backToKw yPos (keywordEach [] (env56 L)))) Q E s
  refine wpF_bindA ((px_bi X.w (x := "bytearray") (v := .type "bytearray")).use (.refl _ _) fun v' s₁ g₁ e₁ => ?_)
  obtain rfl := e₁
  refine callWithF (.inr ⟨_, rfl⟩) rfl ?_
  refine Calls.evalArgs_plain (Calls.spliced_cons ?_)
  have hroom : A.depth < recursionLimit := by have : recursionLimit = 1000 := rfl; omega
  refine wpAny_GeneratorExp_walksQD hh rfl ge_clos (show ∀ y ∈ geS.names, y.2 ≠ .cell by decide) rfl rfl rfl hroom ?_ (fun _ => rfl)
  refine (px_local (s₀ := s₁) (hn.keeps g₁.k) hbl).use (.refl _ _) fun xv s₂ g₂ e₂ => ?_
  obtain rfl := e₂
  have g₀₂ := g₁.trans g₂
  have X₂ := X.keeps g₀₂.k
  have hS₂ := g₀₂.k _ _ hS
  have hl₂ : s₂.heap.IsList S acc := ⟨_, hS₂, rfl, _, rfl⟩
  refine wpAny_pyIter_list hl₂ ?_
  have k₃ : ∀ b o, s₂.heap.get? b = some o → (s₂.heap.push { cls := .type "list_iterator", data := .fields #[.ref S, .int 0 0] }).get? b = some o := fun b o e => Heap.get?_push_of_some _ e
  have X₃ := X₂.keeps k₃
  refine ⟨X₃.w.lim, ?_⟩
  have hI₃ : (s₂.heap.push { cls := .type "list_iterator", data := .fields #[.ref S, .int 0 0] }).IsListIter s₂.heap.objs.size S 0 := ⟨_, Heap.get?_push_size _ rfl, rfl, rfl⟩
  refine ge_code (s := { s₂ with heap := s₂.heap.push { cls := .type "list_iterator", data := .fields #[.ref S, .int 0 0] } }) rfl X₃ fun c' h₄ tk₄ hx₄ X₄ hr₄ hne₄ hsz₄ => ?_
  have hI51 : s₂.heap.objs.size ≠ 51 := X₂.ne51
  have hS51 : S ≠ 51 := fun q => by
    obtain ⟨ps, _, a2, _⟩ := X₂.tab
    rw [q, a2.2] at hS₂
    cases hS₂
  obtain ⟨mg, bm, obm, BM⟩ := X₄.m
  refine wpAny_builtinsFor BM.ns BM.name BM.ne BM.obj BM.cls BM.dict BM.data ?_
  have hSI : S ≠ s₂.heap.objs.size := Nat.ne_of_lt (Heap.lt_size hS₂)
  have hI₄ : h₄.IsListIter s₂.heap.objs.size S 0 := hI₃.extBut hx₄ hI51
  have hl₄ : h₄.IsList S acc := (hl₂.at fun o e => k₃ _ o e).extBut hx₄ hS51
  have hIlt : s₂.heap.objs.size < h₄.objs.size := by obtain ⟨o, e, _⟩ := hI₄; exact Heap.lt_size e
  have k₂₄ : ∀ b o, b ≠ 51 → s₂.heap.get? b = some o → h₄.get? b = some o := fun b o hb e => hx₄ b o hb (k₃ b o e)
  refine ⟨s₂.heap.objs.size, [s₂.heap.objs.size, S], [s₂.heap.objs.size], acc.size, fun i v => acc[i]? = some v, fun i h => h.IsListIter s₂.heap.objs.size S i ∧ h.IsList S acc, fun _ => true, fun i y => ∃ t, y = .int (numW d (css.getD i [])) t, rfl,
    fun A' hA' => Walks.list hA' _ S hSI acc, ⟨hI₄, hl₄⟩, ?_, X₄.w.lim, ?_, ?_, ?_⟩
  · intro b hb
    simp only [List.mem_cons, List.not_mem_nil, or_false] at hb
    rcases hb with rfl | rfl
    · exact hIlt
    · obtain ⟨o, e, _⟩ := hl₄; exact Heap.lt_size e
  · intro hm
    simp only [List.mem_cons, List.not_mem_nil, or_false] at hm
    obtain ⟨_, ⟨_, _, _, e', _⟩, _⟩ := X₂.w.lim
    rw [hm] at e'
    exact Nat.lt_irrefl _ (Heap.lt_size e')
  · intro href hhref
    refine ⟨fun A' E' i v st m₂ hA' hD hU hp hn' hm hk => ?_, fun A' E' i v st m₂ hA' hD hU hp _ hn' hm hk => ?_⟩
    · rw [List.forIn_nil]
      exact wpAny_pure ⟨rfl, Gr.keeps (Gr.refl _ _)⟩
    · have up : ∀ b o, b ≠ s₂.heap.objs.size → h₄.get? b = some o → st.heap.get? b = some o := fun b o hb e =>
        hk b (List.mem_range.mpr (Heap.lt_size e)) (by simpa using hb) o (hhref b o e)
      have upL : ∀ b o, b ∉ [s₂.heap.objs.size] → h₄.get? b = some o → st.heap.get? b = some o := fun b o hb e => up b o (by simpa using hb) e
      have Xs : Wf P st.heap := Wf.butL B X₄ (W := [s₂.heap.objs.size]) (fun a ha => by
        simp only [List.mem_cons, List.not_mem_nil, or_false] at ha
        subst ha
        refine ⟨?_, Soft.iter hI₄⟩
        cases e : hc.get? s₂.heap.objs.size with
        | none => rfl
        | some o => exact absurd (Heap.lt_size (g₀₂.k _ _ (hsz _ o hI51 e))) (Nat.lt_irrefl _)) upL
      have upS : ∀ {b o}, s.heap.get? b = some o → (∀ vs, o.data ≠ .fields vs) → st.heap.get? b = some o := fun {b o} e hdt =>
        up b o (Nat.ne_of_lt (Heap.lt_size (g₀₂.k _ _ e))) (k₂₄ b o (X.ne51d e hdt) (g₀₂.k _ _ e))
      have hFs : MbAt st.heap F (L + 1) := by
        have h1 : MbAt h₄ F (L + 1) := ((hF.keep (W := []) (fun a ha => nomatch ha) (fun b o _ e => g₀₂.k b o e)).but51 X₂ k₂₄)
        refine h1.keep (W := [s₂.heap.objs.size]) (fun a ha => ?_) upL
        simp only [List.mem_cons, List.not_mem_nil, or_false] at ha
        subst ha
        refine ⟨Soft.iter hI₄, fun q => ?_⟩
        obtain ⟨_, _, _, e, _⟩ := hF
        exact Nat.lt_irrefl _ (q ▸ Heap.lt_size (g₀₂.k _ _ e))
      have hcl : st.heap.IsCell (L + 2) (some (.ref F)) := by
        obtain ⟨o, e, dd⟩ := hmb
        exact ⟨o, upS e (fun vs q => by rw [dd] at q; cases q), dd⟩
      have hbs : st.heap.IsCell (L + 1) (some (.int d t)) := by
        obtain ⟨o, e, dd⟩ := hbd
        exact ⟨o, upS e (fun vs q => by rw [dd] at q; cases q), dd⟩
      have hi : i < acc.size := by
        rcases Nat.lt_or_ge i acc.size with q | q
        · exact q
        · rw [Array.getElem?_eq_none q] at hp; cases hp
      have hlen : acc.size = css.length := by simpa using hac.1
      have hci : css[i]? = some (css[i]'(hlen ▸ hi)) := List.getElem?_eq_getElem _
      have hTi : TupI s.heap v (css[i]'(hlen ▸ hi)) := hac.2 i v _ (by simpa using hp) hci
      have hTs : TupI st.heap v (css[i]'(hlen ▸ hi)) := by
        obtain ⟨T, items, e, eT, r⟩ := hTi
        exact ⟨T, items, e, upS eT (fun vs q => by cases q), r⟩
      have hmem := hcs _ (List.mem_of_getElem? hci)
      obtain ⟨cF, pm, tup, eF, _⟩ := id hFs
      refine (px_call1 (s₀ := st) (env := genEnv geS [((Str.ofString "make_byte"), L + 2)] h₄.objs.size (.ref c') builtinsNs (env56 L)) (R := IsI (numW d (css[i]'(hlen ▸ hi)))) (px_free rfl hcl) (px_local hn' hm) (fun a s' g' e => ?_) (.inr (.inr ⟨F, _, _, rfl, eF, rfl⟩))).use (.refl _ _) fun y s₃ g₃ p₃ => ⟨?_, Gr.keeps g₃⟩
      · subst e
        refine px_mb (Xs.keeps g'.k) hA' (by omega) (hFs.keep (W := []) (fun a ha => nomatch ha) (fun b o _ e => g'.k b o e)) (hbs.keeps g'.k) (hTs.keep fun x o _ e => g'.k x o e) hmem.1 hmem.2 hd
      · obtain ⟨tt, rfl⟩ := p₃
        exact ⟨tt, by rw [List.getD_eq_getElem?_getD, hci]; rfl⟩
  · intro a h₅ tk gs hgb hag hsz₅ hk₅ W hat
    have hlen : acc.size = css.length := by simpa using hac.1
    have hpl : (passing (fun _ => true) acc.size 0).length = (css.map (numW d)).length := by rw [passing_all]; simp [hlen]
    rw [hpl] at W
    have W' := WalksS.in4_2 W
    refine Calls.spliced_nil ?_
    refine call_ba_gen (ns := css.map (numW d)) W' (fun j v hj => ?_) (fun x hx => ?_) (by rw [List.length_map, sizeLine_eq]; omega) (fun b hb => ?_) hat.1 hat fun s' hm hB => ?_
    · obtain ⟨i, hi, tt, rfl⟩ := hj
      rw [passing_all] at hi
      have hi' : i = j ∧ j < acc.size := by
        rcases Nat.lt_or_ge j acc.size with q | q
        · rw [List.getElem?_range q] at hi; cases hi; exact ⟨rfl, q⟩
        · rw [List.getElem?_eq_none (by simpa using q)] at hi; cases hi
      obtain ⟨rfl, hlt⟩ := hi'
      have : css[i]? = some (css[i]'(hlen ▸ hlt)) := List.getElem?_eq_getElem _
      exact ⟨_, tt, by rw [List.getElem?_map, this]; rfl, by rw [List.getD_eq_getElem?_getD, this]; rfl⟩
    · obtain ⟨cc, hcc, rfl⟩ := List.mem_map.mp hx
      have ⟨h1, h2⟩ := hcs cc hcc
      have ⟨b0, b1⟩ := numW_lt h1
      have : (2 : Int) ^ (d * cc.length) ≤ 2 ^ 8 := ipow_le h2
      omega
    · show b < h₅.objs.size
      rw [hsz₅]
      simp only [List.mem_cons, List.mem_range] at hb
      rcases hb with rfl | rfl | hb
      · exact Nat.lt_succ_self _
      · exact Nat.lt_succ_of_lt hag
      · exact Nat.lt_succ_of_lt (Nat.lt_trans hb hag)
    · have kD : ∀ b o, h₅.get? b = some o → (h₅.push { cls := .type "bytearray", data := .bytearray #[] }).get? b = some o := fun b o e => Heap.get?_push_of_some _ e
      have hkm : ∀ b o, b ∉ [h₅.objs.size, h₄.objs.size, s₂.heap.objs.size] → h₄.get? b = some o → s'.heap.get? b = some o := fun b o hb e => hm.heap b o hb (kD b o (hk₅ b o e))
      have hks : ∀ b o, b ≠ 51 → s.heap.get? b = some o → s'.heap.get? b = some o := fun b o hb e => by
        have e₂ := g₀₂.k _ _ e
        have e₄ := k₂₄ b o hb e₂
        refine hkm b o (fun hb' => ?_) e₄
        simp only [List.mem_cons, List.not_mem_nil, or_false] at hb'
        rcases hb' with rfl | rfl | rfl
        · exact Nat.lt_irrefl _ (Heap.lt_size (hk₅ _ o e₄))
        · exact Nat.lt_irrefl _ (Heap.lt_size e₄)
        · exact Nat.lt_irrefl _ (Heap.lt_size e₂)
      have hnone : ∀ b, b ≠ 51 → h₄.objs.size ≤ b ∨ b = s₂.heap.objs.size → s.heap.get? b = none := fun b hb hq => by
        cases e : s.heap.get? b with
        | none => rfl
        | some o =>
          rcases hq with q | rfl
          · exact absurd (Heap.lt_size (k₂₄ b o hb (g₀₂.k _ _ e))) (Nat.not_lt.mpr q)
          · exact absurd (Heap.lt_size (g₀₂.k _ _ e)) (Nat.lt_irrefl _)
      have hcn : ∀ b, b ≠ 51 → s.heap.get? b = none → hc.get? b = none := fun b hb e => by
        cases e' : hc.get? b with
        | none => rfl
        | some o => rw [hsz b o hb e'] at e; cases e
      have h₄51 : h₄.objs.size ≠ 51 := X₄.ne51
      have h₅51 : h₅.objs.size ≠ 51 := (X₄.keeps hk₅).ne51
      have hDge : h₄.objs.size ≤ h₅.objs.size := by rw [hsz₅]; exact Nat.le_of_lt (Nat.lt_succ_of_lt hag)
      have hg₂ : s₂.gens = s.gens := by obtain ⟨h, tk, e⟩ := g₀₂.same; rw [e]
      have hgs : s'.gens.size = s₂.gens.size + 1 ∧ (∀ i, i ≠ s₂.gens.size → s'.gens[i]? = (s₂.gens.push gs)[i]?) ∧ ∀ x, s'.gens[s₂.gens.size]? = some x → x.bare = true := by
        have hq : GenOnlyQ s₂.gens.size (s₂.gens.push gs) s'.gens := hm.gens
        rcases hq with e | ⟨⟨e1, e2⟩, e3⟩
        · rw [e]
          refine ⟨Array.size_push .., fun _ _ => rfl, fun x hx => ?_⟩
          rw [Array.getElem?_push_size] at hx; cases hx; exact hgb
        · exact ⟨e1.trans (Array.size_push ..), e2, e3⟩
      refine hQ h₅.objs.size s' ⟨fun b o hb e => hks b o hb e, ?_, ?_, ?_, ?_, ?_⟩ (Wf.butL B X₄ (W := [h₅.objs.size, h₄.objs.size, s₂.heap.objs.size]) (fun b hb => ?_) hkm) (hnone _ h₅51 (.inl hDge)) hB
      · rw [← hg₂]; exact Nat.le_trans (Nat.le_succ _) (Nat.le_of_eq hgs.1.symm)
      · intro i _ hi
        rw [← hg₂] at hi ⊢
        have h1 : i ≠ s₂.gens.size := Nat.ne_of_lt hi
        rw [hgs.2.1 i h1, Array.getElem?_push_lt hi, Array.getElem?_eq_getElem hi]
      · intro i x e hi
        rcases hi with hi | hi
        · cases hi
        rw [← hg₂] at hi
        by_cases h1 : i = s₂.gens.size
        · subst h1; exact hgs.2.2 x e
        · have : (s₂.gens.push gs).size ≤ i := by rw [Array.size_push]; omega
          rw [hgs.2.1 i h1, Array.getElem?_eq_none this] at e; cases e
      · exact hm.drawn.trans (by obtain ⟨_, _, e⟩ := g₀₂.same; rw [e])
      · exact hm.os.trans (by obtain ⟨_, _, e⟩ := g₀₂.same; rw [e])
      · simp only [List.mem_cons, List.not_mem_nil, or_false] at hb
        rcases hb with rfl | rfl | rfl
        · exact ⟨hcn _ h₅51 (hnone _ h₅51 (.inl hDge)), Soft.none (Heap.get?_none_of_le hDge)⟩
        · exact ⟨hcn _ h₄51 (hnone _ h₄51 (.inl (Nat.le_refl _))), Soft.none (Heap.get?_none_of_le (Nat.le_refl _))⟩
        · exact ⟨hcn _ hI51 (hnone _ hI51 (.inr rfl)), Soft.iter hI₄⟩
end
end Mine
end

section
open PySem PySem.W PyProof.Rows
set_option maxRecDepth 1000000
set_option linter.unusedVariables false
namespace Mine

def SxF (prog : Program) (w : World) (A : Around) {α : Type} (t : Sem α) (s : Shared) (O : α → Shared → Prop) : Prop := ∀ E, wpF (model prog w) A t O E s
section
variable {prog : Program} {w : World} {A : Around} {s : Shared} {env : Env} {O : Flow → Shared → Prop} {P : Value → Heap → Prop}
theorem sxF_of {t : Sem Flow} (h : Sx prog w A t s O) : SxF prog w A t s O := fun E => wpF_of (h E)

theorem sxF_assign {x : Str} {px pos : Pos} {e : Expr} {m : Str → Option Value} (hn : s.heap.Ns env.locals m) (he : PxF prog w A (eval e env) s P)
    (h : ∀ v s₁ s₂, Gr [] s s₁ → P v s₁.heap → s₂.heap.Ns env.locals (upd m x v) → Gr [env.locals] s₁ s₂ → O .next s₂)
    (hs : swapsWith e (some (.Name x px)) pos.line env = pure false := by rfl) (hk : env.scope.kind = .function := by rfl) (hl : env.kindOf x = some .local := by rfl) :
    SxF prog w A (exec (.Assign [.Name x px] e pos) env) s O := fun E => by
  rw [exec_Assign_Name env x px e pos hs]
  refine wpF_bindA (wpAny_standAt (wpF_bind (he s _ E (.refl _ _) fun v s₁ g₁ p₁ => ?_)))
  refine wpF_bindA (wpAny_standAt ?_)
  refine wpF_bindA (wpAny_bindName ?_)
  exact sx_store (hn.keeps g₁.k) (fun s₂ hn₂ g₂ => wpF_pure (h v s₁ s₂ g₁ p₁ hn₂ g₂)) hk hl E

/-- a.extend(e) -/
theorem sxF_extend {x : Str} {px apos pos pos2 : Pos} {e : Expr} {D : Addr} {b : Array UInt8} {ns : List Int} (hh : A.handled = none) (hx : Px prog w A (eval (.Name x px) env) s (IsV (.ref D))) (hD : IsBA s.heap D b)
    (he : Px prog w A (eval e env) s (fun v h => ∃ l, v = .ref l ∧ LI h l ns)) (hr : ∀ n ∈ ns, 0 ≤ n ∧ n < 256) (hz : b.size + ns.length ≤ sizeLine)
    (h : ∀ s', Gr [D] s s' → IsBA s'.heap D (b ++ byteArr ns) → O .next s')
    (hi : interactive env = false := by rfl) (hsw : swapsWith (.Call (.Attribute (.Name x px) "extend" apos) [e] [] pos) none pos2.line env = pure false := by rfl)
    (hbase : attributeBase (.Name x px) "extend" env (eval (.Name x px) env) = eval (.Name x px) env := by rfl) (hline : (apos.endLine == pos.line) = true := by rfl) (hs : starEach [e] env = [(false, eval e env)] := by rfl) :
    SxF prog w A (exec (.Expr (.Call (.Attribute (.Name x px) "extend" apos) [e] [] pos) pos2) env) s O := fun E => by
  rw [exec_Expr env _ _ hi hsw]
  refine wpF_bindA (wpAny_standAt (wpF_bind ?_))
  rw [arm_eval_Call, hbase]
  refine wpF_bindA (hx.use (.refl _ _) fun v s₁ g₁ e₁ => ?_)
  obtain rfl := e₁
  refine wpF_bindA (wpAny_standAt ?_)
  have hform : methodCallForm ([e].length + ([] : List Keyword).length) (backTo pos (starEach [e] env)) (backToKw pos (keywordEach [] env)) = true := by rw [hs]; rfl
  have hpos : methodCallPos true (.Name x px) env apos pos = pure pos := by unfold methodCallPos; simp [hline]
  unfold methodCall
  rw [hform]
  refine wpF_bindA (wpAny_holding (getMethod_ba_extend (g₁.k _ _ hD) ?_))
  refine wpF_bindA (wpAny_of_eq hpos ?_)
  refine callWithF (.inl ⟨_, rfl⟩) (by rw [hs]; rfl) ?_
  have ha := px_args1 (pos := pos) he hs
  rw [hs] at ha ⊢
  refine Calls.evalArgs_plain (ha.use g₁ fun vs s₂ g₂ p₂ => ?_)
  obtain ⟨a, rfl, l, rfl, hl⟩ := p₂
  refine ba_extend_call hh ((g₁.trans g₂).k _ _ hD) hl hr hz fun s' g' hB => ?_
  exact wpF_pure (h s' ((g₁.trans g₂).any.trans g') hB)
end
end Mine
end

section
open PySem PySem.W PyProof.Rows
set_option maxRecDepth 1000000
set_option linter.unusedVariables false
namespace Mine
variable {P : Params}

/-! what pack_rows tells of a row -/
def exN (d n : Nat) : Nat := (n + 8 / d - 1) / (8 / d) * (8 / d) - n
def padR (d : Nat) (row : List Int) : List Int := row ++ List.replicate (exN d row.length) 0
def cutsR (d : Nat) (row : List Int) : List (List Int) := (List.range ((row.length + 8 / d - 1) / (8 / d))).map (cut (padR d row) (8 / d))
def packR (d : Nat) (row : List Int) : List Int := (cutsR d row).map (numW d)
def RowOk (d : Nat) (row : List Int) : Prop := 0 < row.length ∧ row.length < 37 ∧ ∀ x ∈ row, 0 ≤ x ∧ x < 2 ^ d
def RowI (h : Heap) (v : Value) (row : List Int) : Prop := ∃ a, v = .ref a ∧ LI h a row

theorem d_cases {d : Nat} (hd : d = 1 ∨ d = 2 ∨ d = 4) : (8 / d = 2 ∨ 8 / d = 4 ∨ 8 / d = 8) ∧ d * (8 / d) = 8 ∧ 0 < d := by
  rcases hd with rfl | rfl | rfl <;> decide
theorem ceil_mul {n k : Nat} (hk : 0 < k) : n ≤ (n + k - 1) / k * k := by
  have h := Nat.div_add_mod (n + k - 1) k
  have h2 := Nat.mod_lt (n + k - 1) hk
  rw [Nat.mul_comm] at h
  omega
theorem padR_len {d : Nat} (hd : d = 1 ∨ d = 2 ∨ d = 4) (row : List Int) : (padR d row).length = (row.length + 8 / d - 1) / (8 / d) * (8 / d) := by
  have hk : 0 < 8 / d := by have := (d_cases hd).1; omega
  have := ceil_mul (n := row.length) hk
  unfold padR exN
  rw [List.length_append, List.length_replicate]
  omega
theorem padR_mem {d : Nat} {row : List Int} (h : RowOk d row) : ∀ x ∈ padR d row, 0 ≤ x ∧ x < 2 ^ d := fun x hx => by
  rcases List.mem_append.mp hx with h' | h'
  · exact h.2.2 x h'
  · rw [List.mem_replicate] at h'
    rw [h'.2]
    exact ⟨Int.le_refl _, Int.pow_pos (by decide)⟩
theorem cutsR_ok {d : Nat} (hd : d = 1 ∨ d = 2 ∨ d = 4) {row : List Int} (h : RowOk d row) : ∀ c ∈ cutsR d row, (∀ x ∈ c, 0 ≤ x ∧ x < 2 ^ d) ∧ d * c.length ≤ 8 := fun c hc => by
  obtain ⟨i, _, rfl⟩ := List.mem_map.mp hc
  refine ⟨fun x hx => padR_mem h x (List.mem_of_mem_drop (List.mem_of_mem_take hx)), ?_⟩
  have h1 : (cut (padR d row) (8 / d) i).length ≤ 8 / d := by unfold cut; rw [List.length_take]; omega
  have := Nat.mul_le_mul_left d h1
  have := (d_cases hd).2.1
  omega
theorem lt256 {d : Nat} (hd : d = 1 ∨ d = 2 ∨ d = 4) {x : Int} (h : 0 ≤ x ∧ x < 2 ^ d) : 0 ≤ x ∧ x < 256 := by
  rcases hd with rfl | rfl | rfl <;> omega

/-! the generator's own state -/
def Kp (hb : Heap) (WL : List Addr) (b : Addr) : Prop := (b ≠ 51 ∧ ∃ o, hb.get? b = some o) ∨ b ∈ WL
def WLok (WL : List Addr) (h : Heap) : Prop := ∀ b ∈ WL, Soft h b ∧ ∃ o, h.get? b = some o

structure GA (hb : Heap) (WL : List Addr) (L : Addr) : Prop where
  L0 : hb.get? L = none
  L1 : hb.get? (L + 1) = none
  L2 : hb.get? (L + 2) = none
  Lw : L ∉ WL
  L1w : L + 1 ∉ WL
  L2w : L + 2 ∉ WL
  w0 : ∀ b ∈ WL, hb.get? b = none
  L51 : L + 2 ≠ 51
structure GB (hb : Heap) (WL : List Addr) (L F it : Addr) : Prop extends GA hb WL L where
  Fw : F ∉ WL
  itw : it ∉ WL
  it0 : hb.get? it = none
  itL : it ≠ L
  itL1 : it ≠ L + 1
  itL2 : it ≠ L + 2
  itF : it ≠ F
  LF : L ≠ F

def packY (P : Params) (hb : Heap) (WL : List Addr) (d : Nat) (rows : List (List Int)) : Protocol := fun m s₀ v s' kap =>
  ∃ row D, rows[rows.length - 1 - m]? = some row ∧ v = .ref D ∧ IsBA s'.heap D (byteArr (packR d row)) ∧ Gk (Kp hb WL) [] s₀ s' ∧ Wf P s'.heap ∧
    ∀ s'', (∀ b o, b ∉ WL → s'.heap.get? b = some o → s''.heap.get? b = some o) → Wf P s''.heap → WLok WL s''.heap → kap (.send .none) s''
def packEnd (P : Params) (hb : Heap) (WL : List Addr) : Nat → Shared → Shared → Prop := fun n s₀ s₁ => n = 0 ∧ Gk (Kp hb WL) [] s₀ s₁ ∧ Wf P s₁.heap

structure GI (P : Params) (hb : Heap) (WL : List Addr) (L R F it : Addr) (d : Nat) (t : Tok) (i : Nat) (s₀ s : Shared) (m : Str → Option Value) : Prop where
  gk : Gk (Kp hb WL) [] s₀ s
  wf : Wf P s.heap
  base : ∀ b o, b ≠ 51 → hb.get? b = some o → s.heap.get? b = some o
  ns : s.heap.Ns L m
  spb : ∃ u, m (Str.ofString "spb") = some (.int ((8 / d : Nat) : Int) u)
  c1 : s.heap.IsCell (L + 1) (some (.int d t))
  c2 : s.heap.IsCell (L + 2) (some (.ref F))
  mb : MbAt s.heap F (L + 1)
  wl : WLok WL s.heap
  it : s.heap.IsListIter it R i

theorem Soft.ns {h : Heap} {L : Addr} {m} (x : h.Ns L m) : Soft h L := fun o e => by
  obtain ⟨o', es, ep, e', hd, _⟩ := x
  rw [e] at e'; cases e'
  exact ⟨fun q => (by rw [hd] at q; cases q), fun vs q t _ q' => (by rw [hd] at q'; cases q')⟩
theorem Soft.but {h h' : Heap} {a : Addr} (x : Soft h a) (e : h'.get? a = h.get? a) : Soft h' a := fun o e' => x o (e ▸ e')

section
variable {hb : Heap} {WL : List Addr} {L R F it : Addr} {d : Nat} {t : Tok} {i j : Nat} {s₀ s s' : Shared} {m m' : Str → Option Value}

theorem WLok.keep {h h' : Heap} (x : WLok WL h) (k : ∀ b o, b ∈ WL → h.get? b = some o → h'.get? b = some o) : WLok WL h' := fun b hb => by
  obtain ⟨x1, o, e⟩ := x b hb
  have e' := k b o hb e
  exact ⟨x1.but (e'.trans e.symm), o, e'⟩

/-- a step that writes the frame or the iterator alone -/
theorem GI.step (B : Wf P hb) (G : GB hb WL L F it) (x : GI P hb WL L R F it d t i s₀ s m) {W : List Addr} (hW : ∀ b ∈ W, b = L ∨ b = it) (g : Gr W s s') (hn : s'.heap.Ns L m') (hs : ∃ u, m' (Str.ofString "spb") = some (.int ((8 / d : Nat) : Int) u))
    (hit : s'.heap.IsListIter it R j) : GI P hb WL L R F it d t j s₀ s' m' where
  gk := x.gk.trans (Gk.of g (fun b hb' hm => by
    rcases hb' with ⟨_, o, e⟩ | hw
    · rcases hW b hm with rfl | rfl
      · rw [G.L0] at e; cases e
      · rw [G.it0] at e; cases e
    · rcases hW b hm with rfl | rfl
      · exact G.Lw hw
      · exact G.itw hw) rfl)
  wf := Wf.butL B x.wf (W := W) (fun b hb' => by
    rcases hW b hb' with rfl | rfl
    · exact ⟨G.L0, Soft.ns x.ns⟩
    · exact ⟨G.it0, Soft.iter x.it⟩) g.keep
  base := fun b o h51 e => g.keep b o (fun hm => by
    rcases hW b hm with rfl | rfl
    · rw [G.L0] at e; cases e
    · rw [G.it0] at e; cases e) (x.base b o h51 e)
  ns := hn
  spb := hs
  c1 := by
    obtain ⟨o, e, dd⟩ := x.c1
    exact ⟨o, g.keep _ o (fun hm => by rcases hW _ hm with q | q; exact absurd q (Nat.succ_ne_self _); exact G.itL1 q.symm) e, dd⟩
  c2 := by
    obtain ⟨o, e, dd⟩ := x.c2
    exact ⟨o, g.keep _ o (fun hm => by rcases hW _ hm with q | q; exact absurd q (by show L + 2 ≠ L; exact Nat.ne_of_gt (Nat.lt_add_of_pos_right (by decide))); exact G.itL2 q.symm) e, dd⟩
  mb := x.mb.keep (W := W) (fun b hb' => by
    rcases hW b hb' with rfl | rfl
    · exact ⟨Soft.ns x.ns, G.LF⟩
    · exact ⟨Soft.iter x.it, G.itF⟩) g.keep
  wl := x.wl.keep fun b o hb' e => g.keep b o (fun hm => by
    rcases hW b hm with rfl | rfl
    · exact G.Lw hb'
    · exact G.itw hb') e
  it := hit
/-- a step that writes the frame alone, or nothing -/
theorem GI.loc (B : Wf P hb) (G : GB hb WL L F it) (x : GI P hb WL L R F it d t i s₀ s m) (g : Gr [L] s s') (hn : s'.heap.Ns L m') (hs : ∃ u, m' (Str.ofString "spb") = some (.int ((8 / d : Nat) : Int) u)) : GI P hb WL L R F it d t i s₀ s' m' :=
  x.step B G (W := [L]) (fun b hb' => .inl (by simpa using hb')) g hn hs (by
    obtain ⟨o, e, r⟩ := x.it
    exact ⟨o, g.keep _ o (by simpa using G.itL) e, r⟩)

structure NewD (hb : Heap) (WL : List Addr) (L F it D : Addr) : Prop where
  h0 : hb.get? D = none
  w : D ∉ WL
  l0 : L ≠ D
  l1 : L + 1 ≠ D
  l2 : L + 2 ≠ D
  f : F ≠ D
  i : it ≠ D
theorem GI.newD (x : GI P hb WL L R F it d t i s₀ s m) {D : Addr} (h : s.heap.get? D = none) : NewD hb WL L F it D := by
  have ne : ∀ {b o}, s.heap.get? b = some o → b ≠ D := fun e => live_ne e h
  refine ⟨?_, fun q => ?_, ?_, ?_, ?_, ?_, ?_⟩
  · cases e : hb.get? D with
    | none => rfl
    | some o =>
      have h51 : D ≠ 51 := fun q => by
        obtain ⟨_, _, a, _⟩ := x.wf.tab
        rw [q, a.2] at h; cases h
      rw [x.base D o h51 e] at h; cases h
  · obtain ⟨_, o, e⟩ := x.wl D q; exact ne e rfl
  · obtain ⟨o, _, _, e, _⟩ := x.ns; exact ne e
  · obtain ⟨o, e, _⟩ := x.c1; exact ne e
  · obtain ⟨o, e, _⟩ := x.c2; exact ne e
  · obtain ⟨_, _, _, e, _⟩ := x.mb; exact ne e
  · obtain ⟨o, e, _⟩ := x.it; exact ne e
theorem Soft.ba {h : Heap} {D : Addr} {b : Array UInt8} (x : IsBA h D b) : Soft h D := fun o e => by
  have x' : h.get? D = some _ := x
  rw [e] at x'; cases x'
  exact ⟨fun q => (by cases q), fun vs q t _ q' => (by cases q')⟩
theorem GI.stepD (B : Wf P hb) (x : GI P hb WL L R F it d t i s₀ s m) {D : Addr} (N : NewD hb WL L F it D) (hs : Soft s.heap D) (g : Gr [D] s s') : GI P hb WL L R F it d t i s₀ s' m := by
  have k : ∀ b o, b ≠ D → s.heap.get? b = some o → s'.heap.get? b = some o := fun b o h e => g.keep b o (by simpa using h) e
  refine ⟨x.gk.trans (Gk.of g (fun b hb' hm => ?_) rfl), Wf.butL B x.wf (W := [D]) (fun b hb' => ?_) g.keep, fun b o h51 e => k b o (fun q => by rw [q, N.h0] at e; cases e) (x.base b o h51 e), ?_, x.spb, ?_, ?_, x.mb.keep (W := [D]) (fun b hb' => ?_) g.keep, x.wl.keep fun b o hb' e => k b o (fun q => N.w (q ▸ hb')) e, ?_⟩
  · rw [List.mem_singleton] at hm
    subst hm
    rcases hb' with ⟨_, o, e⟩ | hw
    · rw [N.h0] at e; cases e
    · exact N.w hw
  · rw [List.mem_singleton] at hb'
    subst hb'
    exact ⟨N.h0, hs⟩
  · obtain ⟨o, es, ep, e, r⟩ := x.ns
    exact ⟨o, es, ep, k _ _ N.l0 e, r⟩
  · obtain ⟨o, e, r⟩ := x.c1
    exact ⟨o, k _ _ N.l1 e, r⟩
  · obtain ⟨o, e, r⟩ := x.c2
    exact ⟨o, k _ _ N.l2 e, r⟩
  · rw [List.mem_singleton] at hb'
    subst hb'
    exact ⟨hs, fun q => N.f q.symm⟩
  · obtain ⟨o, e, r⟩ := x.it
    exact ⟨o, k _ _ N.i e, r⟩
end
end Mine
end

section
open PySem PySem.W PyProof.Rows
set_option maxRecDepth 1000000
set_option linter.unusedVariables false
namespace Mine
variable {P : Params}
section
variable {prog : Program} {w : World} {A : Around} {hb : Heap} {WL : List Addr} {L R F it : Addr} {d : Nat} {t : Tok} {i : Nat} {s₀ s : Shared} {m : Str → Option Value} {rows : List (List Int)} {rowsV : Array Value}

noncomputable def ltarget : Expr := match loopStmt with | .For t _ _ _ _ => t | _ => .Name "" ⟨0, 0, 0, 0⟩
noncomputable abbrev floop (L it : Addr) : Code := .forLoop ltarget (.ref it) loopB [] (env56 L)
noncomputable abbrev ffunc (L : Addr) : Code := .func (bodyOf (fn 56)) (env56 L)
abbrev outK : Flow → Sem Fin := fun f => .pure (.done (.ret (match f with | .ret v => v | _ => .none)))
noncomputable abbrev oframe (L : Addr) (H : Value → Sem Fin) (gd : Bool → Bool) (lv : List Value → List Value) (p : Pos) : Frame := .ret (ownK (env56 L) outK H gd lv) none (gd false) (lv []) (ffunc L) p []
abbrev Rend (P : Params) (hb : Heap) (WL : List Addr) : GenEnd := fun n s₀ r s₁ => r = .ok (.ret .none) ∧ packEnd P hb WL n s₀ s₁

theorem PxF.mono {α : Type} {t : Sem α} {P P' : α → Heap → Prop} {s₀ : Shared} (x : PxF prog w A t s₀ P) (h : ∀ v s, Gr [] s₀ s → P v s.heap → P' v s.heap) : PxF prog w A t s₀ P' := fun s Q E g k => x s Q E g fun v s' g' p => k v s' g' (h v s' (g.trans g') p)
theorem segF_stmtX {R : GenEnd} {Y : Protocol} {n : Nat} {c : Code} {fs : List Frame} {env : Env} {K : Flow → Sem Fin} {H : Value → Sem Fin} {gd : Bool → Bool} {lv : List Value → List Value} {st : Stmt} {rest : List Stmt} (hc : okc c = true) (hfs : FreeB (fs.map Frame.where_))
    (h : SxF prog w (A.over c fs) (exec st env) s (fun f s' => f = .next ∧ SegF (model prog w) A R Y n s₀ c ((execs rest env).wrap K H gd lv) fs s')) :
    SegF (model prog w) A R Y n s₀ c ((execs (st :: rest) env).wrap K H gd lv) fs s := segF_stmt hc hfs (h _)
theorem oframe_free {H gd lv p} : FreeB ([oframe L H gd lv p].map Frame.where_) := fun x hx => by
  simp only [List.map_cons, List.map_nil, List.mem_cons, List.not_mem_nil, or_false] at hx
  subst hx; rfl

/-- what is known of the rows, where the generator is made -/
structure RowsAt (hb : Heap) (R : Addr) (rowsV : Array Value) (d : Nat) (rows : List (List Int)) : Prop where
  l : hb.IsList R rowsV
  r : All2 (RowI hb) rowsV.toList rows
  ok : ∀ row ∈ rows, RowOk d row
  n : rows.length ≤ 1000

theorem Wf.list_at {h hb : Heap} (B : Wf P hb) (k : ∀ b o, b ≠ 51 → hb.get? b = some o → h.get? b = some o) {R : Addr} {xs : Array Value} (x : hb.IsList R xs) : h.IsList R xs := by
  obtain ⟨o, e, hc, n, hd⟩ := x
  exact ⟨o, k _ _ (B.ne51d e (fun vs q => by rw [hd] at q; cases q)) e, hc, n, hd⟩

theorem Wf.ne51c {h : Heap} (X : Wf P h) {b : Addr} {o : Obj} (e : h.get? b = some o) (hd : o.cls ≠ .none) : b ≠ 51 := fun q => by
  obtain ⟨ps, _, a2, _⟩ := X.tab
  have := a2.2
  rw [← q, e] at this
  cases this
  exact hd rfl
theorem WL51 (B : Wf P hb) (G : GA hb WL L) {b : Addr} (h : b ∈ WL) : b ≠ 51 := fun q => by
  obtain ⟨ps, _, a2, _⟩ := B.tab
  have := G.w0 b h
  rw [q, a2.2] at this; cases this

/-- the state at the next turn, when the consumer has kept what is not its own -/
theorem GI.wake (B : Wf P hb) (G : GB hb WL L F it) {s' s'' : Shared} (x : GI P hb WL L R F it d t i s₀ s m) (g : Gk (· ≠ 51) [] s s') (k : ∀ b o, b ∉ WL → s'.heap.get? b = some o → s''.heap.get? b = some o) (X : Wf P s''.heap) (hw : WLok WL s''.heap) :
    GI P hb WL L R F it d t i s'' s'' m := by
  have up : ∀ b o, b ≠ 51 → b ∉ WL → s.heap.get? b = some o → s''.heap.get? b = some o := fun b o h1 h2 e => k b o h2 (g.keep b o h1 e)
  refine ⟨Gk.refl, X, fun b o h1 e => up b o h1 (fun hm => by rw [G.w0 b hm] at e; cases e) (x.base b o h1 e), ?_, x.spb, ?_, ?_, ?_, hw, ?_⟩
  · obtain ⟨o, es, ep, e, hd, r⟩ := x.ns
    exact ⟨o, es, ep, up _ _ (x.wf.ne51d e (fun vs q => by rw [hd] at q; cases q)) G.Lw e, hd, r⟩
  · obtain ⟨o, e, hd⟩ := x.c1
    exact ⟨o, up _ _ (x.wf.ne51d e (fun vs q => by rw [hd] at q; cases q)) G.L1w e, hd⟩
  · obtain ⟨o, e, hd⟩ := x.c2
    exact ⟨o, up _ _ (x.wf.ne51d e (fun vs q => by rw [hd] at q; cases q)) G.L2w e, hd⟩
  · have h1 : MbAt s'.heap F (L + 1) := x.mb.but51 x.wf fun b o hb e => g.keep b o hb e
    have hw' := x.wl.keep fun b o hb e => g.keep b o (WL51 B G.toGA hb) e
    exact h1.keep (W := WL) (fun b hb' => ⟨(hw' b hb').1, fun q => G.Fw (q ▸ hb')⟩) k
  · obtain ⟨o, e, hc, hd⟩ := x.it
    exact ⟨o, up _ _ (x.wf.ne51c e (by rw [hc]; exact fun q => by cases q)) G.itw e, hc, hd⟩

theorem pack_turn (B : Wf P hb) (G : GB hb WL L F it) (hd : d = 1 ∨ d = 2 ∨ d = 4) (hh : A.handled = none) (hA : A.depth < 800) (RA : RowsAt hb R rowsV d rows) {n : Nat} {H gd lv p} (hgd : gd false = false) {v : Value} {row : List Int} (hrow : rows[rows.length - 1 - n]? = some row) (hv : RowI hb v row)
    (x : GI P hb WL L R F it d t i s₀ s m) {H' : Value → Sem Fin} {gd' lv'} (hgd' : gd' false = false) (hm : m (Str.ofString "row") = some v)
    (next : ∀ s' , (∃ m', GI P hb WL L R F it d t i s' s' m') → SegF (model prog w) A (Rend P hb WL) (packY P hb WL d rows) n s' (floop L it) ((model prog w).den (floop L it)) [oframe L H gd lv p] s') :
    SegF (model prog w) A (Rend P hb WL) (packY P hb WL d rows) (n + 1) s₀ (floop L it) ((execs loopB (env56 L)).wrap (fun f => match f with
            | .next | .cont => .pure (.again (floop L it))
            | .brk => .pure (.done .next)
            | .ret v => .pure (.done (.ret v))) H' gd' lv') [oframe L H gd lv p] s := by
  have hh' : (A.over (floop L it) [oframe L H gd lv p]).handled = none := hh
  have hA' : (A.over (floop L it) [oframe L H gd lv p]).depth < 900 := by
    have : (A.over (floop L it) [oframe L H gd lv p]).depth = A.depth + 1 := rfl
    omega
  have hk := (d_cases hd).1
  have hd0 := (d_cases hd).2.2
  have hok : RowOk d row := RA.ok row (List.mem_of_getElem? hrow)
  obtain ⟨ar, rfl, hlr⟩ := hv
  have hlr_at : ∀ {h}, (∀ b o, b ≠ 51 → hb.get? b = some o → h.get? b = some o) → LI h ar row := fun {h} k => by
    obtain ⟨vs, hl, hi⟩ := hlr
    exact ⟨vs, B.list_at k hl, hi⟩
  obtain ⟨usp, hsp⟩ := x.spb
  have hLlive := ns_live x.ns
  -- the row as a bytearray
  refine segF_stmtX rfl oframe_free (sxF_assign x.ns (pxF_callT1 (px_bi x.wf.w) (px_local x.ns hm) fun a s' g' e => by
    subst e
    exact (px_ba_list (hlr_at fun b o h1 e => g'.k _ _ (x.base b o h1 e)) (fun y hy => lt256 hd (hok.2.2 y hy)) (by rw [sizeLine_eq]; have := hok.2.1; omega)).mono (P' := fun v h => ∃ D, v = .ref D ∧ s.heap.get? D = none ∧ IsBA h D (byteArr row))
      fun v s'' g'' ⟨D, e1, e2, e3⟩ => ⟨D, e1, noneBack g' e2, e3⟩) (fun v s₁ s₂ g₁ p₁ hn₂ g₂ => ⟨rfl, ?_⟩))
  obtain ⟨D, rfl, hD0, hD₁⟩ := p₁
  have x₂ := x.loc B G (g₁.any.trans g₂) hn₂ ⟨usp, by exact hsp⟩
  have hDL : D ≠ L := fun q => by obtain ⟨o, e⟩ := hLlive L (by simp); rw [q, e] at hD0; cases hD0
  have hD₂ : IsBA s₂.heap D (byteArr row) := g₂.keep _ _ (fun q => hDL (List.mem_singleton.mp q)) hD₁
  -- its length as a float
  refine segF_stmtX rfl oframe_free (sxF_of (sx_assign x₂.ns (px_flen hk (px_bi x₂.wf.w) (px_bi x₂.wf.w) (px_local x₂.ns (by simp [upd] <;> rfl)) hD₂ (by rw [byteArr_size]; exact hok.2.1)) (fun v s₃ s₄ g₃ p₃ hn₄ g₄ => ⟨rfl, ?_⟩)))
  rw [byteArr_size] at p₃
  obtain ⟨tn, rfl⟩ := p₃
  have x₄ := x₂.loc B G (g₃.any.trans g₄) hn₄ ⟨usp, by exact hsp⟩
  -- extra
  refine segF_stmtX rfl oframe_free (sxF_of (sx_assign x₄.ns (px_extra hh' hk hok.2.1 (px_glob x₄.wf.w) ((px_local x₄.ns (by simp [upd] <;> rfl)).mono fun v s' _ e => ⟨tn, e⟩) ((px_local x₄.ns (by exact hsp)).mono fun v s' _ e => ⟨usp, e⟩) ((px_local x₄.ns (by exact hsp)).mono fun v s' _ e => ⟨usp, e⟩) ((px_local x₄.ns (by simp [upd] <;> rfl)).mono fun v s' _ e => ⟨tn, e⟩)) (fun v s₅ s₆ g₅ p₅ hn₆ g₆ => ⟨rfl, ?_⟩)))
  obtain ⟨te, rfl⟩ := p₅
  have x₆ := x₄.loc B G (g₅.any.trans g₆) hn₆ ⟨usp, by exact hsp⟩
  have g₂₆ : Gr [L] s₂ s₆ := ((g₃.any.trans g₄).trans g₅.any).trans g₆
  have hD₆ : IsBA s₆.heap D (byteArr row) := g₂₆.keep _ _ (fun q => hDL (List.mem_singleton.mp q)) hD₂
  -- the noughts at the end
  have hex : exN d row.length < 37 := by
    have := ceil_mul (n := row.length) (k := 8 / d) (by omega)
    have h1 := Nat.div_mul_le_self (row.length + 8 / d - 1) (8 / d)
    have := hok.2.1
    unfold exN
    omega
  refine segF_stmtX rfl oframe_free (sxF_extend hh' (px_local x₆.ns (by simp [upd] <;> rfl)) hD₆ (ns := List.replicate (exN d row.length) 0) (px_BinOp (px_list1 (P := IsI 0) px_int (fun v h h' _ q => q)) (P₂ := fun x y h => (∃ l z, x = .ref l ∧ IsLst h l #[z] 0 ∧ IsI 0 z h) ∧ IsI (exN d row.length : Nat) y h)
      (fun v s' g p => ((px_intex hk hok.2.1 (px_bi (x₆.wf.w.keeps g.k)) ((px_local (x₆.ns.keeps g.k) (by simp [upd] <;> rfl)).mono fun v s' _ e => ⟨te, e⟩)).mono fun y s'' g'' q => ⟨by
        obtain ⟨l, z, e, hl, hz⟩ := p
        exact ⟨l, z, e, g''.k _ _ hl, hz⟩, q⟩))
      fun v y s' g p => fun s'' Q E g'' k => by
        obtain ⟨⟨l, z, rfl, hl, tz, rfl⟩, ty, rfl⟩ := p
        refine mulList1 (g''.k _ _ hl) rfl (by omega) (k _ _ (.heap0 fun b o e => Heap.get?_push_of_some _ e) ⟨_, rfl, List.replicate (exN d row.length) (.int 0 tz), ⟨_, Heap.get?_push_size _ rfl, rfl, 0, by simp⟩, ?_⟩)
        generalize exN d row.length = nn
        induction nn with
        | zero => exact .nil
        | succ nn ih => rw [List.replicate_succ, List.replicate_succ]; exact .cons 0 tz ih)
    (fun y hy => by rw [List.mem_replicate] at hy; rw [hy.2]; decide) (by rw [byteArr_size, List.length_replicate, sizeLine_eq]; have := hok.2.1; omega) (fun s₇ g₇ hD₇ => ⟨rfl, ?_⟩))
  rw [byteArr_append] at hD₇
  replace hD₇ : IsBA s₇.heap D (byteArr (padR d row)) := hD₇
  have x₇ := x₆.stepD B (x.newD hD0) (Soft.ba hD₆) g₇
  -- the groups
  refine segF_stmtX rfl oframe_free (sxF_of (sx_assign x₇.ns (px_call2 (px_glob x₇.wf.w) (px_local x₇.ns (by simp [upd] <;> rfl)) (P₂ := fun a b h => a = .ref D ∧ IsI ((8 / d : Nat) : Int) b h) (fun a s' g' e => (px_local (x₇.ns.keeps g'.k) (by exact hsp)).mono fun v s'' _ q => ⟨e, usp, q⟩) (fun a b s' g' p => ?_) (.inr (.inr ⟨49, _, _, rfl, fn49 x₇.wf.w, rfl⟩)))
    (P := GroupOut (padR d row) (8 / d) ((row.length + 8 / d - 1) / (8 / d))) (fun v s₈ s₉ g₈ p₈ hn₉ g₉ => ⟨rfl, ?_⟩)))
  · obtain ⟨rfl, u, rfl⟩ := p
    refine px_group (x₇.wf.w.keeps g'.k) hh' hA' hk (g'.k _ _ hD₇) (fun y hy => lt256 hd (padR_mem hok y hy)) (padR_len hd row) ?_ ?_
    · have : 8 / d ≤ row.length + 8 / d - 1 := by have := hok.1; omega
      exact Nat.div_pos this (by omega)
    · have := Nat.div_le_self (row.length + 8 / d - 1) (8 / d)
      have := hok.2.1
      omega
  obtain ⟨S, acc, cc, rfl, hS₈, hac₈⟩ := p₈
  have x₉ := x₇.loc B G (g₈.any.trans g₉) hn₉ ⟨usp, by exact hsp⟩
  have keep₉ : ∀ {b o}, s₈.heap.get? b = some o → b ≠ L → s₉.heap.get? b = some o := fun {b o} e h => g₉.keep b o (fun q => h (List.mem_singleton.mp q)) e
  obtain ⟨oL, esL, epL, eL, hdL, _⟩ := x₇.ns.keeps g₈.k
  have neL : ∀ {b o}, s₈.heap.get? b = some o → (∀ es ep, o.data ≠ .dict es ep) → b ≠ L := fun {b o} e h q => by
    subst q
    have eL' : s₈.heap.get? b = some oL := eL
    rw [eL'] at e; cases e; exact h _ _ hdL
  have hS₉ : IsLst s₉.heap S acc cc := keep₉ hS₈ (neL hS₈ (fun _ _ q => by cases q))
  have hac₉ : All2 (TupI s₉.heap) acc.toList (cutsR d row) := hac₈.mono fun v c ⟨T, items, e, eT, hi⟩ => ⟨T, items, e, keep₉ eT (neL eT (fun _ _ q => by cases q)), hi⟩
  -- the yield
  have hz : (cutsR d row).length ≤ 1000 := by
    unfold cutsR
    rw [List.length_map, List.length_range]
    have := Nat.div_le_self (row.length + 8 / d - 1) (8 / d)
    have := hok.2.1
    omega
  refine segF_last (segF_Expr_Yield rfl oframe_free rfl hgd' (by simp [Frame.guarded, hgd]) (eval_yieldE B x₉.wf x₉.base hh' hA' x₉.ns (by rfl) hS₉ hac₉ (cutsR_ok hd hok) hd0 hz x₉.c2 x₉.mb x₉.c1 fun D' s' gk hX hD' hB' kap hkap => ?_))
  refine ⟨row, D', hrow, rfl, hB', x₉.gk.trans (gk.mono (fun b hb' => ?_) (.inl rfl) (fun _ _ h => nomatch h)), hX, fun s'' k X'' hw => hkap .none s'' (segF_again rfl (next s'' ⟨_, x₉.wake B G gk k X'' hw⟩))⟩
  rcases hb' with ⟨h, _⟩ | h
  · exact h
  · exact WL51 B G.toGA h

/-- the loop of pack_rows, from turn i on -/
theorem pack_loop (B : Wf P hb) (G : GB hb WL L F it) (hd : d = 1 ∨ d = 2 ∨ d = 4) (hh : A.handled = none) (hA : A.depth < 800) (RA : RowsAt hb R rowsV d rows) {H gd lv p} (hgd : gd false = false) :
    ∀ (n i : Nat) (s₀ s : Shared) (m : Str → Option Value), rows.length - i = n → i ≤ rows.length → GI P hb WL L R F it d t i s₀ s m →
      SegF (model prog w) A (Rend P hb WL) (packY P hb WL d rows) n s₀ (floop L it) ((model prog w).den (floop L it)) [oframe L H gd lv p] s := by
  have hlen : rowsV.size = rows.length := by simpa using RA.r.1
  intro n
  induction n with
  | zero =>
    intro i s₀ s m hn hi x
    have hin : i = rows.length := by omega
    refine segF_forLoop oframe_free (wpF_of (wpAny_pyNext_list_end (s := s) hh x.it (B.list_at x.base RA.l) (Array.getElem?_eq_none (by omega)) fun h' hs' => ?_))
    have g : Gr [it] s { s with heap := h' } := .heap (tk := s.toks) fun b o hb' e => hs' b o (by simpa using hb') e
    refine segF_block_end (segF_func_end ⟨rfl, rfl, x.gk.trans (Gk.of g (fun b hb' hm => ?_) rfl), ?_⟩)
    · rw [List.mem_singleton] at hm
      subst hm
      rcases hb' with ⟨_, o, e⟩ | hw
      · rw [G.it0] at e; cases e
      · exact G.itw hw
    · refine Wf.butL B x.wf (W := [it]) (fun b hb' => ?_) g.keep
      rw [List.mem_singleton] at hb'
      subst hb'
      exact ⟨G.it0, Soft.iter x.it⟩
  | succ n ih =>
    intro i s₀ s m hn hi x
    have hlt : i < rows.length := by omega
    refine segF_forLoop oframe_free (wpF_of (wpAny_pyNext_list_item (s := s) x.it (B.list_at x.base RA.l) (Array.getElem?_eq_getElem (by omega)) fun h' hit' hs' => ?_))
    have g : Gr [it] s { s with heap := h' } := .heap (tk := s.toks) fun b o hb' e => hs'.extBut b o (by simpa using hb') e
    have x₁ : GI P hb WL L R F it d t (i + 1) s₀ { s with heap := h' } m := x.step B G (W := [it]) (fun b hb' => .inr (by simpa using hb')) g (by
      obtain ⟨o, es, ep, e, r⟩ := x.ns
      exact ⟨o, es, ep, g.keep _ o (fun q => G.itL (List.mem_singleton.mp q).symm) e, r⟩) x.spb hit'
    refine wpF_of (sx_bind (env := env56 L) x₁.ns (fun s₂ hn₂ g₂ => ?_) rfl rfl NoE)
    have hrow : rows[rows.length - 1 - n]? = some (rows[i]'hlt) := by
      rw [show rows.length - 1 - n = i by omega]
      exact List.getElem?_eq_getElem hlt
    intro H' gd' lv' hgd'
    refine pack_turn B G hd hh hA RA hgd hrow (RA.r.2 i _ _ (by rw [Array.getElem?_toList]; exact Array.getElem?_eq_getElem (by omega)) (List.getElem?_eq_getElem hlt)) (x₁.loc B G g₂ hn₂ (by obtain ⟨u, e⟩ := x₁.spb; exact ⟨u, e⟩)) hgd' (by rfl) fun s' ⟨m', x'⟩ => ih (i + 1) s' s' m' (by omega) hlt x'
end
end Mine
end

section
open PySem PySem.W PyProof.Rows
set_option maxRecDepth 1000000
set_option linter.unusedVariables false
namespace Mine
variable {P : Params}
section
variable {prog : Program} {w : World} {A : Around} {hb : Heap} {WL : List Addr} {L R F it : Addr} {d : Nat} {t : Tok} {i : Nat} {s₀ s : Shared} {m : Str → Option Value} {rows : List (List Int)} {rowsV : Array Value}

theorem sx_assert {env : Env} {test : Expr} {msg : Option Expr} {pos : Pos} {O : Flow → Shared → Prop} (ht : Px prog w A (isTrue test env (eval test env)) s (fun c _ => c = true)) (h : ∀ s₁, Gr [] s s₁ → O .next s₁) :
    Sx prog w A (exec (.Assert test msg pos) env) s O := fun E => by
  show wpAny _ A (do standAt pos; if ← isTrue test env (eval test env) then pure .next else assertFails test.pos (evalOpt msg env)) _ _ s
  refine wpAny_bind (wpAny_standAt (wpAny_bind (ht.use (.refl _ _) fun c s₁ g₁ e => ?_)))
  subst e
  exact wpAny_pure (h s₁ g₁)

/-- the body of pack_rows, from its start on -/
theorem pack_body (B : Wf P hb) (G : GA hb WL L) (hd : d = 1 ∨ d = 2 ∨ d = 4) (hh : A.handled = none) (hA : A.depth < 800) (RA : RowsAt hb R rowsV d rows)
    (X : Wf P s₀.heap) (base : ∀ b o, b ≠ 51 → hb.get? b = some o → s₀.heap.get? b = some o) (hn : s₀.heap.Ns L m) (hm : m (Str.ofString "rows") = some (.ref R))
    (c1 : s₀.heap.IsCell (L + 1) (some (.int d t))) (c2 : s₀.heap.IsCell (L + 2) none) (hw : WLok WL s₀.heap) :
    SegF (model prog w) A (Rend P hb WL) (packY P hb WL d rows) rows.length s₀ (ffunc L) ((model prog w).den (ffunc L)) [] s₀ := by
  have hf : FreeB (([] : List Frame).map Frame.where_) := fun x hx => nomatch hx
  refine segF_func hf fun H gd lv hgd => ?_
  have hh' : (A.over (ffunc L) []).handled = none := hh
  -- the first assertion
  refine segF_stmtX rfl hf (sxF_of (sx_assert ((px_tlt (a := (d : Int)) (b := 8) ((px_cell rfl c1).mono fun v s' _ e => ⟨t, e⟩) px_int).mono fun c s' _ e => by
    rw [e]; exact decide_eq_true (by omega)) fun s₁ g₁ => ⟨rfl, ?_⟩))
  have c1₁ := c1.keeps g₁.k
  -- the second assertion
  refine segF_stmtX rfl hf (sxF_of (sx_assert ((px_teq (a := (8 : Int).fmod d) (b := 0) (px_mod px_int ((px_cell rfl c1₁).mono fun v s' _ e => ⟨t, e⟩) (by omega)) px_int).mono fun c s' _ e => by
    rw [e]; rcases hd with rfl | rfl | rfl <;> rfl) fun s₂ g₂ => ⟨rfl, ?_⟩))
  have c1₂ := c1₁.keeps g₂.k
  have X₂ := (X.keeps g₁.k).keeps g₂.k
  -- spb
  refine segF_stmtX rfl hf (sxF_of (sx_assign ((hn.keeps g₁.k).keeps g₂.k) (px_spb hd (px_bi X₂.w) px_int ((px_cell rfl c1₂).mono fun v s' _ e => ⟨t, e⟩)) fun v s₃ s₄ g₃ p₃ hn₄ g₄ => ⟨rfl, ?_⟩))
  obtain ⟨u, rfl⟩ := p₃
  have g₀₄ : Gr [L] s₀ s₄ := ((g₁.any.trans g₂.any).trans g₃.any).trans g₄
  have X₄ : Wf P s₄.heap := Wf.butL B X (W := [L]) (fun b hb' => by
    rw [List.mem_singleton] at hb'
    subst hb'
    exact ⟨G.L0, Soft.ns hn⟩) g₀₄.keep
  have c1₄ : s₄.heap.IsCell (L + 1) (some (.int d t)) := by
    obtain ⟨o, e, r⟩ := c1
    exact ⟨o, g₀₄.keep _ o (fun q => absurd (List.mem_singleton.mp q) (Nat.succ_ne_self _)) e, r⟩
  have nL2 : L + 2 ≠ L := Nat.ne_of_gt (Nat.lt_add_of_pos_right (by decide))
  have c2₄ : s₄.heap.IsCell (L + 2) none := by
    obtain ⟨o, e, r⟩ := c2
    exact ⟨o, g₀₄.keep _ o (fun q => absurd (List.mem_singleton.mp q) nL2) e, r⟩
  have base₄ : ∀ b o, b ≠ 51 → hb.get? b = some o → s₄.heap.get? b = some o := fun b o h e => g₀₄.keep b o (fun q => by rw [List.mem_singleton.mp q, G.L0] at e; cases e) (base b o h e)
  have wl₄ : WLok WL s₄.heap := hw.keep fun b o hb' e => g₀₄.keep b o (fun q => G.Lw (List.mem_singleton.mp q ▸ hb')) e
  -- def make_byte
  refine segF_stmt rfl hf (wpF_of (exec_mb B G.L2 X₄ c2₄ G.L51 fun F h₅ tk₅ k₅ hF0 c2₅ mb₅ X₅ => ⟨rfl, ?_⟩))
  have ne51 : ∀ {b o}, s₄.heap.get? b = some o → (∀ vs, o.data ≠ .fields vs) → b ≠ 51 := fun e h => X₄.ne51d e h
  have hn₅ : h₅.Ns L (upd m (Str.ofString "spb") (.int ((8 / d : Nat) : Int) u)) := by
    obtain ⟨o, es, ep, e, hdd, r⟩ := hn₄
    have hLL : L ≠ L + 2 := nL2.symm
    exact ⟨o, es, ep, k₅ _ _ (ne51 e (fun vs q => by rw [hdd] at q; cases q)) hLL e, hdd, r⟩
  have c1₅ : h₅.IsCell (L + 1) (some (.int d t)) := by
    obtain ⟨o, e, r⟩ := c1₄
    exact ⟨o, k₅ _ _ (ne51 e (fun vs q => by rw [r] at q; cases q)) (Nat.ne_of_lt (Nat.lt_succ_self _)) e, r⟩
  have base₅ : ∀ b o, b ≠ 51 → hb.get? b = some o → h₅.get? b = some o := fun b o h e => k₅ b o h (fun q => by rw [q, G.L2] at e; cases e) (base₄ b o h e)
  have wl₅ : WLok WL h₅ := wl₄.keep fun b o hb' e => k₅ b o (WL51 B G hb') (fun q => G.L2w (q ▸ hb')) e
  have hFw : F ∉ WL := fun q => by obtain ⟨_, o, e⟩ := wl₄ F q; rw [hF0] at e; cases e
  have hLF : L ≠ F := fun q => by
    obtain ⟨o, _, _, e, _⟩ := hn₄
    have e' : s₄.heap.get? L = some o := e
    rw [q, hF0] at e'; cases e'
  -- the loop
  refine segF_last (segF_For rfl hf (wpF_of ((px_local (s₀ := { s₄ with heap := h₅, toks := tk₅ }) (env := env56 L) hn₅ (by exact hm)).use (.refl _ _) fun v s₆ g₆ e₆ => wpF_of ?_)))
  obtain rfl := e₆
  have hR₆ : s₆.heap.IsList R rowsV := B.list_at (fun b o h e => g₆.k b o (base₅ b o h e)) RA.l
  refine wpAny_pyIter_list hR₆ fun p => ?_
  have g₇ : Gr [] { s₄ with heap := h₅, toks := tk₅ } { s₆ with heap := s₆.heap.push { cls := .type "list_iterator", data := .fields #[.ref R, .int 0 0] } } := g₆.trans (.heap0 (tk := s₆.toks) fun b o e => Heap.get?_push_of_some _ e)
  have hitn : ∀ {b o}, h₅.get? b = some o → s₆.heap.objs.size ≠ b := fun e => Nat.ne_of_gt (Heap.lt_size (g₆.k _ _ e))
  have X₆ := X₅.keeps g₆.k
  have GBx : GB hb WL L F s₆.heap.objs.size := by
    refine { toGA := G, Fw := hFw, itw := fun q => ?_, it0 := ?_, itL := ?_, itL1 := ?_, itL2 := ?_, itF := ?_, LF := hLF }
    · obtain ⟨_, o, e⟩ := wl₅ _ q; exact hitn e rfl
    · cases e : hb.get? s₆.heap.objs.size with
      | none => rfl
      | some o => exact absurd rfl (hitn (base₅ _ o X₆.ne51 e))
    · obtain ⟨o, _, _, e, _⟩ := hn₅; exact hitn e
    · obtain ⟨o, e, _⟩ := c1₅; exact hitn e
    · obtain ⟨o, e, _⟩ := c2₅; exact hitn e
    · obtain ⟨_, _, _, e, _⟩ := mb₅; exact hitn e
  refine pack_loop B GBx hd hh hA RA hgd rows.length 0 s₀ _ _ (Nat.sub_zero _) (Nat.zero_le _) ⟨?_, X₅.keeps g₇.k, fun b o h e => g₇.k b o (base₅ b o h e), hn₅.keeps g₇.k, ⟨u, by rfl⟩, c1₅.keeps g₇.k, c2₅.keeps g₇.k, mb₅.keep (W := []) (fun a ha => nomatch ha) (fun b o _ e => g₇.k b o e), wl₅.keep fun b o _ e => g₇.k b o e, ⟨_, Heap.get?_push_size _ rfl, rfl, rfl⟩⟩
  have hKL : ∀ b, Kp hb WL b → b ≠ L := fun b hk q => by
    rcases hk with ⟨_, o, e⟩ | h
    · rw [q, G.L0] at e; cases e
    · exact G.Lw (q ▸ h)
  have hK5 : ∀ b, Kp hb WL b → b ≠ 51 ∧ b ≠ L + 2 := fun b hk => by
    rcases hk with ⟨h, o, e⟩ | h
    · exact ⟨h, fun q => by rw [q, G.L2] at e; cases e⟩
    · exact ⟨WL51 B G h, fun q => G.L2w (q ▸ h)⟩
  refine (Gk.of g₀₄ (fun b hk q => hKL b hk (List.mem_singleton.mp q)) rfl).trans (Gk.trans (s' := { s₄ with heap := h₅, toks := tk₅ }) ?_ (Gk.of g₇ (fun _ _ => by simp) rfl))
  refine ⟨fun b o hk e => k₅ b o (hK5 b hk).1 (hK5 b hk).2 e, Nat.le_refl _, fun _ _ _ => rfl, fun i x e hi => ?_, rfl, rfl⟩
  rcases hi with hi | hi
  · cases hi
  · have e' : s₄.gens[i]? = some x := e
    rw [Array.getElem?_eq_none hi] at e'; cases e'
end
end Mine
end

section
open PySem PySem.W PyProof.Rows
set_option maxRecDepth 1000000
set_option linter.unusedVariables false
namespace Mine
namespace F
theorem ba_no_bytes : typeLookup (.type "bytearray") "__bytes__" = pure none := by rw [typeLookup_type, builtinLookup_eq_fast]; kernel_rfl
theorem ba_no_index : typeLookup (.type "bytearray") "__index__" = pure none := by rw [typeLookup_type, builtinLookup_eq_fast]; kernel_rfl
theorem ba_buffer : typeLookup (.type "bytearray") "__buffer__" = pure (some (.builtin "bytearray.__buffer__")) := by rw [typeLookup_type, builtinLookup_eq_fast]; kernel_rfl
end F
section
variable {prog : Program} {w : World} {A : Around} {E : Value → Shared → Prop} {s : Shared}

theorem ba_ownBuffer {D : Addr} {Q : Bool → Shared → Prop} (hT : s.TypeIs (.ref D) "bytearray") (h : Q true s) : wpAny (model prog w) A (Builtin.Bytes.slotIsOwn (.ref D) "__buffer__") Q E s := by
  unfold Builtin.Bytes.slotIsOwn
  refine wpAny_bind (wpAny_specialOf hT F.ba_buffer ?_)
  show wpAny _ A (if (!("bytearray.__buffer__".endsWith ("." ++ "__buffer__"))) = true then _ else _) _ _ _
  refine bm_if_false (by decide +kernel) ?_
  have e : ("bytearray.__buffer__".dropRight ("__buffer__".length + 1)) = "bytearray" := by decide +kernel
  show wpAny _ A (isInstance (.ref D) (.type ("bytearray.__buffer__".dropRight ("__buffer__".length + 1)))) _ _ _
  rw [e]
  exact wpAny_isInstance hT F.sub_ba h
theorem bytes_new_ba {D : Addr} {b : Array UInt8} {Q : Value → Shared → Prop} (hD : IsBA s.heap D b) (hz : b.size ≤ 1000) (hQ : ∀ t tk, Q (.bytes b t) { s with toks := tk }) :
    codeAny (model prog w) A (.call (.builtin "bytes.__new__") ⟨[.type "bytes", .ref D], []⟩) (wants Q E) s := by
  refine codeAny_of_tree ?_
  show wpAny _ A.in1 (do checkBuiltinCall "bytes.__new__" ⟨[.type "bytes", .ref D], []⟩; again (.builtin "bytes.__new__" ⟨[.type "bytes", .ref D], []⟩)) _ _ s
  refine wpAny_bind (wpAny_of_eq (PySem.F.bm_newCall _) (wpAny_pure ⟨plainId_quiet PySem.F.bm_plain _, codeAny_builtin PySem.F.bm_entry ?_⟩))
  rw [Around.under_plainId PySem.F.bm_plain _]
  have hT := ba_typeIs hD
  unfold Builtin.«bytes.__new__»
  refine wpAny_bind (wpAny_of_eq (a := true) rfl ?_)
  refine bm_if_false rfl ?_
  refine wpAny_bind (wpAny_of_eq PySem.F.bm_sub ?_)
  refine bm_if_false rfl ?_
  refine wpAny_bind (wpAny_of_eq (PySem.F.bm_bind _) ?_)
  refine wpAny_bind (wpAny_of_eq (a := ()) rfl ?_)
  refine wpAny_bind (wpAny_of_eq (a := ()) rfl ?_)
  refine bm_if_false rfl ?_
  refine wpAny_bind (wpAny_specialOf hT F.ba_no_bytes ?_)
  refine wpAny_bind (wpAny_bind ?_)
  show wpAny _ _ (load D >>= _) _ _ _
  refine wpAny_bind (wpAny_load hD ?_)
  refine wpAny_pure (wpAny_pure ?_)
  refine bm_if_false rfl ?_
  refine wpAny_bind (wpAny_specialOf hT F.ba_no_index ?_)
  refine bm_if_true rfl ?_
  first
    | show wpAny _ _ (Builtin.Bytes.buffer? "bytes.__new__" (.ref D) true >>= _) _ _ _
    | (refine wpAny_bind ?_; show wpAny _ _ (Builtin.Bytes.buffer? "bytes.__new__" (.ref D) true >>= _) _ _ _)
  refine wpAny_bind ?_
  unfold Builtin.Bytes.buffer?
  refine wpAny_bind (wpAny_specialOf hT F.ba_buffer ?_)
  dsimp only
  refine wpAny_bind (ba_ownBuffer hT ?_)
  refine bm_if_false rfl ?_
  refine wpAny_bind (wpAny_specialOf hT F.ba_buffer ?_)
  refine wpAny_bind (ba_ownRelease hT ?_)
  refine bm_if_false rfl ?_
  refine wpAny_bind (ba_payload hD (wpAny_pure ?_))
  refine wpAny_bind (wpAny_rule ?_)
  refine wpAny_bind (wpAny_mkBytes ?_ (by rw [sizeLine_eq]; omega))
  exact wpAny_pure (hQ _ _)
theorem call_bytes_ba {D : Addr} {b : Array UInt8} {Q : Value → Shared → Prop} (hD : IsBA s.heap D b) (hz : b.size ≤ 1000) (hQ : ∀ t tk, Q (.bytes b t) { s with toks := tk }) : wpAny (model prog w) A (call (.type "bytes") [.ref D]) Q E s := by
  refine callType_codes (Q₁ := fun obj s₁ => s₁.TypeIs obj "bytes" ∧ Q obj s₁) PySem.F.bm_called (PySem.F.bm_typeCall _) PySem.F.entry_object_init
    (bytes_new_ba hD hz fun t tk => ⟨PySem.W.typeIs_bytes _ _ _, hQ t tk⟩) fun obj s₁ h₁ => ?_
  exact ⟨h₁.1, PySem.F.args_object_init_2 obj _, object_init_meets PySem.F.bm_called.init.lookup PySem.F.bm_called.made (by decide) prog w A.in1 _ s₁ ⟨h₁.1, rfl, h₁.2⟩⟩
end
end Mine
end

section
open PySem PySem.W PyProof.Rows
set_option maxRecDepth 1000000
set_option linter.unusedVariables false
namespace Mine
variable {P : Params}
theorem bind56 (r d : Value) : bindArgs (fn 56) ⟨[r, d], []⟩ = pure [(Str.ofString "rows", r), (Str.ofString "bitdepth", d)] := by rfl
theorem fn56 {h} (X : Wd P h) : h.get? 56 = some { cls := .type "function", data := .func (fn 56) } := X.K 56 _ rfl
theorem code56 {h} (X : Wd P h) : h.CodeRec (fn 56).code (fn 56).qualname := ⟨_, _, _, _, rfl, X.K 55 _ rfl, rfl, rfl⟩

/-- what is laid when pack_rows is called -/
structure PackNew (L G g : Nat) (R : Value) (d : Nat) (t : Tok) (h h' : Heap) : Prop where
  keep : ∀ b o, h.get? b = some o → h'.get? b = some o
  ns : ∃ m, h'.Ns L m ∧ m (Str.ofString "rows") = some R
  c1 : h'.IsCell (L + 1) (some (.int d t))
  c2 : h'.IsCell (L + 2) none
  gen : h'.IsGen G g
  gsoft : Soft h' G
  L0 : h.get? L = none
  L1 : h.get? (L + 1) = none
  L2 : h.get? (L + 2) = none
  G0 : h.get? G = none
  GL : L ≠ G ∧ L + 1 ≠ G ∧ L + 2 ≠ G

section
variable {prog : Program} {w : World} {A : Around} {E : Value → Shared → Prop} {s : Shared}
theorem soft_gen : (∀ x : Str, x = (fn 56).name → x ≠ mbQ ∧ x ≠ geQ) := by
  rintro x rfl
  constructor <;> decide

theorem call_pack {R : Value} {d : Nat} {t : Tok} {Q : Value → Shared → Prop} (X : Wf P s.heap) (hA : A.depth < 900)
    (hQ : ∀ L G h' tk, PackNew L G s.gens.size R d t s.heap h' → Q (.ref G) { s with heap := h', toks := tk, gens := s.gens.push (.fresh (ffunc L)) }) :
    wpAny (model prog w) A (call (.ref 56) [R, .int d t]) Q E s := by
  refine wpAny_call (codeAny_call_generator (by have : recursionLimit = 1000 := rfl; omega) (fn56 X.w) rfl rfl rfl (body := bodyOf (fn 56)) rfl (code56 X.w) (wpAny_of_eq (bind56 R (.int d t)) ?_))
  refine wpAny_newFunctionEnv_cells (globals := (fn 56).globals) rfl (by
    intro x hx
    simp only [List.mem_cons, List.not_mem_nil, or_false] at hx
    rcases hx with rfl | rfl
    · exact .inl rfl
    · exact .inr ⟨rfl, rfl⟩) fun env he s₂ x => ?_
  subst he
  have x' := x
  obtain ⟨⟨⟨h₂, tk₂, rfl⟩, hns, hkeep, hfr⟩, hcell, hap, habv⟩ := x
  refine ⟨X.w.lim.keeps hkeep, ?_⟩
  have hc1 := hcell (Str.ofString "bitdepth") (s.heap.objs.size + 1) rfl
  have hc2 := hcell (Str.ofString "make_byte") (s.heap.objs.size + 1 + 1) rfl
  have kG : ∀ ob b o, h₂.get? b = some o → (h₂.push ob).get? b = some o := fun ob b o e => Heap.get?_push_of_some _ e
  have live : ∀ {b o}, h₂.get? b = some o → b ≠ h₂.objs.size := fun e => Nat.ne_of_lt (Heap.lt_size e)
  refine hQ s.heap.objs.size h₂.objs.size _ _ ⟨fun b o e => kG _ b o (hkeep b o e), ⟨_, hns.keeps (kG _), rfl⟩, Heap.IsCell.keeps hc1 (kG _), Heap.IsCell.keeps hc2 (kG _), ⟨_, _, _, Heap.get?_push_size _ rfl, rfl, rfl, rfl⟩, ?_, Heap.get?_none_of_le (Nat.le_refl _), Heap.get?_none_of_le (Nat.le_add_right _ _), Heap.get?_none_of_le (Nat.le_add_right _ _), ?_, ?_⟩
  · intro o e
    have e' := Heap.get?_push_size h₂ (o := { cls := .type "generator", data := .fields #[.int s.gens.size 0, .str (fn 56).name tk₂, .str (fn 56).qualname (tk₂ + 1)] }) rfl
    have := e.symm.trans e'
    cases this
    refine ⟨fun q => (by cases q), fun vs q t hq hv => ?_⟩
    cases hv
    simp only [List.getElem?_toArray, List.getElem?_cons_succ, List.getElem?_cons_zero, ne_eq, Option.some.injEq, Value.str.injEq, not_and]
    intro hn
    have := soft_gen _ hn.symm
    rcases hq with rfl | rfl
    · exact absurd rfl this.1
    · exact absurd rfl this.2
  · cases e : s.heap.get? h₂.objs.size with
    | none => rfl
    | some o => exact absurd rfl (live (hkeep _ o e))
  · refine ⟨?_, ?_, ?_⟩
    · obtain ⟨o, _, _, e, _⟩ := hns; exact live e
    · obtain ⟨o, e, _⟩ := hc1; exact live e
    · obtain ⟨o, e, _⟩ := hc2; exact live e
end
end Mine
end

section
open PySem PySem.W PyProof.Rows
set_option maxRecDepth 1000000
set_option linter.unusedVariables false
namespace Mine
variable {P : Params}
section
variable {prog : Program} {w : World} {A : Around} {E : Value → Shared → Prop} {s : Shared} {R : Result → Shared → Prop}

theorem wpF_onRaiseN {α : Type} {m : Sem α} {k : Value → Sem Unit} {Q : α → Shared → Prop} (h : wpF (model prog w) A m Q NoE s) : wpF (model prog w) A (m.onRaise k) Q E s :=
  wpF_onRaise (wpF_mono h (fun _ _ q => q) fun _ _ q => q.elim)
theorem wpA_noE {α : Type} {m : Sem α} {Q : α → Shared → Prop} (h : wpAny (model prog w) A m Q NoE s) : wpAny (model prog w) A m Q E s := wpAny_mono h (fun _ _ q => q) fun _ _ q => q.elim

theorem codeF_compStart_list {elt target iter ifs rest scope pos it acc env}
    (h0 : codeF (model prog w) A (.compLoop (.ListComp elt (⟨target, iter, ifs, 0⟩ :: rest) scope pos) 0 it acc env) R s)
    (h : wpAny (model prog w) A (pyIter it) (fun it' s' => codeF (model prog w) A (.compLoop (.ListComp elt (⟨target, iter, ifs, 0⟩ :: rest) scope pos) 0 it' acc env) R s') NoE s) :
    codeF (model prog w) A (.compStart (.ListComp elt (⟨target, iter, ifs, 0⟩ :: rest) scope pos) 0 it acc env) R s := by
  refine codeF_of_tree rfl ?_
  show wpF _ A ((compStart (.ListComp elt (⟨target, iter, ifs, 0⟩ :: rest) scope pos) 0 it acc env).onRaise (fun x => do noteFrame x env; standAt theWindowsPlace)) _ _ s
  refine wpF_onRaiseN ?_
  unfold compStart
  show wpF _ _ (ask >>= _) _ _ s
  refine wpF_bindA (wpAny_askSetting ?_)
  split
  · first
      | exact wpF_bind (wpF_pure (wpF_pure (And.intro rfl h0)))
      | exact wpF_pure (And.intro rfl h0)
  · first
      | exact wpF_bindA (wpAny_rule (wpF_bindA (wpAny_standAt (wpF_bindA (wpA_noE (wpAny_mono h (fun it' s' h' => wpF_pure (And.intro rfl h')) fun _ _ x => x))))))
      | exact wpF_bindA (wpAny_bind (wpAny_rule (wpAny_bind (wpAny_standAt (wpAny_bind (wpA_noE (wpAny_mono h (fun it' s' h' => wpAny_pure (wpF_pure (And.intro rfl h'))) fun _ _ x => x)))))))

/-- the loop of a comprehension of one clause without a test -/
theorem codeF_compLoop {elt target iter : Expr} {scope : Scope} {pos : Pos} {it acc : Value} {env : Env} (I : Nat → Shared → Prop)
    (turn : ∀ n s, I n s → wpF (model prog w) A (pyNext it) (fun r s₁ => match r with
      | none => R (.ok .next) s₁
      | some v => wpAny (model prog w) A (assign target env v) (fun _ s₂ => wpAny (model prog w) A (eval elt env) (fun x s₃ =>
          wpAny (model prog w) A (call (.builtin "list.append") [acc, x]) (fun _ s₄ => ∃ m, m < n ∧ I m s₄) NoE s₃) NoE s₂) NoE s₁) NoE s)
    (n : Nat) (h : I n s) (ht : ∀ v, letOwnedTupleGo target it v = pure () := by intro _; rfl) :
    codeF (model prog w) A (.compLoop (.ListComp elt [⟨target, iter, [], 0⟩] scope pos) 0 it acc env) R s := by
  refine codeF_loop rfl rfl I (fun n s hI => ?_) n h
  show wpF _ A ((compTurn (.ListComp elt [⟨target, iter, [], 0⟩] scope pos) 0 it acc env).onRaise (fun x => do noteFrame x env; theTreesLotGoes x)) _ _ s
  refine wpF_onRaiseN ?_
  rw [compTurn_list1]
  refine wpF_bindA (wpAny_standAt (wpF_bind (wpF_mono (turn n s hI) (fun r s₁ h₁ => ?_) fun _ _ h' => h')))
  cases r with
  | none => exact wpF_pure h₁
  | some v =>
    refine wpF_bindA (wpAny_of_eq (ht v) ?_)
    refine wpF_bindA (wpAny_mono h₁ (fun _ s₂ h₂ => ?_) fun _ _ h' => h')
    refine wpF_bindA (wpAny_bind (wpAny_mono h₂ (fun x s₃ h₃ => wpAny_bind (wpAny_mono h₃ (fun _ s₄ h₄ => wpAny_pure (wpF_pure (.inl ⟨rfl, h₄⟩))) fun _ _ h' => h')) fun _ _ h' => h'))

theorem wpF_comprehension_free {env : Env} {e : Expr} {scope : Scope} {pos : Pos} {newAcc first : Sem Value} {g : Comprehension} {gs : List Comprehension} {cl : List (Str × Addr)}
    {Q : Value → Shared → Prop}
    (hcl : clausesOf e = g :: gs) (hs : ∀ x, foldedSetIterable g.iter env x = pure x) (hclos : closureFor scope env = pure cl)
    (hkind : scope.kind = .function) (hnames : ∀ x ∈ scope.names, x.2 = .local → scope.names.lookup x.1 = some .local)
    (h : wpAny (model prog w) A first (fun x s₁ => wpAny (model prog w) A (pyIter x) (fun it s₂ => wpAny (model prog w) A newAcc (fun acc s₃ =>
      wpAny (model prog w) A (newFunctionEnv scope env.globals cl [] env.qual none .none (some env)) (fun cenv s₄ =>
        codeF (model prog w) A (.compStart e 0 it acc { cenv with scope := relabel scope env }) (fun r s' => match r with
          | .ok _ => ∃ m, s'.heap.Ns cenv.locals m ∧ ∀ h', Heap.SameBut cenv.locals s'.heap h' → Q acc { s' with heap := h' }
          | .error _ => False) s₄) NoE s₃) NoE s₂) NoE s₁) NoE s) :
    wpF (model prog w) A (comprehension e scope env pos newAcc false first none) Q E s := by
  unfold comprehension
  rw [hclos, hcl]
  refine wpF_bindA (wpA_noE (wpAny_mono h (fun x s₁ h₁ => wpF_bindA (wpAny_standAt (wpF_bindA (wpAny_of_eq (hs x) (wpF_bindA (wpAny_holding (wpA_noE (wpAny_mono h₁ (fun it s₂ h₂ => ?_) fun _ _ h' => h'))))))) ) fun _ _ h' => h'))
  refine wpF_if_false rfl ?_
  refine wpF_bindA (wpA_noE (wpAny_mono h₂ (fun acc s₃ h₃ => wpF_bind (wpF_pure (wpF_bindA (wpA_noE (wpAny_mono h₃ (fun cenv s₄ h₄ => ?_) fun _ _ h' => h'))))) fun _ _ h' => h'))
  dsimp only
  have hv : ∀ x ∈ (scope.names.filter fun x => (x.2 == .local || x.2 == .cell) && x.1 != (".0" : Str)).reverse, x.2 = .local →
      Env.kindOf { cenv with scope := relabel scope env } x.1 = some .local := fun x hx hl => lookup_relabel_local (hnames x (List.mem_filter.mp (List.mem_reverse.mp hx)).1 hl)
  refine wpF_holding (wpF_bind (wpF_attempt (wpF_holding (wpF_run (codeF_mono h₄ fun r s' hr => ?_)))))
  cases r with
  | ok f =>
    obtain ⟨m, hn, hr⟩ := hr
    exact wpF_bindA (wpAny_holding (wpAny_comp_letGo (cenv := { cenv with scope := relabel scope env }) hkind _ s' m hv hn fun h' m' _ hs' => wpF_pure (hr h' hs')))
  | error x => exact hr.elim
end
end Mine
end

section
open PySem PySem.W PyProof.Rows
set_option maxRecDepth 1000000
set_option linter.unusedVariables false
namespace Mine
variable {P : Params}
def IsBy (b : Array UInt8) (v : Value) (_ : Heap) : Prop := ∃ t, v = .bytes b t

theorem setGen_size {s : Shared} {g : Nat} {x : GenState} : (s.setGen g x).gens.size = s.gens.size := by simp [Shared.setGen]
theorem setGen_ne {s : Shared} {g i : Nat} {x : GenState} (h : i ≠ g) : (s.setGen g x).gens[i]? = s.gens[i]? := by simp [Shared.setGen, Array.getElem?_setIfInBounds_ne (Ne.symm h)]

theorem Gk.setGen {Kp : Addr → Prop} {s s' : Shared} {g : Nat} {x : GenState} (k : Gk Kp [] s s') (hg : s.gens.size ≤ g) (hb : x.bare = true) : Gk Kp [] s (s'.setGen g x) where
  keep := k.keep
  size := by rw [setGen_size]; exact k.size
  gens := fun i hi hl => by rw [setGen_ne (by omega)]; exact k.gens i hi hl
  bare := fun i y e hi => by
    by_cases q : i = g
    · subst q
      have : i < s'.gens.size := by
        rcases Nat.lt_or_ge i s'.gens.size with q | q
        · exact q
        · rw [Array.getElem?_eq_none (by rw [setGen_size]; exact q)] at e; cases e
      have e2 : (s'.setGen i x).gens[i]? = some x := setGen_self (Array.getElem?_eq_getElem this)
      rw [e2] at e; cases e; exact hb
    · rw [setGen_ne q] at e
      exact k.bare i y e hi
  drawn := k.drawn
  os := k.os
/-- a plain step after it -/
theorem Gk.gr {Kp : Addr → Prop} {S : List Nat} {W : List Addr} {s s' s'' : Shared} (k : Gk Kp S s s') (g : Gr W s' s'') (hK : ∀ b o, Kp b → s'.heap.get? b = some o → b ∉ W) : Gk Kp S s s'' where
  keep := fun b o hb e => g.keep b o (hK b o hb (k.keep b o hb e)) (k.keep b o hb e)
  size := by obtain ⟨_, h, tk, rfl⟩ := g; exact k.size
  gens := by obtain ⟨_, h, tk, rfl⟩ := g; exact k.gens
  bare := by obtain ⟨_, h, tk, rfl⟩ := g; exact k.bare
  drawn := by obtain ⟨_, h, tk, rfl⟩ := g; exact k.drawn
  os := by obtain ⟨_, h, tk, rfl⟩ := g; exact k.os

section
variable {prog : Program} {w : World} {A : Around} {hb : Heap} {L G D C : Addr} {g : Nat} {d : Nat} {rows : List (List Int)}

/-- the generator that has told i rows can tell the rest -/
def Ready (prog : Program) (w : World) (A : Around) (P : Params) (hb : Heap) (WL : List Addr) (d : Nat) (rows : List (List Int)) (n : Nat) (gs : GenState) (s : Shared) : Prop :=
  ∀ s'' : Shared, (∀ b o, b ∉ WL → s.heap.get? b = some o → s''.heap.get? b = some o) → Wf P s''.heap → WLok WL s''.heap →
    GoesF (model prog w) A.in1 (Rend P hb WL) (packY P hb WL d rows) n gs (.send .none) s''

def Kb (hb : Heap) (b : Addr) : Prop := b ≠ 51 ∧ ∃ o, hb.get? b = some o
structure CI (prog : Program) (w : World) (A : Around) (P : Params) (hb : Heap) (G D C : Addr) (g d : Nat) (rows : List (List Int)) (s₁ : Shared) (i : Nat) (ys : Array Value) (m : Str → Option Value) (gs : GenState) (s : Shared) : Prop where
  gk : Gk (Kb hb) [] s₁ s
  wf : Wf P s.heap
  wl : WLok [D, C, G] s.heap
  l : s.heap.PlainList D ys
  n : ys.size = i
  f : ∀ (j : Nat) (row : List Int), j < i → rows[j]? = some row → ∃ t, ys[j]? = some (.bytes (byteArr (packR d row)) t)
  c : s.heap.Ns C m
  gen : s.heap.IsGen G g
  st : s.gens[g]? = some gs
  go : Ready prog w A P hb [D, C, G] d rows (rows.length - i) gs s

theorem Kp_ne51 (B : Wf P hb) {WL : List Addr} (w0 : ∀ b ∈ WL, hb.get? b = none) {b : Addr} (h : Kp hb WL b) : b ≠ 51 := by
  rcases h with ⟨h, _⟩ | h
  · exact h
  · intro q
    obtain ⟨ps, _, a2, _⟩ := B.tab
    have := w0 b h
    rw [q, a2.2] at this; cases this

/-- the loop of the consumer's comprehension -/
theorem told_loop {cenv : Env} {elt iter : Expr} {px : Pos} {x : Str} {scope : Scope} {pos : Pos} {s₁ : Shared} {R : Result → Shared → Prop} (B : Wf P hb) (hh : A.handled = none) (hA : A.depth < 799) (hbs : ∀ b o, s₁.heap.get? b = some o → hb.get? b = some o)
    (hg : s₁.gens.size ≤ g) (hC : cenv.locals = C) (hD0 : hb.get? D = none) (hC0 : hb.get? C = none) (hG0 : hb.get? G = none) (hDC : D ≠ C) (hDG : D ≠ G) (hCG : C ≠ G) (hz : rows.length ≤ 1000) (hok : ∀ row ∈ rows, RowOk d row)
    (helt : ∀ (s' : Shared) m' D' b, Wd P s'.heap → s'.heap.Ns C m' → m' x = some (.ref D') → IsBA s'.heap D' b → b.size ≤ 1000 → Px prog w A (eval elt cenv) s' (IsBy b))
    (hR : ∀ ys m s', Gk (Kb hb) [] s₁ s' → Wf P s'.heap → s'.heap.PlainList D ys → ys.size = rows.length → (∀ (j : Nat) (row : List Int), rows[j]? = some row → ∃ t, ys[j]? = some (.bytes (byteArr (packR d row)) t)) → s'.heap.Ns C m → R (.ok .next) s')
    (hx : cenv.kindOf x = some .local) (hk : cenv.scope.kind = .function) {s : Shared} {m : Str → Option Value} {gs : GenState} (h : CI prog w A P hb G D C g d rows s₁ 0 #[] m gs s) :
    codeF (model prog w) A (.compLoop (.ListComp elt [⟨.Name x px, iter, [], 0⟩] scope pos) 0 (.ref G) (.ref D) cenv) R s := by
  have w0 : ∀ b ∈ [D, C, G], hb.get? b = none := fun b hb' => by
    simp only [List.mem_cons, List.not_mem_nil, or_false] at hb'
    rcases hb' with rfl | rfl | rfl
    · exact hD0
    · exact hC0
    · exact hG0
  have hroom : A.depth < recursionLimit := by have : recursionLimit = 1000 := rfl; omega
  refine codeF_compLoop (fun k s' => ∃ i ys m gs, i ≤ rows.length ∧ k = rows.length + 1 - i ∧ CI prog w A P hb G D C g d rows s₁ i ys m gs s') ?_ (rows.length + 1) ⟨0, #[], m, gs, Nat.zero_le _, rfl, h⟩
  rintro k s' ⟨i, ys, m, gs, hi, rfl, X⟩
  have hgo := X.go (s'.setGen g .running) (fun b o _ e => e) X.wf X.wl
  by_cases hlt : i < rows.length
  · obtain ⟨n, hn⟩ : ∃ n, rows.length - i = n + 1 := ⟨rows.length - i - 1, by omega⟩
    rw [hn] at hgo
    refine pyNext_genF (n := n + 1) hh X.wf.w.lim hroom X.gen X.st hgo (fun v s₂ gs' hbr hy => ?_) (fun s₂ hp => ?_)
    · obtain ⟨row, D', hrow, rfl, hD', gk₂, X₂, hgo₂⟩ := hy
      have hrow' : rows[i]? = some row := by rw [← hrow]; congr 1; omega
      have gk₃ : Gk (Kb hb) [] s₁ (s₂.setGen g gs') := ((X.gk.setGen hg rfl).trans (gk₂.mono (fun b h => .inl h) (.inl rfl) (fun _ _ h => nomatch h))).setGen hg hbr
      have k₂ : ∀ {b o}, b ∈ [D, C, G] → s'.heap.get? b = some o → s₂.heap.get? b = some o := fun {b o} hb' e => gk₂.keep b o (.inr hb') e
      have hc₂ : s₂.heap.Ns C m := by
        obtain ⟨o, es, ep, e, r⟩ := X.c
        exact ⟨o, es, ep, k₂ (by simp) e, r⟩
      have hl₂ : s₂.heap.PlainList D ys := by obtain ⟨nn, e⟩ := X.l; exact ⟨nn, k₂ (by simp) e⟩
      have hg₂ : s₂.heap.IsGen G g := by
        obtain ⟨o, nm, qn, e, r⟩ := X.gen
        exact ⟨o, nm, qn, k₂ (by simp) e, r⟩
      have wl₂ : WLok [D, C, G] s₂.heap := X.wl.keep fun b o hb' e => k₂ hb' e
      have hst : (s₂.setGen g gs').gens[g]? = some gs' := by
        have e1 : (s'.setGen g .running).gens[g]? = some .running := setGen_self X.st
        have hlt2 : g < (s'.setGen g .running).gens.size := by
          rcases Nat.lt_or_ge g (s'.setGen g .running).gens.size with q | q
          · exact q
          · rw [Array.getElem?_eq_none q] at e1; cases e1
        exact setGen_self ((gk₂.gens g (by simp) hlt2).trans e1)
      -- octets = v
      refine wpAny_assign_Name (sx_store (env := cenv) (s := s₂.setGen g gs') (m := m) (hC ▸ hc₂) (fun s₄ hn₄ g₄ => ?_) hk hx _)
      rw [hC] at hn₄ g₄
      have hDC' : D ≠ C := hDC
      have hD'₄ : IsBA s₄.heap D' (byteArr (packR d row)) := g₄.keep _ _ (fun q => by
        rw [List.mem_singleton] at q
        obtain ⟨o, _, _, e, hdd, _⟩ := hc₂
        have hx' : s₂.heap.get? D' = some _ := hD'
        rw [q, e] at hx'; cases hx'; cases hdd) hD'
      have X₄ : Wf P s₄.heap := Wf.butL B X₂ (W := [C]) (fun b hb' => by
        rw [List.mem_singleton] at hb'
        subst hb'
        exact ⟨hC0, Soft.ns hc₂⟩) g₄.keep
      have hsz : (byteArr (packR d row)).size ≤ 1000 := by
        rw [byteArr_size]
        unfold packR cutsR
        rw [List.length_map, List.length_map, List.length_range]
        have := (hok row (List.mem_of_getElem? hrow')).2.1
        have h1 := Nat.div_le_self (row.length + 8 / d - 1) (8 / d)
        have h2 := Nat.div_le_self 8 d
        omega
      refine wpA_noE ((helt s₄ _ D' _ X₄.w hn₄ (by simp [upd]) hD'₄ hsz).use (.refl _ _) fun y s₅ g₅ p₅ => ?_)
      obtain ⟨ty, rfl⟩ := p₅
      have hl₅ : s₅.heap.PlainList D ys := by
        obtain ⟨nn, e⟩ := hl₂
        exact ⟨nn, g₅.k _ _ (g₄.keep _ _ (fun q => hDC (List.mem_singleton.mp q)) e)⟩
      refine wpAny_list_append_plain (hsz := by rw [X.n, sizeLine_eq]; omega) hl₅ fun h₆ hl₆ hs₆ => ?_
      have g₆ : Gr [D] s₅ { s₅ with heap := h₆ } := .heap (tk := s₅.toks) fun b o hb' e => hs₆.extBut b o (by simpa using hb') e
      have X₅ := X₄.keeps g₅.k
      have X₆ : Wf P h₆ := Wf.butL B X₅ (W := [D]) (fun b hb' => by
        rw [List.mem_singleton] at hb'
        subst hb'
        refine ⟨hD0, fun o e => ?_⟩
        obtain ⟨nn, e'⟩ := hl₅
        rw [e'] at e; cases e
        exact ⟨fun q => (by cases q), fun vs q t _ q' => (by cases q')⟩) g₆.keep
      have kk : ∀ b o, b ∉ [D, C, G] → s₂.heap.get? b = some o → h₆.get? b = some o := fun b o hb' e =>
        g₆.keep b o (fun q => hb' (by rw [List.mem_singleton.mp q]; simp)) (g₅.k _ _ (g₄.keep b o (fun q => hb' (by rw [List.mem_singleton.mp q]; simp)) e))
      have hCn : h₆.Ns C (upd m x (.ref D')) := by
        obtain ⟨o, es, ep, e, r⟩ := hn₄
        exact ⟨o, es, ep, g₆.keep _ _ (fun q => hDC (List.mem_singleton.mp q).symm) (g₅.k _ _ e), r⟩
      have hGn : h₆.IsGen G g := by
        obtain ⟨o, nm, qn, e, r⟩ := hg₂
        exact ⟨o, nm, qn, g₆.keep _ _ (fun q => hDG (List.mem_singleton.mp q).symm) (g₅.k _ _ (g₄.keep _ _ (fun q => hCG (List.mem_singleton.mp q).symm) e)), r⟩
      have wl₆ : WLok [D, C, G] h₆ := fun b hb' => by
        simp only [List.mem_cons, List.not_mem_nil, or_false] at hb'
        rcases hb' with rfl | rfl | rfl
        · obtain ⟨nn, e⟩ := hl₆
          refine ⟨fun o e' => ?_, _, e⟩
          rw [e] at e'; cases e'
          exact ⟨fun q => (by cases q), fun vs q t _ q' => (by cases q')⟩
        · refine ⟨Soft.ns hCn, ?_⟩
          obtain ⟨o, _, _, e, _⟩ := hCn
          exact ⟨o, e⟩
        · obtain ⟨w1, o, e⟩ := wl₂ b (by simp)
          have e6 : h₆.get? b = some o := g₆.keep _ _ (fun q => hDG (List.mem_singleton.mp q).symm) (g₅.k _ _ (g₄.keep _ _ (fun q => hCG (List.mem_singleton.mp q).symm) e))
          exact ⟨w1.but (e6.trans e.symm), o, e6⟩
      have sg : ({ s₅ with heap := h₆ } : Shared).gens = (s₂.setGen g gs').gens := by
        obtain ⟨_, _, _, e4⟩ := g₄
        obtain ⟨_, _, _, e5⟩ := g₅
        show s₅.gens = _
        rw [e5]
        show s₄.gens = _
        rw [e4]
      refine ⟨rows.length + 1 - (i + 1), by omega, i + 1, ys.push _, _, gs', hlt, rfl, ⟨?_, X₆, wl₆, hl₆, by rw [Array.size_push, X.n], ?_, hCn, hGn, by rw [sg]; exact hst, ?_⟩⟩
      · refine ((gk₃.gr g₄ fun b o hk _ hm => ?_).gr g₅ fun _ _ _ _ => by simp).gr g₆ fun b o hk _ hm => ?_
        · obtain ⟨_, o', e'⟩ := hk
          rw [List.mem_singleton.mp hm, hC0] at e'; cases e'
        · obtain ⟨_, o', e'⟩ := hk
          rw [List.mem_singleton.mp hm, hD0] at e'; cases e'
      · intro j row' hj hr
        by_cases hji : j = i
        · subst hji
          rw [hrow'] at hr; cases hr
          exact ⟨ty, by rw [Array.getElem?_push]; simp [X.n]⟩
        · obtain ⟨t', e⟩ := X.f j row' (by omega) hr
          refine ⟨t', ?_⟩
          rw [Array.getElem?_push, if_neg (by rw [X.n]; omega)]
          exact e
      · intro s'' hk'' X'' hw''
        rw [show rows.length - (i + 1) = n by omega]
        exact hgo₂ s'' (fun b o hb' e => hk'' b o hb' (kk b o hb' e)) X'' hw''
    · exact absurd hp.1 (by omega)
  · have hin : i = rows.length := by omega
    subst hin
    rw [Nat.sub_self] at hgo
    refine pyNext_genF (n := 0) hh X.wf.w.lim hroom X.gen X.st hgo (fun v s₂ gs' hbr hy => ?_) (fun s₂ hp h₃ hk₃ => ?_)
    · obtain ⟨row, D', hrow, rfl, hD', gk₂, X₂, hgo₂⟩ := hy
      exact (hgo₂ s₂ (fun _ _ _ e => e) X₂ (X.wl.keep fun b o hb' e => gk₂.keep b o (.inr hb') e)).elim
    · obtain ⟨_, gk₂, X₂⟩ := hp
      have k₂ : ∀ {b o}, b ∈ [D, C, G] → s'.heap.get? b = some o → h₃.get? b = some o := fun {b o} hb' e => hk₃ b o (gk₂.keep b o (.inr hb') e)
      have gk₃ : Gk (Kb hb) [] s₁ (s₂.setGen g .finished) := ((X.gk.setGen hg rfl).trans (gk₂.mono (fun b h => .inl h) (.inl rfl) (fun _ _ h => nomatch h))).setGen hg rfl
      refine hR ys m _ (gk₃.gr (Gr.heap0 (tk := (s₂.setGen g .finished).toks) hk₃) (fun _ _ _ _ => by simp)) (X₂.keeps hk₃) ?_ X.n (fun j row hr => X.f j row ?_ hr) ?_
      · obtain ⟨nn, e⟩ := X.l; exact ⟨nn, k₂ (by simp) e⟩
      · rcases Nat.lt_or_ge j rows.length with q | q
        · exact q
        · rw [List.getElem?_eq_none q] at hr; cases hr
      · obtain ⟨o, es, ep, e, r⟩ := X.c
        exact ⟨o, es, ep, k₂ (by simp) e, r⟩
end
end Mine
end

section
open PySem PySem.W PyProof.Rows
set_option maxRecDepth 1000000
set_option linter.unusedVariables false
namespace Mine
variable {P : Params}
section
variable {prog : Program} {w : World} {A : Around} {s : Shared} {d : Nat} {rows : List (List Int)}

/-- the list of the octets told -/
def Told (d : Nat) (rows : List (List Int)) (v : Value) (h : Heap) : Prop :=
  ∃ D ys, v = .ref D ∧ h.PlainList D ys ∧ ys.size = rows.length ∧ ∀ (j : Nat) (row : List Int), rows[j]? = some row → ∃ t, ys[j]? = some (.bytes (byteArr (packR d row)) t)

/-- the consumer's comprehension -/
theorem wpF_told {env : Env} {elt iter : Expr} {px : Pos} {x : Str} {scope : Scope} {pos : Pos} {cl : List (Str × Addr)} {E : Value → Shared → Prop} {Q : Value → Shared → Prop} (X : Wf P s.heap) (hh : A.handled = none) (hA : A.depth < 799) (hd : d = 1 ∨ d = 2 ∨ d = 4)
    (hclos : closureFor scope env = pure cl)
    (hit : ∀ Q : Value → Shared → Prop, (∀ s₁ L G h' tk R rowsV t, Gr [] s s₁ → RowsAt s₁.heap R rowsV d rows → PackNew L G s₁.gens.size (.ref R) d t s₁.heap h' → Q (.ref G) { s₁ with heap := h', toks := tk, gens := s₁.gens.push (.fresh (ffunc L)) }) → wpAny (model prog w) A (eval iter env) Q NoE s)
    (helt : ∀ C (s' : Shared) m' D' b, Wd P s'.heap → s'.heap.Ns C m' → m' x = some (.ref D') → IsBA s'.heap D' b → b.size ≤ 1000 → Px prog w A (eval elt (compEnvC scope cl C env)) s' (IsBy b))
    (hQ : ∀ D ys s', Gk (· ≠ 51) [] s s' → Wf P s'.heap → s.heap.get? D = none → s'.heap.PlainList D ys → ys.size = rows.length → (∀ (j : Nat) (row : List Int), rows[j]? = some row → ∃ t, ys[j]? = some (.bytes (byteArr (packR d row)) t)) → Q (.ref D) s')
    (hx : scope.names.lookup x = some .local := by rfl) (hcell : ∀ y ∈ scope.names, y.2 ≠ .cell := by decide) (hkind : scope.kind = .function := by rfl)
    (hnames : ∀ y ∈ scope.names, y.2 = .local → scope.names.lookup y.1 = some .local := by decide)
    (hs : ∀ x, foldedSetIterable iter env x = pure x := by intro _; rfl) :
    wpF (model prog w) A (eval (.ListComp elt [⟨.Name x px, iter, [], 0⟩] scope pos) env) Q E s := by
  rw [eval_ListComp]
  refine wpF_comprehension_free rfl hs hclos hkind hnames (hit _ fun s₁ L G h' tk R rowsV t g₁ RA N => ?_)
  have hg' : Heap.IsGen ({ s₁ with heap := h', toks := tk, gens := s₁.gens.push (.fresh (ffunc L)) } : Shared).heap G s₁.gens.size := N.gen
  refine wpAny_pyIter_gen hg' ?_
  refine wpAny_newObj_type (wpAny_newFunctionEnv hcell (by intro y hy; simp at hy) (fun h₁ hns₁ hsb₁ => ?_) hkind)
  dsimp only at hns₁ hsb₁ ⊢
  generalize hH2 : h'.push { cls := .type "list", dict := none, data := .seq ([] : List Value).toArray } = H2 at hns₁ hsb₁ ⊢
  have hC : H2.objs.size = h'.objs.size + 1 := by rw [← hH2, Heap.size_push]
  have hDC : h'.objs.size ≠ H2.objs.size := by rw [hC]; exact Nat.ne_of_lt (Nat.lt_succ_self _)
  have old : ∀ b o, h'.get? b = some o → h₁.get? b = some o := fun b o e => hsb₁.extBut b o (by rw [hC]; exact Nat.ne_of_lt (Nat.lt_succ_of_lt (Heap.lt_size e))) (Heap.get?_push_of_some _ (hH2 ▸ Heap.get?_push_of_some _ e))
  have hacc : h₁.PlainList h'.objs.size #[] := ⟨_, hsb₁.extBut _ _ hDC (Heap.get?_push_of_some _ (hH2 ▸ Heap.get?_push_size _ rfl))⟩
  have B : Wf P s₁.heap := X.keeps g₁.k
  have X' : Wf P h' := B.keeps N.keep
  have X₁ : Wf P h₁ := X'.keeps old
  have none' : ∀ a, h'.objs.size ≤ a → s₁.heap.get? a = none := fun a ha => by
    cases e : s₁.heap.get? a with
    | none => rfl
    | some o => exact absurd (Heap.lt_size (N.keep _ o e)) (Nat.not_lt.mpr ha)
  have hD0 := none' _ (Nat.le_refl h'.objs.size)
  have hC0 := none' H2.objs.size (by rw [hC]; exact Nat.le_succ _)
  obtain ⟨oG, nmG, qnG, eG, rG⟩ := id N.gen
  have hGlt : G < h'.objs.size := Heap.lt_size eG
  have hDG : h'.objs.size ≠ G := Nat.ne_of_gt hGlt
  have hCG : H2.objs.size ≠ G := Nat.ne_of_gt (by rw [hC]; exact Nat.lt_succ_of_lt hGlt)
  obtain ⟨mL, hnL, hmL⟩ := N.ns
  have h51 : ∃ o, s₁.heap.get? 51 = some o := by obtain ⟨_, _, a, _⟩ := B.tab; exact ⟨_, a.2⟩
  have hw0 : ∀ b ∈ [h'.objs.size, H2.objs.size, G], s₁.heap.get? b = none := fun b hb' => by
    simp only [List.mem_cons, List.not_mem_nil, or_false] at hb'
    rcases hb' with rfl | rfl | rfl
    · exact hD0
    · exact hC0
    · exact N.G0
  have hLW : ∀ {b o}, h'.get? b = some o → b ≠ G → b ∉ [h'.objs.size, H2.objs.size, G] := fun {b o} e hne hm => by
    simp only [List.mem_cons, List.not_mem_nil, or_false] at hm
    have hlt := Heap.lt_size e
    rcases hm with rfl | rfl | rfl
    · exact Nat.lt_irrefl _ hlt
    · rw [hC] at hlt; exact Nat.lt_irrefl _ (Nat.lt_trans hlt (Nat.lt_succ_self _))
    · exact hne rfl
  have GAx : GA s₁.heap [h'.objs.size, H2.objs.size, G] L := by
    refine ⟨N.L0, N.L1, N.L2, ?_, ?_, ?_, hw0, ?_⟩
    · obtain ⟨o, _, _, e, _⟩ := hnL; exact hLW e N.GL.1
    · obtain ⟨o, e, _⟩ := N.c1; exact hLW e N.GL.2.1
    · obtain ⟨o, e, _⟩ := N.c2; exact hLW e N.GL.2.2
    · intro q
      obtain ⟨o, e⟩ := h51
      rw [← q, N.L2] at e; cases e
  have start : ∀ s₃ : Shared, s₃.heap = h₁ → s₃.gens = s₁.gens.push (.fresh (ffunc L)) → s₃.drawn = s₁.drawn → s₃.os = s₁.os →
      codeF (model prog w) A (.compLoop (.ListComp elt [⟨.Name x px, iter, [], 0⟩] scope pos) 0 (.ref G) (.ref h'.objs.size) (compEnvC scope cl H2.objs.size env)) (fun r s' => match r with
          | .ok _ => ∃ m, s'.heap.Ns H2.objs.size m ∧ ∀ hh, Heap.SameBut H2.objs.size s'.heap hh → Q (.ref h'.objs.size) { s' with heap := hh }
          | .error _ => False) s₃ := by
    intro s₃ e₁ e₂ e₃ e₄
    have wl : WLok [h'.objs.size, H2.objs.size, G] h₁ := fun b hb' => by
      simp only [List.mem_cons, List.not_mem_nil, or_false] at hb'
      rcases hb' with rfl | rfl | rfl
      · obtain ⟨nn, e⟩ := hacc
        refine ⟨fun o e' => ?_, _, e⟩
        rw [e] at e'; cases e'
        exact ⟨fun q => (by cases q), fun vs q t _ q' => (by cases q')⟩
      · refine ⟨Soft.ns hns₁, ?_⟩
        obtain ⟨o, _, _, e, _⟩ := hns₁
        exact ⟨o, e⟩
      · exact ⟨N.gsoft.but ((old _ _ eG).trans eG.symm), _, old _ _ eG⟩
    refine told_loop (hb := s₁.heap) (G := G) (D := h'.objs.size) (C := H2.objs.size) (g := s₁.gens.size) (d := d) (rows := rows) (s₁ := s₁) (m := fun x => List.lookup x ([] : List (Str × Value)).reverse) (gs := .fresh (ffunc L)) B hh hA (fun _ _ e => e) (Nat.le_refl _) rfl hD0 hC0 N.G0 hDC hDG hCG RA.n RA.ok
      (fun s' m' D' b => helt _ s' m' D' b) (fun ys m s' gk X₂ hl hn hf hns => ?_) (lookup_relabel_local hx) hkind ?_
    · refine ⟨m, hns, fun h'' hs'' => ?_⟩
      have g'' : Gr [H2.objs.size] s' { s' with heap := h'' } := .heap (tk := s'.toks) fun b o hb' e => hs''.extBut b o (by simpa using hb') e
      have X₃ : Wf P h'' := Wf.butL B X₂ (W := [H2.objs.size]) (fun b hb' => by
        rw [List.mem_singleton] at hb'
        subst hb'
        exact ⟨hC0, Soft.ns hns⟩) g''.keep
      have gk' : Gk (· ≠ 51) [] s s₁ := Gk.of g₁ (fun _ _ => by simp) rfl
      have gk'' := gk.gr g'' fun b o hk _ hm => by
        obtain ⟨_, o', e'⟩ := hk
        rw [List.mem_singleton.mp hm, hC0] at e'; cases e'
      refine hQ h'.objs.size ys _ ⟨fun b o h e => gk''.keep b o ⟨h, o, g₁.k _ _ e⟩ (g₁.k _ _ e), Nat.le_trans gk'.size gk''.size, ?_, ?_, gk''.drawn.trans gk'.drawn, gk''.os.trans gk'.os⟩ X₃ ?_ ?_ hn hf
      · have eg : s₁.gens = s.gens := by obtain ⟨_, _, _, e⟩ := g₁; rw [e]
        rw [← eg]; exact gk''.gens
      · have eg : s₁.gens = s.gens := by obtain ⟨_, _, _, e⟩ := g₁; rw [e]
        rw [← eg]; exact gk''.bare
      · exact noneBack g₁ hD0
      · obtain ⟨nn, e⟩ := hl
        exact ⟨nn, g''.keep _ _ (fun q => hDC (List.mem_singleton.mp q)) e⟩
    · refine ⟨⟨fun b o hk e => by rw [e₁]; exact old b o (N.keep b o e), by rw [e₂, Array.size_push]; exact Nat.le_succ _, fun i _ hi => by rw [e₂, Array.getElem?_push_lt hi, Array.getElem?_eq_getElem hi], fun i y e hi => ?_, e₃, e₄⟩, e₁ ▸ X₁, e₁ ▸ wl, e₁ ▸ hacc, rfl, fun j row hj => absurd hj (Nat.not_lt_zero _), e₁ ▸ hns₁, e₁ ▸ ⟨oG, nmG, qnG, old _ _ eG, rG⟩, by rw [e₂, Array.getElem?_push_size], ?_⟩
      · rcases hi with hi | hi
        · cases hi
        · rw [e₂] at e
          have : i = s₁.gens.size := by
            have : i < (s₁.gens.push (GenState.fresh (ffunc L))).size := by
              rcases Nat.lt_or_ge i (s₁.gens.push (GenState.fresh (ffunc L))).size with q | q
              · exact q
              · rw [Array.getElem?_eq_none q] at e; cases e
            rw [Array.size_push] at this
            omega
          subst this
          rw [Array.getElem?_push_size] at e; cases e; rfl
      · intro s'' hk'' X'' hw''
        rw [e₁] at hk''
        have up : ∀ {b o}, h'.get? b = some o → b ≠ G → s''.heap.get? b = some o := fun {b o} e hne => hk'' b o (hLW e hne) (old b o e)
        refine ⟨rfl, pack_body (m := mL) (t := t) B GAx hd hh (by show A.in1.depth < 800; have : A.in1.depth ≤ A.depth + 0 := Nat.le_refl _; omega) RA X'' (fun b o h e => up (N.keep b o e) (fun q => by rw [q, N.G0] at e; cases e)) ?_ hmL ?_ ?_ hw''⟩
        · obtain ⟨o, es, ep, e, r⟩ := hnL
          exact ⟨o, es, ep, up e N.GL.1, r⟩
        · obtain ⟨o, e, r⟩ := N.c1
          exact ⟨o, up e N.GL.2.1, r⟩
        · obtain ⟨o, e, r⟩ := N.c2
          exact ⟨o, up e N.GL.2.2, r⟩
  refine codeF_compStart_list (start _ rfl rfl rfl rfl) (wpAny_pyIter_gen (g := s₁.gens.size) ?_ (start _ rfl rfl rfl rfl))
  exact ⟨oG, nmG, qnG, old _ _ eG, rG⟩
end
end Mine
end

section
open PySem PySem.W PyProof.Rows
set_option maxRecDepth 100000
set_option linter.unusedVariables false
namespace Mine
section
variable {prog : Program} {w : World} {A : Around} {s₀ s : Shared} {env : Env} {R : Value → Heap → Prop} {O : Flow → Shared → Prop}

/-- v[i], v a list, i an int in its bounds -/
theorem px_item {value slice : Expr} {pos : Pos} {P₁ : Value → Heap → Prop} {k : Int} (hv : Px prog w A (eval value env) s₀ P₁) (hi : Px prog w A (eval slice env) s₀ (IsI k))
    (h : ∀ v s, Gr [] s₀ s → P₁ v s.heap → ∃ l items x, v = .ref l ∧ s.heap.IsList l items ∧ 0 ≤ k ∧ k < 2 ^ 63 ∧ items[k.toNat]? = some x ∧ ∀ s', Gr [] s s' → R x s'.heap)
    (hs : ∀ l u, subscripted slice false (.ref l) (.int k u) = operate [.ref l, .int k u] (getItem (.ref l) (.int k u)) := by intro _ _; with_unfolding_all rfl) (hg : ∀ l r, letTemporaryGo value (.ref l) r = pure () := by intro _ _; with_unfolding_all rfl) :
    Px prog w A (eval (.Subscript value slice pos) env) s₀ R := fun s Q E g kk =>
  Subscript_ (hv.use g fun v s₁ g₁ p₁ => (hi.from (g.trans g₁)).use (.refl _ _) fun i s₂ g₂ p₂ => by
    obtain ⟨l, items, x, rfl, hl, h0, h1, hx, hR⟩ := h v s₁ (g.trans g₁) p₁
    obtain ⟨u, rfl⟩ := p₂
    exact item_list (hl.at fun o e => g₂.k _ _ e) h0 h1 hx (kk _ _ (g₁.trans g₂) (hR _ g₂)) (hs l u) (hg l))

theorem px_sum_LI (hh : A.handled = none) {a : Addr} {ns : List Int} (hl : LI s₀.heap a ns) : Px prog w A (call (.builtin "sum") [.ref a]) s₀ (IsI ns.sum) := fun s Q E g k => by
  obtain ⟨vs, hl, hi⟩ := hl
  have hl' : s.heap.IsList a vs.toArray := hl.at fun o e => g.k _ _ e
  have hlt : a < s.heap.objs.size := let ⟨_, e, _⟩ := hl'; Heap.lt_size e
  refine call_sum_walkG (wpAny_pyIter_list hl' ?_)
  refine ⟨s.heap.objs.size, _, _, _, _, _, fun i => ns.getD i 0, rfl, Walks.list (A := A.in1) hh _ a (Nat.ne_of_lt hlt) vs.toArray, ⟨⟨_, Heap.get?_push_size _ rfl, rfl, rfl⟩, hl'.at fun o e => Heap.get?_push_of_some _ e⟩, fun b hb => ?_, fun i v hv => ?_, fun h' tk t' hk => ?_⟩
  · simp only [List.mem_cons, List.not_mem_nil, or_false] at hb
    show b < (s.heap.push _).objs.size
    rw [Heap.size_push]
    rcases hb with rfl | rfl
    · exact Nat.lt_succ_self _
    · exact Nat.lt_succ_of_lt hlt
  · obtain ⟨y, ty, rfl, hy⟩ := IntsAre.at hi i v (by simpa using hv)
    exact ⟨ty, by show Value.int y ty = Value.int (ns.getD i 0) ty; rw [List.getD_eq_getElem?_getD, hy]; rfl⟩
  · have e : preSum (fun i => ns.getD i 0) vs.toArray.size = ns.sum := by
      rw [PyProof.Rows.preSum_getD, List.take_of_length_le (by simp [hi.length])]
    rw [e]
    exact k _ _ (.heap0 fun b o e => hk b o (fun hm => by
      rw [List.mem_singleton] at hm
      exact Nat.lt_irrefl _ (hm ▸ Heap.lt_size e)) (Heap.get?_push_of_some _ e)) ⟨t', rfl⟩

theorem cls_list_of {h : Heap} {a : Addr} {xs : Array Value} {c : Nat} (e : IsLst h a xs c) : h.IsList a xs := ⟨_, e, rfl, _, rfl⟩

/-- l.append(e), l a local name -/
theorem sx_append {x : Str} {px apos pos pos2 : Pos} {e : Expr} {D : Addr} {ys : Array Value} {P : Value → Heap → Prop} (hx : Px prog w A (eval (.Name x px) env) s (IsV (.ref D))) (hD : s.heap.PlainList D ys)
    (he : Px prog w A (eval e env) s P) (hz : ys.size ≤ sizeLine)
    (h : ∀ v s₁ s', Gr [] s s₁ → P v s₁.heap → Gr [D] s₁ s' → s'.heap.PlainList D (ys.push v) → O .next s')
    (hi : interactive env = false := by rfl) (hsw : swapsWith (.Call (.Attribute (.Name x px) "append" apos) [e] [] pos) none pos2.line env = pure false := by rfl)
    (hbase : attributeBase (.Name x px) "append" env (eval (.Name x px) env) = eval (.Name x px) env := by rfl) (hline : (apos.endLine == pos.line) = true := by rfl) (hs : starEach [e] env = [(false, eval e env)] := by rfl) :
    Sx prog w A (exec (.Expr (.Call (.Attribute (.Name x px) "append" apos) [e] [] pos) pos2) env) s O := fun E => by
  rw [exec_Expr env _ _ hi hsw]
  refine wpAny_bind (wpAny_standAt (wpAny_bind ?_))
  rw [arm_eval_Call, hbase]
  refine wpAny_bind (hx.use (.refl _ _) fun v s₁ g₁ e₁ => ?_)
  obtain rfl := e₁
  refine wpAny_bind (wpAny_standAt ?_)
  have hform : methodCallForm ([e].length + ([] : List Keyword).length) (backTo pos (starEach [e] env)) (backToKw pos (keywordEach [] env)) = true := by rw [hs]; rfl
  have hpos : methodCallPos true (.Name x px) env apos pos = pure pos := by unfold methodCallPos; simp [hline]
  unfold methodCall
  rw [hform]
  obtain ⟨nn, hD'⟩ := hD
  refine wpAny_bind (wpAny_holding (Calls.getMethod_list_append (g₁.k _ _ hD') rfl rfl ?_))
  refine wpAny_bind (wpAny_of_eq hpos ?_)
  have ha := px_args1 (pos := pos) he hs
  refine Calls.callWith_builtin (by rw [hs]; rfl) ?_
  rw [hs] at ha ⊢
  refine Calls.evalArgs_plain (ha.use g₁ fun vs s₂ g₂ p₂ => ?_)
  obtain ⟨a, rfl, pa⟩ := p₂
  refine wpAny_list_append_plain (hsz := hz) ⟨nn, (g₁.trans g₂).k _ _ hD'⟩ fun h₃ hl₃ hs₃ => ?_
  exact wpAny_pure (h a s₂ _ (g₁.trans g₂) pa (.heap (tk := s₂.toks) fun b o hb e => hs₃.extBut b o (by simpa using hb) e) hl₃)

/-- while -/
theorem sx_while {test : Expr} {body : List Stmt} {pos : Pos} (J : Nat → Shared → Prop) (n : Nat) (h0 : J n s)
    (turn : ∀ n s, J n s → ∃ b : Bool, Px prog w A (isTrue test env (eval test env)) s (fun c _ => c = b) ∧ ∀ s₁, Gr [] s s₁ → if b = true then Sx prog w A (execs body env) s₁ (fun f s₂ => match f with | .next | .cont => ∃ m, m < n ∧ J m s₂ | .brk => False | .ret v => O (.ret v) s₂) else O .next s₁) :
    Sx prog w A (exec (.While test body [] pos) env) s O := fun E => by
  refine wpAny_While (codeAny_whileLoop J (fun n s hJ => ?_) n h0)
  obtain ⟨b, ht, hb⟩ := turn n s hJ
  refine ht.use (.refl _ _) fun c s₁ g₁ e => ?_
  subst e
  have := hb s₁ g₁
  cases c with
  | true =>
    rw [if_pos rfl] at this ⊢
    refine wpAny_mono (this _) (fun f s₃ z => ?_) fun _ _ e => e
    cases f with
    | brk => exact z.elim
    | ret v => exact z
    | next | cont => exact z
  | false =>
    rw [if_neg Bool.false_ne_true] at this ⊢
    exact wpAny_execs_nil this

/-- l[:k] -/
theorem px_slice {value : Expr} {lower upper : Option Expr} {p pos : Pos} {P₁ : Value → Heap → Prop} {lo hi : Option Int} {l : Addr} {items : Array Value} (hl : s₀.heap.IsList l items) (hz : items.size ≤ sizeLine) (hv : Px prog w A (eval value env) s₀ (IsV (.ref l)))
    (hlo : Px prog w A (evalPart lower env) s₀ (fun v _ => IsPart v lo)) (hhi : Px prog w A (evalPart upper env) s₀ (fun v _ => IsPart v hi))
    (ht : ∀ o r, letTemporaryGo value o r = pure () := by intro _ _; rfl) :
    Px prog w A (eval (.Subscript value (.Slice lower upper none p) pos) env) s₀ (fun v h => ∃ l', v = .ref l' ∧ s₀.heap.get? l' = none ∧ h.PlainList l' (slicePick items lo hi none)) := fun s Q E g k =>
  wpAny_Subscript_list_slice (hv.use g fun v s₁ g₁ e₁ => (hlo.from (g.trans g₁)).use (.refl _ _) fun vl s₂ g₂ p₂ => (hhi.from ((g.trans g₁).trans g₂)).use (.refl _ _) fun vu s₃ g₃ p₃ => by
    refine ⟨l, items, lo, hi, e₁, hl.at fun o e => (((g.trans g₁).trans g₂).trans g₃).k _ _ e, hz, p₂, p₃, k _ _ (((g₁.trans g₂).trans g₃).trans (.heap0 (tk := s₃.toks) fun b o e => Heap.get?_push_of_some _ (Heap.get?_push_of_some _ e))) ⟨_, rfl, noneBack (((g.trans g₁).trans g₂).trans g₃) (Heap.get?_none_of_le (Nat.le_succ _)), 0, ?_⟩⟩
    have := Heap.get?_push_size (s₃.heap.push { cls := .type "slice", data := .fields #[vl, vu, .none] }) (o := { cls := .type "list", data := .seq (slicePick items lo hi none) }) rfl
    rwa [Heap.size_push] at this) ht
end
end Mine
end

section
open PySem PySem.W PyProof.Rows
set_option maxRecDepth 100000
set_option linter.unusedVariables false
namespace Mine
section
variable {prog : Program} {w : World} {A : Around} {env : Env} {s : Shared} {O : Flow → Shared → Prop}
theorem sx_forE {target iter : Expr} {body : List Stmt} {pos : Pos} {n : Nat} {P : Nat → Value → Prop} (W : List Addr) (J : Nat → Shared → Prop)
    (he : Px prog w A (eval iter env) s (fun v h => ∃ own, (∀ b ∈ own, b ∉ W) ∧ Itb prog w A h v own n P)) (hW : ∀ b ∈ W, ∃ o, s.heap.get? b = some o)
    (h0 : ∀ s', Gr [] s s' → J 0 s') (hJ : ∀ i s' s'' I, s.heap.get? I = none → IsIt s'.heap I → J i s' → Gr [I] s' s'' → J i s'')
    (turn : ∀ i v s₁, i < n → P i v → J i s₁ → Sx prog w A (assign target env v) s₁ (fun _ s₂ => Sx prog w A (execs body env) s₂ (fun f s₃ => match f with
      | .next | .cont => J (i + 1) s₃ ∧ ∀ b o, b ∉ W → s₁.heap.get? b = some o → s₃.heap.get? b = some o
      | .brk => False
      | .ret v => O (.ret v) s₃)))
    (fin : ∀ s', J n s' → O .next s')
    (hs : ∀ x, foldedSetIterable iter env x = pure x := by intro _; rfl) (ht : ∀ it v, letOwnedTupleGo target it v = pure () := by intro _ _; rfl) :
    Sx prog w A (exec (.For target iter body [] pos) env) s O := fun E => by
  refine wpAny_For (he.use (.refl _ _) fun xv s₁ g₁ hi => ?_) hs
  obtain ⟨own, hown, hi⟩ := hi
  refine hi s₁ _ _ (fun _ _ e => e) fun s₂ I St g₂ hI hI' Wk hst hown' => ?_
  have hIs : s.heap.get? I = none := by
    cases e : s.heap.get? I with
    | none => rfl
    | some o => rw [g₁.k _ _ e] at hI; cases hI
  have hIW : I ∉ W := fun hm => by obtain ⟨o, e⟩ := hW I hm; rw [hIs] at e; cases e
  refine codeAny_forLoop_any (fun k s' => ∃ i, i ≤ n ∧ k = n + 1 - i ∧ St i s'.heap ∧ J i s') ?_ (n + 1) ⟨0, Nat.zero_le _, rfl, hst, h0 s₂ (g₁.trans g₂)⟩
  rintro k s' ⟨i, hi, rfl, hst', hj⟩
  by_cases hlt : i < n
  · refine Wk.item i s' _ _ hlt hst' fun v h' tk p hst₁ hk₁ => ?_
    have gI : Gr [I] s' { s' with heap := h', toks := tk } := .heap fun b o hb e => hk₁ b o hb e
    have hj₁ := hJ i s' _ I hIs (hI' i _ hst') hj gI
    show wpAny _ _ (letOwnedTupleGo target (.ref I) v) _ _ _
    refine wpAny_of_eq (ht _ _) (wpAny_mono (turn i v _ hlt p hj₁ _) (fun _ s₂ q => wpAny_mono (q _) (fun f s₃ z => ?_) fun _ _ e => e) fun _ _ e => e)
    cases f with
    | brk => exact z.elim
    | ret v => exact z
    | next | cont =>
      have ⟨z1, z2⟩ := z
      have hst3 : St (i + 1) s₃.heap := Wk.frame _ _ _ hst₁ fun b hb o e => by
        rcases List.mem_cons.mp hb with rfl | hb
        · exact z2 _ o hIW e
        · exact z2 b o (hown b hb) e
      exact ⟨n + 1 - (i + 1), by omega, i + 1, hlt, rfl, hst3, z1⟩
  · have hin : i = n := by omega
    subst hin
    refine Wk.done s' _ _ hst' fun h' tk hk' => ?_
    exact wpAny_execs_nil (fin _ (hJ i s' _ I hIs (hI' i _ hst') hj (.heap fun b o hb e => hk' b o hb e)))


theorem px_compE {elt iter : Expr} {x : Str} {px : Pos} {scope : Scope} {cl : List (Str × Addr)} {pos : Pos} {n : Nat} {P : Nat → Value → Prop} (F : List Addr → Nat → Value → Heap → Prop)
    (hclos : closureFor scope env = pure cl) (hiter : Px prog w A (eval iter env) s (fun v h => ∃ own, Itb prog w A h v own n P)) (hsz : n ≤ sizeLine)
    (hF : ∀ W i y h h', F W i y h → (∀ b o, b ∉ W → h.get? b = some o → h'.get? b = some o) → F W i y h')
    (helt : ∀ W C i v s' m', i < n → P i v → Gr W s s' → (∀ b ∈ W, s.heap.get? b = none ∧ ∃ o, s'.heap.get? b = some o) → C ∈ W → s'.heap.Ns C m' → m' x = some v → Px prog w A (eval elt (compEnvC scope cl C env)) s' (F W i))
    (hx : scope.names.lookup x = some .local := by rfl) (hcell : ∀ y ∈ scope.names, y.2 ≠ .cell := by decide) (hkind : scope.kind = .function := by rfl)
    (hnames : ∀ y ∈ scope.names, y.2 = .local → scope.names.lookup y.1 = some .local := by decide)
    (hs : ∀ x, foldedSetIterable iter env x = pure x := by intro _; rfl) :
    Px prog w A (eval (.ListComp elt [⟨.Name x px, iter, [], 0⟩] scope pos) env) s
      (fun v h => ∃ D ys W, v = .ref D ∧ s.heap.get? D = none ∧ h.PlainList D ys ∧ ys.size = n ∧ (∀ b ∈ W, s.heap.get? b = none) ∧ ∀ i (hi : i < ys.size), F W i ys[i] h) := fun s₁ Q E g k => by
  rw [eval_ListComp]
  refine wpAny_comprehension_free (use := none) rfl hs hclos hkind hnames (hiter.use g fun xv s₂ g₂ hi => Exists.elim hi fun own hi => hi s₂ _ _ (fun _ _ e => e) fun s₃ I St g₃ hI hlive Wk hst hown => ?_)
  have gs := (g.trans g₂).trans g₃
  have up : ∀ b, s₃.heap.get? b = none → s.heap.get? b = none := fun b e => by
    cases h : s.heap.get? b with
    | none => rfl
    | some o => rw [gs.k _ _ h] at e; cases e
  have hIs : s.heap.get? I = none := by
    cases e : s.heap.get? I with
    | none => rfl
    | some o => rw [(g.trans g₂).k _ _ e] at hI; cases hI
  refine comp_block (RR := fun acc C => compPost (model prog w) A E none Q acc C) F Wk hst hlive (fun b hb => ?_) hcell hkind hx hsz hF (fun C D i v s' m' hC hD hi p g' hl hn hm => ?_) ?_
  · exact hown b hb
  · refine helt [I, D, C] C i v s' m' hi p (gs.any.trans g') (fun b hb => ⟨?_, hl b hb⟩) (by simp) hn hm
    simp only [List.mem_cons, List.not_mem_nil, or_false] at hb
    rcases hb with rfl | rfl | rfl
    · exact hIs
    · exact up _ hD
    · exact up _ hC
  · intro C D s' ys m' hC hD hCD g' hn hp hy hf
    refine ⟨m', hn, fun h'' hs'' => ?_⟩
    have g'' : Gr [C] s' { s' with heap := h'' } := .heap fun b o hb e => hs''.extBut b o (by simpa using hb) e
    have gg : Gr [I, D, C] s₁ { s' with heap := h'' } := ((g₂.trans g₃).any.trans g').trans (g''.mono (by simp))
    have hW1 : ∀ b ∈ [I, D, C], s.heap.get? b = none := fun b hb => by
      simp only [List.mem_cons, List.not_mem_nil, or_false] at hb
      rcases hb with rfl | rfl | rfl
      · exact hIs
      · exact up _ hD
      · exact up _ hC
    have hW2 : ∀ b ∈ [I, D, C], s₁.heap.get? b = none := fun b hb => by
      have up1 : ∀ b, s₃.heap.get? b = none → s₁.heap.get? b = none := fun b e => by
        cases h : s₁.heap.get? b with
        | none => rfl
        | some o => rw [(g₂.trans g₃).k _ _ h] at e; cases e
      simp only [List.mem_cons, List.not_mem_nil, or_false] at hb
      rcases hb with rfl | rfl | rfl
      · cases e : s₁.heap.get? b with
        | none => rfl
        | some o => rw [g₂.k _ _ e] at hI; cases hI
      · exact up1 _ hD
      · exact up1 _ hC
    refine k _ _ (Gr.frame (.refl _ _) gg hW2) ⟨D, ys, [I, D, C], rfl, up _ hD, ?_, hy, hW1, fun i hi => ?_⟩
    · obtain ⟨nn, e⟩ := hp; exact ⟨nn, g''.keep _ _ (by simpa using Ne.symm hCD) e⟩
    · exact hF _ _ _ _ _ (hf i hi) fun b o hb e => g''.keep b o (by simp only [List.mem_cons, List.not_mem_nil, or_false] at hb ⊢; rintro rfl; exact hb (.inr (.inr rfl))) e

theorem sx_compE {elt iter : Expr} {x y : Str} {px py : Pos} {scope : Scope} {cl : List (Str × Addr)} {pos spos : Pos} {n : Nat} {P : Nat → Value → Prop} {m : Str → Option Value} (F : List Addr → Nat → Value → Heap → Prop)
    (hn : s.heap.Ns env.locals m) (hclos : closureFor scope env = pure cl) (hiter : Px prog w A (eval iter env) s (fun v h => ∃ own, Itb prog w A h v own n P)) (hsz : n ≤ sizeLine)
    (hF : ∀ W i y h h', F W i y h → (∀ b o, b ∉ W → h.get? b = some o → h'.get? b = some o) → F W i y h')
    (helt : ∀ W C i v s' m', i < n → P i v → Gr W s s' → (∀ b ∈ W, (b = env.locals ∨ s.heap.get? b = none) ∧ ∃ o, s'.heap.get? b = some o) → C ∈ W → s'.heap.Ns C m' → m' x = some v → Px prog w A (eval elt (compEnvC scope cl C env)) s' (F W i))
    (h : ∀ D ys W s₂, s.heap.get? D = none → s₂.heap.PlainList D ys → ys.size = n → (∀ b ∈ W, b = env.locals ∨ s.heap.get? b = none) → (∀ i (hi : i < ys.size), F W i ys[i] s₂.heap) → s₂.heap.Ns env.locals (upd m y (.ref D)) → Gr [env.locals] s s₂ → O .next s₂)
    (hsw : swapsWith (.ListComp elt [⟨.Name x px, iter, [], 0⟩] scope pos) (some (.Name y py)) spos.line env = pure true := by rfl)
    (hx : scope.names.lookup x = some .local := by rfl) (hcell : ∀ y ∈ scope.names, y.2 ≠ .cell := by decide) (hkind : scope.kind = .function := by rfl)
    (hnames : ∀ y ∈ scope.names, y.2 = .local → scope.names.lookup y.1 = some .local := by decide) (hek : env.scope.kind = .function := by rfl) (hy : env.kindOf y = some .local := by rfl)
    (hs : ∀ x, foldedSetIterable iter env x = pure x := by intro _; rfl) :
    Sx prog w A (exec (.Assign [.Name y py] (.ListComp elt [⟨.Name x px, iter, [], 0⟩] scope pos) spos) env) s O := fun E => by
  rw [exec_Assign_Name_used _ _ _ _ hsw]
  refine wpAny_bind (wpAny_standAt (wpAny_bind ?_))
  show wpAny _ A (do let _ ← comprehension (.ListComp elt [⟨.Name x px, iter, [], 0⟩] scope pos) scope env _ (newList []) false (eval iter env) (some (assign (.Name y py) env))) _ _ s
  refine wpAny_bind (wpAny_mono (wpAny_comprehension_free (use := some (assign (.Name y py) env)) (Q := fun _ s' => O .next s') rfl hs hclos hkind hnames
    (hiter.use (.refl _ _) fun xv s₂ g₂ hi => Exists.elim hi fun own hi => hi s₂ _ _ (fun _ _ e => e) fun s₃ I St g₃ hI hlive Wk hst hown => ?_)) (fun _ s' hq => wpAny_pure (wpAny_pure hq)) fun _ _ e => e)
  have gs := g₂.trans g₃
  have hIs := none_back g₂ hI
  have hnL : ∀ {b : Addr}, s.heap.get? b = none → env.locals ≠ b := fun hb e => by obtain ⟨o, _, _, eo, _⟩ := hn; rw [← e, eo] at hb; cases hb
  refine comp_block (RR := fun acc C => compPost (model prog w) A E (some (assign (.Name y py) env)) (fun _ s' => O .next s') acc C) (fun W => F (env.locals :: W)) Wk hst hlive hown hcell hkind hx hsz
    (fun W i y h h' f k => hF _ _ _ _ _ f fun b o hb e => k b o (fun q => hb (List.mem_cons_of_mem _ q)) e) (fun C D i v s' m' hC hD hi p g' hl hn' hm => ?_) ?_
  · refine helt (env.locals :: [I, D, C]) C i v s' m' hi p (gs.any.trans (g'.mono fun b hb => List.mem_cons_of_mem _ hb)) (fun b hb => ?_) (by simp) hn' hm
    rcases List.mem_cons.mp hb with rfl | hb
    · obtain ⟨o, _, _, eo, _⟩ := hn
      refine ⟨.inl rfl, o, g'.keep _ _ ?_ (gs.k _ _ eo)⟩
      simp only [List.mem_cons, List.not_mem_nil, or_false, not_or]
      exact ⟨hnL hIs, hnL (none_back gs hD), hnL (none_back gs hC)⟩
    · refine ⟨.inr ?_, hl b hb⟩
      simp only [List.mem_cons, List.not_mem_nil, or_false] at hb
      rcases hb with rfl | rfl | rfl
      · exact hIs
      · exact none_back gs hD
      · exact none_back gs hC
  · intro C D s' ys m' hC hD hCD g' hnC hp hys hf
    have hL : env.locals ∉ [I, D, C] := by
      simp only [List.mem_cons, List.not_mem_nil, or_false, not_or]
      exact ⟨hnL hIs, hnL (none_back gs hD), hnL (none_back gs hC)⟩
    have hnL' : s'.heap.Ns env.locals m := (hn.keeps gs.k).at' fun o e => g'.keep _ o hL e
    show wpAny _ A (assign (.Name y py) env (.ref D)) _ _ _
    refine wpAny_assign_Name (sx_store hnL' (fun s₄ hn₄ g₄ => ?_) hek hy E)
    refine ⟨m', hnC.at' fun o e => g₄.keep _ o (by simpa using Ne.symm (hnL (none_back gs hC))) e, fun h'' hs'' => ?_⟩
    have g'' : Gr [C] s₄ { s₄ with heap := h'' } := .heap fun b o hb e => hs''.extBut b o (by simpa using hb) e
    have gg : Gr (env.locals :: [I, D, C]) s { s₄ with heap := h'' } := ((gs.any.trans (g'.mono fun b hb => List.mem_cons_of_mem _ hb)).trans (g₄.mono (by simp))).trans (g''.mono (by simp))
    refine h D ys (env.locals :: [I, D, C]) _ (none_back gs hD) ?_ hys (fun b hb => ?_) (fun i hi => ?_) ?_ ?_
    · obtain ⟨nn, e⟩ := hp
      exact ⟨nn, g''.keep _ _ (by simpa using Ne.symm hCD) (g₄.keep _ _ (by simpa using Ne.symm (hnL (none_back gs hD))) e)⟩
    · rcases List.mem_cons.mp hb with rfl | hb
      · exact .inl rfl
      · simp only [List.mem_cons, List.not_mem_nil, or_false] at hb
        rcases hb with rfl | rfl | rfl
        · exact .inr hIs
        · exact .inr (none_back gs hD)
        · exact .inr (none_back gs hC)
    · refine hF _ _ _ _ _ (hf i hi) fun b o hb e => g''.keep b o (fun q => hb ?_) (g₄.keep b o (fun q => hb ?_) e)
      · simp only [List.mem_cons, List.not_mem_nil, or_false] at q; subst q; simp
      · simp only [List.mem_cons, List.not_mem_nil, or_false] at q; subst q; simp
    · exact hn₄.at' fun o e => g''.keep _ o (by simpa using hnL (none_back gs hC)) e
    · refine ⟨fun b o hb e => gg.keep b o ?_ e, gg.same⟩
      simp only [List.mem_cons, List.not_mem_nil, or_false] at hb ⊢
      rintro (q | rfl | rfl | rfl)
      · exact hb q
      · rw [hIs] at e; cases e
      · rw [none_back gs hD] at e; cases e
      · rw [none_back gs hC] at e; cases e
end
end Mine
end

section
open PySem PySem.W PyProof.Rows
set_option maxRecDepth 100000
set_option linter.unusedVariables false
namespace Mine
variable {P : Params}
theorem fn61 {h} (X : Wd P h) : h.get? 61 = some { cls := .type "function", data := .func (fn 61) } := X.K 61 _ rfl
theorem code61 {h} (X : Wd P h) : h.CodeRec (fn 61).code (fn 61).qualname := ⟨_, _, _, _, rfl, X.K 60 _ rfl, rfl, rfl⟩
theorem bind61 (r d : Value) : bindArgs (fn 61) ⟨[r, d], []⟩ = pure [(Str.ofString "script", r), (Str.ofString "many", d)] := by rfl

theorem Gr.drop {L D : Addr} {s s' : Shared} (g : Gr [L, D] s s') (hD : s.heap.get? D = none) : Gr [L] s s' := ⟨fun b o hb e => g.keep b o (fun hm => by
  simp only [List.mem_cons, List.not_mem_nil, or_false] at hm hb
  rcases hm with rfl | rfl
  · exact hb rfl
  · rw [hD] at e; cases e) e, g.same⟩
theorem Itb.mapP {prog : Program} {w : World} {A : Around} {h : Heap} {xv : Value} {own : List Addr} {n : Nat} {P P' : Nat → Value → Prop} (x : Itb prog w A h xv own n P) (k : ∀ i v, i < n → P i v → P' i v) : Itb prog w A h xv own n P' :=
  fun s Q E hk hQ => x s Q E hk fun s' I St g hI hl W hst hown => hQ s' I St g hI hl (walks_monoP W k) hst hown

theorem ints_of {ys : List Value} (h : ∀ i (hi : i < ys.length), ∃ n t, ys[i] = .int n t) : ∃ ns, IntsAre ys ns := by
  induction ys with
  | nil => exact ⟨[], .nil⟩
  | cons y ys ih =>
    obtain ⟨n, t, e⟩ := h 0 (by simp)
    obtain ⟨ns, q⟩ := ih fun i hi => by have := h (i + 1) (by simpa using hi); simpa using this
    have e : y = .int n t := e
    subst e
    exact ⟨n :: ns, .cons n t q⟩

section
variable {prog : Program} {w : World} {A : Around} {s₀ : Shared}
theorem px_law_numbers (X : Wd P s₀.heap) (hh : A.handled = none) (hA : A.depth < 900) {a : Addr} {xs : List Int} {t : Tok} (hl : LI s₀.heap a xs) (hx : xs.length ≤ 1000) :
    Px prog w A (call (.ref 61) [.ref a, .int 7 t]) s₀ (fun v h => ∃ D ns, v = .ref D ∧ LI h D ns ∧ ns.length = 7) := by
  obtain ⟨vs, hlv, hi⟩ := hl
  refine px_def (fn61 X) rfl X.lim (code61 X) (by have : recursionLimit = 1000 := rfl; omega) (body := bodyOf (fn 61)) rfl (bind61 _ _) (by decide) (by simp; exact ⟨rfl, rfl⟩) fun s s₁ L g g₁ hL hn => ?_
  have base : ∀ {s'}, Gr [L] s₁ s' → Gr [] s₀ s' := fun x => g.trans (g₁.frame x (by simpa using hL))
  have haL : a ≠ L := by rintro rfl; obtain ⟨o, e, _⟩ := hlv; rw [g.k _ _ e] at hL; cases hL
  have hlen := hi.length
  have g01 : Gr [] s₀ s₁ := g.trans g₁
  have hl₁ : s₁.heap.IsList a vs.toArray := hlv.at fun o e => g01.k _ _ e
  have hz : vs.toArray.size ≤ sizeLine := by rw [sizeLine_eq]; simp [hlen]; omega
  -- the names found
  refine sx_cons (sx_compE (fun W i y h => ∃ n t, y = .int n t) hn (cl := []) (by rfl) (n := (vs.take 7).length) (P := fun i v => ∃ n t, v = .int n t) ?_ (by rw [sizeLine_eq, List.length_take]; omega) (fun _ _ _ _ _ q _ => q)
    (fun W C i v s' m' hi' hv g' hW hC hns hm => (px_local hns hm).mono fun y s'' _ e => by subst e; exact hv) ?_)
  · refine (px_slice (P₁ := fun _ _ => True) hl₁ hz (px_local hn rfl) (lo := none) (hi := some 7) (fun s Q E g k => wpAny_pure (k _ _ (.refl _ _) .none)) ((px_local hn rfl).mono fun v s' g' e => by subst e; exact .int 7 t)).mono fun v s' g' q => ?_
    obtain ⟨l', rfl, _, hp⟩ := q
    have e := slicePick_upto' vs.toArray 7
    have hp' : s'.heap.IsList l' (vs.take 7).toArray := by
      have := hp.isList
      rw [show (some (7 : Int)) = some ((7 : Nat) : Int) from rfl, e] at this
      exact this
    refine ⟨[l'], ?_⟩
    have q : Itb prog w (A.deeper (callEnv (fn 61) L 61)) s'.heap (.ref l') [l'] (vs.take 7).toArray.size _ := itb_list (prog := prog) (w := w) (A := A.deeper (callEnv (fn 61) L 61)) hh hp'
    rw [List.size_toArray] at q
    refine Itb.mapP q fun i v _ hv => ?_
    have : (vs.take 7)[i]? = some v := by simpa using hv
    rw [List.getElem?_take] at this
    split at this
    · obtain ⟨y, ty, rfl, _⟩ := IntsAre.at hi i v this
      exact ⟨y, ty, rfl⟩
    · cases this
  intro D ys W s₂ hD hp hys hW hf hn₂ g₂
  obtain ⟨ns₀, hns₀⟩ : ∃ ns, IntsAre ys.toList ns := ints_of fun i hi' => by
    obtain ⟨n, t, e⟩ := hf i (by simpa using hi')
    exact ⟨n, t, by simpa using e⟩
  have hns₀l : ns₀.length ≤ 7 := by
    rw [← hns₀.length]
    simp only [Array.length_toList, hys, List.length_take]
    omega
  have hDL : D ≠ L := fun q => by obtain ⟨o, _, _, e, _⟩ := hn; rw [← q, hD] at e; cases e
  have X₂ : Wd P s₂.heap := X.keeps (base g₂).k
  -- last
  refine sx_cons (sx_assign hn₂ (px_add px_int (px_call1 (px_bi X₂) (px_local hn₂ (by rfl)) fun v s' g' e => by subst e; exact px_len_LI (ns := xs) ⟨vs, hlv.at fun o e => (base (g₂.trans g'.any)).k _ _ e, hi⟩ (by omega))) fun v s₃ s₄ g₃ p₃ hn₄ g₄ => ?_)
  obtain ⟨u₀, rfl⟩ := p₃
  have g₁₄ : Gr [L] s₁ s₄ := (g₂.trans g₃.any).trans g₄
  have hp₄ : s₄.heap.PlainList D ys := by obtain ⟨nn, e⟩ := hp; exact ⟨nn, g₄.keep _ _ (fun q => hDL (List.mem_singleton.mp q)) (g₃.k _ _ e)⟩
  -- for x in script
  refine sx_cons (sx_for [L] (fun i s' => Gr [L] s₄ s' ∧ ∃ m u z, s'.heap.Ns L m ∧ m (Str.ofString "script") = some (.ref a) ∧ m (Str.ofString "many") = some (.int 7 t) ∧ m (Str.ofString "found") = some (.ref D) ∧ m (Str.ofString "last") = some (.int z u))
    (own := [a]) (n := vs.toArray.size) (P := fun i v => vs.toArray[i]? = some v) ((px_local hn₄ (by rfl)).mono fun v s' g' e => by subst e; exact itb_list hh (hlv.at fun o e => (base (g₁₄.trans g'.any)).k _ _ e)) (by simpa using haL) (ns_live hn₄)
    (fun s' g' => ⟨g'.any, _, u₀, _, hn₄.keeps g'.k, rfl, rfl, rfl, rfl⟩) (fun i s' s'' I hI _ hJ gI => ?_) ?_ ?_)
  · obtain ⟨gj, m, u, z, hm, h1, h2, h3, h4⟩ := hJ
    exact ⟨gj.iter gI hI, m, u, z, gI.ns1 hm (ns_ne hn₄ hI), h1, h2, h3, h4⟩
  · rintro i v s₅ hi' hv ⟨gj, m, u, z, hm, h1, h2, h3, h4⟩
    obtain ⟨y, ty, rfl, hy⟩ := IntsAre.at hi i v (by simpa using hv)
    refine sx_bind hm fun s₆ hn₆ g₆ => ?_
    refine sx_cons (sx_assign hn₆ (px_mod (px_add (px_mul ((px_local hn₆ (by simp [upd]; exact h4)).mono fun v s' _ e => ⟨u, e⟩) px_int (mulOk_right (by decide))) ((px_local hn₆ (by simp [upd] <;> rfl)).mono fun v s' _ e => ⟨ty, e⟩)) px_int (by decide)) fun v s₇ s₈ g₇ p₇ hn₈ g₈ => sx_nil ?_)
    obtain ⟨u', rfl⟩ := p₇
    have gg : Gr [L] s₅ s₈ := (g₆.trans g₇.any).trans g₈
    exact ⟨⟨gj.trans gg, _, u', (z * 31 + y).fmod 2147483647, hn₈, by exact h1, by exact h2, by exact h3, by rfl⟩, gg.keep⟩
  -- the while
  rintro s₅ ⟨gj, m₅, u₅, z₅, hm₅, e1, e2, e3, e4⟩
  have g₁₅ : Gr [L] s₁ s₅ := g₁₄.trans gj
  have hp₅ : s₅.heap.PlainList D ys := by obtain ⟨nn, e⟩ := hp₄; exact ⟨nn, gj.keep _ _ (fun q => hDL (List.mem_singleton.mp q)) e⟩
  have hDs₁ : s₁.heap.get? D = none := hD
  refine sx_cons (sx_while (fun k s' => Gr [L, D] s₁ s' ∧ ∃ m u z ys ns, s'.heap.Ns L m ∧ m (Str.ofString "many") = some (.int 7 t) ∧ m (Str.ofString "found") = some (.ref D) ∧ m (Str.ofString "last") = some (.int z u) ∧ s'.heap.PlainList D ys ∧ IntsAre ys.toList ns ∧ ns.length ≤ 7 ∧ k = 7 - ns.length ∧ (∃ o, s'.heap.get? 61 = some o))
    (7 - ns₀.length) ⟨g₁₅.mono (by simp), m₅, u₅, z₅, ys, ns₀, hm₅, e2, e3, e4, hp₅, hns₀, hns₀l, rfl, _, fn61 (X.keeps (base g₁₅).k)⟩ ?_)
  rintro k s₆ ⟨g₆, m, u, z, ys, ns, hm, h2, h3, h4, hpl, hin, hle, rfl, _⟩
  have gf : Gr [] s₀ s₆ := g01.frame g₆ (by
    intro b hb
    simp only [List.mem_cons, List.not_mem_nil, or_false] at hb
    rcases hb with rfl | rfl
    · exact noneBack g hL
    · exact noneBack g01 hDs₁)
  have X₆ : Wd P s₆.heap := X.keeps gf.k
  have hsz : ys.size = ns.length := by have := hin.length; simpa using this
  have hli : s₆.heap.IsList D ys.toList.toArray := by simpa using hpl.isList
  refine ⟨decide ((ns.length : Int) < 7), px_tlt (px_call1 (R := IsI ns.length) (px_bi X₆) (px_local hm h3) fun v s' g' e => by subst e; exact px_len_LI (ns := ns) ⟨ys.toList, hli.at fun o e => g'.k _ _ e, hin⟩ (by omega)) ((px_local hm h2).mono fun v s' _ e => ⟨t, e⟩), fun s₇ g₇ => ?_⟩
  by_cases hlt : (ns.length : Int) < 7
  · rw [if_pos (decide_eq_true hlt)]
    have hm₇ := hm.keeps g₇.k
    refine sx_cons (sx_assign hm₇ (px_mod (px_add (px_mul ((px_local hm₇ h4).mono fun v s' _ e => ⟨u, e⟩) px_int (mulOk_right (by decide))) px_int) px_int (by decide)) fun v s₈ s₉ g₈ p₈ hn₉ g₉ => ?_)
    obtain ⟨u', rfl⟩ := p₈
    have hpl₉ : s₉.heap.PlainList D ys := by obtain ⟨nn, e⟩ := hpl; exact ⟨nn, g₉.keep _ _ (fun q => hDL (List.mem_singleton.mp q)) (g₈.k _ _ (g₇.k _ _ e))⟩
    refine sx_cons (sx_append (P := fun v h => ∃ n t, v = .int n t) (px_local hn₉ (by simp [upd]; exact h3)) hpl₉ ((px_fdiv ((px_local hn₉ (by simp [upd] <;> rfl)).mono fun v s' _ e => (⟨u', e⟩ : IsI _ v s'.heap)) px_int (by decide) (by decide)).mono fun v s' _ e => ⟨_, e⟩) (by rw [hsz, sizeLine_eq]; omega) fun v s₁₀ s₁₁ g₁₀ p₁₀ g₁₁ hpl₁₁ => sx_nil ?_)
    obtain ⟨nv, tv, rfl⟩ := p₁₀
    have g₉' : Gr [L] s₈ s₉ := g₉
    have gg : Gr [L, D] s₆ s₁₁ := (((g₇.any.trans g₈.any).trans (g₉'.mono (by simp))).trans g₁₀.any).trans (g₁₁.mono (by simp))
    refine ⟨7 - (ns ++ [nv]).length, ?_, g₆.trans gg, upd m (Str.ofString "last") (.int ((z * 48271 + 11).fmod 2147483647) u'), u', (z * 48271 + 11).fmod 2147483647, ys.push (.int nv tv), ns ++ [nv], ?_, ?_, ?_, ?_, hpl₁₁, ?_, ?_, rfl, ?_⟩
    · rw [List.length_append]; simp; omega
    · exact Heap.Ns.at' (show s₁₀.heap.Ns L _ from hn₉.keeps g₁₀.k) fun o e => g₁₁.keep _ o (fun q => hDL (List.mem_singleton.mp q).symm) e
    · exact h2
    · exact h3
    · rfl
    · rw [Array.toList_push]; exact ints_snoc hin
    · rw [List.length_append]; simp; omega
    · obtain ⟨o, e⟩ : ∃ o, s₀.heap.get? 61 = some o := ⟨_, fn61 X⟩
      exact ⟨o, (g01.frame (g₆.trans gg) (by
        intro b hb
        simp only [List.mem_cons, List.not_mem_nil, or_false] at hb
        rcases hb with rfl | rfl
        · exact noneBack g hL
        · exact noneBack g01 hDs₁)).k _ _ e⟩
  · rw [if_neg (by simpa using hlt)]
    have hn7 : ns.length = 7 := by omega
    refine sx_cons (sx_return (P := fun v h => ∃ D ns, v = .ref D ∧ LI h D ns ∧ ns.length = 7) ((px_local (hm.keeps g₇.k) h3).mono fun v s' g' e => (⟨D, ns, e, ⟨ys.toList, (hli.at fun o e => g₇.k _ _ e).at fun o e => g'.k _ _ e, hin⟩, hn7⟩ : ∃ D ns, v = .ref D ∧ LI s'.heap D ns ∧ ns.length = 7)) fun v s₈ g₈ p₈ => ⟨((g₆.trans g₇.any).trans g₈.any).drop hDs₁, p₈⟩)
end
end Mine
end

section
open PySem PySem.W PyProof.Rows
set_option maxRecDepth 100000
set_option linter.unusedVariables false
namespace Mine
theorem Gr.dropL {W W' : List Addr} {s s' : Shared} (g : Gr W' s s') (h : ∀ b ∈ W', b ∈ W ∨ s.heap.get? b = none) : Gr W s s' := ⟨fun b o hb e => g.keep b o (fun hm => by
  rcases h b hm with q | q
  · exact hb q
  · rw [q] at e; cases e) e, g.same⟩
section
variable {prog : Program} {w : World} {A : Around} {s₀ s : Shared} {env : Env} {R : Value → Heap → Prop} {O : Flow → Shared → Prop} {P : Value → Heap → Prop}

theorem px_list0 {pos : Pos} : Px prog w A (eval (.List [] pos) env) s₀ (fun v h => ∃ l, v = .ref l ∧ s₀.heap.get? l = none ∧ h.PlainList l #[]) := fun s Q E g k => by
  refine List_ (Calls.spliced_nil ?_)
  exact wpAny_newObj_type (k _ _ (.heap0 (tk := s.toks) fun b o e => Heap.get?_push_of_some _ e) ⟨_, rfl, noneBack g new_none, 0, Heap.get?_push_size _ rfl⟩) (by show ([] : List Value).toArray.size ≤ sizeLine; rw [sizeLine_eq]; simp)

/-- [e1, e2, e3] of three ints -/
theorem px_list3 {e1 e2 e3 : Expr} {pos : Pos} {a b c : Int} (h1 : Px prog w A (eval e1 env) s₀ (IsI a)) (h2 : Px prog w A (eval e2 env) s₀ (IsI b)) (h3 : Px prog w A (eval e3 env) s₀ (IsI c))
    (hs : starEach [e1, e2, e3] env = [(false, eval e1 env), (false, eval e2 env), (false, eval e3 env)] := by rfl) :
    Px prog w A (eval (.List [e1, e2, e3] pos) env) s₀ (fun v h => ∃ l t u r, v = .ref l ∧ h.IsList l #[.int a t, .int b u, .int c r]) := fun s Q E g k => by
  refine List_ ((px_args3 (P₂ := fun x y h => IsI a x h ∧ IsI b y h) (P₃ := fun x y z h => (IsI a x h ∧ IsI b y h) ∧ IsI c z h) h1 (fun x s' g' p => (h2.from g').mono fun _ _ _ q => ⟨p, q⟩) (fun x y s' g' p => (h3.from g').mono fun _ _ _ q => ⟨p, q⟩) hs).use g fun vs s₁ g₁ p₁ => ?_)
  obtain ⟨x, y, z, rfl, ⟨⟨t, rfl⟩, u, rfl⟩, r, rfl⟩ := p₁
  exact wpAny_newObj_type (k _ _ (g₁.trans (.heap0 (tk := s₁.toks) fun b o e => Heap.get?_push_of_some _ e)) ⟨_, t, u, r, rfl, _, Heap.get?_push_size _ rfl, rfl, 0, rfl⟩) (by show ([_, _, _] : List Value).toArray.size ≤ sizeLine; rw [sizeLine_eq]; simp)

/-- v[i], v a list made there -/
theorem px_itemT {value slice : Expr} {pos : Pos} {P₁ : Value → Heap → Prop} {k : Int} (hv : Px prog w A (eval value env) s₀ P₁) (hi : Px prog w A (eval slice env) s₀ (IsI k))
    (h : ∀ v s, Gr [] s₀ s → P₁ v s.heap → ∃ l items x, v = .ref l ∧ s.heap.IsList l items ∧ 0 ≤ k ∧ k < 2 ^ 63 ∧ items[k.toNat]? = some x ∧ ∀ s', Gr [] s s' → R x s'.heap)
    (hs : ∀ l u, subscripted slice false (.ref l) (.int k u) = operate [.ref l, .int k u] (getItem (.ref l) (.int k u)) := by intro _ _; with_unfolding_all rfl) :
    Px prog w A (eval (.Subscript value slice pos) env) s₀ R := fun s Q E g kk =>
  Subscript_ (hv.use g fun v s₁ g₁ p₁ => (hi.from (g.trans g₁)).use (.refl _ _) fun i s₂ g₂ p₂ => by
    obtain ⟨l, items, x, rfl, hl, h0, h1, hx, hR⟩ := h v s₁ (g.trans g₁) p₁
    obtain ⟨u, rfl⟩ := p₂
    have hl₂ : s₂.heap.IsList l items := hl.at fun o e => g₂.k _ _ e
    unfold subscriptTail
    refine wpAny_bind ?_
    rw [getitemInPython_of_ne (Shared.TypeIs.not_modules hl₂.typeIs)]
    refine wpAny_bind (wpAny_specialOf hl₂.typeIs slot_list_getitem.lookup ?_)
    refine wpAny_pure (wpAny_bind ?_)
    rw [hs l u]
    refine wpAny_operateT (wpAny_getItem_list hl₂ h0 h1 hx ?_)
    exact wpAny_bind (wpAny_letTemporaryGo (wpAny_pure (kk _ _ (g₁.trans g₂) (hR _ g₂)))))

theorem sx_storeC {x : Str} {c : Addr} {v₀ : Option Value} {v : Value} {O' : Unit → Shared → Prop} (hc : env.cells.lookup x = some c) (hv : s.heap.IsCell c v₀) (h : ∀ s₂, s₂.heap.IsCell c (some v) → Gr [c] s s₂ → O' () s₂)
    (hk : env.scope.kind = .function := by rfl) (hl : env.kindOf x = some .cell := by rfl) : Sx prog w A (storeName env x v) s O' := fun E =>
  wpAny_storeName_cell hk hl hc hv fun h' hn' hs => h _ hn' (.heap (tk := s.toks) fun b o hb e => hs.extBut b o (by simpa using hb) e)
theorem sx_bindC {x : Str} {pos : Pos} {c : Addr} {v₀ : Option Value} {v : Value} {O' : Unit → Shared → Prop} (hc : env.cells.lookup x = some c) (hv : s.heap.IsCell c v₀) (h : ∀ s₂, s₂.heap.IsCell c (some v) → Gr [c] s s₂ → O' () s₂)
    (hk : env.scope.kind = .function := by rfl) (hl : env.kindOf x = some .cell := by rfl) : Sx prog w A (assign (.Name x pos) env v) s O' := fun E => wpAny_assign_Name (sx_storeC hc hv h hk hl E)
theorem sx_assignC {x : Str} {px pos : Pos} {e : Expr} {c : Addr} {v₀ : Option Value} (hc : env.cells.lookup x = some c) (hv : s.heap.IsCell c v₀) (he : Px prog w A (eval e env) s P)
    (h : ∀ v s₁ s₂, Gr [] s s₁ → P v s₁.heap → s₂.heap.IsCell c (some v) → Gr [c] s₁ s₂ → O .next s₂)
    (hs : swapsWith e (some (.Name x px)) pos.line env = pure false := by rfl) (hk : env.scope.kind = .function := by rfl) (hl : env.kindOf x = some .cell := by rfl) :
    Sx prog w A (exec (.Assign [.Name x px] e pos) env) s O := fun E =>
  wpAny_Assign_Name (he.use (.refl _ _) fun v s₁ g₁ p₁ => sx_storeC hc (hv.keeps g₁.k) (fun s₂ hn₂ g₂ => h v s₁ s₂ g₁ p₁ hn₂ g₂) hk hl E) hs

/-- range(n) -/
theorem px_range (hh : A.handled = none) {f : Str} {p pos : Pos} {e : Expr} {n : Nat} (hf : Px prog w A (eval (.Name f p) env) s₀ (IsV (.type "range"))) (he : Px prog w A (eval e env) s₀ (IsI n)) (hn : n < 2 ^ 60)
    (hs : starEach [e] env = [(false, eval e env)] := by rfl) :
    Px prog w A (eval (.Call (.Name f p) [e] [] pos) env) s₀ (fun v h => Itb prog w A h v [] n (fun i v => ∃ t, v = .int i t)) :=
  px_call1 hf he (fun a s g q => fun s' Q E g' k => by
    obtain ⟨t, rfl⟩ := q
    exact call_range_1 (k _ _ (.heap0 fun b o e => Heap.get?_push_of_some _ e) (itb_range hh (IsRange.new ..) hn))) (hs := hs)
end
end Mine
end

section
open PySem PySem.W PyProof.Rows
set_option maxRecDepth 100000
set_option linter.unusedVariables false
namespace Mine
variable {P : Params}
theorem fn66 {h} (X : Wd P h) : h.get? 66 = some { cls := .type "function", data := .func (fn 66) } := X.K 66 _ rfl
theorem code66 {h} (X : Wd P h) : h.CodeRec (fn 66).code (fn 66).qualname := ⟨_, _, _, _, rfl, X.K 65 _ rfl, rfl, rfl⟩
theorem bind66 (r : Value) : bindArgs (fn 66) ⟨[r], []⟩ = pure [(Str.ofString "found", r)] := by rfl

/-- what _law_rows gives -/
def RowsOut (v : Value) (h : Heap) : Prop := ∃ T d td R rowsV rows long, v = .ref T ∧ h.get? T = some { cls := .type "tuple", data := .seq #[.int ((d : Nat) : Int) td, .ref R] } ∧ (d = 1 ∨ d = 2 ∨ d = 4) ∧ h.IsList R rowsV ∧ All2 (RowI h) rowsV.toList rows ∧
  0 < rows.length ∧ rows.length ≤ 4 ∧ 0 < long ∧ long < 10 ∧ ∀ row ∈ rows, row.length = long ∧ ∀ x ∈ row, 0 ≤ x ∧ x < 2 ^ d

theorem ints_ofP {p : Int → Prop} {ys : List Value} (h : ∀ i (hi : i < ys.length), ∃ n t, ys[i] = .int n t ∧ p n) : ∃ ns, IntsAre ys ns ∧ ∀ n ∈ ns, p n := by
  induction ys with
  | nil => exact ⟨[], .nil, fun _ h => nomatch h⟩
  | cons y ys ih =>
    obtain ⟨n, t, e, hp⟩ := h 0 (by simp)
    obtain ⟨ns, q, hq⟩ := ih fun i hi => by have := h (i + 1) (by simpa using hi); simpa using this
    have e : y = .int n t := e
    subst e
    exact ⟨n :: ns, .cons n t q, fun m hm => by rcases List.mem_cons.mp hm with rfl | hm; exact hp; exact hq m hm⟩

section
variable {prog : Program} {w : World} {A : Around} {s₀ : Shared}
theorem px_part {env : Env} {e : Expr} {Q : Value → Heap → Prop} (h : Px prog w A (eval e env) s₀ Q) : Px prog w A (evalPart (some e) env) s₀ Q := h
theorem fmod_nat {a : Int} {n : Nat} (hn : 0 < n) : ∃ k : Nat, a.fmod n = k ∧ k < n := by
  have h1 := Int.fmod_nonneg_of_pos a (show (0 : Int) < n by omega)
  have h2 := Int.fmod_lt_of_pos a (show (0 : Int) < n by omega)
  exact ⟨(a.fmod n).toNat, by omega, by omega⟩

theorem px_found {env : Env} {s : Shared} {x : Str} {p pos pc : Pos} {kc : Nat} {D : Addr} {ns : List Int} {i : Nat} {n : Int} (hx : Px prog w A (eval (.Name x p) env) s (IsV (.ref D))) (hl : LI s.heap D ns) (hi : ns[i]? = some n) (hsz : i < 100)
    (hs : ∀ l u, subscripted (.Constant (.int i) kc pc) false (.ref l) (.int (i : Int) u) = operate [.ref l, .int (i : Int) u] (getItem (.ref l) (.int (i : Int) u)) := by intro _ _; with_unfolding_all rfl)
    (hg : ∀ l r, letTemporaryGo (.Name x p) (.ref l) r = pure () := by intro _ _; with_unfolding_all rfl) :
    Px prog w A (eval (.Subscript (.Name x p) (.Constant (.int i) kc pc) pos) env) s (IsI n) := by
  obtain ⟨vs, hlv, hi'⟩ := hl
  refine px_item (k := (i : Int)) hx px_int (fun v s' g e => ?_) hs hg
  subst e
  have hlt : i < ns.length := by
    rcases Nat.lt_or_ge i ns.length with q | q
    · exact q
    · rw [List.getElem?_eq_none q] at hi; cases hi
  have hv : vs[i]? = some (vs[i]'(by rw [hi'.length]; exact hlt)) := List.getElem?_eq_getElem _
  obtain ⟨y, ty, e, hy⟩ := IntsAre.at hi' i _ hv
  rw [hi] at hy; cases hy
  refine ⟨D, vs.toArray, .int n ty, rfl, hlv.at fun o e => g.k _ _ e, by omega, by omega, ?_, fun s'' _ => ⟨ty, rfl⟩⟩
  rw [Int.toNat_natCast]
  simpa [e] using hv

theorem px_law_rows (X : Wd P s₀.heap) (hh : A.handled = none) (hA : A.depth < 900) {a : Addr} {ns : List Int} (hl : LI s₀.heap a ns) (h7 : ns.length = 7) :
    Px prog w A (call (.ref 66) [.ref a]) s₀ RowsOut := by
  refine px_defC (fn66 X) rfl X.lim (code66 X) (by have : recursionLimit = 1000 := rfl; omega) (body := bodyOf (fn 66)) rfl (bind66 _) rfl (fun L x hx => .inl (by simp at hx; subst hx; rfl)) fun s s₁ L g hsz x g₁ => ⟨[L, L + 1, L + 2], ?_, ?_⟩
  · intro b hb
    simp only [List.mem_cons, List.not_mem_nil, or_false] at hb
    rcases hb with rfl | rfl | rfl
    · exact Nat.le_refl _
    · exact Nat.le_succ _
    · exact Nat.le_add_right _ _
  obtain ⟨n0, e0⟩ : ∃ n, ns[0]? = some n := ⟨_, List.getElem?_eq_getElem (by omega)⟩
  obtain ⟨n1, e1⟩ : ∃ n, ns[1]? = some n := ⟨_, List.getElem?_eq_getElem (by omega)⟩
  obtain ⟨n2, e2⟩ : ∃ n, ns[2]? = some n := ⟨_, List.getElem?_eq_getElem (by omega)⟩
  obtain ⟨k0, f0, l0⟩ := fmod_nat (a := n0) (n := 3) (by decide)
  obtain ⟨k1, f1, l1⟩ := fmod_nat (a := n1) (n := 9) (by decide)
  obtain ⟨k2, f2, l2⟩ := fmod_nat (a := n2 + 3) (n := 4) (by decide)
  have gs : Gr [] s₀ s₁ := g.trans g₁
  have hl₁ : ∀ {s'}, Gr [] s₁ s' → LI s'.heap a ns := fun g' => by obtain ⟨vs, hlv, hi⟩ := hl; exact ⟨vs, hlv.at fun o e => (gs.trans g').k _ _ e, hi⟩
  have hns : s₁.heap.Ns L _ := x.toInCall.ns
  have hc1 : s₁.heap.IsCell (L + 1) none := x.cell (Str.ofString "depth") (L + 1) rfl
  have hc2 : s₁.heap.IsCell (L + 2) none := x.cell (Str.ofString "x") (L + 2) rfl
  -- depth
  refine sx_cons (sx_assignC (env := callEnvC (fn 66) L 66) (c := L + 1) rfl hc1 (P := fun v h => ∃ (d : Nat) (t : Tok), v = .int d t ∧ (d = 1 ∨ d = 2 ∨ d = 4)) (px_itemT (k := (k0 : Int)) (px_list3 px_int px_int px_int) ((px_mod (px_found (i := 0) (px_local hns (by rfl)) (hl₁ (.refl _ _)) e0 (by decide)) px_int (by decide)).mono fun v s' _ q => by rw [show (3 : Int) = ((3 : Nat) : Int) from rfl, f0] at q; exact q) fun v s' g' q => ?_) fun v s₂ s₃ g₂ p₂ hc₃ g₃ => ?_)
  · obtain ⟨l, t, u, r, rfl, hl⟩ := q
    rcases (by omega : k0 = 0 ∨ k0 = 1 ∨ k0 = 2) with rfl | rfl | rfl
    · exact ⟨l, _, _, rfl, hl, by decide, by decide, rfl, fun _ _ => ⟨4, t, rfl, .inr (.inr rfl)⟩⟩
    · exact ⟨l, _, _, rfl, hl, by decide, by decide, rfl, fun _ _ => ⟨2, u, rfl, .inr (.inl rfl)⟩⟩
    · exact ⟨l, _, _, rfl, hl, by decide, by decide, rfl, fun _ _ => ⟨1, r, rfl, .inl rfl⟩⟩
  obtain ⟨d, td, rfl, hd⟩ := p₂
  have g₁₃ : Gr [L + 1] s₁ s₃ := (g₂.any).trans g₃
  have nL1 : L ≠ L + 1 := Nat.ne_of_lt (Nat.lt_succ_self _)
  have nL2 : L ≠ L + 2 := Nat.ne_of_lt (Nat.lt_add_of_pos_right (by decide))
  have n12 : L + 1 ≠ L + 2 := Nat.ne_of_lt (Nat.lt_succ_self _)
  have hns₃ : s₃.heap.Ns L _ := g₁₃.ns hns (fun q => nL1 (List.mem_singleton.mp q))
  have dead : ∀ b, L ≤ b → s.heap.get? b = none := fun b hb => Heap.get?_none_of_le (by omega)
  have hfresh : ∀ b ∈ [L, L + 1, L + 2], s₀.heap.get? b = none := fun b hb => noneBack g (dead b (by
    simp only [List.mem_cons, List.not_mem_nil, or_false] at hb
    rcases hb with rfl | rfl | rfl
    · exact Nat.le_refl _
    · exact Nat.le_succ _
    · exact Nat.le_add_right _ _))
  have bs : ∀ {s'} {W : List Addr}, Gr W s₁ s' → (∀ b ∈ W, b ∈ [L, L + 1, L + 2] ∨ s₁.heap.get? b = none) → Gr [] s₀ s' := fun {s' W} g' hW => gs.frame g' (fun b hb => by
    rcases hW b hb with q | q
    · exact hfresh b q
    · exact noneBack gs q)
  have hX₃ : Gr [] s₀ s₃ := bs g₁₃ (fun b hb => .inl (by rw [List.mem_singleton.mp hb]; simp))
  have hl_at : ∀ {s'}, Gr [] s₀ s' → LI s'.heap a ns := fun g' => by obtain ⟨vs, hlv, hi⟩ := hl; exact ⟨vs, hlv.at fun o e => g'.k _ _ e, hi⟩
  -- long
  refine sx_cons (sx_assign hns₃ (px_add px_int (px_mod (px_found (i := 1) (px_local hns₃ (by rfl)) (hl_at hX₃) e1 (by decide)) px_int (by decide))) fun v s₄ s₅ g₄ p₄ hn₅ g₅ => ?_)
  obtain ⟨tl, rfl⟩ := p₄
  rw [show (9 : Int) = ((9 : Nat) : Int) from rfl, f1] at hn₅
  have g₁₅ : Gr [L, L + 1] s₁ s₅ := ((g₁₃.mono (by simp)).trans g₄.any).trans (g₅.mono (fun b hb => by rw [List.mem_singleton.mp hb]; exact List.mem_cons_self))
  have hX₅ : Gr [] s₀ s₅ := bs g₁₅ (fun b hb => .inl (by simp only [List.mem_cons, List.not_mem_nil, or_false] at hb; rcases hb with rfl | rfl <;> simp))
  -- rows = []
  refine sx_cons (sx_assign hn₅ px_list0 fun v s₆ s₇ g₆ p₆ hn₇ g₇ => ?_)
  obtain ⟨R, rfl, hR0, hR₆⟩ := p₆
  have hRL : R ≠ L := (ns_ne (show s₅.heap.Ns L _ from hn₅) hR0).symm
  have hR₇ : s₇.heap.PlainList R #[] := by obtain ⟨nn, e⟩ := hR₆; exact ⟨nn, g₇.keep _ _ (fun q => hRL (List.mem_singleton.mp q)) e⟩
  have g₅₇ : Gr [L] s₅ s₇ := g₆.any.trans g₇
  have g₁₇ : Gr [L, L + 1] s₁ s₇ := g₁₅.trans (g₅₇.mono (by simp))
  have hX₇ : Gr [] s₀ s₇ := bs g₁₇ (fun b hb => .inl (by simp only [List.mem_cons, List.not_mem_nil, or_false] at hb; rcases hb with rfl | rfl <;> simp))
  have hR1 : s₁.heap.get? R = none := by
    cases e : s₁.heap.get? R with
    | none => rfl
    | some o =>
      by_cases q : R = L + 1
      · obtain ⟨o', e', _⟩ := hc₃
        have h3 : s₅.heap.get? (L + 1) = some o' := g₅.keep _ _ (fun q => nL1 (List.mem_singleton.mp q).symm) (g₄.k _ _ e')
        rw [← q, hR0] at h3; cases h3
      · rw [g₁₅.keep R o (by simp only [List.mem_cons, List.not_mem_nil, or_false, not_or]; exact ⟨hRL, q⟩) e] at hR0; cases hR0
  have hc1₇ : s₇.heap.IsCell (L + 1) (some (.int d td)) := by
    obtain ⟨o, e, r⟩ := hc₃
    exact ⟨o, g₅₇.keep _ _ (fun q => nL1 (List.mem_singleton.mp q).symm) (g₅.keep _ _ (fun q => nL1 (List.mem_singleton.mp q).symm) (g₄.k _ _ e)), r⟩
  have hc2₇ : s₇.heap.IsCell (L + 2) none := by
    obtain ⟨o, e, r⟩ := hc2
    exact ⟨o, g₁₇.keep _ _ (by simp only [List.mem_cons, List.not_mem_nil, or_false, not_or]; exact ⟨nL2.symm, n12.symm⟩) e, r⟩
  have hR12 : R ≠ L + 1 ∧ R ≠ L + 2 := by
    constructor
    · intro q; obtain ⟨o, e, _⟩ := hc1; rw [← q, hR1] at e; cases e
    · intro q; obtain ⟨o, e, _⟩ := hc2; rw [← q, hR1] at e; cases e
  have hd8 : 0 < d ∧ d ≤ 4 := by omega
  obtain ⟨vs, hlv, hiv⟩ := id hl
  have hvl : vs.length = 7 := by rw [hiv.length, h7]
  have hlv₇ : s₇.heap.IsList a vs.toArray := hlv.at fun o e => hX₇.k _ _ e
  have X₇ : Wd P s₇.heap := X.keeps hX₇.k
  have hslice : slicePick vs.toArray (some 3) (some ((4 + k2 : Nat) : Int)) none = ((vs.drop 3).take (k2 + 1)).toArray := by
    have := slicePick_run vs.toArray 3 (4 + k2) (by simp [hvl]; omega) (by omega)
    rw [show (some (3 : Int)) = some ((3 : Nat) : Int) from rfl, this]
    simp [show 4 + k2 - 3 = k2 + 1 by omega]
  have hnum : ((vs.drop 3).take (k2 + 1)).length = k2 + 1 := by rw [List.length_take, List.length_drop, hvl]; omega
  -- for x in ..
  refine sx_cons (sx_forE [L + 2, R] (n := k2 + 1) (P := fun i v => ∃ n t, v = .int n t)
    (fun i s' => Gr [L + 2, R] s₇ s' ∧ (∃ v, s'.heap.IsCell (L + 2) v) ∧ ∃ rv rows, s'.heap.PlainList R rv ∧ rows.length = i ∧ All2 (fun v row => ∃ b, v = .ref b ∧ b ≠ L + 2 ∧ b ≠ R ∧ LI s'.heap b row) rv.toList rows ∧ ∀ row ∈ rows, row.length = 1 + k1 ∧ ∀ x ∈ row, 0 ≤ x ∧ x < 2 ^ d)
    ?_ ?_ (fun s' g' => ⟨g'.any, ⟨_, hc2₇.keeps g'.k⟩, #[], [], by obtain ⟨nn, e⟩ := hR₇; exact ⟨nn, g'.k _ _ e⟩, rfl, All2.nil, fun _ h => nomatch h⟩) ?_ ?_ ?_)
  · refine (px_slice (P₁ := fun _ _ => True) hlv₇ (by rw [sizeLine_eq]; simp [hvl]) (px_local hn₇ (by rfl)) (lo := some 3) (hi := some ((4 + k2 : Nat) : Int)) (px_part (px_int.mono fun v s' _ q => by obtain ⟨t, rfl⟩ := q; exact .int 3 t))
      (px_part ((px_add (px_add px_int px_int) (px_mod (px_add (px_found (i := 2) (px_local hn₇ (by rfl)) (hl_at hX₇) e2 (by decide)) px_int) px_int (by decide))).mono fun v s' _ q => by
        rw [show (4 : Int) = ((4 : Nat) : Int) from rfl, f2] at q
        obtain ⟨t, rfl⟩ := q
        rw [show (3 : Int) + 1 + (k2 : Int) = ((4 + k2 : Nat) : Int) by omega]
        exact .int _ t))).mono fun v s' g' q => ?_
    obtain ⟨l', rfl, hl0, hp⟩ := q
    rw [hslice] at hp
    have hp' : s'.heap.IsList l' ((vs.drop 3).take (k2 + 1)).toArray := hp.isList
    have q : Itb prog w (A.deeper (callEnvC (fn 66) L 66)) s'.heap (.ref l') [l'] ((vs.drop 3).take (k2 + 1)).toArray.size _ := itb_list (prog := prog) (w := w) (A := A.deeper (callEnvC (fn 66) L 66)) hh hp'
    rw [List.size_toArray, hnum] at q
    refine ⟨[l'], fun b hb hm => ?_, Itb.mapP q fun i v hlt hv => ?_⟩
    · rw [List.mem_singleton.mp hb] at hm
      simp only [List.mem_cons, List.not_mem_nil, or_false] at hm
      rcases hm with q | q
      · obtain ⟨o, e, _⟩ := hc2₇; rw [← q, hl0] at e; cases e
      · obtain ⟨nn, e⟩ := hR₇; rw [← q, hl0] at e; cases e
    · have : ((vs.drop 3).take (k2 + 1))[i]? = some v := by simpa using hv
      rw [List.getElem?_take_of_lt hlt, List.getElem?_drop] at this
      obtain ⟨y, ty, rfl, _⟩ := IntsAre.at hiv _ v this
      exact ⟨y, ty, rfl⟩
  · intro b hb
    simp only [List.mem_cons, List.not_mem_nil, or_false] at hb
    rcases hb with rfl | rfl
    · obtain ⟨o, e, _⟩ := hc2₇; exact ⟨o, e⟩
    · obtain ⟨nn, e⟩ := hR₇; exact ⟨_, e⟩
  · rintro i s' s'' I hI hIt ⟨gj, ⟨v, hcv⟩, rv, rows, hpl, hlen, hall, hrows⟩ gI
    have ne : ∀ {b o}, s'.heap.get? b = some o → (∀ vs, o.data ≠ .fields vs) → b ≠ I := fun {b o} e h q => by
      obtain ⟨o', vs', e', hd'⟩ := hIt
      rw [q, e'] at e; cases e; exact h _ hd'
    have kI : ∀ {b o}, s'.heap.get? b = some o → (∀ vs, o.data ≠ .fields vs) → s''.heap.get? b = some o := fun {b o} e h => gI.keep _ _ (fun q => ne e h (List.mem_singleton.mp q)) e
    refine ⟨gj.iter gI hI, ⟨v, ?_⟩, rv, rows, ?_, hlen, hall.mono fun v row ⟨b, e, h1, h2, vs', hl', hi'⟩ => ⟨b, e, h1, h2, vs', ?_, hi'⟩, hrows⟩
    · obtain ⟨o, e, hdd⟩ := hcv
      exact ⟨o, kI e (fun vs q => by rw [hdd] at q; cases q), hdd⟩
    · obtain ⟨nn, e⟩ := hpl
      exact ⟨nn, kI e (fun vs q => by cases q)⟩
    · obtain ⟨o, e, hc', n', hdd⟩ := hl'
      exact ⟨o, kI e (fun vs q => by rw [hdd] at q; cases q), hc', n', hdd⟩
  · rintro i v s₈ hi' ⟨nx, tx, rfl⟩ ⟨gj, ⟨cv, hcv⟩, rv, rows, hpl, hlen, hall, hrows⟩
    refine sx_bindC (env := callEnvC (fn 66) L 66) (c := L + 2) rfl hcv fun s₉ hc₉ g₉ => ?_
    have g₇₉ : Gr [L + 2, R] s₇ s₉ := gj.trans (g₉.mono (by simp))
    have hn₉ : s₉.heap.Ns L _ := g₇₉.ns hn₇ (by simp only [List.mem_cons, List.not_mem_nil, or_false, not_or]; exact ⟨nL2, hRL.symm⟩)
    have hc1₉ : s₉.heap.IsCell (L + 1) (some (.int d td)) := by
      obtain ⟨o, e, r⟩ := hc1₇
      exact ⟨o, g₇₉.keep _ _ (by simp only [List.mem_cons, List.not_mem_nil, or_false, not_or]; exact ⟨n12, hR12.1.symm⟩) e, r⟩
    have hpl₉ : s₉.heap.PlainList R rv := by obtain ⟨nn, e⟩ := hpl; exact ⟨nn, g₉.keep _ _ (fun q => hR12.2 (List.mem_singleton.mp q)) e⟩
    have hX₉ : Gr [] s₀ s₉ := bs (g₁₇.mono (W' := [L, L + 1, L + 2, R]) (by simp) |>.trans (g₇₉.mono (by simp))) (fun b hb => by
      simp only [List.mem_cons, List.not_mem_nil, or_false] at hb
      rcases hb with rfl | rfl | rfl | rfl
      · exact .inl (by simp)
      · exact .inl (by simp)
      · exact .inl (by simp)
      · exact .inr hR1)
    have X₉ : Wd P s₉.heap := X.keeps hX₉.k
    have hrsz : rv.size = rows.length := by have := hall.1; simpa using this
    refine sx_cons (sx_append (P := fun v h => ∃ b row, v = .ref b ∧ s₉.heap.get? b = none ∧ LI h b row ∧ row.length = 1 + k1 ∧ ∀ x ∈ row, 0 ≤ x ∧ x < 2 ^ d) (px_local hn₉ (by rfl)) hpl₉
      ?_ (by rw [hrsz, hlen, sizeLine_eq]; omega) fun v s₁₀ s₁₁ g₁₀ p₁₀ g₁₁ hpl₁₁ => sx_nil ?_)
    · refine Px.mono (px_comp (n := 1 + k1) (own := []) (P := fun i v => ∃ t, v = .int (i : Nat) t) (fun W i y h => ∃ n t, y = .int n t ∧ (0 ≤ n ∧ n < 2 ^ d)) (cl := [((Str.ofString "x"), L + 2), ((Str.ofString "depth"), L + 1)]) (by rfl)
        (px_range (A := A.deeper (callEnvC (fn 66) L 66)) hh (px_bi X₉) ((px_local hn₉ (by rfl)).mono fun v s' _ e => ⟨tl, by rw [e]; rfl⟩) (by omega)) (by rw [sizeLine_eq]; omega) (fun _ _ _ _ _ q _ => q)
        fun W C j v s' m' hj ⟨tj, hv⟩ g' hW hC hns' hm' => by
          subst hv
          have cK : ∀ {c v}, s₉.heap.IsCell c v → s'.heap.IsCell c v := fun {c v} ⟨o, e, r⟩ => ⟨o, g'.keep _ _ (fun q => by rw [(hW _ q).1] at e; cases e) e, r⟩
          have hdj : d * j < 60 := by
            have h1 : j ≤ 9 := by omega
            have := Nat.mul_le_mul hd8.2 h1
            omega
          have pos : (0 : Int) < 2 ^ d := Int.pow_pos (by decide)
          refine (px_mod (px_fdiv ((px_cell (env := compEnvC _ _ C (callEnvC (fn 66) L 66)) (c := L + 2) rfl (cK hc₉)).mono fun v s' _ e => (⟨tx, e⟩ : IsI nx v s'.heap)) (px_two_pow (n := d * j) ((px_mul ((px_cell (env := compEnvC _ _ C (callEnvC (fn 66) L 66)) (c := L + 1) rfl (cK hc1₉)).mono fun v s' _ e => (⟨td, e⟩ : IsI (d : Int) v s'.heap)) ((px_local hns' hm').mono fun v s' _ e => (⟨tj, e⟩ : IsI (j : Int) v s'.heap)) (mulOk_right (by omega))).mono fun v s' _ q => by
              rw [Int.natCast_mul]; exact q) hdj) (by have : (0 : Int) < 2 ^ (d * j) := Int.pow_pos (by decide); omega) ?_) (px_two_pow (n := d) ((px_cell (env := compEnvC _ _ C (callEnvC (fn 66) L 66)) (c := L + 1) rfl (cK hc1₉)).mono fun v s' _ e => (⟨td, e⟩ : IsI (d : Int) v s'.heap)) (by omega)) (by omega)).mono fun v s'' _ q => ?_
          · have : (2 : Int) ^ (d * j) ≤ 2 ^ 60 := ipow_le (by omega)
            have : (0 : Int) < 2 ^ (d * j) := Int.pow_pos (by decide)
            omega
          · obtain ⟨t, rfl⟩ := q
            exact ⟨_, t, rfl, Int.fmod_nonneg_of_pos _ pos, Int.fmod_lt_of_pos _ pos⟩) fun v s' _ ⟨D, ys, W, e1, e2, e3, e4, _, e6⟩ => by
        obtain ⟨row, hrow, hp⟩ := ints_ofP (p := fun n => 0 ≤ n ∧ n < 2 ^ d) (ys := ys.toList) fun i hi => by
          obtain ⟨n, t, e, hb⟩ := e6 i (by simpa using hi)
          exact ⟨n, t, by simpa using e, hb⟩
        refine ⟨D, row, e1, e2, ⟨ys.toList, by simpa using e3.isList, hrow⟩, ?_, hp⟩
        rw [← hrow.length]; simpa using e4
    obtain ⟨b, row, rfl, hb0, hbl, hrl, hrp⟩ := p₁₀
    have hb2 : b ≠ L + 2 := fun q => by obtain ⟨o, e, _⟩ := hc₉; rw [← q, hb0] at e; cases e
    have hbR : b ≠ R := fun q => by obtain ⟨nn, e⟩ := hpl₉; rw [← q, hb0] at e; cases e
    have gg : Gr [L + 2, R] s₈ s₁₁ := ((g₉.mono (by simp)).trans g₁₀.any).trans (g₁₁.mono (by simp))
    refine ⟨⟨gj.trans gg, ⟨some (.int nx tx), ?_⟩, rv.push (.ref b), rows ++ [row], hpl₁₁, by simp [hlen], ?_, ?_⟩, gg.keep⟩
    · obtain ⟨o, e, r⟩ := hc₉
      exact ⟨o, g₁₁.keep _ _ (fun q => hR12.2 (List.mem_singleton.mp q).symm) (g₁₀.k _ _ e), r⟩
    · rw [Array.toList_push]
      refine All2.snoc (hall.mono fun v row ⟨b, e, h1, h2, vs', hl', hi'⟩ => ⟨b, e, h1, h2, vs', hl'.at fun o e => gg.keep _ o (by simp only [List.mem_cons, List.not_mem_nil, or_false, not_or]; exact ⟨h1, h2⟩) e, hi'⟩) ?_
      obtain ⟨vs', hl', hi'⟩ := hbl
      exact ⟨b, rfl, hb2, hbR, vs', hl'.at fun o e => g₁₁.keep _ o (fun q => hbR (List.mem_singleton.mp q)) e, hi'⟩
    · intro row' hr
      rcases List.mem_append.mp hr with h | h
      · exact hrows row' h
      · rw [List.mem_singleton.mp h]; exact ⟨hrl, hrp⟩
  · rintro s₈ ⟨gj, ⟨cv, hcv⟩, rv, rows, hpl, hlen, hall, hrows⟩
    have hn₈ : s₈.heap.Ns L _ := gj.ns hn₇ (by simp only [List.mem_cons, List.not_mem_nil, or_false, not_or]; exact ⟨nL2, hRL.symm⟩)
    have hc1₈ : s₈.heap.IsCell (L + 1) (some (.int d td)) := by
      obtain ⟨o, e, r⟩ := hc1₇
      exact ⟨o, gj.keep _ _ (by simp only [List.mem_cons, List.not_mem_nil, or_false, not_or]; exact ⟨n12, hR12.1.symm⟩) e, r⟩
    have g₁₈ : Gr [L, L + 1, L + 2] s₁ s₈ := Gr.dropL (W' := [L, L + 1, L + 2, R]) ((g₁₇.mono (by simp)).trans (gj.mono (by simp))) (fun b hb => by
      simp only [List.mem_cons, List.not_mem_nil, or_false] at hb
      rcases hb with rfl | rfl | rfl | rfl
      · exact .inl (by simp)
      · exact .inl (by simp)
      · exact .inl (by simp)
      · exact .inr hR1)
    refine sx_cons (sx_return (P := RowsOut) (px_tuple2 (P := IsI (d : Int)) (R := RowsOut) (P₂ := fun a b h => IsI (d : Int) a h ∧ b = .ref R ∧ h.PlainList R rv ∧ All2 (RowI h) rv.toList rows) ((px_cell (env := callEnvC (fn 66) L 66) (c := L + 1) rfl hc1₈).mono fun v s' _ e => (⟨td, e⟩ : IsI (d : Int) v s'.heap))
      (fun a s' g' p => (px_local (hn₈.keeps g'.k) (by rfl)).mono fun v s'' g'' e => ⟨p, e, by obtain ⟨nn, e⟩ := hpl; exact ⟨nn, (g'.trans g'').k _ _ e⟩, hall.mono fun v row ⟨b, e, _, _, vs', hl', hi'⟩ => ⟨b, e, vs', hl'.at fun o e => (g'.trans g'').k _ _ e, hi'⟩⟩)
      (fun a b h₁ h₂ r' p k e e' => by
        obtain ⟨⟨t1, rfl⟩, rfl, hpl', hall'⟩ := p
        refine ⟨r', d, t1, R, rv, rows, 1 + k1, rfl, e', hd, hpl'.isList.at fun o e => k _ _ e, hall'.mono fun v row ⟨b, e, vs', hl', hi'⟩ => ⟨b, e, vs', hl'.at fun o e => k _ _ e, hi'⟩, by omega, by omega, by omega, by omega, hrows⟩))
      fun v s₉ g₉ p₉ => ⟨g₁₈.trans g₉.any, p₉⟩)
end
end Mine
end

section
open PySem PySem.W PyProof.Rows
set_option maxRecDepth 100000
set_option linter.unusedVariables false
namespace Mine
def OkR (P : Shared → Prop) : Result → Shared → Prop := fun r s => match r with | .ok _ => P s | .error _ => False
section
variable {prog : Program} {w : World} {A : Around} {s : Shared} {R : Result → Shared → Prop} {E : Value → Shared → Prop}

theorem wpA_onRaiseN {α : Type} {m : Sem α} {k : Value → Sem Unit} {Q : α → Shared → Prop} (h : wpAny (model prog w) A m Q NoE s) : wpAny (model prog w) A (m.onRaise k) Q E s :=
  wpAny_onRaise (wpAny_mono h (fun _ _ q => q) fun _ _ q => q.elim)

abbrev comp2 (elt t0 i0 t1 i1 : Expr) (scope : Scope) (pos : Pos) : Expr := .ListComp elt [⟨t0, i0, [], 0⟩, ⟨t1, i1, [], 0⟩] scope pos
theorem compTurn2_in (elt t0 i0 t1 i1 : Expr) (scope : Scope) (pos : Pos) (it acc : Value) (env : Env) :
    compTurn (comp2 elt t0 i0 t1 i1 scope pos) 1 it acc env = (standAt i1.pos >>= fun _ => pyNext it >>= fun r => match r with
      | none => pure (.done .next)
      | some v => letOwnedTupleGo t1 it v >>= fun _ => assign t1 env v >>= fun _ =>
        (eval elt env >>= fun x => call (.builtin "list.append") [acc, x] >>= fun _ => pure ()) >>= fun _ =>
          again (.compLoop (comp2 elt t0 i0 t1 i1 scope pos) 1 it acc env)) := by rfl
theorem compTurn2_out (elt t0 i0 t1 i1 : Expr) (scope : Scope) (pos : Pos) (it acc : Value) (env : Env) :
    compTurn (comp2 elt t0 i0 t1 i1 scope pos) 0 it acc env = (standAt i0.pos >>= fun _ => pyNext it >>= fun r => match r with
      | none => pure (.done .next)
      | some v => letOwnedTupleGo t0 it v >>= fun _ => assign t0 env v >>= fun _ =>
        (eval i1 env >>= fun x => standAt i1.pos >>= fun _ => foldedSetIterable i1 env x >>= fun x => holding [x] (pyIter x) >>= fun it' => runOwn (.compStart (comp2 elt t0 i0 t1 i1 scope pos) 1 it' acc env) env >>= fun _ =>
          again (.compLoop (comp2 elt t0 i0 t1 i1 scope pos) 0 it acc env))) := by rfl

/-- the inner loop -/
theorem comp2_in {elt t0 i0 t1 i1 : Expr} {scope : Scope} {pos : Pos} {it acc : Value} {env : Env} (I : Nat → Shared → Prop)
    (turn : ∀ n s, I n s → wpAny (model prog w) A (pyNext it) (fun r s₁ => match r with
      | none => R (.ok .next) s₁
      | some v => wpAny (model prog w) A (assign t1 env v) (fun _ s₂ => wpAny (model prog w) A (eval elt env) (fun x s₃ =>
          wpAny (model prog w) A (call (.builtin "list.append") [acc, x]) (fun _ s₄ => ∃ m, m < n ∧ I m s₄) NoE s₃) NoE s₂) NoE s₁) NoE s)
    (n : Nat) (h : I n s) (ht : ∀ v, letOwnedTupleGo t1 it v = pure () := by intro _; rfl) :
    codeAny (model prog w) A (.compLoop (comp2 elt t0 i0 t1 i1 scope pos) 1 it acc env) R s := by
  refine codeAny_loop rfl I (fun n s hI => ?_) n h
  show wpAny _ A ((compTurn (comp2 elt t0 i0 t1 i1 scope pos) 1 it acc env).onRaise (fun x => do noteFrame x env; theTreesLotGoes x)) _ _ s
  refine wpA_onRaiseN ?_
  rw [compTurn2_in]
  refine wpAny_bind (wpAny_standAt (wpAny_bind (wpAny_mono (turn n s hI) (fun r s₁ h₁ => ?_) fun _ _ h' => h')))
  cases r with
  | none => exact wpAny_pure h₁
  | some v =>
    refine wpAny_bind (wpAny_of_eq (ht v) ?_)
    refine wpAny_bind (wpAny_mono h₁ (fun _ s₂ h₂ => ?_) fun _ _ h' => h')
    exact wpAny_bind (wpAny_bind (wpAny_mono h₂ (fun x s₃ h₃ => wpAny_bind (wpAny_mono h₃ (fun _ s₄ h₄ => wpAny_pure (wpAny_pure ⟨rfl, h₄⟩)) fun _ _ h' => h')) fun _ _ h' => h'))
/-- the outer loop -/
theorem comp2_out {elt t0 i0 t1 i1 : Expr} {scope : Scope} {pos : Pos} {it acc : Value} {env : Env} (I : Nat → Shared → Prop)
    (turn : ∀ n s, I n s → wpAny (model prog w) A (pyNext it) (fun r s₁ => match r with
      | none => R (.ok .next) s₁
      | some v => wpAny (model prog w) A (assign t0 env v) (fun _ s₂ => wpAny (model prog w) A (eval i1 env) (fun x s₃ => wpAny (model prog w) A (pyIter x) (fun it' s₄ =>
          codeAny (model prog w) A (.compLoop (comp2 elt t0 i0 t1 i1 scope pos) 1 it' acc env) (OkR fun s₅ => ∃ m, m < n ∧ I m s₅) s₄ ∧
          wpAny (model prog w) A (pyIter it') (fun it'' s₅ => codeAny (model prog w) A (.compLoop (comp2 elt t0 i0 t1 i1 scope pos) 1 it'' acc env) (OkR fun s₅ => ∃ m, m < n ∧ I m s₅) s₅) NoE s₄) NoE s₃) NoE s₂) NoE s₁) NoE s)
    (n : Nat) (h : I n s) (ht : ∀ v, letOwnedTupleGo t0 it v = pure () := by intro _; rfl) (hs : ∀ x, foldedSetIterable i1 env x = pure x := by intro _; rfl) :
    codeAny (model prog w) A (.compLoop (comp2 elt t0 i0 t1 i1 scope pos) 0 it acc env) R s := by
  refine codeAny_loop rfl I (fun n s hI => ?_) n h
  show wpAny _ A ((compTurn (comp2 elt t0 i0 t1 i1 scope pos) 0 it acc env).onRaise (fun x => do noteFrame x env; theTreesLotGoes x)) _ _ s
  refine wpA_onRaiseN ?_
  rw [compTurn2_out]
  refine wpAny_bind (wpAny_standAt (wpAny_bind (wpAny_mono (turn n s hI) (fun r s₁ h₁ => ?_) fun _ _ h' => h')))
  cases r with
  | none => exact wpAny_pure h₁
  | some v =>
    refine wpAny_bind (wpAny_of_eq (ht v) ?_)
    refine wpAny_bind (wpAny_mono h₁ (fun _ s₂ h₂ => ?_) fun _ _ h' => h')
    refine wpAny_bind (wpAny_mono h₂ (fun x s₃ h₃ => ?_) fun _ _ h' => h')
    refine wpAny_bind (wpAny_standAt (wpAny_bind (wpAny_of_eq (hs x) (wpAny_bind (wpAny_holding (wpAny_mono h₃ (fun it' s₄ h₄ => ?_) fun _ _ h' => h'))))))
    refine wpAny_bind (wpAny_runOwn ?_)
    refine codeAny_mono (R := OkR fun s₅ => ∃ m, m < n ∧ I m s₅) ?_ (fun r s₅ q => by
      cases r with
      | ok f => exact wpAny_pure ⟨rfl, q⟩
      | error e => exact q.elim)
    refine codeAny_of_tree ?_
    show wpAny _ _ ((compStart (comp2 elt t0 i0 t1 i1 scope pos) 1 it' acc env).onRaise (fun x => do noteFrame x env; standAt theWindowsPlace)) _ _ s₄
    refine wpA_onRaiseN ?_
    unfold compStart
    show wpAny _ _ (ask >>= _) _ _ s₄
    refine wpAny_bind (wpAny_askSetting (wpAny_ite ?_))
    split
    · first
        | exact wpAny_bind (wpAny_pure (wpAny_pure (And.intro rfl h₄.1)))
        | exact wpAny_pure (And.intro rfl h₄.1)
    · exact wpAny_bind (wpAny_rule (wpAny_bind (wpAny_standAt (wpAny_bind (wpAny_mono h₄.2 (fun it' s' h' => wpAny_pure (And.intro rfl h')) fun _ _ x => x)))))
end
end Mine
end

section
open PySem PySem.W PyProof.Rows
set_option maxRecDepth 100000
set_option linter.unusedVariables false
namespace Mine
section
variable {prog : Program} {w : World} {A : Around} {s : Shared} {R : Result → Shared → Prop} {E : Value → Shared → Prop}

theorem comp2_loop {elt i0 i1 : Expr} {x0 x1 : Str} {p0 p1 : Pos} {scope : Scope} {pos : Pos} {I D C l : Addr} {cenv : Env} {items : Array Value} {n1 : Nat} {P1 : Nat → Value → Prop} {m : Str → Option Value}
    (F : Nat → Value → Prop) (hh : A.handled = none) (hst : s.heap.IsListIter I l 0) (hl : s.heap.IsList l items) (hD : s.heap.PlainList D #[]) (hcl : cenv.locals = C) (hC : s.heap.Ns C m)
    (hDC : D ≠ C) (hDI : D ≠ I) (hCI : C ≠ I) (hlI : l ≠ I) (hlC : l ≠ C) (hlD : l ≠ D) (hsz : items.size * n1 ≤ sizeLine)
    (hinner : ∀ (i : Nat) (v : Value) (s' : Shared) (m' : Str → Option Value), items[i]? = some v → Gr [I, D, C] s s' → s'.heap.Ns C m' → m' x0 = some v → Px prog w A (eval i1 cenv) s' (fun v h => Itb prog w A h v [] n1 P1))
    (helt : ∀ (i k : Nat) (v u : Value) (s' : Shared) (m' : Str → Option Value), items[i]? = some v → k < n1 → P1 k u → Gr [I, D, C] s s' → s'.heap.Ns C m' → m' x0 = some v → m' x1 = some u → Px prog w A (eval elt cenv) s' (fun y _ => F (i * n1 + k) y))
    (hR : ∀ (s' : Shared) (ys : Array Value) (m' : Str → Option Value), Gr [I, D, C] s s' → s'.heap.Ns C m' → s'.heap.PlainList D ys → ys.size = items.size * n1 → (∀ j (hj : j < ys.size), F j ys[j]) → R (.ok .next) s')
    (hx0 : cenv.kindOf x0 = some .local) (hx1 : cenv.kindOf x1 = some .local) (hne : x0 ≠ x1) (hk : cenv.scope.kind = .function) (hs : ∀ x, foldedSetIterable i1 cenv x = pure x) :
    codeAny (model prog w) A (.compLoop (comp2 elt (.Name x0 p0) i0 (.Name x1 p1) i1 scope pos) 0 (.ref I) (.ref D) cenv) R s := by
  refine comp2_out (fun k s' => ∃ i ys m', i ≤ items.size ∧ k = items.size + 1 - i ∧ s'.heap.IsListIter I l i ∧ Gr [I, D, C] s s' ∧ s'.heap.Ns C m' ∧ s'.heap.PlainList D ys ∧ ys.size = i * n1 ∧ (∀ j (hj : j < ys.size), F j ys[j])) ?_ (items.size + 1)
    ⟨0, #[], m, Nat.zero_le _, rfl, hst, .refl _ _, hC, hD, by simp, fun j hj => absurd hj (by simp)⟩ (by intro _; rfl) hs
  rintro k s' ⟨i, ys, m', hi, rfl, hst', g, hC', hD', hys, hFs⟩
  have hl' : s'.heap.IsList l items := hl.at fun o e => g.keep _ o (by simp only [List.mem_cons, List.not_mem_nil, or_false, not_or]; exact ⟨hlI, hlD, hlC⟩) e
  by_cases hlt : i < items.size
  · have hitem : items[i]? = some items[i] := Array.getElem?_eq_getElem hlt
    refine wpAny_pyNext_list_item hst' hl' hitem fun h₁ hit₁ hs₁ => ?_
    have g₁ : Gr [I] s' { s' with heap := h₁ } := .heap (tk := s'.toks) fun b o hb e => hs₁.extBut b o (by simpa using hb) e
    refine wpAny_assign_Name (sx_store (env := cenv) (s := { s' with heap := h₁ }) (m := m') (hcl ▸ hC'.at' fun o e => g₁.keep _ o (by simpa using hCI) e) (fun s₂ hn₂ g₂ => ?_) hk hx0 _)
    rw [hcl] at hn₂ g₂
    have gI : Gr [I, D, C] s s₂ := (g.trans (g₁.mono (by simp))).trans (g₂.mono (by simp))
    have hD2 : s₂.heap.PlainList D ys := by
      obtain ⟨nn, e⟩ := hD'
      exact ⟨nn, g₂.keep _ _ (by simpa using hDC) (g₁.keep _ _ (by simpa using hDI) e)⟩
    have hst2 : s₂.heap.IsListIter I l (i + 1) := by
      obtain ⟨o, e, r⟩ := hit₁
      exact ⟨o, g₂.keep _ _ (by simpa using Ne.symm hCI) e, r⟩
    have hv0 : upd m' x0 items[i] x0 = some items[i] := by simp [upd]
    refine (hinner i _ s₂ _ hitem gI hn₂ hv0).use (.refl _ _) fun xv s₃ g₃ hi3 => hi3 s₃ _ _ (fun _ _ e => e) fun s₄ I' St' g₄ hI' hlive' Wk' hst4 _ => ?_
    have g₂₄ : Gr [] s₂ s₄ := g₃.trans g₄
    have gI4 : Gr [I, D, C] s s₄ := gI.trans g₂₄.any
    have live3 : ∀ {b o}, s₂.heap.get? b = some o → b ≠ I' := fun {b o} e q => by
      have := g₃.k _ _ e
      rw [q, hI'] at this; cases this
    have hCI' : C ≠ I' := by obtain ⟨o, _, _, e, _⟩ := hn₂; exact live3 e
    have hDI' : D ≠ I' := by obtain ⟨nn, e⟩ := hD2; exact live3 e
    have hII' : I ≠ I' := by obtain ⟨o, e, _⟩ := hst2; exact live3 e
    have hI's : s.heap.get? I' = none := by
      cases e : s.heap.get? I' with
      | none => rfl
      | some o =>
        have : s₂.heap.get? I' = some o := gI.keep _ o (by simp only [List.mem_cons, List.not_mem_nil, or_false, not_or]; exact ⟨hII'.symm, hDI'.symm, hCI'.symm⟩) e
        exact absurd rfl (live3 this)
    have inner : ∀ s₅ : Shared, St' 0 s₅.heap → Gr [I'] s₄ s₅ → codeAny (model prog w) A (.compLoop (comp2 elt (.Name x0 p0) i0 (.Name x1 p1) i1 scope pos) 1 (.ref I') (.ref D) cenv) (OkR fun s₅ => ∃ mm, mm < items.size + 1 - i ∧ ∃ i ys m', i ≤ items.size ∧ mm = items.size + 1 - i ∧ s₅.heap.IsListIter I l i ∧ Gr [I, D, C] s s₅ ∧ s₅.heap.Ns C m' ∧ s₅.heap.PlainList D ys ∧ ys.size = i * n1 ∧ (∀ j (hj : j < ys.size), F j ys[j])) s₅ := by
      intro s₅ hst5 g₅
      refine comp2_in (fun kk s' => ∃ k ys m', k ≤ n1 ∧ kk = n1 + 1 - k ∧ St' k s'.heap ∧ s'.heap.IsListIter I l (i + 1) ∧ Gr [I', I, D, C] s s' ∧ s'.heap.Ns C m' ∧ m' x0 = some items[i] ∧ s'.heap.PlainList D ys ∧ ys.size = i * n1 + k ∧ (∀ j (hj : j < ys.size), F j ys[j])) ?_ (n1 + 1)
        ⟨0, ys, _, Nat.zero_le _, rfl, hst5, ?_, (gI4.mono (by simp)).trans (g₅.mono (by simp)), (hn₂.keeps g₂₄.k).at' fun o e => g₅.keep _ o (by simpa using hCI') e, hv0, ?_, by rw [hys]; rfl, hFs⟩
      · rintro kk s₆ ⟨k, ys, m₆, hk6, rfl, hst6, hit6, g6, hC6, hm6, hD6, hys6, hF6⟩
        have gdrop : Gr [I, D, C] s s₆ := g6.dropL fun b hb => by
          rcases List.mem_cons.mp hb with rfl | hb
          · exact .inr hI's
          · exact .inl hb
        by_cases hlt6 : k < n1
        · refine Wk'.item k s₆ _ _ hlt6 hst6 fun u h₇ tk p hst7 hk7 => ?_
          have g₇ : Gr [I'] s₆ { s₆ with heap := h₇, toks := tk } := .heap fun b o hb e => hk7 b o hb e
          refine wpAny_assign_Name (sx_store (env := cenv) (m := m₆) (hcl ▸ hC6.at' fun o e => g₇.keep _ o (by simpa using hCI') e) (fun s₈ hn₈ g₈ => ?_) hk hx1 _)
          rw [hcl] at hn₈ g₈
          have g68 : Gr [I', I, D, C] s₆ s₈ := (g₇.mono (by simp)).trans (g₈.mono (by simp))
          have hst8 : St' (k + 1) s₈.heap := Wk'.frame _ _ _ hst7 fun b hb o e => g₈.keep b o (by
            simp only [List.mem_cons, List.not_mem_nil, or_false] at hb ⊢
            rw [hb]; exact hCI'.symm) e
          have hit8 : s₈.heap.IsListIter I l (i + 1) := by
            obtain ⟨o, e, r⟩ := hit6
            exact ⟨o, g₈.keep _ _ (by simpa using Ne.symm hCI) (g₇.keep _ _ (by simpa using hII') e), r⟩
          have hD8 : s₈.heap.PlainList D ys := by
            obtain ⟨nn, e⟩ := hD6
            exact ⟨nn, g₈.keep _ _ (by simpa using hDC) (g₇.keep _ _ (by simpa using hDI') e)⟩
          have gdrop8 : Gr [I, D, C] s s₈ := (g6.trans g68).dropL fun b hb => by
            rcases List.mem_cons.mp hb with rfl | hb
            · exact .inr hI's
            · exact .inl hb
          refine wpA_noE ((helt i k _ u s₈ _ hitem hlt6 p gdrop8 hn₈ (by show (if x0 = x1 then some u else m₆ x0) = _; rw [if_neg hne]; exact hm6) (by simp [upd])).use (.refl _ _) fun y s₉ g₉ py => ?_)
          have hD9 : s₉.heap.PlainList D ys := by obtain ⟨nn, e⟩ := hD8; exact ⟨nn, g₉.k _ _ e⟩
          have hlen : ys.size ≤ sizeLine := by
            rw [hys6]
            have h1 : i * n1 + k ≤ (i + 1) * n1 := by rw [Nat.succ_mul]; omega
            have h2 : (i + 1) * n1 ≤ items.size * n1 := Nat.mul_le_mul_right n1 hlt
            omega
          refine wpAny_list_append_plain (hsz := hlen) hD9 fun h₁₀ hl₁₀ hs₁₀ => ?_
          have g₁₀ : Gr [D] s₉ { s₉ with heap := h₁₀ } := .heap (tk := s₉.toks) fun b o hb e => hs₁₀.extBut b o (by simpa using hb) e
          refine ⟨n1 + 1 - (k + 1), by omega, k + 1, ys.push y, _, hlt6, rfl, ?_, ?_, ((g6.trans g68).trans g₉.any).trans (g₁₀.mono (by simp)), (hn₈.keeps g₉.k).at' fun o e => g₁₀.keep _ o (by simpa using Ne.symm hDC) e, by show (if x0 = x1 then some u else m₆ x0) = _; rw [if_neg hne]; exact hm6, hl₁₀, by rw [Array.size_push, hys6]; omega, ?_⟩
          · exact Wk'.frame _ _ _ hst8 fun b hb o e => g₁₀.keep b o (by
              simp only [List.mem_cons, List.not_mem_nil, or_false] at hb ⊢
              rw [hb]; exact hDI'.symm) (g₉.k _ _ e)
          · obtain ⟨o, e, r⟩ := hit8
            exact ⟨o, g₁₀.keep _ _ (by simpa using Ne.symm hDI) (g₉.k _ _ e), r⟩
          · intro j hj
            rw [Array.size_push] at hj
            rw [Array.getElem_push]
            split
            · rename_i h1; exact hF6 j h1
            · rename_i h1
              have : j = i * n1 + k := by omega
              rw [this]; exact py
        · have hkn : k = n1 := by omega
          subst hkn
          refine Wk'.done s₆ _ _ hst6 fun h₇ tk hk7 => ?_
          have g₇ : Gr [I'] s₆ { s₆ with heap := h₇, toks := tk } := .heap fun b o hb e => hk7 b o hb e
          refine ⟨items.size + 1 - (i + 1), by omega, i + 1, ys, m₆, hlt, rfl, ?_, ?_, hC6.at' fun o e => g₇.keep _ o (by simpa using hCI') e, ?_, by rw [hys6, Nat.succ_mul], hF6⟩
          · obtain ⟨o, e, r⟩ := hit6
            exact ⟨o, g₇.keep _ _ (by simpa using hII') e, r⟩
          · exact (g6.trans (g₇.mono (by simp))).dropL fun b hb => by
              rcases List.mem_cons.mp hb with rfl | hb
              · exact .inr hI's
              · exact .inl hb
          · obtain ⟨nn, e⟩ := hD6
            exact ⟨nn, g₇.keep _ _ (by simpa using hDI') e⟩
      · obtain ⟨o, e, r⟩ := hst2
        exact ⟨o, g₅.keep _ _ (by simpa using hII') (g₂₄.k _ _ e), r⟩
      · obtain ⟨nn, e⟩ := hD2
        exact ⟨nn, g₅.keep _ _ (by simpa using hDI') (g₂₄.k _ _ e)⟩
    exact ⟨inner s₄ hst4 (.refl _ _), Wk'.self 0 s₄ _ _ hst4 (inner s₄ hst4 (.refl _ _))⟩
  · have hin : i = items.size := by omega
    subst hin
    refine wpAny_pyNext_list_end hh hst' hl' (Array.getElem?_eq_none (Nat.le_refl _)) fun h₁ hs₁ => ?_
    have g₁ : Gr [I] s' { s' with heap := h₁ } := .heap (tk := s'.toks) fun b o hb e => hs₁ b o (by simpa using hb) e
    refine hR _ ys m' (g.trans (g₁.mono (by simp))) (hC'.at' fun o e => g₁.keep _ o (by simpa using hCI) e) ?_ hys hFs
    obtain ⟨nn, e⟩ := hD'
    exact ⟨nn, g₁.keep _ _ (by simpa using hDI) e⟩
end
end Mine
end

section
open PySem PySem.W PyProof.Rows
set_option maxRecDepth 100000
set_option linter.unusedVariables false
namespace Mine
section
variable {prog : Program} {w : World} {A : Around} {s : Shared} {env : Env}

/-- a comprehension of two clauses, the first over a list -/
theorem px_comp2 {elt i0 i1 : Expr} {x0 x1 : Str} {p0 p1 : Pos} {scope : Scope} {pos : Pos} {cl : List (Str × Addr)} {l : Addr} {items : Array Value} {n1 : Nat} {P1 : Nat → Value → Prop}
    (F : Nat → Value → Prop) (hh : A.handled = none) (hclos : closureFor scope env = pure cl) (hi0 : Px prog w A (eval i0 env) s (IsV (.ref l))) (hl : s.heap.IsList l items) (hsz : items.size * n1 ≤ sizeLine)
    (hinner : ∀ (C : Addr) (i : Nat) (v : Value) (s' : Shared) (m' : Str → Option Value), items[i]? = some v → Gr [] s s' → s'.heap.Ns C m' → m' x0 = some v → Px prog w A (eval i1 (compEnvC scope cl C env)) s' (fun v h => Itb prog w A h v [] n1 P1))
    (helt : ∀ (C : Addr) (i k : Nat) (v u : Value) (s' : Shared) (m' : Str → Option Value), items[i]? = some v → k < n1 → P1 k u → Gr [] s s' → s'.heap.Ns C m' → m' x0 = some v → m' x1 = some u → Px prog w A (eval elt (compEnvC scope cl C env)) s' (fun y _ => F (i * n1 + k) y))
    (hx0 : scope.names.lookup x0 = some .local := by rfl) (hx1 : scope.names.lookup x1 = some .local := by rfl) (hne : x0 ≠ x1 := by decide) (hcell : ∀ y ∈ scope.names, y.2 ≠ .cell := by decide) (hkind : scope.kind = .function := by rfl)
    (hnames : ∀ y ∈ scope.names, y.2 = .local → scope.names.lookup y.1 = some .local := by decide)
    (hs0 : ∀ x, foldedSetIterable i0 env x = pure x := by intro _; rfl) (hs1 : ∀ C x, foldedSetIterable i1 (compEnvC scope cl C env) x = pure x := by intro _ _; rfl) :
    Px prog w A (eval (comp2 elt (.Name x0 p0) i0 (.Name x1 p1) i1 scope pos) env) s
      (fun v h => ∃ D ys, v = .ref D ∧ s.heap.get? D = none ∧ h.PlainList D ys ∧ ys.size = items.size * n1 ∧ ∀ j (hj : j < ys.size), F j ys[j]) := fun s₁ Q E g k => by
  rw [eval_ListComp]
  refine wpAny_comprehension_free (use := none) rfl hs0 hclos hkind hnames (hi0.use g fun xv s₂ g₂ e => ?_)
  obtain rfl := e
  have gs := g.trans g₂
  have hl₂ : s₂.heap.IsList l items := hl.at fun o e => gs.k _ _ e
  refine wpAny_pyIter_list hl₂ ?_
  generalize hH1 : s₂.heap.push { cls := .type "list_iterator", data := .fields #[.ref l, .int 0 0] } = H1
  have hI1 : H1.IsListIter s₂.heap.objs.size l 0 := ⟨_, hH1 ▸ Heap.get?_push_size _ rfl, rfl, rfl⟩
  have k1 : ∀ b o, s₂.heap.get? b = some o → H1.get? b = some o := fun b o e => hH1 ▸ Heap.get?_push_of_some _ e
  have hs1z : H1.objs.size = s₂.heap.objs.size + 1 := by rw [← hH1, Heap.size_push]
  refine wpAny_newObj_type (wpAny_newFunctionEnv hcell (by intro y hy; simp at hy) (fun h₁ hns₁ hsb₁ => ?_) hkind)
  dsimp only at hns₁ hsb₁ ⊢
  generalize hH2 : H1.push { cls := .type "list", dict := none, data := .seq ([] : List Value).toArray } = H2 at hns₁ hsb₁ ⊢
  have hC : H2.objs.size = H1.objs.size + 1 := by rw [← hH2, Heap.size_push]
  have hDC : H1.objs.size ≠ H2.objs.size := by rw [hC]; exact Nat.ne_of_lt (Nat.lt_succ_self _)
  have old : ∀ b o, H1.get? b = some o → h₁.get? b = some o := fun b o e => hsb₁.extBut b o (by rw [hC]; exact Nat.ne_of_lt (Nat.lt_succ_of_lt (Heap.lt_size e))) (Heap.get?_push_of_some _ (hH2 ▸ Heap.get?_push_of_some _ e))
  have hacc : h₁.PlainList H1.objs.size #[] := ⟨_, hsb₁.extBut _ _ hDC (Heap.get?_push_of_some _ (hH2 ▸ Heap.get?_push_size _ rfl))⟩
  have hI₁ : h₁.IsListIter s₂.heap.objs.size l 0 := by
    obtain ⟨o, e, r⟩ := hI1
    exact ⟨o, old _ _ e, r⟩
  have hDI : H1.objs.size ≠ s₂.heap.objs.size := by rw [hs1z]; exact Nat.succ_ne_self _
  have hCI : H2.objs.size ≠ s₂.heap.objs.size := by rw [hC, hs1z]; exact Nat.ne_of_gt (Nat.lt_succ_of_lt (Nat.lt_succ_self _))
  have hllt : l < s₂.heap.objs.size := let ⟨_, e, _⟩ := hl₂; Heap.lt_size e
  have hlI : l ≠ s₂.heap.objs.size := Nat.ne_of_lt hllt
  have hlD : l ≠ H1.objs.size := by rw [hs1z]; exact Nat.ne_of_lt (Nat.lt_succ_of_lt hllt)
  have hlC : l ≠ H2.objs.size := by rw [hC, hs1z]; exact Nat.ne_of_lt (Nat.lt_succ_of_lt (Nat.lt_succ_of_lt hllt))
  have dead : ∀ b ∈ [s₂.heap.objs.size, H1.objs.size, H2.objs.size], s₂.heap.get? b = none := fun b hb => Heap.get?_none_of_le (by
    simp only [List.mem_cons, List.not_mem_nil, or_false] at hb
    rcases hb with rfl | rfl | rfl
    · exact Nat.le_refl _
    · rw [hs1z]; exact Nat.le_succ _
    · rw [hC, hs1z]; exact Nat.le_add_right _ 2)
  have loop : ∀ s₃ : Shared, s₃ = { s₂ with heap := h₁, toks := s₂.toks + ([] : List (Str × Value)).length } →
      codeAny (model prog w) A (.compLoop (comp2 elt (.Name x0 p0) i0 (.Name x1 p1) i1 scope pos) 0 (.ref s₂.heap.objs.size) (.ref H1.objs.size) (compEnvC scope cl H2.objs.size env))
        (compPost (model prog w) A E none Q (.ref H1.objs.size) H2.objs.size) s₃ := by
    rintro s₃ rfl
    have g₂₃ : Gr [] s₂ { s₂ with heap := h₁, toks := s₂.toks + ([] : List (Str × Value)).length } := .heap0 fun b o e => old b o (k1 b o e)
    have up : ∀ {s'}, Gr [s₂.heap.objs.size, H1.objs.size, H2.objs.size] { s₂ with heap := h₁, toks := s₂.toks + ([] : List (Str × Value)).length } s' → Gr [] s₂ s' := fun g' => g₂₃.frame g' dead
    refine comp2_loop (cenv := compEnvC scope cl H2.objs.size env) (I := s₂.heap.objs.size) (D := H1.objs.size) (C := H2.objs.size) (l := l) (items := items) (n1 := n1) (P1 := P1) F hh hI₁ (hl₂.at fun o e => old _ o (k1 _ o e)) hacc rfl hns₁ hDC hDI hCI hlI hlC hlD hsz
      (fun i v s' m' hv g' hn hm => hinner _ i v s' m' hv (gs.trans (up g')) hn hm) (fun i k v u s' m' hv hk p g' hn h0 h1 => helt _ i k v u s' m' hv hk p (gs.trans (up g')) hn h0 h1) (fun s' ys m' g' hn hp hy hf => ?_)
      (lookup_relabel_local hx0) (lookup_relabel_local hx1) hne (by show scope.kind = _; exact hkind) (hs1 _)
    refine ⟨m', hn, fun h'' hs'' => ?_⟩
    have g'' : Gr [H2.objs.size] s' { s' with heap := h'' } := .heap (tk := s'.toks) fun b o hb e => hs''.extBut b o (by simpa using hb) e
    refine k _ _ (g₂.trans (g₂₃.frame (g'.trans (g''.mono (by simp))) dead)) ⟨H1.objs.size, ys, rfl, noneBack gs (dead _ (by simp)), ?_, hy, hf⟩
    obtain ⟨nn, e⟩ := hp
    exact ⟨nn, g''.keep _ _ (by simpa using hDC) e⟩
  exact codeAny_compStart_list (loop _ rfl) (Walks.self (Walks.list (prog := prog) (w := w) (A := A) hh s₂.heap.objs.size l hlI items) 0 _ _ _ ⟨hI₁, hl₂.at fun o e => old _ o (k1 _ o e)⟩ (loop _ rfl))
end
end Mine
end

section
open PySem PySem.W PyProof.Rows
set_option maxRecDepth 100000
set_option linter.unusedVariables false
namespace Mine
variable {P : Params}
theorem fn71 {h} (X : Wd P h) : h.get? 71 = some { cls := .type "function", data := .func (fn 71) } := X.K 71 _ rfl
theorem code71 {h} (X : Wd P h) : h.CodeRec (fn 71).code (fn 71).qualname := ⟨_, _, _, _, rfl, X.K 70 _ rfl, rfl, rfl⟩
theorem bind71 (r d f : Value) : bindArgs (fn 71) ⟨[r, d, f], []⟩ = pure [(Str.ofString "rows", r), (Str.ofString "depth", d), (Str.ofString "fine", f)] := by rfl

/-- a value's finer digits -/
def digs (d f : Nat) (v : Int) : List Int := (List.range (d / f)).map fun k => (v.fdiv (2 ^ (f * (d / f - 1 - k)))).fmod (2 ^ f)
def finer (d f : Nat) (row : List Int) : List Int := row.flatMap (digs d f)
theorem digs_len {d f : Nat} {v : Int} : (digs d f v).length = d / f := by simp [digs]
theorem flat_get {α β : Type} {g : α → List β} {m : Nat} (hg : ∀ v, (g v).length = m) : ∀ (row : List α) (i k : Nat) (v : α), row[i]? = some v → k < m → (row.flatMap g)[i * m + k]? = (g v)[k]?
  | [], i, k, v, h, _ => by simp at h
  | x :: row, 0, k, v, h, hk => by
    have : x = v := by simpa using h
    subst this
    rw [List.flatMap_cons, Nat.zero_mul, Nat.zero_add, List.getElem?_append_left (by rw [hg]; exact hk)]
  | x :: row, i + 1, k, v, h, hk => by
    have h' : row[i]? = some v := by simpa using h
    rw [List.flatMap_cons, List.getElem?_append_right (by rw [hg, Nat.succ_mul]; omega), hg, show (i + 1) * m + k - m = i * m + k by rw [Nat.succ_mul]; omega]
    exact flat_get hg row i k v h' hk
theorem finer_len {d f : Nat} {row : List Int} : (finer d f row).length = row.length * (d / f) := by
  unfold finer
  induction row with
  | nil => simp
  | cons x row ih => rw [List.flatMap_cons, List.length_append, ih, digs_len, List.length_cons, Nat.succ_mul, Nat.add_comm]

theorem ints_at {ys : List Value} {ns : List Int} (hl : ys.length = ns.length) (h : ∀ (i : Nat) n, ns[i]? = some n → ∃ t, ys[i]? = some (.int n t)) : IntsAre ys ns := by
  induction ys generalizing ns with
  | nil => cases ns with
    | nil => exact .nil
    | cons n ns => simp at hl
  | cons y ys ih => cases ns with
    | nil => simp at hl
    | cons n ns =>
      obtain ⟨t, e⟩ := h 0 n rfl
      have e : y = .int n t := by simpa using e
      subst e
      exact .cons n t (ih (by simpa using hl) fun i m hm => by have := h (i + 1) m (by simpa using hm); simpa using this)

def FineOk (d f : Nat) : Prop := (d = 4 ∧ f = 2) ∨ (d = 4 ∧ f = 1) ∨ (d = 2 ∧ f = 1)

section
variable {prog : Program} {w : World} {A : Around} {s₀ : Shared}
theorem px_law_finer (X : Wd P s₀.heap) (hh : A.handled = none) (hA : A.depth < 900) {R : Addr} {rowsV : Array Value} {rows : List (List Int)} {d f : Nat} {td tf : Tok} (hdf : FineOk d f) (hl : s₀.heap.IsList R rowsV) (hr : All2 (RowI s₀.heap) rowsV.toList rows)
    (hn : rows.length ≤ 1000) (hlen : ∀ row ∈ rows, row.length ≤ 100) :
    Px prog w A (call (.ref 71) [.ref R, .int d td, .int f tf]) s₀ (fun v h => ∃ D rv, v = .ref D ∧ h.IsList D rv ∧ All2 (RowI h) rv.toList (rows.map (finer d f))) := by
  refine px_defC (fn71 X) rfl X.lim (code71 X) (by have : recursionLimit = 1000 := rfl; omega) (body := bodyOf (fn 71)) rfl (bind71 _ _ _) rfl (fun L x hx => by
    simp only [List.mem_cons, List.not_mem_nil, or_false] at hx
    rcases hx with rfl | rfl | rfl
    · exact .inl rfl
    · exact .inl rfl
    · exact .inr ⟨rfl, rfl⟩) fun s s₁ L g hsz x g₁ => ⟨[L, L + 1, L + 2], ?_, ?_⟩
  · intro b hb
    simp only [List.mem_cons, List.not_mem_nil, or_false] at hb
    rcases hb with rfl | rfl | rfl
    · exact Nat.le_refl _
    · exact Nat.le_succ _
    · exact Nat.le_add_right _ _
  have gs : Gr [] s₀ s₁ := g.trans g₁
  have hns : s₁.heap.Ns L _ := x.toInCall.ns
  have hc1 : s₁.heap.IsCell (L + 1) (some (.int f tf)) := x.cell (Str.ofString "fine") (L + 1) rfl
  have hc2 : s₁.heap.IsCell (L + 2) none := x.cell (Str.ofString "many") (L + 2) rfl
  have hf : 0 < f ∧ f ≤ 2 ∧ 0 < d / f ∧ d / f ≤ 4 ∧ f * (d / f) ≤ 4 := by rcases hdf with ⟨rfl, rfl⟩ | ⟨rfl, rfl⟩ | ⟨rfl, rfl⟩ <;> decide
  -- many
  refine sx_cons (sx_assignC (env := callEnvC (fn 71) L 71) (c := L + 2) rfl hc2 (px_fdiv ((px_local hns (by rfl)).mono fun v s' _ e => (⟨td, e⟩ : IsI (d : Int) v s'.heap)) ((px_cell (env := callEnvC (fn 71) L 71) (c := L + 1) rfl hc1).mono fun v s' _ e => (⟨tf, e⟩ : IsI (f : Int) v s'.heap)) (by omega) (by omega)) fun v s₂ s₃ g₂ p₂ hc₃ g₃ => ?_)
  obtain ⟨tm, rfl⟩ := p₂
  have hmany : ((d : Int).fdiv f) = ((d / f : Nat) : Int) := by rw [Int.fdiv_eq_ediv_of_nonneg _ (by omega)]; rfl
  rw [hmany] at hc₃
  have g₁₃ : Gr [L + 2] s₁ s₃ := g₂.any.trans g₃
  have nL2 : L ≠ L + 2 := Nat.ne_of_lt (Nat.lt_add_of_pos_right (by decide))
  have n12 : L + 1 ≠ L + 2 := Nat.ne_of_lt (Nat.lt_succ_self _)
  have hns₃ : s₃.heap.Ns L _ := g₁₃.ns hns (fun q => nL2 (List.mem_singleton.mp q))
  have hc1₃ : s₃.heap.IsCell (L + 1) (some (.int f tf)) := by
    obtain ⟨o, e, r⟩ := hc1
    exact ⟨o, g₁₃.keep _ _ (fun q => n12 (List.mem_singleton.mp q)) e, r⟩
  have hL20 : s₀.heap.get? (L + 2) = none := noneBack g (Heap.get?_none_of_le (by omega))
  have gX : Gr [] s₀ s₃ := gs.frame g₁₃ (fun b hb => by rw [List.mem_singleton.mp hb]; exact hL20)
  have X₃ : Wd P s₃.heap := X.keeps gX.k
  have hlen2 : rowsV.size = rows.length := by simpa using hr.1
  -- the rows
  refine sx_cons (sx_return (P := fun v h => ∃ D rv, v = .ref D ∧ h.IsList D rv ∧ All2 (RowI h) rv.toList (rows.map (finer d f))) (Px.mono (px_comp (own := [R]) (n := rowsV.size) (P := fun i v => rowsV[i]? = some v) (cl := [((Str.ofString "many"), L + 2), ((Str.ofString "fine"), L + 1)])
      (fun W i y h => ∃ b row, y = .ref b ∧ b ∉ W ∧ rows[i]? = some row ∧ LI h b (finer d f row)) (by rfl) ((px_local hns₃ (by rfl)).mono fun v s' g' e => by subst e; exact itb_list hh (hl.at fun o e => (gX.trans g').k _ _ e)) (by rw [sizeLine_eq]; omega) ?_ ?_) ?_) fun v s₄ g₄ p₄ => ⟨(g₁₃.trans g₄.any).mono (by simp), p₄⟩)
  · rintro W i y h h' ⟨b, row, e, hb, hr, vs, hl', hi'⟩ k
    exact ⟨b, row, e, hb, hr, vs, hl'.at fun o e => k _ _ hb e, hi'⟩
  · intro W C i v s' m' hi hv g' hW hC hn' hm'
    have cK : ∀ {c v}, s₃.heap.IsCell c v → s'.heap.IsCell c v := fun {c v} ⟨o, e, r⟩ => ⟨o, g'.keep _ _ (fun q => by rw [(hW _ q).1] at e; cases e) e, r⟩
    have hrow : rows[i]? = some (rows[i]'(by omega)) := List.getElem?_eq_getElem _
    obtain ⟨b, rfl, vs, hlb, hib⟩ := hr.2 i v _ (by rw [Array.getElem?_toList]; exact hv) hrow
    have hlb' : s'.heap.IsList b vs.toArray := hlb.at fun o e => g'.keep _ o (fun q => by have := gX.k _ _ e; rw [(hW _ q).1] at this; cases this) (gX.k _ _ e)
    have hX' : Wd P s'.heap := X₃.keeps (Gr.frame (.refl [] s₃) g' fun b hb => (hW b hb).1).k
    have hrl := hlen _ (List.mem_of_getElem? hrow)
    have hvl : vs.toArray.size = (rows[i]'(by omega)).length := by simpa using hib.length
    refine Px.mono (px_comp2 (env := compEnvC _ _ C (callEnvC (fn 71) L 71)) (cl := [((Str.ofString "many"), L + 2), ((Str.ofString "fine"), L + 1)]) (n1 := d / f) (P1 := fun k u => ∃ t, u = .int (k : Nat) t) (fun j y => ∃ n t, y = .int n t ∧ (finer d f (rows[i]'(by omega)))[j]? = some n) (A := A.deeper (callEnvC (fn 71) L 71)) hh (by rfl) (px_local hn' hm') hlb' ?_ ?_ ?_) ?_
    · rw [hvl, sizeLine_eq]
      have := Nat.mul_le_mul hrl hf.2.2.2.1
      omega
    · intro C' i' v' s'' m'' hv' g'' hn'' h0
      refine px_range (A := A.deeper (callEnvC (fn 71) L 71)) hh (px_bi (hX'.keeps g''.k)) ((px_cell (env := compEnvC _ _ C' (compEnvC _ _ C (callEnvC (fn 71) L 71))) (c := L + 2) rfl ((cK hc₃).keeps g''.k)).mono fun v s' _ e => ⟨tm, e⟩) (by omega)
    · intro C' i' k' v' u' s'' m'' hv' hk' ⟨tk, hu⟩ g'' hn'' h0 h1
      subst hu
      obtain ⟨y, ty, rfl, hy⟩ := IntsAre.at hib i' v' (by simpa using hv')
      have pf : (0 : Int) < 2 ^ f := Int.pow_pos (by decide)
      have hexp : f * (d / f - 1 - k') < 60 := by
        have h1 : f * (d / f - 1 - k') ≤ f * (d / f) := Nat.mul_le_mul_left f (by omega)
        omega
      have pe : (0 : Int) < 2 ^ (f * (d / f - 1 - k')) := Int.pow_pos (by decide)
      have pe2 : (2 : Int) ^ (f * (d / f - 1 - k')) ≤ 2 ^ 60 := ipow_le (by omega)
      have hcf : s''.heap.IsCell (L + 1) (some (.int f tf)) := (cK hc1₃).keeps g''.k
      have hcm : s''.heap.IsCell (L + 2) (some (.int (d / f : Nat) tm)) := (cK hc₃).keeps g''.k
      refine Px.mono (px_mod (px_fdiv ((px_local hn'' h0).mono fun v s' _ e => (⟨ty, e⟩ : IsI y v s'.heap)) (px_two_pow (n := f * (d / f - 1 - k')) ((px_mul ((px_cell (c := L + 1) rfl hcf).mono fun v s' _ e => (⟨tf, e⟩ : IsI (f : Int) v s'.heap)) (px_sub (px_sub ((px_cell (c := L + 2) rfl hcm).mono fun v s' _ e => (⟨tm, e⟩ : IsI ((d / f : Nat) : Int) v s'.heap)) px_int) ((px_local hn'' h1).mono fun v s' _ e => (⟨tk, e⟩ : IsI (k' : Int) v s'.heap))) (mulOk_right (by omega))).mono fun v s' _ q => by
          have e : (f : Int) * (((d / f : Nat) : Int) - 1 - (k' : Int)) = ((f * (d / f - 1 - k') : Nat) : Int) := by
            rw [Int.natCast_mul]; congr 1; omega
          rw [e] at q; exact q) hexp) (by omega) (by omega)) (px_two_pow (n := f) ((px_cell (c := L + 1) rfl hcf).mono fun v s' _ e => (⟨tf, e⟩ : IsI (f : Int) v s'.heap)) (by omega)) (by omega)) fun v s3 _ q => ?_
      obtain ⟨t, rfl⟩ := q
      refine ⟨_, t, rfl, ?_⟩
      unfold finer
      rw [flat_get (m := d / f) (fun _ => digs_len) _ i' k' y hy hk']
      simp [digs, hk']
    · rintro v s4 g4 ⟨D, ys, rfl, e2, e3, e4, e5⟩
      refine ⟨D, _, rfl, fun hm => ?_, hrow, ys.toList, by simpa using e3.isList, ints_at ?_ fun j n hj => ?_⟩
      · obtain ⟨o, e⟩ := (hW D hm).2
        rw [e2] at e; cases e
      · rw [finer_len]; simp [e4, hvl]
      · have hlt : j < ys.size := by
          rw [e4, hvl, ← finer_len]
          rcases Nat.lt_or_ge j (finer d f (rows[i]'(by omega))).length with q | q
          · exact q
          · rw [List.getElem?_eq_none q] at hj; cases hj
        obtain ⟨n', t', e, hn'⟩ := e5 j hlt
        rw [hj] at hn'; cases hn'
        exact ⟨t', by rw [Array.getElem?_toList, Array.getElem?_eq_getElem hlt, e]⟩
  · rintro v s₄ g₄ ⟨D, ys, W, rfl, e2, e3, e4, e5, e6⟩
    refine ⟨D, ys, rfl, e3.isList, ⟨by simp [e4, hlen2], fun j v row hv hrow => ?_⟩⟩
    rw [List.getElem?_map] at hrow
    have hj : j < ys.size := by
      rcases Nat.lt_or_ge j ys.size with q | q
      · exact q
      · rw [Array.getElem?_toList, Array.getElem?_eq_none q] at hv; cases hv
    obtain ⟨b, row', e, _, hr', hL⟩ := e6 j hj
    rw [Array.getElem?_toList, Array.getElem?_eq_getElem hj] at hv
    cases hv
    rw [hr'] at hrow
    cases hrow
    exact ⟨b, e, hL⟩
end
end Mine
end

section
open PySem PySem.W PyProof.Rows PySem.SeqAt PySem.MeetsSeq3
set_option maxRecDepth 100000
set_option linter.unusedVariables false
namespace Mine
/-- the order of lists -/
def lexLt : List Int → List Int → Bool
  | x :: xs, y :: ys => if x == y then lexLt xs ys else decide (x < y)
  | [], _ :: _ => true
  | _, _ => false

section
variable {A : Around} {s : Shared}
theorem EqAt_bytes (a : Array UInt8) (t : Tok) (b : Array UInt8) (u : Tok) : EqAt A s (.bytes a t) (.bytes b u) (a.toList == b.toList) := fun prog w E Q h => by
  unfold eqBool
  refine wpAny_holding ?_
  refine wpAny_ite_split (fun hab => ?_) (fun _ => ?_)
  · have e : a = b := by have := eq_of_beq hab; injection this
    subst e
    exact wpAny_bind (wpAny_rule (wpAny_pure (by simpa using h)))
  · exact wpAny_bind (PySem.W.eq_bytes (A := A) (wpAny_truthy_bool h))

theorem ints_eqAt {vs us : List Value} {xs ys : List Int} (hv : IntsAre vs xs) (hu : IntsAre us ys) : ∀ (j : Nat) (h1 : j < vs.toArray.size) (h2 : j < us.toArray.size), EqAt A s vs.toArray[j] us.toArray[j] (xs.getD j 0 == ys.getD j 0) := fun j h1 h2 => by
  have e1 : vs[j]? = some vs.toArray[j] := by simp
  have e2 : us[j]? = some us.toArray[j] := by simp
  obtain ⟨x, t, q1, p1⟩ := IntsAre.at hv j _ e1
  obtain ⟨y, u, q2, p2⟩ := IntsAre.at hu j _ e2
  rw [q1, q2, List.getD_eq_getElem?_getD, List.getD_eq_getElem?_getD, p1, p2]
  exact EqAt.int_int x t y u

theorem all_getD {xs ys : List Int} (hl : xs.length = ys.length) : ((List.range xs.length).all fun j => xs.getD j 0 == ys.getD j 0) = (xs == ys) := by
  rw [Bool.eq_iff_iff, List.all_eq_true, beq_iff_eq]
  constructor
  · intro h
    refine List.ext_getElem hl fun j h1 h2 => ?_
    have := h j (by simpa using h1)
    simpa [List.getD_eq_getElem?_getD, h1, h2] using this
  · rintro rfl j _
    simp

/-- two lists of ints, of the same length -/
theorem RcAt_ints {a b : Addr} {xs ys : List Int} (ha : LI s.heap a xs) (hb : LI s.heap b ys) (hl : xs.length = ys.length) (hu : A.units < cLine) : RcAt A s (.ref a) (.ref b) (xs == ys) := by
  obtain ⟨vs, h1, i1⟩ := ha
  obtain ⟨us, h2, i2⟩ := hb
  have := RcAt.lists (A := A) h1 h2 (by simp [i1.length, i2.length, hl]) hu (ints_eqAt (A := A.in1) i1 i2)
  rw [show vs.toArray.size = xs.length by simp [i1.length], all_getD hl] at this
  exact this

theorem lt_loop (l b : Addr) (vs us : List Value) (xs ys : List Int) (n n2 : Nat) (dd dd2 : Option Addr) (sl sl2 : Array (Option Value)) (hv : IntsAre vs xs) (hu : IntsAre us ys) (hl : xs.length = ys.length) (k : Nat) :
    ∀ i : Nat, xs.length - i = k → Meets (Builtin.«list.__eq__.loop» ⟨[.ref l, .ref b, rawInt i, rawInt 0], []⟩)
      (fun A R s => s.heap.get? l = some { cls := .type "list", dict := dd, data := .seq vs.toArray n, slots := sl } ∧ s.heap.get? b = some { cls := .type "list", dict := dd2, data := .seq us.toArray n2, slots := sl2 } ∧
        R (.ok (.ret (.bool (lexLt (xs.drop i) (ys.drop i))))) s) := by
  have s1 : vs.length = xs.length := hv.length
  have s2 : us.length = ys.length := hu.length
  induction k with
  | zero =>
    intro i hk prog w A R s h
    obtain ⟨hp, g, d, tk, os⟩ := s; obtain ⟨hl1, hb, h⟩ := h
    wp_walk using AutoSeq1.wpAny_loadPart' hl1, AutoSeq1.wpAny_loadPart' hb
    have hi1 : vs.toArray[((i : Nat) : Int).toNat]? = none := by simp; omega
    have hi2 : us.toArray[((i : Nat) : Int).toNat]? = none := by simp; omega
    rw [hi1, hi2]
    wp_walk using AutoSeq1.wpAny_loadPart' hl1, AutoSeq1.wpAny_loadPart' hb
    have e1 : xs.drop i = [] := List.drop_of_length_le (by omega)
    have e2 : ys.drop i = [] := List.drop_of_length_le (by omega)
    rw [e1, e2] at h
    show R (.ok (.ret (.bool (decide (vs.toArray.size < us.toArray.size))))) _
    have : decide (vs.toArray.size < us.toArray.size) = lexLt [] [] := by simp [lexLt, s1, s2, hl]
    rw [this]; exact h
  | succ k ih =>
    intro i hk prog w A R s h
    obtain ⟨hp, g, d, tk, os⟩ := s; obtain ⟨hl1, hb, h⟩ := h
    wp_walk using AutoSeq1.wpAny_loadPart' hl1, AutoSeq1.wpAny_loadPart' hb
    have hlt : i < vs.length := by omega
    have hlt2 : i < us.length := by omega
    have hi1 : vs.toArray[((i : Nat) : Int).toNat]? = some vs[i] := by simp [hlt]
    have hi2 : us.toArray[((i : Nat) : Int).toNat]? = some us[i] := by simp [hlt2]
    obtain ⟨x, t, q1, p1⟩ := IntsAre.at hv i _ (List.getElem?_eq_getElem hlt)
    obtain ⟨y, u, q2, p2⟩ := IntsAre.at hu i _ (List.getElem?_eq_getElem hlt2)
    have d1 : xs.drop i = x :: xs.drop (i + 1) := by rw [List.drop_eq_getElem_cons (by omega)]; congr 1; rw [List.getElem?_eq_getElem (by omega)] at p1; exact Option.some.inj p1
    have d2 : ys.drop i = y :: ys.drop (i + 1) := by rw [List.drop_eq_getElem_cons (by omega)]; congr 1; rw [List.getElem?_eq_getElem (by omega)] at p2; exact Option.some.inj p2
    have hc : ((i : Int) + 1) = ((i + 1 : Nat) : Int) := by push_cast; rfl
    rw [d1, d2] at h
    rw [hi1, hi2, q1, q2]
    refine wpAny_bind (EqAt.int_int x t y u prog w _ _ ?_)
    cases hb' : (x == y) with
    | true =>
      have h : R (.ok (.ret (.bool (lexLt (xs.drop (i + 1)) (ys.drop (i + 1)))))) ⟨hp, g, d, tk, os⟩ := by simpa [lexLt, hb'] using h
      wp_walk
      rw [hc]
      exact ⟨plainId_quiet plain_eq_loop _, codeAny_builtin entry_eq_loop (by
        rw [Around.under_plainId plain_eq_loop _]
        exact ih (i + 1) (by omega) prog w A R _ ⟨hl1, hb, h⟩)⟩
    | false =>
      have h : R (.ok (.ret (.bool (decide (x < y))))) ⟨hp, g, d, tk, os⟩ := by simpa [lexLt, hb'] using h
      wp_walk using AutoSeq1.wpAny_loadPart' hl1, AutoSeq1.wpAny_loadPart' hb
      rw [hi1, hi2, q1, q2]
      refine wpAny_bind (wpAny_lt_int (A := A.in1) ?_)
      exact wpAny_pure h

theorem list_lt_meets (l b : Addr) (vs us : List Value) (xs ys : List Int) (n n2 : Nat) (dd dd2 : Option Addr) (sl sl2 : Array (Option Value)) (hv : IntsAre vs xs) (hu : IntsAre us ys) (hl : xs.length = ys.length) :
    Meets (Builtin.«list.__lt__» ⟨[.ref l, .ref b], []⟩)
      (fun A R s => s.heap.get? l = some { cls := .type "list", dict := dd, data := .seq vs.toArray n, slots := sl } ∧ s.heap.get? b = some { cls := .type "list", dict := dd2, data := .seq us.toArray n2, slots := sl2 } ∧
        R (.ok (.ret (.bool (lexLt xs ys)))) s) := by
  intro prog w A R s h
  obtain ⟨hp, g, d, tk, os⟩ := s; obtain ⟨hl1, hb, h⟩ := h
  have f3 := AutoSeq1.sub_list_list
  wp_walk using AutoSeq1.wpAny_loadPart' hl1, AutoSeq1.wpAny_loadPart' hb
  exact ⟨plainId_quiet plain_eq_loop _, codeAny_builtin entry_eq_loop (by
    rw [Around.under_plainId plain_eq_loop _]
    exact lt_loop l b vs us xs ys n n2 dd dd2 sl sl2 hv hu hl _ 0 rfl prog w A R _ ⟨hl1, hb, by simpa using h⟩)⟩

theorem order_lt : ∀ a b : List Int, (∀ x ∈ a, 0 ≤ x ∧ x < 256) → (∀ x ∈ b, 0 ≤ x ∧ x < 256) → (Builtin.Bytes.order (a.map fun x => x.toNat.toUInt8) (b.map fun x => x.toNat.toUInt8) == .lt) = lexLt a b
  | [], [], _, _ | [], _ :: _, _, _ | _ :: _, [], _, _ => rfl
  | x :: a, y :: b, ha, hb => by
    have hx := ha x (by simp)
    have hy := hb y (by simp)
    have ex : x.toNat.toUInt8.toNat = x.toNat := by rw [Nat.toUInt8, UInt8.toNat_ofNat']; omega
    have ey : y.toNat.toUInt8.toNat = y.toNat := by rw [Nat.toUInt8, UInt8.toNat_ofNat']; omega
    have hlt : x.toNat.toUInt8 < y.toNat.toUInt8 ↔ x < y := by rw [UInt8.lt_iff_toNat_lt, ex, ey]; omega
    have hgt : y.toNat.toUInt8 < x.toNat.toUInt8 ↔ y < x := by rw [UInt8.lt_iff_toNat_lt, ex, ey]; omega
    simp only [List.map_cons, Builtin.Bytes.order, lexLt, gt_iff_lt, hlt, hgt]
    by_cases h1 : x < y
    · have : (x == y) = false := by simp; omega
      simp [h1, this]
    · by_cases h2 : y < x
      · have : (x == y) = false := by simp; omega
        simp [h1, h2, this]
      · have : x = y := by omega
        subst this
        simp [order_lt a b (fun z hz => ha z (List.mem_cons_of_mem _ hz)) (fun z hz => hb z (List.mem_cons_of_mem _ hz))]
theorem gives_bytes_lt (b c : Array UInt8) (t u : Tok) : Gives (Builtin.«bytes.__lt__» ⟨[.bytes b t, .bytes c u], []⟩) (.val (.bool (Builtin.Bytes.order b.toList c.toList == .lt))) := by
  refine .of_wp fun M A E s Q hq => ?_
  show wpAny M A (isInstance (.bytes c u) (.type "bytes") >>= fun r => _) _ E s
  refine wpAny_bind (wpAny_isInstance (PySem.W.typeIs_bytes s c u) PySem.F.sub_bytes_bytes ?_)
  exact wpAny_pure ⟨_, rfl, hq⟩
theorem slot_bytes_lt : Slot "bytes" (cmpInfo .Lt).2.1 "bytes.__lt__" :=
  .of (owner := "bytes") (n := "__lt__") (by rw [typeLookup_type, builtinLookup_eq_fast]; kernel_rfl) (by decide +kernel) (by decide +kernel) (by decide +kernel)
    (by first | exact .inl (by decide +kernel) | exact .inr (by decide +kernel)) (by rw [isSubtype_type]; kernel_rfl)
theorem entry_bytes_lt : entryFor table "bytes.__lt__" = some Builtin.«bytes.__lt__» := entryFor_of_tree (by kernel_rfl)
theorem args_bytes_lt_2 (a b : Value) : argsOk "bytes.__lt__" ⟨[a, b], []⟩ := by rfl
end

section
variable {prog : Program} {w : World} {A : Around} {E : Value → Shared → Prop} {s : Shared}
theorem cmp_bytes_lt {ns ms : List Int} {t u : Tok} {Q : Value → Shared → Prop} (hn : ∀ x ∈ ns, 0 ≤ x ∧ x < 256) (hm : ∀ x ∈ ms, 0 ≤ x ∧ x < 256) (h : Q (.bool (lexLt ns ms)) s) : wpAny (model prog w) A (compareOp .Lt (.bytes (byteArr ns) t) (.bytes (byteArr ms) u)) Q E s :=
  compareOp_gives (op := .Lt) (PySem.W.typeIs_bytes s _ t) (PySem.W.typeIs_bytes s _ u) slot_bytes_lt entry_bytes_lt (args_bytes_lt_2 _ _) (gives_bytes_lt _ _ t u) (fun e => nomatch e) (by
    have := order_lt ns ms hn hm
    unfold byteArr
    simp only [List.toList_toArray] at *
    rw [this]; exact h)
theorem cmp_list_lt {a b : Addr} {xs ys : List Int} {Q : Value → Shared → Prop} (ha : LI s.heap a xs) (hb : LI s.heap b ys) (hl : xs.length = ys.length) (hu : A.units < cLine) (h : Q (.bool (lexLt xs ys)) s) : wpAny (model prog w) A (compareOp .Lt (.ref a) (.ref b)) Q E s := by
  obtain ⟨vs, ⟨⟨c1, dd1, da1, sl1⟩, h1, e1, n1, d1⟩, i1⟩ := ha
  obtain ⟨us, ⟨⟨c2, dd2, da2, sl2⟩, h2, e2, n2, d2⟩, i2⟩ := hb
  simp only at e1 d1 e2 d2
  subst e1 d1 e2 d2
  show wpAny _ _ (richCompare .Lt (.ref a) (.ref b)) _ _ _
  exact richCompare_meets_room (op := .Lt) ⟨_, h1, rfl⟩ ⟨_, h2, rfl⟩ PySem.F.slot_list_lt PySem.F.entry_list_lt (PySem.F.args_list_lt_2 _ _) (list_lt_meets a b vs us xs ys n1 n2 dd1 dd2 sl1 sl2 i1 i2 hl)
    ⟨h1, h2, show Value.bool (lexLt xs ys) ≠ Value.notImplemented ∧ Q (.bool (lexLt xs ys)) s from ⟨(fun x => nomatch x), h⟩⟩ hu
end
end Mine
end

section
open PySem PySem.W PyProof.Rows
set_option maxRecDepth 100000
set_option linter.unusedVariables false
namespace Mine
/-! the plain mathematics -/
def Dig (d : Nat) (xs : List Int) : Prop := ∀ x ∈ xs, 0 ≤ x ∧ x < 2 ^ d

theorem foldl_num (d : Nat) : ∀ (xs : List Int) (a : Int), xs.foldl (fun a v => a * 2 ^ d + v) a = a * 2 ^ (d * xs.length) + numW d xs
  | [], a => by simp [numW]
  | x :: xs, a => by
    have h1 := foldl_num d xs (a * 2 ^ d + x)
    have h2 := foldl_num d xs x
    have e : numW d (x :: xs) = xs.foldl (fun a v => a * 2 ^ d + v) x := by simp [numW]
    rw [List.foldl_cons, h1, e, h2, List.length_cons, show d * (xs.length + 1) = d + d * xs.length by rw [Nat.mul_succ, Nat.add_comm], Int.pow_add, Int.add_mul]
    rw [Int.mul_assoc]
    omega
theorem numW_cons (d : Nat) (x : Int) (xs : List Int) : numW d (x :: xs) = x * 2 ^ (d * xs.length) + numW d xs := by
  have : numW d (x :: xs) = xs.foldl (fun a v => a * 2 ^ d + v) x := by simp [numW]
  rw [this, foldl_num]
theorem numW_append (d : Nat) (xs ys : List Int) : numW d (xs ++ ys) = numW d xs * 2 ^ (d * ys.length) + numW d ys := by
  unfold numW
  rw [List.foldl_append]
  exact foldl_num d ys _
theorem numW_zeros (d : Nat) : ∀ n, numW d (List.replicate n 0) = 0
  | 0 => rfl
  | n + 1 => by rw [List.replicate_succ, numW_cons, numW_zeros d n, Int.zero_mul]; rfl

/-- the order of digits is the order of numbers -/
theorem lex_num (d : Nat) : ∀ (xs ys : List Int), xs.length = ys.length → Dig d xs → Dig d ys → lexLt xs ys = decide (numW d xs < numW d ys) ∧ (xs = ys ↔ numW d xs = numW d ys)
  | [], [], _, _, _ => by simp [lexLt]
  | x :: xs, y :: ys, hl, hx, hy => by
    have hl' : xs.length = ys.length := by simpa using hl
    have hx' : Dig d xs := fun z h => hx z (List.mem_cons_of_mem _ h)
    have hy' : Dig d ys := fun z h => hy z (List.mem_cons_of_mem _ h)
    obtain ⟨ih1, ih2⟩ := lex_num d xs ys hl' hx' hy'
    have bx := numW_lt hx'
    have bY := numW_lt hy'
    rw [← hl'] at bY
    rw [numW_cons, numW_cons, ← hl']
    generalize hp : (2 : Int) ^ (d * xs.length) = p at *
    have step : ∀ a b : Int, a < b → ∀ u v : Int, 0 ≤ u → u < p → 0 ≤ v → v < p → a * p + u < b * p + v := fun a b hab u v h1 h2 h3 h4 => by
      have : (a + 1) * p ≤ b * p := Int.mul_le_mul_of_nonneg_right (by omega) (by omega)
      rw [Int.add_mul] at this
      omega
    rcases Int.lt_trichotomy x y with h | h | h
    · have hb : (x == y) = false := by simp; omega
      have := step x y h _ _ bx.1 bx.2 bY.1 bY.2
      refine ⟨by simp [lexLt, hb, h, this], fun e => ?_, fun e => ?_⟩
      · cases e; omega
      · omega
    · subst h
      refine ⟨by simp [lexLt, ih1], fun e => ?_, fun e => ?_⟩
      · cases e; rfl
      · have := ih2.mpr (by omega)
        rw [this]
    · have hb : (x == y) = false := by simp; omega
      have := step y x h _ _ bY.1 bY.2 bx.1 bx.2
      refine ⟨by simp [lexLt, hb]; omega, fun e => ?_, fun e => ?_⟩
      · cases e; omega
      · omega

/-- bytes of chunks -/
theorem num_chunks {d : Nat} : ∀ (cs : List (List Int)), (∀ c ∈ cs, d * c.length = 8) → numW 8 (cs.map (numW d)) = numW d cs.flatten
  | [], _ => rfl
  | c :: cs, h => by
    rw [List.map_cons, numW_cons, num_chunks cs fun c' h' => h c' (List.mem_cons_of_mem _ h'), List.flatten_cons, numW_append]
    have e : ∀ cs : List (List Int), (∀ c ∈ cs, d * c.length = 8) → 8 * (cs.map (numW d)).length = d * cs.flatten.length := fun cs => by
      induction cs with
      | nil => intro _; rfl
      | cons c cs ih =>
        intro h
        have h1 := h c (by simp)
        have h2 := ih fun c' h' => h c' (List.mem_cons_of_mem _ h')
        simp only [List.map_cons, List.length_cons, List.flatten_cons, List.length_append, Nat.mul_add] at *
        omega
    rw [e cs fun c' h' => h c' (List.mem_cons_of_mem _ h')]
theorem cuts_flatten (bl : List Int) (n : Nat) : ∀ m, ((List.range m).map (cut bl n)).flatten = bl.take (m * n)
  | 0 => by simp
  | m + 1 => by
    rw [List.range_succ, List.map_append, List.flatten_append, cuts_flatten bl n m]
    simp only [List.map_cons, List.map_nil, List.flatten_cons, List.flatten_nil, List.append_nil, cut]
    rw [Nat.succ_mul, List.take_add]

section
variable {d : Nat} {row : List Int}
def manyN (d n : Nat) : Nat := (n + 8 / d - 1) / (8 / d)
theorem packR_len : (packR d row).length = manyN d row.length := by simp [packR, cutsR, manyN]
theorem many_eq (hd : d = 1 ∨ d = 2 ∨ d = 4) (n : Nat) : manyN d n = manyW d n ∧ d * exN d n = 8 * manyW d n - n * d ∧ n * d ≤ 8 * manyW d n := by
  unfold manyN manyW exN
  rcases hd with rfl | rfl | rfl
  · refine ⟨?_, ?_, ?_⟩ <;> omega
  · simp only [show 8 / 2 = 4 by rfl]
    refine ⟨?_, ?_, ?_⟩ <;> omega
  · simp only [show 8 / 4 = 2 by rfl]
    refine ⟨?_, ?_, ?_⟩ <;> omega
theorem cut_len {bl : List Int} {n m i : Nat} (h : bl.length = m * n) (hi : i < m) : (cut bl n i).length = n := by
  unfold cut
  rw [List.length_take, List.length_drop, h]
  have : (i + 1) * n ≤ m * n := Nat.mul_le_mul_right n hi
  rw [Nat.succ_mul] at this
  omega
theorem pack_num (hd : d = 1 ∨ d = 2 ∨ d = 4) : numW 8 (packR d row) = numW d row * 2 ^ (8 * manyW d row.length - row.length * d) := by
  have hc := d_cases hd
  have hp := padR_len hd row
  unfold packR
  rw [num_chunks _ fun c hc' => by
    obtain ⟨i, hi, rfl⟩ := List.mem_map.mp hc'
    rw [cut_len hp (by simpa using hi)]
    exact hc.2.1]
  unfold cutsR
  rw [cuts_flatten, ← hp, List.take_length]
  unfold padR
  rw [numW_append, numW_zeros, List.length_replicate, (many_eq hd row.length).2.1]
  omega
theorem pack_dig (hd : d = 1 ∨ d = 2 ∨ d = 4) (h : Dig d row) : Dig 8 (packR d row) := fun x hx => by
  obtain ⟨c, hc, rfl⟩ := List.mem_map.mp hx
  obtain ⟨i, hi, rfl⟩ := List.mem_map.mp hc
  have hp := padR_len hd row
  have hl := cut_len hp (show i < _ by simpa using hi)
  have hm : Dig d (padR d row) := fun x hx => by
    rcases List.mem_append.mp hx with h' | h'
    · exact h x h'
    · rw [List.mem_replicate] at h'
      rw [h'.2]
      exact ⟨Int.le_refl _, Int.pow_pos (by decide)⟩
  have := numW_lt (d := d) (xs := cut (padR d row) (8 / d) i) fun x hx => hm x (List.mem_of_mem_drop (List.mem_of_mem_take hx))
  rw [hl, (d_cases hd).2.1] at this
  exact this
end
end Mine
end

section
open PySem PySem.W PyProof.Rows
set_option maxRecDepth 100000
set_option linter.unusedVariables false
namespace Mine
theorem digs42 : ∀ n : Fin 16, numW 2 (digs 4 2 (n.val : Int)) = n.val ∧ ∀ x ∈ digs 4 2 (n.val : Int), 0 ≤ x ∧ x < 2 ^ 2 := by decide +kernel
theorem digs41 : ∀ n : Fin 16, numW 1 (digs 4 1 (n.val : Int)) = n.val ∧ ∀ x ∈ digs 4 1 (n.val : Int), 0 ≤ x ∧ x < 2 ^ 1 := by decide +kernel
theorem digs21 : ∀ n : Fin 4, numW 1 (digs 2 1 (n.val : Int)) = n.val ∧ ∀ x ∈ digs 2 1 (n.val : Int), 0 ≤ x ∧ x < 2 ^ 1 := by decide +kernel
theorem digs_num {d f : Nat} (h : FineOk d f) {v : Int} (hv : 0 ≤ v ∧ v < 2 ^ d) : numW f (digs d f v) = v ∧ Dig f (digs d f v) := by
  obtain ⟨n, rfl⟩ : ∃ n : Nat, v = n := ⟨v.toNat, by omega⟩
  rcases h with ⟨rfl, rfl⟩ | ⟨rfl, rfl⟩ | ⟨rfl, rfl⟩
  · exact digs42 ⟨n, by omega⟩
  · exact digs41 ⟨n, by omega⟩
  · exact digs21 ⟨n, by omega⟩
theorem fine_cases {d f : Nat} (h : FineOk d f) : (d = 1 ∨ d = 2 ∨ d = 4) ∧ (f = 1 ∨ f = 2 ∨ f = 4) ∧ f * (d / f) = d ∧ d / f ≤ 4 := by
  rcases h with ⟨rfl, rfl⟩ | ⟨rfl, rfl⟩ | ⟨rfl, rfl⟩ <;> decide
theorem finer_num {d f : Nat} (h : FineOk d f) : ∀ row : List Int, Dig d row → numW f (finer d f row) = numW d row ∧ Dig f (finer d f row)
  | [], _ => ⟨rfl, fun _ h => nomatch h⟩
  | v :: row, hr => by
    have ⟨i1, i2⟩ := finer_num h row fun x hx => hr x (List.mem_cons_of_mem _ hx)
    have ⟨d1, d2⟩ := digs_num h (hr v (by simp))
    have e : finer d f (v :: row) = digs d f v ++ finer d f row := by simp [finer]
    rw [e, numW_append, numW_cons, i1, d1, finer_len]
    have e2 : f * (row.length * (d / f)) = d * row.length := by
      have := (fine_cases h).2.2.1
      rw [Nat.mul_comm row.length, ← Nat.mul_assoc, this]
    refine ⟨by rw [e2], fun x hx => ?_⟩
    rcases List.mem_append.mp hx with q | q
    · exact d2 x q
    · exact i2 x q
theorem pack_finer {d f : Nat} (h : FineOk d f) {row : List Int} (hr : Dig d row) : packR f (finer d f row) = packR d row := by
  obtain ⟨hd, hf, hm, _⟩ := fine_cases h
  obtain ⟨n1, n2⟩ := finer_num h row hr
  have hl : (finer d f row).length * f = row.length * d := by rw [finer_len, Nat.mul_assoc, Nat.mul_comm (d / f), hm]
  have hmany : manyW f (finer d f row).length = manyW d row.length := by unfold manyW; rw [hl]
  have hlen : (packR f (finer d f row)).length = (packR d row).length := by
    rw [packR_len, packR_len, (many_eq hf _).1, (many_eq hd _).1, hmany]
  refine (lex_num 8 _ _ hlen (pack_dig hf n2) (pack_dig hd hr)).2.mpr ?_
  rw [pack_num hf, pack_num hd, n1, hmany, hl]
theorem finer_ok {d f : Nat} (h : FineOk d f) {row : List Int} (hr : Dig d row) (h0 : 0 < row.length) (h9 : row.length ≤ 9) : RowOk f (finer d f row) := by
  obtain ⟨hd, hf, hm, h4⟩ := fine_cases h
  have hpos : 0 < d / f := by rcases h with ⟨rfl, rfl⟩ | ⟨rfl, rfl⟩ | ⟨rfl, rfl⟩ <;> decide
  refine ⟨?_, ?_, (finer_num h row hr).2⟩
  · rw [finer_len]; exact Nat.mul_pos h0 hpos
  · rw [finer_len]
    have := Nat.mul_le_mul h9 h4
    omega
/-- the order of the octets is the order of the rows -/
theorem pack_order {d : Nat} (hd : d = 1 ∨ d = 2 ∨ d = 4) {xs ys : List Int} (hl : xs.length = ys.length) (hx : Dig d xs) (hy : Dig d ys) :
    lexLt xs ys = lexLt (packR d xs) (packR d ys) ∧ (xs == ys) = (packR d xs == packR d ys) := by
  have hpl : (packR d xs).length = (packR d ys).length := by rw [packR_len, packR_len, hl]
  obtain ⟨a1, a2⟩ := lex_num d xs ys hl hx hy
  obtain ⟨b1, b2⟩ := lex_num 8 _ _ hpl (pack_dig hd hx) (pack_dig hd hy)
  rw [pack_num hd, pack_num hd, ← hl] at b1 b2
  have pos : (0 : Int) < 2 ^ (8 * manyW d xs.length - xs.length * d) := Int.pow_pos (by decide)
  generalize (2 : Int) ^ (8 * manyW d xs.length - xs.length * d) = p at *
  constructor
  · rw [a1, b1]
    congr 1
    exact propext (Int.mul_lt_mul_right pos).symm
  · have : xs = ys ↔ packR d xs = packR d ys := by
      rw [a2, b2]
      exact ⟨fun h => by rw [h], fun h => Int.eq_of_mul_eq_mul_right (by omega) h⟩
    rw [Bool.eq_iff_iff, beq_iff_eq, beq_iff_eq]
    exact this
/-- the octets' number from its end -/
theorem sum_num : ∀ bs : List Int, ((List.range bs.length).map fun j => bs.getD (bs.length - 1 - j) 0 * 256 ^ j).sum = numW 8 bs
  | [] => rfl
  | x :: xs => by
    have ih := sum_num xs
    rw [List.length_cons, List.range_succ, List.map_append, List.sum_append, numW_cons, ← ih]
    have e : ((List.range xs.length).map fun j => (x :: xs).getD (xs.length + 1 - 1 - j) 0 * 256 ^ j) = (List.range xs.length).map fun j => xs.getD (xs.length - 1 - j) 0 * 256 ^ j := by
      apply List.map_congr_left
      intro j hj
      have hj : j < xs.length := by simpa using hj
      have : xs.length + 1 - 1 - j = (xs.length - 1 - j) + 1 := by omega
      rw [this, List.getD_cons_succ]
    rw [e]
    have p : (256 : Int) ^ xs.length = 2 ^ (8 * xs.length) := by rw [show (256 : Int) = 2 ^ 8 by rfl, ← Int.pow_mul]
    simp [p]
    omega
end Mine
end

section
open PySem PySem.W PyProof.Rows
set_option maxRecDepth 100000
set_option linter.unusedVariables false
namespace Mine
section
variable {prog : Program} {w : World} {A : Around} {s : Shared} {env : Env} {O : Flow → Shared → Prop} {R : Result → Shared → Prop}

theorem sxF_nil (h : O .next s) : SxF prog w A (execs [] env) s O := fun E => wpF_of (wpAny_execs_nil h)
theorem sxF_cons {st rest} (h : SxF prog w A (exec st env) s (fun f s' => match f with | .next => SxF prog w A (execs rest env) s' O | f => O f s')) : SxF prog w A (execs (st :: rest) env) s O := fun E => by
  rw [execs_cons]
  refine wpF_bind (wpF_mono (h E) (fun f s' q => ?_) fun _ _ e => e)
  cases f with
  | next => exact q E
  | _ => exact wpF_pure q
theorem sxF_if {t : Expr} {body orelse : List Stmt} {pos : Pos} (h : ∀ E, wpF (model prog w) A (isTrue t env (eval t env)) (fun b s₁ => if b = true then SxF prog w A (execs body env) s₁ O else SxF prog w A (execs orelse env) s₁ O) E s) : SxF prog w A (exec (.If t body orelse pos) env) s O := fun E => by
  show wpF _ A (do standAt pos; if ← isTrue t env (eval t env) then execs body env else execs orelse env) _ _ s
  refine wpF_bindA (wpAny_standAt (wpF_bind (wpF_mono (h E) (fun b s₁ q => ?_) fun _ _ e => e)))
  cases b with
  | true => exact q E
  | false => exact q E

/-- for over a walkable thing, the body in contexts without a holder -/
theorem sxF_for {target iter : Expr} {body : List Stmt} {pos : Pos} {n : Nat} {P : Nat → Value → Prop} (J : Nat → Shared → Prop)
    (he : Px prog w A (eval iter env) s (fun v h => Itb prog w A h v [] n P))
    (h0 : ∀ s', Gr [] s s' → J 0 s') (hJ : ∀ i s' s'' I, s.heap.get? I = none → IsIt s'.heap I → J i s' → Gr [I] s' s'' → J i s'')
    (turn : ∀ i v s₁, i < n → P i v → J i s₁ → Sx prog w A (assign target env v) s₁ (fun _ s₂ => SxF prog w A (execs body env) s₂ (fun f s₃ => match f with
      | .next | .cont => J (i + 1) s₃ ∧ ∀ I o vs, s.heap.get? I = none → s₁.heap.get? I = some o → o.data = .fields vs → s₃.heap.get? I = some o
      | .brk => False
      | .ret v => O (.ret v) s₃)))
    (fin : ∀ s', J n s' → O .next s')
    (hs : ∀ x, foldedSetIterable iter env x = pure x := by intro _; rfl) (ht : ∀ it v, letOwnedTupleGo target it v = pure () := by intro _ _; rfl) :
    SxF prog w A (exec (.For target iter body [] pos) env) s O := fun E => by
  show wpF _ A (.at pos fun _ => (eval iter env >>= fun v => foldedSetIterable iter env v >>= fun x => standAt iter.pos >>= fun _ => holding [x] (pyIter x) >>= fun it =>
    runOwn (.forLoop target it body [] env) env)) _ _ s
  refine wpF_bindA (m := standAt pos) (wpAny_standAt ?_)
  refine wpF_bindA (he.use (.refl _ _) fun xv s₁ g₁ hi => ?_)
  refine wpF_bindA (wpAny_of_eq (hs _) (wpF_bindA (wpAny_standAt (wpF_bindA (wpAny_holding ?_)))))
  refine hi s₁ _ _ (fun _ _ e => e) fun s₂ I St g₂ hI hI' Wk hst hown' => ?_
  have hIs : s.heap.get? I = none := noneBack g₁ hI
  unfold runOwn
  refine wpF_onRaiseN (wpF_run ?_)
  refine codeF_loop rfl rfl (fun k s' => ∃ i, i ≤ n ∧ k = n + 1 - i ∧ St i s'.heap ∧ J i s') ?_ (n + 1) ⟨0, Nat.zero_le _, rfl, hst, h0 s₂ (g₁.trans g₂)⟩
  rintro k s' ⟨i, hi, rfl, hst', hj⟩
  show wpF _ A ((forTurn target (.ref I) body [] env).onRaise (fun x => do noteFrame x env; theTreesLotGoes x)) _ _ s'
  refine wpF_onRaiseN ?_
  unfold forTurn
  refine wpF_bindA (wpAny_standAt (wpF_bindA (wpA_onRaiseN ?_)))
  by_cases hlt : i < n
  · refine Wk.item i s' _ _ hlt hst' fun v h' tk p hst₁ hk₁ => ?_
    have gI : Gr [I] s' { s' with heap := h', toks := tk } := .heap fun b o hb e => hk₁ b o hb e
    have hj₁ := hJ i s' _ I hIs (hI' i _ hst') hj gI
    refine wpF_bindA (wpAny_of_eq (ht _ _) ?_)
    refine wpF_bindA (turn i v _ hlt p hj₁ _ |> fun q => wpAny_mono q (fun _ s₂ q => ?_) fun _ _ e => e)
    refine wpF_bind (wpF_mono (q _) (fun f s₃ z => ?_) fun _ _ e => e)
    cases f with
    | brk => exact z.elim
    | ret v => exact wpF_pure z
    | next | cont =>
      have ⟨z1, z2⟩ := z
      obtain ⟨oI, vI, eI, hdI⟩ := hI' _ _ hst₁
      have hst3 : St (i + 1) s₃.heap := Wk.frame _ _ _ hst₁ fun b hb o e => by
        rw [List.mem_singleton.mp hb] at e ⊢
        rw [eI] at e; cases e
        exact z2 I _ vI hIs eI hdI
      exact wpF_pure (.inl ⟨rfl, n + 1 - (i + 1), by omega, i + 1, hlt, rfl, hst3, z1⟩)
  · have hin : i = n := by omega
    subst hin
    refine Wk.done s' _ _ hst' fun h' tk hk' => ?_
    refine wpF_pure (.inr ⟨rfl, codeF_of_tree rfl ?_⟩)
    exact wpF_pure (fin _ (hJ i s' _ I hIs (hI' i _ hst') hj (.heap fun b o hb e => hk' b o hb e)))
end
end Mine
end

section
open PySem PySem.W PyProof.Rows
set_option maxRecDepth 100000
set_option linter.unusedVariables false
namespace Mine
open PySem.Sem (wp)
section
variable {prog : Program} {w : World} {A : Around} {s s₀ : Shared} {env : Env} {O : Flow → Shared → Prop} {R : Result → Shared → Prop}

theorem codeF_func {body : List Stmt} (h : wpF (model prog w) (A.deeper env) (execs body env) (fun f s' => R (.ok (.ret (retOf f))) s') NoE s) : codeF (model prog w) A (.func body env) R s := by
  refine codeF_of_tree rfl ?_
  show wpF _ (A.deeper env) (do point; match ← (execs body env).onRaise (leaving env) with | .ret v => ret v | _ => ret .none) _ _ s
  refine wpF_bindA (wpAny_point (wpF_bind (wpF_onRaiseN (wpF_mono h (fun f s' h' => ?_) fun _ _ h' => h'))))
  cases f <;> exact wpF_pure h'

theorem wpF_call_cells {a : Addr} {o : Obj} {fd : FuncData} {body : List Stmt} {vals : List Value} {binds : List (Str × Value)} {Q : Value → Shared → Prop} {E : Value → Shared → Prop}
    (hroom : A.depth < recursionLimit) (ho : s.heap.get? a = some o) (hdata : o.data = .func fd) (hlim : s.heap.NoLimit) (hcd : s.heap.CodeRec fd.code fd.qualname)
    (hbody : fd.body = .stmts body) (hbind : bindArgs fd ⟨vals, []⟩ = pure binds) (hclo : fd.closure = [])
    (hkind : ∀ x ∈ binds, fd.scope.names.lookup x.1 = some .local ∨ (fd.scope.names.lookup x.1 = some .cell ∧ ((cellsFrom (s.heap.objs.size + 1) fd.scope.names []).lookup x.1).isSome = true))
    (h : ∀ s₁, InCallC s (callEnvC fd s.heap.objs.size a).locals (bindL (callEnvC fd s.heap.objs.size a).kindOf binds fun _ => none) (callEnvC fd s.heap.objs.size a).cells
        (bindC (callEnvC fd s.heap.objs.size a).kindOf binds fun _ => none) s₁ →
      SxF prog w (A.deeper (callEnvC fd s.heap.objs.size a)) (execs body (callEnvC fd s.heap.objs.size a)) s₁ (fun f s' => Q (retOf f) s'))
    (hco : fd.scope.isCoroutine = false := by rfl) (hgen : fd.scope.isGenerator = false := by rfl) (hk : fd.scope.kind = .function := by rfl) :
    wpF (model prog w) A (call (.ref a) vals) Q E s := by
  refine wpF_call (codeF_of_tree rfl ?_)
  show wpF _ A.in1 (callAny (.ref a) ⟨vals, []⟩) _ _ s
  simp only [callAny]
  refine wpF_bindA (wpAny_load ho ?_)
  obtain ⟨c, oc, vs, tq, hc, hoc, hdc, hq⟩ := hcd
  simp only [hdata, callFunction, hco, hgen, hbody, hc]
  rw [hbind, hclo]
  refine wpF_bindA (m := field (.ref c) 1) (wpAny_field hoc hdc hq ?_)
  refine wpF_bind (wpF_pure ?_)
  refine wpF_bind (wpF_pure ?_)
  refine wpF_bindA (wpAny_newFunctionEnv_cells hk hkind fun env he s' x => ?_)
  subst he
  refine wpF_bindA (wpAny_enterFrame (hlim.keeps x.toInCall.keep) hroom ?_)
  rw [← hc] at x ⊢
  exact wpF_pure (And.intro rfl (codeF_func (h s' x _)))

/-- x, y = e -/
theorem sx_pair {x y : Str} {p1 p2 tpos pos : Pos} {k : Nat} {e : Expr} {P : Value → Value → Heap → Prop} (hh : A.handled = none)
    (he : Px prog w A (eval e env) s (fun v h => ∃ T a b, v = .ref T ∧ h.IsTuple T #[a, b] ∧ P a b h))
    (h : ∀ a b s₁ s₂, Gr [] s s₁ → P a b s₁.heap → Gr [] s₁ s₂ → Sx prog w A (storeName env x a) s₂ (fun _ s₃ => Sx prog w A (storeName env y b) s₃ (fun _ s₄ => O .next s₄)))
    (hs : swapsWithSole [.Tuple [.Name x p1, .Name y p2] k tpos] e pos.line env = pure false := by rfl)
    (hw : swappedStores [.Tuple [.Name x p1, .Name y p2] k tpos] e env = pure none := by rfl) :
    Sx prog w A (exec (.Assign [.Tuple [.Name x p1, .Name y p2] k tpos] e pos) env) s O := fun E => by
  refine Assign_Tuple (he.use (.refl _ _) fun v s₁ g₁ p₁ => ?_) hs hw
  obtain ⟨T, a, b, rfl, hT, p⟩ := p₁
  refine wpAny_assign_Tuple hh hT rfl rfl fun h' hx => ?_
  have g₂ : Gr [] s₁ { s₁ with heap := h' } := .heap0 (tk := s₁.toks) fun b o e => hx b o (fun q => by rw [q, get_size] at e; cases e) e
  show wpAny _ _ (assignInOrder [assign (.Name x p1) env, assign (.Name y p2) env] [a, b]) _ _ _
  refine PyProof.Rows.assignInOrder_cons (wpAny_assign_Name ?_)
  refine wpAny_mono (h a b s₁ _ g₁ p g₂ E) (fun _ s₃ q => ?_) fun _ _ e => e
  refine PyProof.Rows.assignInOrder_cons (wpAny_assign_Name ?_)
  exact wpAny_mono (q E) (fun _ s₄ q => PyProof.Rows.assignInOrder_nil q) fun _ _ e => e

/-- tests of two parts -/
theorem px_or {x y : Expr} {pos : Pos} {whole : Sem Value} {b1 b2 : Bool} (h1 : Px prog w A (isTrue x env (eval x env)) s₀ (fun c _ => c = b1)) (h2 : b1 = false → Px prog w A (isTrue y env (eval y env)) s₀ (fun c _ => c = b2)) :
    Px prog w A (isTrue (.BoolOp .Or [x, y] pos) env whole) s₀ (fun c _ => c = (b1 || b2)) := fun s Q E g k => by
  refine wpAny_isTrue_BoolOp (wpAny_allTrue_Or_cons (h1.use g fun c s₁ g₁ e => ?_))
  subst e
  cases c with
  | true => exact k _ s₁ g₁ rfl
  | false =>
    refine wpAny_allTrue_Or_cons ((h2 rfl).use (g.trans g₁) fun c s₂ g₂ e => ?_)
    subst e
    cases c with
    | true => exact k _ s₂ (g₁.trans g₂) rfl
    | false => exact wpAny_allTrue_Or_nil (k _ s₂ (g₁.trans g₂) rfl)

theorem wpF_and {x y : Expr} {pos : Pos} {whole : Sem Value} {b1 : Bool} {Q : Bool → Shared → Prop} {E : Value → Shared → Prop} (h1 : Px prog w A (isTrue x env (eval x env)) s (fun c _ => c = b1))
    (h2 : b1 = true → ∀ s₁, Gr [] s s₁ → wpF (model prog w) A (isTrue y env (eval y env)) Q E s₁) (h3 : b1 = false → ∀ s₁, Gr [] s s₁ → Q false s₁) :
    wpF (model prog w) A (isTrue (.BoolOp .And [x, y] pos) env whole) Q E s := by
  rw [arm_isTrue_BoolOp]
  show wpF _ A (do match BoolOp.And, ← isTrue x env (eval x env) with | .And, false => pure false | .Or, true => pure true | _, _ => allTrue .And [y] env) Q E s
  refine wpF_bindA (h1.use (.refl _ _) fun c s₁ g₁ e => ?_)
  subst e
  cases c with
  | false => exact wpF_pure (h3 rfl s₁ g₁)
  | true =>
    show wpF _ A (do match BoolOp.And, ← isTrue y env (eval y env) with | .And, false => pure false | .Or, true => pure true | _, _ => allTrue .And [] env) Q E s₁
    refine wpF_bind (wpF_mono (h2 rfl s₁ g₁) (fun c s₂ q => ?_) fun _ _ e => e)
    cases c with
    | false => exact wpF_pure q
    | true => exact wpF_pure q

theorem wpF_isTrue_Compare1 {l r : Expr} {op : CmpOp} {pos : Pos} {whole : Sem Value} {M : Model} {E : Value → Shared → Prop} {Q : Bool → Shared → Prop}
    (h : wpF M A (eval l env) (fun a s₁ => wpAny M A (eval r env) (fun b s₂ => wpAny M A (compareOp op a b)
      (fun c s₃ => wpAny M A (truthy c) Q E s₃) E s₂) E s₁) E s)
    (hm : behindInMarks op r = false := by with_unfolding_all rfl) : wpF M A (isTrue (.Compare l [op] [r] pos) env whole) Q E s := fun Γ p hΓ hf => by
  simp only [isTrue_Compare1, markedBehindIn_of_false hm, Sem.wp_bind', Sem.wp_holding, Sem.wp_cmd_standAt, Sem.wp_operate]
  exact Sem.wp_mono M Γ _ (fun a p₁ s₁ h₁ => Sem.wp_mono M Γ _ (fun b _ s₂ h₂ => Sem.wp_mono M Γ _ (fun c p₃ s₃ h₃ => h₃ Γ p₃ hΓ)
    (fun _ _ _ h' => h') _ _ (h₂ Γ _ hΓ)) (fun _ _ _ h' => h') _ _ (h₁ Γ p₁ hΓ)) (fun _ _ _ h' => h') _ _ (h Γ p hΓ hf)

/-- list(row) -/
theorem px_list_of {a : Addr} {items : Array Value} (hl : s₀.heap.IsList a items) (hz : items.size ≤ sizeLine) : Px prog w A (call (.type "list") [.ref a]) s₀ (fun v h => ∃ l, v = .ref l ∧ s₀.heap.get? l = none ∧ h.IsList l items) := fun s Q E g k => by
  obtain ⟨o, ho, hc, n, hd⟩ := hl
  refine call_list_seq a (.inl rfl) (g.k _ _ ho) hc hd (fun h' c' hk e => ?_) (hsz := hz)
  exact k _ _ (.heap0 (tk := s.toks) hk) ⟨_, rfl, noneBack g (get_size _), _, e, rfl, c', rfl⟩

/-- x = e, x a cell, e in contexts without a holder -/
theorem sxF_assignC {x : Str} {px pos : Pos} {e : Expr} {c : Addr} (hc : env.cells.lookup x = some c)
    (he : ∀ E, wpF (model prog w) A (eval e env) (fun v s₁ => (∃ v₀, s₁.heap.IsCell c v₀) ∧ ∀ s₂, s₂.heap.IsCell c (some v) → Gr [c] s₁ s₂ → O .next s₂) E s)
    (hs : swapsWith e (some (.Name x px)) pos.line env = pure false := by rfl) (hk : env.scope.kind = .function := by rfl) (hl : env.kindOf x = some .cell := by rfl) :
    SxF prog w A (exec (.Assign [.Name x px] e pos) env) s O := fun E => by
  rw [exec_Assign_Name env x px e pos hs]
  refine wpF_bindA (wpAny_standAt (wpF_bind (wpF_mono (he E) (fun v s₁ q => ?_) fun _ _ e => e)))
  obtain ⟨⟨v₀, hv⟩, q⟩ := q
  refine wpF_bindA (wpAny_standAt ?_)
  refine wpF_bindA (wpAny_bindName ?_)
  exact sx_storeC hc hv (fun s₂ hn₂ g₂ => wpF_pure (q s₂ hn₂ g₂)) hk hl E
end
end Mine
end

section
open PySem PySem.W PyProof.Rows PySem.SeqAt
set_option maxRecDepth 100000
set_option linter.unusedVariables false
namespace Mine
theorem byte_val {x : Int} (hx : 0 ≤ x ∧ x < 256) : ((x.toNat.toUInt8.toNat : Nat) : Int) = x := by
  have ex : x.toNat.toUInt8.toNat = x.toNat := by rw [Nat.toUInt8, UInt8.toNat_ofNat']; omega
  rw [ex]; omega
theorem byteArr_list (ns : List Int) : (byteArr ns).toList = ns.map fun x => x.toNat.toUInt8 := by
  unfold byteArr; simp
theorem bytes_beq {xs ys : List Int} (hx : ∀ x ∈ xs, 0 ≤ x ∧ x < 256) (hy : ∀ x ∈ ys, 0 ≤ x ∧ x < 256) : ((byteArr xs).toList == (byteArr ys).toList) = (xs == ys) := by
  rw [byteArr_list, byteArr_list, Bool.eq_iff_iff, beq_iff_eq, beq_iff_eq]
  constructor
  · intro h
    have hl : xs.length = ys.length := by simpa using congrArg List.length h
    refine List.ext_getElem hl fun i h1 h2 => ?_
    have e : (xs.map fun x => x.toNat.toUInt8)[i]? = (ys.map fun x => x.toNat.toUInt8)[i]? := by rw [h]
    simp [h1, h2] at e
    have e : xs[i].toNat.toUInt8 = ys[i].toNat.toUInt8 := e
    rw [← byte_val (hx _ (List.getElem_mem h1)), ← byte_val (hy _ (List.getElem_mem h2)), e]
  · rintro rfl; rfl
section
variable {prog : Program} {w : World} {A : Around} {s s₀ : Shared} {env : Env}

/-- v[i], v bytes -/
theorem px_itemB {value slice : Expr} {pos : Pos} {P₁ : Value → Heap → Prop} {k : Int} {y : Int} (hv : Px prog w A (eval value env) s₀ P₁) (hi : Px prog w A (eval slice env) s₀ (IsI k))
    (h : ∀ v h, P₁ v h → ∃ ns t, v = .bytes (byteArr ns) t ∧ 0 ≤ k ∧ k < ns.length ∧ ns.length ≤ 1000 ∧ (∀ x ∈ ns, 0 ≤ x ∧ x < 256) ∧ ns.getD k.toNat 0 = y)
    (hs : ∀ b t u, subscripted slice false (.bytes b t) (.int k u) = operate [.bytes b t, .int k u] (getItem (.bytes b t) (.int k u)) := by intro _ _ _; with_unfolding_all rfl)
    (ht : ∀ b t r, letTemporaryGo value (.bytes b t) r = pure () := by intro _ _ _; with_unfolding_all rfl) :
    Px prog w A (eval (.Subscript value slice pos) env) s₀ (IsI y) := fun s Q E g kk =>
  Subscript_ (hv.use g fun v s₁ g₁ p₁ => (hi.from (g.trans g₁)).use (.refl _ _) fun i s₂ g₂ p₂ => by
    obtain ⟨ns, t, rfl, h0, h1, h2, h3, hy⟩ := h v s₁.heap p₁
    obtain ⟨u, rfl⟩ := p₂
    refine subscriptTail_builtin (typeIs_bytes _ _ _) FB.slot_bytes_getitem.lookup ?_ (hs _ _ _) (ht _ _)
    have hlt : k.toNat < ns.length := by omega
    have e : byteArr ns = (ns.map fun x => x.toNat.toUInt8).toArray := by rw [← byteArr_list]
    rw [e]
    refine getItem_bytes (by rw [List.length_map]; omega) h0 (by rw [List.length_map]; exact h1) (kk _ _ ((g₁.trans g₂).trans .tok) ⟨s₂.toks, ?_⟩)
    congr 1
    rw [List.getD_eq_getElem?_getD, List.getElem?_map, List.getElem?_eq_getElem hlt]
    rw [List.getD_eq_getElem?_getD, List.getElem?_eq_getElem hlt] at hy
    simp only [Option.map_some, Option.getD_some] at hy ⊢
    rw [byte_val (h3 _ (List.getElem_mem hlt)), hy])

theorem px_len_bytes {ns : List Int} {t : Tok} (hz : ns.length ≤ 1000) : Px prog w A (call (.builtin "len") [.bytes (byteArr ns) t]) s₀ (IsI ns.length) := fun s Q E g k => by
  have e : (byteArr ns).size = ns.length := by rw [← Array.length_toList, byteArr_list, List.length_map]
  refine len_bytes (by omega) (k _ _ .tok ⟨_, by rw [e]⟩)

theorem bits_256 : Builtin.Int.intBits 256 = 9 := by decide +kernel
/-- 256 ** j -/
theorem px_pow256 {k pos : _} {r : Expr} {n : Nat} {pos'} (hr : Px prog w A (eval r env) s₀ (IsI n)) (hn : n < 60) : Px prog w A (eval (.BinOp (.Constant (.int 256) k pos) .Pow r pos') env) s₀ (IsI (256 ^ n)) :=
  (px_pow px_int hr (by omega) (by rw [bits_256]; omega)).mono fun v h _ p => by simpa using p
end

/-- the rows and what was told of them -/
structure Dat (h : Heap) (R T : Addr) (d : Nat) (rowsV ys : Array Value) (rows : List (List Int)) (long : Nat) : Prop where
  R : h.IsList R rowsV
  r : All2 (RowI h) rowsV.toList rows
  T : h.IsList T ys
  tn : ys.size = rows.length
  ty : ∀ (j : Nat) (row : List Int), rows[j]? = some row → ∃ t, ys[j]? = some (.bytes (byteArr (packR d row)) t)
  hd : d = 1 ∨ d = 2 ∨ d = 4
  n0 : 0 < rows.length
  n : rows.length ≤ 4
  l0 : 0 < long
  l : long < 10
  row : ∀ row ∈ rows, row.length = long ∧ Dig d row

section
variable {h : Heap} {R T : Addr} {d : Nat} {rowsV ys : Array Value} {rows : List (List Int)} {long : Nat}
theorem Dat.keeps {h' : Heap} (D : Dat h R T d rowsV ys rows long) (k : ∀ b o xs n, h.get? b = some o → o.data = .seq xs n → h'.get? b = some o) : Dat h' R T d rowsV ys rows long :=
  { D with
    R := by obtain ⟨o, e, c, n, hd⟩ := D.R; exact ⟨o, k _ _ _ _ e hd, c, n, hd⟩
    T := by obtain ⟨o, e, c, n, hd⟩ := D.T; exact ⟨o, k _ _ _ _ e hd, c, n, hd⟩
    r := D.r.mono fun v row ⟨a, ea, vs, ⟨o, e, c, n, hd⟩, hi⟩ => ⟨a, ea, vs, ⟨o, k _ _ _ _ e hd, c, n, hd⟩, hi⟩ }
theorem Dat.size (D : Dat h R T d rowsV ys rows long) : rowsV.size = rows.length := by simpa using D.r.1
theorem Dat.at (D : Dat h R T d rowsV ys rows long) {i : Nat} (hi : i < rows.length) : ∃ row a t, rows[i]? = some row ∧ row.length = long ∧ Dig d row ∧ rowsV[i]? = some (.ref a) ∧ LI h a row ∧ ys[i]? = some (.bytes (byteArr (packR d row)) t) := by
  have e : rows[i]? = some rows[i] := List.getElem?_eq_getElem hi
  have ev : rowsV[i]? = some (rowsV[i]'(by rw [D.size]; exact hi)) := Array.getElem?_eq_getElem _
  obtain ⟨a, q, hl⟩ := D.r.2 i _ _ (by rw [Array.getElem?_toList]; exact ev) e
  obtain ⟨t, ht⟩ := D.ty i _ e
  obtain ⟨h1, h2⟩ := D.row _ (List.mem_of_getElem? e)
  exact ⟨_, a, t, e, h1, h2, by rw [ev, q], hl, ht⟩
theorem Dat.pack (D : Dat h R T d rowsV ys rows long) {row : List Int} (hl : row.length = long) (hr : Dig d row) : (packR d row).length = manyW d row.length ∧ (packR d row).length ≤ 5 ∧ ∀ x ∈ packR d row, 0 ≤ x ∧ x < 256 := by
  have h1 : (packR d row).length = manyW d row.length := by rw [packR_len, (many_eq D.hd _).1]
  refine ⟨h1, ?_, fun x hx => ?_⟩
  · rw [h1, hl]
    unfold manyW
    have hd : d ≤ 4 := by rcases D.hd with q | q | q <;> omega
    have : long * d ≤ 9 * 4 := Nat.mul_le_mul (by have := D.l; omega) hd
    omega
  · have := pack_dig D.hd hr x hx
    have e : (2 : Int) ^ 8 = 256 := by decide
    rw [e] at this
    exact this
end
end Mine
end

section
open PySem PySem.W PyProof.Rows PySem.SeqAt
set_option maxRecDepth 1000000
set_option linter.unusedVariables false
namespace Mine
variable {P : Params}
noncomputable abbrev env83 (L : Addr) : Env := callEnvC (fn 83) L 83
noncomputable def lawK : Stmt := (bodyOf (fn 83)).getD 5 (.Pass ⟨0, 0, 0, 0⟩)
noncomputable def lawF : Stmt := (bodyOf (fn 83)).getD 6 (.Pass ⟨0, 0, 0, 0⟩)
noncomputable def lawO : Stmt := (bodyOf (fn 83)).getD 7 (.Pass ⟨0, 0, 0, 0⟩)

noncomputable def lawKb : List Stmt := match lawK with | .For _ _ b _ _ => b | _ => []
noncomputable def lawKt : Expr := match lawKb.getD 1 (.Pass ⟨0, 0, 0, 0⟩) with | .If t _ _ _ => t | _ => .Name "" ⟨0, 0, 0, 0⟩
section
variable {prog : Program} {w : World} {A : Around} {s s₀ : Shared} {O : Flow → Shared → Prop} {L R T : Addr} {d : Nat} {td : Tok} {rowsV ys : Array Value} {rows : List (List Int)} {long : Nat} {m : Str → Option Value}

/-- rows[k] -/
theorem px_row {env : Env} {x y : Str} {p1 p2 pos : Pos} (D : Dat s₀.heap R T d rowsV ys rows long) {i : Nat} {row : List Int} (hi : rows[i]? = some row) (hx : Px prog w A (eval (.Name x p1) env) s₀ (IsV (.ref R))) (hk : Px prog w A (eval (.Name y p2) env) s₀ (IsI i))
    (hs : ∀ l u, subscripted (.Name y p2) false (.ref l) (.int i u) = operate [.ref l, .int i u] (getItem (.ref l) (.int i u)) := by intro _ _; with_unfolding_all rfl) (hg : ∀ l r, letTemporaryGo (.Name x p1) (.ref l) r = pure () := by intro _ _; with_unfolding_all rfl) :
    Px prog w A (eval (.Subscript (.Name x p1) (.Name y p2) pos) env) s₀ (fun v h => ∃ a, v = .ref a ∧ LI h a row) := by
  refine px_item (k := (i : Int)) hx hk (fun v s' g e => ?_) hs hg
  subst e
  have hlt : i < rows.length := by
    rcases Nat.lt_or_ge i rows.length with q | q
    · exact q
    · rw [List.getElem?_eq_none q] at hi; cases hi
  obtain ⟨row', a, t, e1, _, _, e2, hl, _⟩ := D.at hlt
  rw [hi] at e1; cases e1
  have := D.n
  exact ⟨R, rowsV, .ref a, rfl, D.R.at fun o e => g.k _ _ e, by omega, by omega, by rw [Int.toNat_natCast]; exact e2, fun s'' g' => ⟨a, rfl, hl.keeps (g.trans g').k⟩⟩
/-- told[k] -/
theorem px_toldAt {env : Env} {x y : Str} {p1 p2 pos : Pos} (D : Dat s₀.heap R T d rowsV ys rows long) {i : Nat} {row : List Int} (hi : rows[i]? = some row) (hx : Px prog w A (eval (.Name x p1) env) s₀ (IsV (.ref T))) (hk : Px prog w A (eval (.Name y p2) env) s₀ (IsI i))
    (hs : ∀ l u, subscripted (.Name y p2) false (.ref l) (.int i u) = operate [.ref l, .int i u] (getItem (.ref l) (.int i u)) := by intro _ _; with_unfolding_all rfl) (hg : ∀ l r, letTemporaryGo (.Name x p1) (.ref l) r = pure () := by intro _ _; with_unfolding_all rfl) :
    Px prog w A (eval (.Subscript (.Name x p1) (.Name y p2) pos) env) s₀ (IsBy (byteArr (packR d row))) := by
  refine px_item (k := (i : Int)) hx hk (fun v s' g e => ?_) hs hg
  subst e
  have hlt : i < rows.length := by
    rcases Nat.lt_or_ge i rows.length with q | q
    · exact q
    · rw [List.getElem?_eq_none q] at hi; cases hi
  obtain ⟨t, e⟩ := D.ty i row hi
  have := D.n
  exact ⟨T, ys, _, rfl, D.T.at fun o e => g.k _ _ e, by omega, by omega, by rw [Int.toNat_natCast]; exact e, fun s'' g' => ⟨t, rfl⟩⟩

theorem px_sumB {env : Env} {elt iter : Expr} {px : Pos} {x : Str} {scope : Scope} {pos : Pos} {cl : List (Str × Addr)} {bs : List Int} (hh : A.handled = none) (hclos : closureFor scope env = pure cl) (hz : bs.length ≤ 5)
    (hit : Px prog w A (eval iter env) s₀ (fun v h => Itb prog w A h v [] bs.length (fun i v => ∃ t, v = .int (i : Nat) t)))
    (helt : ∀ W C (j : Nat) (t : Tok) (s' : Shared) m', j < bs.length → Gr W s₀ s' → (∀ b ∈ W, s₀.heap.get? b = none) → s'.heap.Ns C m' → m' x = some (.int (j : Nat) t) → Px prog w A (eval elt (compEnvC scope cl C env)) s' (IsI (bs.getD (bs.length - 1 - j) 0 * 256 ^ j)))
    (hx : scope.names.lookup x = some .local := by rfl) (hcell : ∀ y ∈ scope.names, y.2 ≠ .cell := by decide) (hkind : scope.kind = .function := by rfl)
    (hnames : ∀ y ∈ scope.names, y.2 = .local → scope.names.lookup y.1 = some .local := by decide)
    (hs : ∀ x, foldedSetIterable iter env x = pure x := by intro _; rfl) :
    Px prog w A (eval (.ListComp elt [⟨.Name x px, iter, [], 0⟩] scope pos) env) s₀ (fun v h => ∃ l ns, v = .ref l ∧ LI h l ns ∧ ns.sum = numW 8 bs) := by
  refine Px.mono (px_comp (n := bs.length) (own := []) (cl := cl) (P := fun i v => ∃ t, v = .int (i : Nat) t) (fun W i y h => ∃ t, y = .int (bs.getD (bs.length - 1 - i) 0 * 256 ^ i) t) hclos hit (by rw [sizeLine_eq]; omega) (fun _ _ _ _ _ q _ => q)
    (fun W C i v s' m' hi ⟨t, e⟩ g' hW hC hn' hm' => by
      subst e
      exact (helt W C i t s' m' hi g' (fun b hb => (hW b hb).1) hn' hm').mono fun v s'' _ q => q) hx hcell hkind hnames hs) fun v s' g q => ?_
  obtain ⟨D, ys, W, rfl, _, e3, e4, _, e6⟩ := q
  refine ⟨D, (List.range bs.length).map fun j => bs.getD (bs.length - 1 - j) 0 * 256 ^ j, rfl, ⟨ys.toList, by simpa using e3.isList, ints_at (by simp [e4]) fun j n hj => ?_⟩, sum_num bs⟩
  have hlt : j < bs.length := by
    rcases Nat.lt_or_ge j bs.length with q | q
    · exact q
    · rw [List.getElem?_eq_none (by simpa using q)] at hj; cases hj
  obtain ⟨t, e⟩ := e6 j (by omega)
  rw [List.getElem?_map, List.getElem?_range hlt] at hj
  cases hj
  exact ⟨t, by rw [Array.getElem?_toList, Array.getElem?_eq_getElem (by omega), e]⟩

theorem px_lawKt {i : Nat} {row : List Int} {ti mt wt : Tok} (X : Wd P s₀.heap) (D : Dat s₀.heap R T d rowsV ys rows long) (hh : A.handled = none) (hrow : rows[i]? = some row) (hlong : row.length = long) (hdig : Dig d row)
    (ht : s₀.heap.IsCell (L + 1) (some (.ref T))) (hk : s₀.heap.IsCell (L + 2) (some (.int (i : Nat) ti))) (hc : s₀.heap.IsCell (L + 3) (some (.int (manyW d row.length : Nat) mt))) (hn : s₀.heap.Ns L m)
    (hw : m (Str.ofString "worth") = some (.int (numW d row * 2 ^ (8 * manyW d row.length - row.length * d)) wt)) :
    Px prog w A (isTrue (lawKt) (env83 L) (eval lawKt (env83 L))) s₀ (fun c _ => c = false) := by
  obtain ⟨hp1, hp2, hp3⟩ := D.pack hlong hdig
  refine Px.mono (px_or (b1 := false) (b2 := false) (Px.mono (px_tne (a := (packR d row).length) (b := (manyW d row.length : Nat)) (px_call1 (px_bi X) (px_toldAt D hrow (px_cell (env := env83 L) (c := L + 1) rfl ht) ((px_cell (env := env83 L) (c := L + 2) rfl hk).mono fun v s' _ e => ⟨ti, e⟩)) (fun v s' g q => by
        obtain ⟨tb, rfl⟩ := q
        exact px_len_bytes (by omega))) ((px_cell (env := env83 L) (c := L + 3) rfl hc).mono fun v s' _ e => ⟨mt, e⟩)) fun c _ _ e => by rw [e, hp1]; simp)
    fun _ => Px.mono (px_tne (a := numW 8 (packR d row)) (b := numW d row * 2 ^ (8 * manyW d row.length - row.length * d)) (px_call1 (px_bi X) (px_sumB (bs := packR d row) hh (by rfl) hp2 ?_ ?_) ?_) ((px_local hn hw).mono fun v s' _ e => ⟨wt, e⟩)) fun c _ _ e => by rw [e, pack_num D.hd]; simp) fun c _ _ e => e
  · rw [hp1]
    exact px_range hh (px_bi X) ((px_cell (env := env83 L) (c := L + 3) rfl hc).mono fun v s' _ e => ⟨mt, e⟩) (by omega)
  · intro W C j t s' m' hj g' hW hn' hm'
    have g0 : Gr [] s₀ s' := Gr.frame (.refl [] s₀) g' hW
    have D' : Dat s'.heap R T d rowsV ys rows long := D.keeps fun b o _ _ e _ => g0.k b o e
    have pj : (256 : Nat) ^ j ≤ 256 ^ 4 := Nat.pow_le_pow_right (by decide) (by omega)
    have pj0 : ((256 : Int) ^ j).natAbs < 2 ^ 64 := by rw [Int.natAbs_pow]; exact Nat.lt_of_le_of_lt pj (by decide)
    refine px_mul (px_itemB (P₁ := IsBy (byteArr (packR d row))) (k := ((packR d row).length - 1 - j : Nat)) (px_toldAt D' hrow (px_cell (c := L + 1) rfl (ht.keeps g0.k)) ((px_cell (c := L + 2) rfl (hk.keeps g0.k)).mono fun v s' _ e => ⟨ti, e⟩))
      (Px.mono (px_sub (a := (manyW d row.length : Nat) - 1) (b := j) (px_sub (a := (manyW d row.length : Nat)) (b := 1) ((px_cell (c := L + 3) rfl (hc.keeps g0.k)).mono fun v s' _ e => ⟨mt, e⟩) px_int) ((px_local hn' hm').mono fun v s' _ e => ⟨t, e⟩)) fun v s' _ q => by
        rw [← hp1] at q
        rw [show (((packR d row).length - 1 - j : Nat) : Int) = ((packR d row).length : Int) - 1 - j by omega]
        exact q) ?_) (px_pow256 ((px_local hn' hm').mono fun v s' _ e => ⟨t, e⟩) (by omega)) (mulOk_right pj0)
    rintro v h ⟨tb, rfl⟩
    exact ⟨packR d row, tb, rfl, by omega, by omega, by omega, hp3, rfl⟩
  · rintro v s' g ⟨l, ns, rfl, hl, e⟩
    rw [← e]
    exact px_sum_LI hh hl

theorem sx_lawK (hX : ∀ s', Gr [L, L + 2, L + 3] s s' → Wd P s'.heap ∧ Dat s'.heap R T d rowsV ys rows long) (hh : A.handled = none) (hA : A.depth < 800) (hn : s.heap.Ns L m) (h1 : m (Str.ofString "rows") = some (.ref R)) (h2 : m (Str.ofString "depth") = some (.int d td))
    (hc1 : s.heap.IsCell (L + 1) (some (.ref T))) {v2 v3 : Option Value} (hc2 : s.heap.IsCell (L + 2) v2) (hc3 : s.heap.IsCell (L + 3) v3)
    (h : ∀ s' m', Gr [L, L + 2, L + 3] s s' → s'.heap.Ns L m' → (∀ x, x ≠ Str.ofString "worth" → m' x = m x) → (∃ v, s'.heap.IsCell (L + 2) v) → (∃ v, s'.heap.IsCell (L + 3) v) → O .next s') :
    Sx prog w A (exec lawK (env83 L)) s O := by
  have nL : L ≠ L + 1 ∧ L ≠ L + 2 ∧ L ≠ L + 3 ∧ L + 1 ≠ L + 2 ∧ L + 1 ≠ L + 3 ∧ L + 2 ≠ L + 3 := by
    refine ⟨?_, ?_, ?_, ?_, ?_, ?_⟩ <;> exact fun q => by have q' : (_ : Nat) = _ := q; omega
  obtain ⟨X, D⟩ := hX s (.refl _ _)
  have hd4 : d ≤ 4 := by rcases D.hd with q | q | q <;> omega
  have hn4 := D.n
  refine sx_forE [L, L + 2, L + 3] (n := rows.length) (P := fun i v => ∃ t, v = .int (i : Nat) t)
    (fun i s' => Gr [L, L + 2, L + 3] s s' ∧ (∃ m', s'.heap.Ns L m' ∧ ∀ x, x ≠ Str.ofString "worth" → m' x = m x) ∧ (∃ v, s'.heap.IsCell (L + 2) v) ∧ ∃ v, s'.heap.IsCell (L + 3) v)
    ?_ ?_ (fun s' g' => ⟨g'.any, ⟨m, hn.keeps g'.k, fun _ _ => rfl⟩, ⟨_, hc2.keeps g'.k⟩, ⟨_, hc3.keeps g'.k⟩⟩) ?_ ?_ ?_
  · refine (px_range (env := env83 L) hh (px_bi X) (px_call1 (px_bi X) (px_local hn h1) fun v s' g e => by subst e; exact Px.mono (px_len_list (D.R.at fun o e => g.k _ _ e) (by rw [D.size]; omega)) fun v s'' _ q => by rw [D.size] at q; exact q) (by omega)).mono fun v s' _ q => ⟨[], by simp, q⟩
  · intro b hb
    simp only [List.mem_cons, List.not_mem_nil, or_false] at hb
    rcases hb with rfl | rfl | rfl
    · obtain ⟨o, _, _, e, _⟩ := hn; exact ⟨o, e⟩
    · obtain ⟨o, e, _⟩ := hc2; exact ⟨o, e⟩
    · obtain ⟨o, e, _⟩ := hc3; exact ⟨o, e⟩
  · rintro i s' s'' I hI hIt ⟨gj, ⟨m', hm', hme⟩, ⟨w2, hw2⟩, w3, hw3⟩ gI
    have ne : ∀ {b o}, s.heap.get? b = some o → b ≠ I := fun {b o} e q => by rw [q, hI] at e; cases e
    have kc : ∀ {c v v'}, s.heap.IsCell c v' → s'.heap.IsCell c v → s''.heap.IsCell c v := fun {c v v'} hc ⟨o, e, r⟩ => ⟨o, gI.keep _ _ (fun q => by obtain ⟨o', e', _⟩ := hc; exact ne e' (List.mem_singleton.mp q)) e, r⟩
    refine ⟨gj.iter gI hI, ⟨m', gI.ns1 hm' (ns_ne hn hI), hme⟩, ⟨w2, kc hc2 hw2⟩, w3, kc hc3 hw3⟩
  · rintro i v s₁ hi ⟨ti, rfl⟩ ⟨gj, ⟨m', hm', hme⟩, ⟨w2, hw2⟩, w3, hw3⟩
    refine sx_bindC (env := env83 L) (c := L + 2) rfl hw2 fun s₂ hk₂ g₂ => ?_
    have gs₂ : Gr [L, L + 2, L + 3] s s₂ := gj.trans (g₂.mono (by simp))
    obtain ⟨X₂, D₂⟩ := hX s₂ gs₂
    have hm₂ : s₂.heap.Ns L m' := g₂.ns hm' (fun q => nL.2.1 (List.mem_singleton.mp q))
    have cK : ∀ {s'}, Gr [L, L + 2, L + 3] s s' → s'.heap.IsCell (L + 1) (some (.ref T)) := fun {s'} g => by
      obtain ⟨o, e, r⟩ := hc1
      refine ⟨o, g.keep _ _ (fun q => ?_) e, r⟩
      simp only [List.mem_cons, List.not_mem_nil, or_false] at q
      rcases q with q | q | q
      · exact nL.1 q.symm
      · exact nL.2.2.2.1 q
      · exact nL.2.2.2.2.1 q
    have hw3₂ : s₂.heap.IsCell (L + 3) w3 := by
      obtain ⟨o, e, r⟩ := hw3
      exact ⟨o, g₂.keep _ _ (fun q => nL.2.2.2.2.2 (List.mem_singleton.mp q).symm) e, r⟩
    obtain ⟨row, a, t, hrow, hlong, hdig, _, hla, _⟩ := D₂.at hi
    obtain ⟨hp1, hp2, hp3⟩ := D₂.pack hlong hdig
    have hrl : row.length ≤ 9 := by have := D.l; omega
    refine sx_cons (sx_pair (env := env83 L) hh (P := fun a b _ => IsI (numW d row * 2 ^ (8 * manyW d row.length - row.length * d)) a s₂.heap ∧ IsI (manyW d row.length : Nat) b s₂.heap) ?_ ?_)
    · refine Px.mono (px_call2 (v := .ref 78) (px_glob X₂) (px_row D₂ hrow (px_local hm₂ ((hme _ (by decide)).trans h1)) ((px_cell (env := env83 L) (c := L + 2) rfl hk₂).mono fun v s' _ e => ⟨ti, e⟩)) (P₂ := fun a v h => (∃ a', a = .ref a' ∧ LI h a' row) ∧ v = .int d td) (fun v s' g q => (px_local (hm₂.keeps g.k) ((hme _ (by decide)).trans h2)).mono fun u s'' g' e => ⟨let ⟨a', e', l'⟩ := q; ⟨a', e', l'.keeps g'.k⟩, e⟩)
        (fun u v s' g q => by
          obtain ⟨⟨a', rfl, l'⟩, rfl⟩ := q
          exact px_law_number (A := A) (X₂.keeps g.k) hh (by omega) l' (by omega) (by omega)) (.inr (.inr ⟨78, _, _, rfl, fn78 X₂, rfl⟩))) fun v s' _ q => ?_
      obtain ⟨T', wt, mt, rfl, e⟩ := q
      exact ⟨T', _, _, rfl, ⟨_, e, rfl, 0, rfl⟩, ⟨wt, rfl⟩, ⟨mt, rfl⟩⟩
    · rintro x y s₃ s₄ g₃ ⟨⟨wt, rfl⟩, ⟨mt, rfl⟩⟩ g₄
      have g₂₄ : Gr [] s₂ s₄ := g₃.trans g₄
      refine sx_store (env := env83 L) (hm₂.keeps g₂₄.k) fun s₅ hn₅ g₅ => ?_
      replace g₅ : Gr [L] s₄ s₅ := g₅
      replace hn₅ : s₅.heap.Ns L (upd m' (Str.ofString "worth") (.int (numW d row * 2 ^ (8 * manyW d row.length - row.length * d)) wt)) := hn₅
      have hw3₅ : s₅.heap.IsCell (L + 3) w3 := by
        obtain ⟨o, e, r⟩ := hw3₂
        exact ⟨o, g₅.keep _ _ (fun q => nL.2.2.1 (List.mem_singleton.mp q).symm) (g₂₄.k _ _ e), r⟩
      refine sx_storeC (env := env83 L) (c := L + 3) rfl hw3₅ fun s₆ hc₆ g₆ => ?_
      have gs₆ : Gr [L, L + 2, L + 3] s s₆ := ((gs₂.trans g₂₄.any).trans (g₅.mono (by simp))).trans (g₆.mono (by simp))
      obtain ⟨X₆, D₆⟩ := hX s₆ gs₆
      have hn₆ : s₆.heap.Ns L _ := g₆.ns hn₅ (fun q => nL.2.2.1 (List.mem_singleton.mp q))
      have hk₆ : s₆.heap.IsCell (L + 2) (some (.int (i : Nat) ti)) := by
        obtain ⟨o, e, r⟩ := hk₂
        exact ⟨o, g₆.keep _ _ (fun q => nL.2.2.2.2.2 (List.mem_singleton.mp q)) (g₅.keep _ _ (fun q => nL.2.1 (List.mem_singleton.mp q).symm) (g₂₄.k _ _ e)), r⟩
      have ht₆ := cK gs₆
      · refine sx_cons (sx_if (b := false) (px_lawKt X₆ D₆ hh hrow hlong hdig ht₆ hk₆ hc₆ hn₆ (by simp [upd] <;> rfl)) fun s₇ g₇ => ?_)
        rw [if_neg Bool.false_ne_true]
        refine sx_nil (sx_nil ?_)
        have gs₇ := gs₆.trans g₇.any
        refine ⟨⟨gs₇, ⟨_, hn₆.keeps g₇.k, fun x hx => by simp only [upd, if_neg hx]; exact hme x hx⟩, ⟨_, hk₆.keeps g₇.k⟩, ⟨_, hc₆.keeps g₇.k⟩⟩, ?_⟩
        intro b o hb e
        exact g₇.k b o (g₆.keep b o (fun q => hb (by rw [List.mem_singleton.mp q]; simp)) (g₅.keep b o (fun q => hb (by rw [List.mem_singleton.mp q]; simp)) (g₂₄.k b o (g₂.keep b o (fun q => hb (by rw [List.mem_singleton.mp q]; simp)) e))))
  · rintro s' ⟨gj, ⟨m', hm', hme⟩, hw2, hw3⟩
    exact h s' m' gj hm' hme hw2 hw3
end
end Mine
end

section
open PySem PySem.W PyProof.Rows PySem.SeqAt
set_option maxRecDepth 1000000
set_option linter.unusedVariables false
namespace Mine
variable {P : Params}
noncomputable def lawOb : List Stmt := match lawO with | .For _ _ b _ _ => b | _ => []
noncomputable def lawI : Stmt := lawOb.getD 0 (.Pass ⟨0, 0, 0, 0⟩)
noncomputable def lawIb : List Stmt := match lawI with | .For _ _ b _ _ => b | _ => []
noncomputable def lawIt : Expr := match lawIb.getD 0 (.Pass ⟨0, 0, 0, 0⟩) with | .If t _ _ _ => t | _ => .Name "" ⟨0, 0, 0, 0⟩

section
variable {prog : Program} {w : World} {A : Around} {s s₀ : Shared} {env : Env} {O : Flow → Shared → Prop} {L R T : Addr} {d : Nat} {td : Tok} {rowsV ys : Array Value} {rows : List (List Int)} {long : Nat} {m : Str → Option Value}

theorem px_neBB {l r : Expr} {pos : Pos} {whole : Sem Value} {b1 b2 : Bool} (hl : Px prog w A (eval l env) s₀ (IsB b1)) (hr : Px prog w A (eval r env) s₀ (IsB b2)) (hm : behindInMarks .NotEq r = false := by with_unfolding_all rfl) :
    Px prog w A (isTrue (.Compare l [.NotEq] [r] pos) env whole) s₀ (fun c _ => c = (b1 != b2)) :=
  px_test (P₂ := fun a b _ => a = .bool b1 ∧ b = .bool b2) hl (fun a s g e => (hr.from g).mono fun _ _ _ e' => ⟨e, e'⟩) (fun a b s g e => fun s' Q E g' k => by
    obtain ⟨rfl, rfl⟩ := e
    exact PyProof.Rows.ne_bool (k _ _ (.refl _ _) rfl)) hm

abbrev IsL (xs : List Int) (v : Value) (h : Heap) : Prop := ∃ a, v = .ref a ∧ LI h a xs
theorem px_ltL {l r : Expr} {pos : Pos} {xs ys : List Int} (hl : Px prog w A (eval l env) s₀ (IsL xs)) (hr : Px prog w A (eval r env) s₀ (IsL ys)) (hlen : xs.length = ys.length) (hu : A.units < cLine) (hm : behindInMarks .Lt r = false := by with_unfolding_all rfl) :
    Px prog w A (eval (.Compare l [.Lt] [r] pos) env) s₀ (IsB (lexLt xs ys)) :=
  px_Compare (P₂ := fun a b h => IsL xs a h ∧ IsL ys b h) hl (fun a s g e => (hr.from g).mono fun _ s' g' e' => ⟨let ⟨x, q, z⟩ := e; ⟨x, q, z.keeps g'.k⟩, e'⟩) (fun a b s g e => fun s' Q E g' k => by
    obtain ⟨⟨x, rfl, hx⟩, y, rfl, hy⟩ := e
    exact cmp_list_lt (hx.keeps g'.k) (hy.keeps g'.k) hlen hu (k _ _ (.refl _ _) rfl)) hm
theorem px_eqL {l r : Expr} {pos : Pos} {xs ys : List Int} (hl : Px prog w A (eval l env) s₀ (IsL xs)) (hr : Px prog w A (eval r env) s₀ (IsL ys)) (hlen : xs.length = ys.length) (hu : A.units < cLine) (hm : behindInMarks .Eq r = false := by with_unfolding_all rfl) :
    Px prog w A (eval (.Compare l [.Eq] [r] pos) env) s₀ (IsB (xs == ys)) :=
  px_Compare (P₂ := fun a b h => IsL xs a h ∧ IsL ys b h) hl (fun a s g e => (hr.from g).mono fun _ s' g' e' => ⟨let ⟨x, q, z⟩ := e; ⟨x, q, z.keeps g'.k⟩, e'⟩) (fun a b s g e => fun s' Q E g' k => by
    obtain ⟨⟨x, rfl, hx⟩, y, rfl, hy⟩ := e
    exact PySem.EqBoolInt.of_rc (RcAt_ints (hx.keeps g'.k) (hy.keeps g'.k) hlen hu) (k _ _ (.refl _ _) rfl)) hm
theorem px_ltB {l r : Expr} {pos : Pos} {xs ys : List Int} (hl : Px prog w A (eval l env) s₀ (IsBy (byteArr xs))) (hr : Px prog w A (eval r env) s₀ (IsBy (byteArr ys))) (hx : ∀ x ∈ xs, 0 ≤ x ∧ x < 256) (hy : ∀ x ∈ ys, 0 ≤ x ∧ x < 256) (hm : behindInMarks .Lt r = false := by with_unfolding_all rfl) :
    Px prog w A (eval (.Compare l [.Lt] [r] pos) env) s₀ (IsB (lexLt xs ys)) :=
  px_Compare (P₂ := fun a b h => IsBy (byteArr xs) a h ∧ IsBy (byteArr ys) b h) hl (fun a s g e => (hr.from g).mono fun _ s' g' e' => ⟨e, e'⟩) (fun a b s g e => fun s' Q E g' k => by
    obtain ⟨⟨t, rfl⟩, u, rfl⟩ := e
    exact cmp_bytes_lt hx hy (k _ _ (.refl _ _) rfl)) hm
theorem px_eqB {l r : Expr} {pos : Pos} {xs ys : List Int} (hl : Px prog w A (eval l env) s₀ (IsBy (byteArr xs))) (hr : Px prog w A (eval r env) s₀ (IsBy (byteArr ys))) (hx : ∀ x ∈ xs, 0 ≤ x ∧ x < 256) (hy : ∀ x ∈ ys, 0 ≤ x ∧ x < 256) (hm : behindInMarks .Eq r = false := by with_unfolding_all rfl) :
    Px prog w A (eval (.Compare l [.Eq] [r] pos) env) s₀ (IsB (xs == ys)) :=
  px_Compare (P₂ := fun a b h => IsBy (byteArr xs) a h ∧ IsBy (byteArr ys) b h) hl (fun a s g e => (hr.from g).mono fun _ s' g' e' => ⟨e, e'⟩) (fun a b s g e => fun s' Q E g' k => by
    obtain ⟨⟨t, rfl⟩, u, rfl⟩ := e
    exact PySem.W.eq_bytes (by rw [bytes_beq hx hy]; exact k _ _ (.refl _ _) rfl)) hm

theorem px_lawIt {i j : Nat} {ti tj : Tok} (D : Dat s₀.heap R T d rowsV ys rows long) (hu : A.units < cLine) (hi : i < rows.length) (hj : j < rows.length)
    (ht : s₀.heap.IsCell (L + 1) (some (.ref T))) (hn : s₀.heap.Ns L m) (h1 : m (Str.ofString "rows") = some (.ref R)) (h2 : m (Str.ofString "i") = some (.int (i : Nat) ti)) (h3 : m (Str.ofString "j") = some (.int (j : Nat) tj)) :
    Px prog w A (isTrue lawIt (env83 L) (eval lawIt (env83 L))) s₀ (fun c _ => c = false) := by
  obtain ⟨xs, _, _, hxs, hxl, hxd, _⟩ := D.at hi
  obtain ⟨zs, _, _, hzs, hzl, hzd, _⟩ := D.at hj
  obtain ⟨p1, p2⟩ := pack_order D.hd (hxl.trans hzl.symm) hxd hzd
  have px : ∀ x ∈ packR d xs, 0 ≤ x ∧ x < 256 := (D.pack hxl hxd).2.2
  have pz : ∀ x ∈ packR d zs, 0 ≤ x ∧ x < 256 := (D.pack hzl hzd).2.2
  have ri : ∀ {x pos}, Px prog w A (eval (.Name x pos) (env83 L)) s₀ (IsV (.int (i : Nat) ti)) → Px prog w A (eval (.Name x pos) (env83 L)) s₀ (IsI i) := fun h => h.mono fun v _ _ e => ⟨ti, e⟩
  have rj : ∀ {x pos}, Px prog w A (eval (.Name x pos) (env83 L)) s₀ (IsV (.int (j : Nat) tj)) → Px prog w A (eval (.Name x pos) (env83 L)) s₀ (IsI j) := fun h => h.mono fun v _ _ e => ⟨tj, e⟩
  refine Px.mono (px_or (b1 := false) (b2 := false) (Px.mono (px_neBB (b1 := lexLt xs zs) (b2 := lexLt (packR d xs) (packR d zs)) (px_ltL (px_row D hxs (px_local hn h1) (ri (px_local hn h2))) (px_row D hzs (px_local hn h1) (rj (px_local hn h3))) (hxl.trans hzl.symm) hu)
      (px_ltB (px_toldAt D hxs (px_cell (env := env83 L) (c := L + 1) rfl ht) (ri (px_local hn h2))) (px_toldAt D hzs (px_cell (env := env83 L) (c := L + 1) rfl ht) (rj (px_local hn h3))) px pz)) fun c _ _ e => by rw [e, p1]; simp)
    fun _ => Px.mono (px_neBB (b1 := xs == zs) (b2 := packR d xs == packR d zs) (px_eqL (px_row D hxs (px_local hn h1) (ri (px_local hn h2))) (px_row D hzs (px_local hn h1) (rj (px_local hn h3))) (hxl.trans hzl.symm) hu)
      (px_eqB (px_toldAt D hxs (px_cell (env := env83 L) (c := L + 1) rfl ht) (ri (px_local hn h2))) (px_toldAt D hzs (px_cell (env := env83 L) (c := L + 1) rfl ht) (rj (px_local hn h3))) px pz)) fun c _ _ e => by rw [e, p2]; simp) fun c _ _ e => e
theorem sx_lawI (hX : ∀ s', Gr [L] s s' → Wd P s'.heap ∧ Dat s'.heap R T d rowsV ys rows long) (hh : A.handled = none) (hu : A.units < cLine) {i : Nat} {ti : Tok} (hi : i < rows.length) (hn : s.heap.Ns L m) (h1 : m (Str.ofString "rows") = some (.ref R)) (h2 : m (Str.ofString "i") = some (.int (i : Nat) ti))
    (hc1 : s.heap.IsCell (L + 1) (some (.ref T)))
    (h : ∀ s' m', Gr [L] s s' → s'.heap.Ns L m' → (∀ x, x ≠ Str.ofString "j" → m' x = m x) → O .next s') :
    Sx prog w A (exec lawI (env83 L)) s O := by
  have nL : L + 1 ∉ [L] := fun q => by have := List.mem_singleton.mp q; exact absurd this (Nat.ne_of_gt (Nat.lt_succ_self L))
  obtain ⟨X, D⟩ := hX s (.refl _ _)
  have hn4 := D.n
  refine sx_forE [L] (n := rows.length) (P := fun i v => ∃ t, v = .int (i : Nat) t)
    (fun i s' => Gr [L] s s' ∧ (∃ m', s'.heap.Ns L m' ∧ ∀ x, x ≠ Str.ofString "j" → m' x = m x))
    ?_ (ns_live hn) (fun s' g' => ⟨g'.any, m, hn.keeps g'.k, fun _ _ => rfl⟩) ?_ ?_ ?_
  · refine (px_range (env := env83 L) hh (px_bi X) (px_call1 (px_bi X) (px_local hn h1) fun v s' g e => by subst e; exact Px.mono (px_len_list (D.R.at fun o e => g.k _ _ e) (by rw [D.size]; omega)) fun v s'' _ q => by rw [D.size] at q; exact q) (by omega)).mono fun v s' _ q => ⟨[], by simp, q⟩
  · rintro i s' s'' I hI hIt ⟨gj, m', hm', hme⟩ gI
    exact ⟨gj.iter gI hI, m', gI.ns1 hm' (ns_ne hn hI), hme⟩
  · rintro j v s₁ hj ⟨tj, rfl⟩ ⟨gj, m', hm', hme⟩
    refine sx_bind (env := env83 L) hm' fun s₂ hn₂ g₂ => ?_
    replace g₂ : Gr [L] s₁ s₂ := g₂
    have gs₂ : Gr [L] s s₂ := gj.trans g₂
    obtain ⟨X₂, D₂⟩ := hX s₂ gs₂
    have hc₂ : s₂.heap.IsCell (L + 1) (some (.ref T)) := by obtain ⟨o, e, r⟩ := hc1; exact ⟨o, gs₂.keep _ _ nL e, r⟩
    refine sx_cons (sx_if (b := false) (px_lawIt D₂ hu hi hj hc₂ hn₂ ((if_neg (by decide)).trans ((hme _ (by decide)).trans h1)) ((if_neg (by decide)).trans ((hme _ (by decide)).trans h2)) (if_pos rfl)) fun s₃ g₃ => ?_)
    rw [if_neg Bool.false_ne_true]
    refine sx_nil (sx_nil ⟨⟨gs₂.trans g₃.any, _, hn₂.keeps g₃.k, fun x hx => (if_neg hx).trans (hme x hx)⟩, fun b o hb e => g₃.k b o (g₂.keep b o hb e)⟩)
  · rintro s' ⟨gj, m', hm', hme⟩
    exact h s' m' gj hm' hme

theorem sx_lawO (hX : ∀ s', Gr [L] s s' → Wd P s'.heap ∧ Dat s'.heap R T d rowsV ys rows long) (hh : A.handled = none) (hu : A.units < cLine) (hn : s.heap.Ns L m) (h1 : m (Str.ofString "rows") = some (.ref R))
    (hc1 : s.heap.IsCell (L + 1) (some (.ref T))) (h : ∀ s', Gr [L] s s' → O .next s') :
    Sx prog w A (exec lawO (env83 L)) s O := by
  have nL : L + 1 ∉ [L] := fun q => by have := List.mem_singleton.mp q; exact absurd this (Nat.ne_of_gt (Nat.lt_succ_self L))
  obtain ⟨X, D⟩ := hX s (.refl _ _)
  have hn4 := D.n
  refine sx_forE [L] (n := rows.length) (P := fun i v => ∃ t, v = .int (i : Nat) t)
    (fun i s' => Gr [L] s s' ∧ (∃ m', s'.heap.Ns L m' ∧ ∀ x, x ≠ Str.ofString "j" → x ≠ Str.ofString "i" → m' x = m x))
    ?_ (ns_live hn) (fun s' g' => ⟨g'.any, m, hn.keeps g'.k, fun _ _ _ => rfl⟩) ?_ ?_ ?_
  · refine (px_range (env := env83 L) hh (px_bi X) (px_call1 (px_bi X) (px_local hn h1) fun v s' g e => by subst e; exact Px.mono (px_len_list (D.R.at fun o e => g.k _ _ e) (by rw [D.size]; omega)) fun v s'' _ q => by rw [D.size] at q; exact q) (by omega)).mono fun v s' _ q => ⟨[], by simp, q⟩
  · rintro i s' s'' I hI hIt ⟨gj, m', hm', hme⟩ gI
    exact ⟨gj.iter gI hI, m', gI.ns1 hm' (ns_ne hn hI), hme⟩
  · rintro i v s₁ hi ⟨ti, rfl⟩ ⟨gj, m', hm', hme⟩
    refine sx_bind (env := env83 L) hm' fun s₂ hn₂ g₂ => ?_
    replace g₂ : Gr [L] s₁ s₂ := g₂
    have gs₂ : Gr [L] s s₂ := gj.trans g₂
    have hc₂ : s₂.heap.IsCell (L + 1) (some (.ref T)) := by obtain ⟨o, e, r⟩ := hc1; exact ⟨o, gs₂.keep _ _ nL e, r⟩
    refine sx_cons (sx_lawI (i := i) (ti := ti) (fun s' g' => hX s' (gs₂.trans g')) hh hu hi hn₂ ((if_neg (by decide)).trans ((hme _ (by decide) (by decide)).trans h1)) (if_pos rfl) hc₂ fun s₃ m₃ g₃ hn₃ hme₃ => ?_)
    exact sx_nil ⟨⟨gs₂.trans g₃, m₃, hn₃, fun x hx hx' => (hme₃ x hx).trans ((if_neg hx').trans (hme x hx hx'))⟩, fun b o hb e => g₃.keep b o hb (g₂.keep b o hb e)⟩
  · rintro s' ⟨gj, _⟩
    exact h s' gj
end
end Mine
end

section
open PySem PySem.W PyProof.Rows PySem.SeqAt
set_option maxRecDepth 1000000
set_option linter.unusedVariables false
namespace Mine
variable {P : Params}

theorem Soft.tupIter {h : Heap} {I l : Addr} {i : Nat} (x : h.IsTupleIter I l i) : Soft h I := fun o e => by
  obtain ⟨o', e', _, hd⟩ := x
  rw [e] at e'; cases e'
  exact ⟨fun q => (by rw [hd] at q; cases q), fun vs q t _ q' => (by rw [hd] at q'; cases q'; simp)⟩
theorem Gk.gr2 {Kp : Addr → Prop} {S : List Nat} {W : List Addr} {s s' s'' : Shared} (k : Gk Kp S s s') (g : Gr W s' s'') (hK : ∀ b o, Kp b → s.heap.get? b = some o → b ∉ W) : Gk Kp S s s'' where
  keep := fun b o hb e => g.keep b o (hK b o hb e) (k.keep b o hb e)
  size := by obtain ⟨_, h, tk, rfl⟩ := g; exact k.size
  gens := by obtain ⟨_, h, tk, rfl⟩ := g; exact k.gens
  bare := by obtain ⟨_, h, tk, rfl⟩ := g; exact k.bare
  drawn := by obtain ⟨_, h, tk, rfl⟩ := g; exact k.drawn
  os := by obtain ⟨_, h, tk, rfl⟩ := g; exact k.os

section
variable {prog : Program} {w : World} {A : Around} {s s₀ : Shared} {env : Env} {O : Flow → Shared → Prop} {R : Value → Heap → Prop}

/-- for over a tuple made there, the body in contexts without a holder -/
theorem sxF_forT {target iter : Expr} {body : List Stmt} {pos : Pos} {n : Nat} {Pi : Nat → Value → Prop} (J : Nat → Shared → Prop) (hh : A.handled = none)
    (he : Px prog w A (eval iter env) s (fun v h => ∃ T items, v = .ref T ∧ s.heap.get? T = none ∧ h.IsTuple T items ∧ items.size = n ∧ ∀ i v, items[i]? = some v → Pi i v))
    (h0 : ∀ s', Gr [] s s' → J 0 s') (hJ : ∀ i s' s'' I, s.heap.get? I = none → Soft s'.heap I → J i s' → Gr [I] s' s'' → J i s'')
    (turn : ∀ i v s₁, i < n → Pi i v → J i s₁ → Sx prog w A (assign target env v) s₁ (fun _ s₂ => SxF prog w A (execs body env) s₂ (fun f s₃ => match f with
      | .next | .cont => J (i + 1) s₃ ∧ ∀ b o, s.heap.get? b = none → s₁.heap.get? b = some o → s₃.heap.get? b = some o
      | .brk => False
      | .ret v => O (.ret v) s₃)))
    (fin : ∀ s', J n s' → O .next s')
    (hs : ∀ x, foldedSetIterable iter env x = pure x := by intro _; rfl) (ht : ∀ it v, letOwnedTupleGo target it v = pure () := by intro _ _; rfl) :
    SxF prog w A (exec (.For target iter body [] pos) env) s O := fun E => by
  show wpF _ A (.at pos fun _ => (eval iter env >>= fun v => foldedSetIterable iter env v >>= fun x => standAt iter.pos >>= fun _ => holding [x] (pyIter x) >>= fun it =>
    runOwn (.forLoop target it body [] env) env)) _ _ s
  refine wpF_bindA (m := standAt pos) (wpAny_standAt ?_)
  refine wpF_bindA (he.use (.refl _ _) fun xv s₁ g₁ hi => ?_)
  refine wpF_bindA (wpAny_of_eq (hs _) (wpF_bindA (wpAny_standAt (wpF_bindA (wpAny_holding ?_)))))
  obtain ⟨T, items, rfl, hT0, hT, hsz, hPi⟩ := hi
  have hlt : T < s₁.heap.objs.size := let ⟨_, e, _⟩ := hT; Heap.lt_size e
  refine wpAny_pyIter_tuple hT ?_
  have g₂ : Gr [] s₁ { s₁ with heap := s₁.heap.push { cls := .type "tuple_iterator", data := .fields #[.ref T, .int 0 0] } } := .heap0 (tk := s₁.toks) fun b o e => Heap.get?_push_of_some _ e
  have Wk := Walks.tuple (prog := prog) (w := w) (A := A) hh s₁.heap.objs.size T (Nat.ne_of_lt hlt) items
  have hst : (s₁.heap.push { cls := .type "tuple_iterator", data := .fields #[.ref T, .int 0 0] }).IsTupleIter s₁.heap.objs.size T 0 ∧ (s₁.heap.push { cls := .type "tuple_iterator", data := .fields #[.ref T, .int 0 0] }).IsTuple T items :=
    ⟨⟨_, Heap.get?_push_size _ rfl, rfl, rfl⟩, hT.at fun o e => Heap.get?_push_of_some _ e⟩
  generalize hI : s₁.heap.objs.size = I at Wk hst ⊢
  have hIs : s.heap.get? I = none := noneBack g₁ (hI ▸ get_size _)
  rw [hsz] at Wk
  unfold runOwn
  refine wpF_onRaiseN (wpF_run ?_)
  refine codeF_loop rfl rfl (fun k s' => ∃ i, i ≤ n ∧ k = n + 1 - i ∧ (s'.heap.IsTupleIter I T i ∧ s'.heap.IsTuple T items) ∧ J i s') ?_ (n + 1) ⟨0, Nat.zero_le _, rfl, hst, h0 _ (g₁.trans g₂)⟩
  rintro k s' ⟨i, hi, rfl, hst', hj⟩
  show wpF _ A ((forTurn target (.ref I) body [] env).onRaise (fun x => do noteFrame x env; theTreesLotGoes x)) _ _ s'
  refine wpF_onRaiseN ?_
  unfold forTurn
  refine wpF_bindA (wpAny_standAt (wpF_bindA (wpA_onRaiseN ?_)))
  by_cases hlt : i < n
  · refine Wk.item i s' _ _ hlt hst' fun v h' tk p hst₁ hk₁ => ?_
    have gI : Gr [I] s' { s' with heap := h', toks := tk } := .heap fun b o hb e => hk₁ b o hb e
    have hj₁ := hJ i s' _ I hIs (Soft.tupIter hst'.1) hj gI
    refine wpF_bindA (wpAny_of_eq (ht _ _) ?_)
    refine wpF_bindA (turn i v _ hlt (hPi _ _ p) hj₁ _ |> fun q => wpAny_mono q (fun _ s₂ q => ?_) fun _ _ e => e)
    refine wpF_bind (wpF_mono (q _) (fun f s₃ z => ?_) fun _ _ e => e)
    cases f with
    | brk => exact z.elim
    | ret v => exact wpF_pure z
    | next | cont =>
      have ⟨z1, z2⟩ := z
      have hst3 : s₃.heap.IsTupleIter I T (i + 1) ∧ s₃.heap.IsTuple T items := Wk.frame _ _ _ hst₁ fun b hb o e => by
        simp only [List.mem_cons, List.not_mem_nil, or_false] at hb
        rcases hb with rfl | rfl
        · exact z2 _ o hIs e
        · exact z2 _ o hT0 e
      exact wpF_pure (.inl ⟨rfl, n + 1 - (i + 1), by omega, i + 1, hlt, rfl, hst3, z1⟩)
  · have hin : i = n := by omega
    subst hin
    refine Wk.done s' _ _ hst' fun h' tk hk' => ?_
    refine wpF_pure (.inr ⟨rfl, codeF_of_tree rfl ?_⟩)
    exact wpF_pure (fin _ (hJ i s' _ I hIs (Soft.tupIter hst'.1) hj (.heap fun b o hb e => hk' b o hb e)))

/-- f(x, y), f a function, in the plain form -/
theorem wpA_call2 {f : Str} {p pos : Pos} {e d : Expr} {a : Addr} {o : Obj} {fd : FuncData} {Pa : Value → Heap → Prop} {P₂ : Value → Value → Heap → Prop} {Q E : Value → Shared → Prop} (hf : Px prog w A (eval (.Name f p) env) s (IsV (.ref a))) (ho : s.heap.get? a = some o) (hfd : o.data = .func fd)
    (he : Px prog w A (eval e env) s Pa) (hd : ∀ a s', Gr [] s s' → Pa a s'.heap → Px prog w A (eval d env) s' (P₂ a)) (h : ∀ x y s', Gr [] s s' → P₂ x y s'.heap → wpAny (model prog w) A (call (.ref a) [x, y]) Q E s')
    (hs : starEach [e, d] env = [(false, eval e env), (false, eval d env)] := by rfl) :
    wpAny (model prog w) A (eval (.Call (.Name f p) [e, d] [] pos) env) Q E s := by
  refine Call_ (hf.use (.refl _ _) fun v' s₁ g₁ e₁ => ?_)
  obtain rfl := e₁
  have he' : backTo pos (starEach [e, d] env) = (false, eval e env) :: backTo pos [(false, eval d env)] := by rw [hs]; rfl
  have ha := px_args2 (pos := pos) he hd hs
  refine Calls.callWith_function (o := o) (fd := fd) ?_
  rw [he']
  refine Calls.evalArgs_plain ?_
  rw [← he']
  exact ha.use g₁ fun vs s₂ g₂ p₂ => by
    obtain ⟨x, y, rfl, q⟩ := p₂
    exact ⟨⟨(g₁.trans g₂).k _ _ ho, hfd⟩, h x y s₂ (g₁.trans g₂) q⟩

/-- bytes(octets) -/
theorem px_bytesOf {x y : Str} {p1 p2 pos : Pos} {D : Addr} {b : Array UInt8} (hx : Px prog w A (eval (.Name x p1) env) s₀ (IsV (.type "bytes"))) (hy : Px prog w A (eval (.Name y p2) env) s₀ (IsV (.ref D))) (hD : IsBA s₀.heap D b) (hz : b.size ≤ 1000)
    (hs : starEach [.Name y p2] env = [(false, eval (.Name y p2) env)] := by rfl) :
    Px prog w A (eval (.Call (.Name x p1) [.Name y p2] [] pos) env) s₀ (IsBy b) :=
  px_call1 hx hy (fun v s g e => by
    subst e
    exact fun s' Q E g' k => call_bytes_ba (show IsBA s'.heap D b from (g.trans g').k _ _ hD) hz fun t tk => k _ _ .tok ⟨t, rfl⟩) (hs := hs)
end
end Mine
end

section
open PySem PySem.W PyProof.Rows PySem.SeqAt
set_option maxRecDepth 1000000
set_option linter.unusedVariables false
namespace Mine
variable {P : Params}
noncomputable def lawFb : List Stmt := match lawF with | .For _ _ b _ _ => b | _ => []
noncomputable def lawFt : Expr := match lawFb.getD 0 (.Pass ⟨0, 0, 0, 0⟩) with | .If t _ _ _ => t | _ => .Name "" ⟨0, 0, 0, 0⟩

section
variable {prog : Program} {w : World} {A : Around} {s s₀ : Shared} {env : Env} {O : Flow → Shared → Prop} {L R T : Addr} {d : Nat} {td : Tok} {rowsV ys : Array Value} {rows : List (List Int)} {long : Nat} {m : Str → Option Value}

/-- what a walk of the law keeps that makes generators and writes in its own names -/
abbrev Kl (L : Addr) (b : Addr) : Prop := b ≠ 51 ∧ b ≠ L

theorem told_ne {a T : Addr} {ys zs : Array Value} {bs : List (List Int)} {Q E : Value → Shared → Prop} (ha : s.heap.IsList a zs) (hT : s.heap.IsList T ys) (hz : zs.size = bs.length) (hy : ys.size = bs.length) (hu : A.units < cLine)
    (h1 : ∀ (j : Nat) b, bs[j]? = some b → ∃ t, zs[j]? = some (.bytes (byteArr b) t)) (h2 : ∀ (j : Nat) b, bs[j]? = some b → ∃ t, ys[j]? = some (.bytes (byteArr b) t)) (h : Q (.bool false) s) :
    wpAny (model prog w) A (compareOp .NotEq (.ref a) (.ref T)) Q E s := by
  refine PySem.EqBoolInt.of_rcne (k := false) ?_ h
  have := RcNeAt.lists (A := A) (e := fun _ => true) ha hT (hz.trans hy.symm) hu fun j q1 q2 => by
    have e : bs[j]? = some (bs[j]'(by omega)) := List.getElem?_eq_getElem _
    obtain ⟨t, e1⟩ := h1 j _ e
    obtain ⟨u, e2⟩ := h2 j _ e
    rw [Array.getElem?_eq_getElem q1] at e1
    rw [Array.getElem?_eq_getElem q2] at e2
    rw [Option.some.inj e1, Option.some.inj e2]
    have := EqAt_bytes (A := A.in1) (s := s) (byteArr (bs[j]'(by omega))) t (byteArr (bs[j]'(by omega))) u
    rwa [beq_self_eq_true] at this
  rwa [show (!(List.range zs.size).all fun _ => true) = false by simp] at this

theorem Dat.gk {hs : Heap} {s' : Shared} {Kp : Addr → Prop} {S : List Nat} (D : Dat s.heap R T d rowsV ys rows long) (X : Wf P s.heap) (hL : s.heap.Ns L m) (k : Gk Kp S s s') (hK : ∀ b o, b ≠ 51 → b ≠ L → s.heap.get? b = some o → Kp b) : Dat s'.heap R T d rowsV ys rows long := D.keeps fun b o xs n e hd => k.keep b o (hK b o (X.ne51d e fun vs q => by rw [hd] at q; cases q) (fun q => by
  obtain ⟨o', _, _, e', hd', _⟩ := hL
  rw [q, e'] at e; cases e; rw [hd] at hd'; cases hd') e) e

theorem sxF_lawF {hb : Heap} (B : Wf P hb) (hbs : ∀ b o, b ≠ 51 → hb.get? b = some o → s.heap.get? b = some o) (hL0 : hb.get? L = none) (h51 : 51 < L) (X : Wf P s.heap) (hh : A.handled = none) (hA : A.depth < 790) (hu : A.units < cLine) (D : Dat s.heap R T d rowsV ys rows long)
    (hn : s.heap.Ns L m) (h1 : m (Str.ofString "rows") = some (.ref R)) (h2 : m (Str.ofString "depth") = some (.int d td)) (hc1 : s.heap.IsCell (L + 1) (some (.ref T)))
    (h : ∀ s' m', Gk (Kl L) [] s s' → Wf P s'.heap → s'.heap.Ns L m' → (∀ x, x ≠ Str.ofString "fine" → m' x = m x) → O .next s') :
    SxF prog w A (exec lawF (env83 L)) s O := by
  have e51 : ∃ o, s.heap.get? 51 = some o := by obtain ⟨_, _, a, _⟩ := X.tab; exact ⟨_, a.2⟩
  have eL : ∃ o, s.heap.get? L = some o := by obtain ⟨o, _, _, e, _⟩ := hn; exact ⟨o, e⟩
  have nL1 : (L + 1 : Nat) ≠ 51 ∧ (L + 1 : Nat) ≠ L := ⟨Nat.ne_of_gt (Nat.lt_succ_of_lt h51), Nat.ne_of_gt (Nat.lt_succ_self L)⟩
  have soft : ∀ {s' : Shared} {m' : Str → Option Value}, s'.heap.Ns L m' → ∀ b ∈ [L], hb.get? b = none ∧ Soft s'.heap b := fun {s' m'} hn' b hm => by
    rw [List.mem_singleton.mp hm]; exact ⟨hL0, Soft.ns hn'⟩
  have hdd : d = 1 ∨ d = 2 ∨ d = 4 := D.hd
  have wk : ∀ {s' : Shared}, Gk (fun b => Kl L b ∧ ∃ o, s.heap.get? b = some o) [] s s' → Dat s'.heap R T d rowsV ys rows long ∧ s'.heap.IsCell (L + 1) (some (.ref T)) := fun {s'} gk => by
    refine ⟨D.gk (P := P) (hs := hb) X hn gk fun b o a c e => ⟨⟨a, c⟩, o, e⟩, ?_⟩
    obtain ⟨o, e, r⟩ := hc1
    exact ⟨o, gk.keep _ _ ⟨nL1, o, e⟩ e, r⟩
  refine sxF_forT (n := 2) (Pi := fun i v => ∃ t, v = .int ((2 - i : Nat) : Int) t ∧ i < 2)
    (fun i s' => Gk (fun b => Kl L b ∧ ∃ o, s.heap.get? b = some o) [] s s' ∧ Wf P s'.heap ∧ ∃ m', s'.heap.Ns L m' ∧ ∀ x, x ≠ Str.ofString "fine" → m' x = m x) hh ?_ ?_ ?_ ?_ ?_
  · refine px_tuple2 (P₂ := fun a b h => (∃ t, a = .int 2 t) ∧ (∃ t, b = .int 1 t) ∧ ∀ b o, s.heap.get? b = some o → h.get? b = some o) px_int (fun a s' g q => px_int.mono fun b _ g' q' => ⟨q, q', (g.trans g').k⟩) ?_
    rintro a b h₁ h₂ r ⟨⟨t, rfl⟩, ⟨u, rfl⟩, hk₁⟩ hk hr hr'
    refine ⟨r, _, rfl, ?_, ⟨_, hr', rfl, _, rfl⟩, rfl, fun i v hv => ?_⟩
    · cases e : s.heap.get? r with
      | none => rfl
      | some o => rw [hk₁ _ _ e] at hr; cases hr
    · rcases i with _ | _ | i
      · cases hv; exact ⟨t, rfl, by decide⟩
      · cases hv; exact ⟨u, rfl, by decide⟩
      · simp at hv
  · intro s' g'
    exact ⟨Gk.of g' (fun _ _ => by simp) rfl, X.keeps g'.k, m, hn.keeps g'.k, fun _ _ => rfl⟩
  · rintro i s' s'' I hI hS ⟨gj, Xj, m', hm', hme⟩ gI
    have hIb : hb.get? I = none := by
      cases e : hb.get? I with
      | none => rfl
      | some o =>
        have := hbs I o (fun q => by obtain ⟨o', e'⟩ := e51; rw [q, e'] at hI; cases hI) e
        rw [hI] at this; cases this
    refine ⟨gj.gr2 gI fun b o hb' e hm => ?_, Wf.butL B Xj (W := [I]) (fun b hm => by rw [List.mem_singleton.mp hm]; exact ⟨hIb, hS⟩) gI.keep, m', gI.ns1 hm' (ns_ne hn hI), hme⟩
    rw [List.mem_singleton.mp hm, hI] at e; cases e
  · rintro i v s₁ hi ⟨t, rfl, _⟩ ⟨gj, Xj, m', hm', hme⟩
    generalize hf : (2 - i : Nat) = f
    have hf12 : f = 1 ∨ f = 2 := by omega
    refine sx_bind (env := env83 L) hm' fun s₂ hn₂ g₂ => ?_
    replace g₂ : Gr [L] s₁ s₂ := g₂
    have X₂ : Wf P s₂.heap := Wf.butL B Xj (soft hm') g₂.keep
    have gk₁₂ : Gk (Kl L) [] s₁ s₂ := Gk.of g₂ (fun b hb' hm => hb'.2 (List.mem_singleton.mp hm)) rfl
    have gk₂ : Gk (fun b => Kl L b ∧ ∃ o, s.heap.get? b = some o) [] s s₂ := gj.gr2 g₂ fun b o hb' e hm => hb'.1.2 (List.mem_singleton.mp hm)
    obtain ⟨D₂, hc₂⟩ := wk gk₂
    have hrw : upd m' (Str.ofString "fine") (Value.int (f : Int) t) (Str.ofString "rows") = some (.ref R) := (if_neg (by decide)).trans ((hme _ (by decide)).trans h1)
    have hde : upd m' (Str.ofString "fine") (Value.int (f : Int) t) (Str.ofString "depth") = some (.int d td) := (if_neg (by decide)).trans ((hme _ (by decide)).trans h2)
    have hfi : upd m' (Str.ofString "fine") (Value.int (f : Int) t) (Str.ofString "fine") = some (.int f t) := if_pos rfl
    have key : ∀ E, wpF (model prog w) A (isTrue lawFt (env83 L) (eval lawFt (env83 L))) (fun b s₃ => b = false ∧ Gk (· ≠ 51) [] s₂ s₃ ∧ Wf P s₃.heap) E s₂ := fun E => ?_
    · refine sxF_cons (sxF_if fun E => wpF_mono (key E) (fun b s₃ q => ?_) fun _ _ e => e)
      obtain ⟨rfl, gk₃', X₃⟩ := q
      have gk₃ : Gk (Kl L) [] s₂ s₃ := gk₃'.mono (fun b h => h.1) (.inl rfl) (fun _ _ h => nomatch h)
      rw [if_neg Bool.false_ne_true]
      have gk₁₃ : Gk (Kl L) [] s₁ s₃ := gk₁₂.trans gk₃
      refine sxF_nil (sxF_nil ⟨⟨gk₂.trans (gk₃.mono (fun b h => h.1) (.inl rfl) (fun _ _ h => nomatch h)), X₃, upd m' (Str.ofString "fine") (Value.int (f : Int) t), ?_, fun x hx => (if_neg hx).trans (hme x hx)⟩, fun b o hb' e => gk₁₃.keep b o ⟨fun q => ?_, fun q => ?_⟩ e⟩)
      · obtain ⟨o, es, ep, e, r⟩ := hn₂
        exact ⟨o, es, ep, gk₃'.keep _ _ (Nat.ne_of_gt h51) e, r⟩
      · obtain ⟨o', e'⟩ := e51; rw [q, e'] at hb'; cases hb'
      · obtain ⟨o', e'⟩ := eL; rw [q, e'] at hb'; cases hb'
    · refine wpF_and (b1 := decide ((f : Int) < d)) (px_tlt (a := f) (b := d) ((px_local hn₂ hfi).mono fun v s' _ e => ⟨t, e⟩) ((px_local hn₂ hde).mono fun v s' _ e => ⟨td, e⟩)) (fun hb1 s₃ g₃ => ?_) fun _ s₃ g₃ => ⟨rfl, Gk.of g₃ (fun _ _ => by simp) rfl, X₂.keeps g₃.k⟩
      have hfd : f < d := by simpa using hb1
      have hfo : FineOk d f := by unfold FineOk; omega
      have X₃ : Wf P s₃.heap := X₂.keeps g₃.k
      have D₃ : Dat s₃.heap R T d rowsV ys rows long := D₂.keeps fun b o _ _ e _ => g₃.k b o e
      have hn₃ : s₃.heap.Ns (env83 L).locals (upd m' (Str.ofString "fine") (Value.int (f : Int) t)) := hn₂.keeps g₃.k
      have hn4 := D₃.n
      have hlen : ∀ row ∈ rows, row.length ≤ 9 ∧ 0 < row.length ∧ Dig d row := fun row hr => by
        have := D₃.row row hr; have := D₃.l; have := D₃.l0; exact ⟨by omega, by omega, (D₃.row row hr).2⟩
      refine wpF_isTrue_Compare1 (wpF_told (P := P) (rows := rows.map (finer d f)) (d := f) X₃ hh (by omega) (by omega) (by rfl) (fun Q hQ => ?_) (fun C s' m'' D' b Xd hns hmx hba hz => ?_) (fun D' zs s₄ gk₄ X₄ hD0 hpl hsz hzs => ?_))
      · refine wpA_call2 (Pa := fun v h => ∃ D rv, v = .ref D ∧ h.IsList D rv ∧ All2 (RowI h) rv.toList (rows.map (finer d f))) (P₂ := fun v y h => (∃ D rv, v = .ref D ∧ h.IsList D rv ∧ All2 (RowI h) rv.toList (rows.map (finer d f))) ∧ y = .int f t)
          (px_glob X₃.w) (fn56 X₃.w) rfl (px_call3 (P₂ := fun a b _ => a = .ref R ∧ b = .int d td) (P₃ := fun a b c _ => a = .ref R ∧ b = .int d td ∧ c = .int f t) (px_glob X₃.w) (px_local hn₃ hrw) (fun a s' g' e => (px_local (hn₃.keeps g'.k) hde).mono fun b _ _ e' => ⟨e, e'⟩)
            (fun a b s' g' e => (px_local (hn₃.keeps g'.k) hfi).mono fun b _ _ e' => ⟨e.1, e.2, e'⟩) (fun a b c s' g' e => ?_) (.inr (.inr ⟨71, _, _, rfl, fn71 X₃.w, rfl⟩)))
          (fun a s' g' q => (px_local (hn₃.keeps g'.k) hfi).mono fun y s'' g'' e => ⟨?_, e⟩) (fun x y s' g' q => ?_)
        · obtain ⟨rfl, rfl, rfl⟩ := e
          exact px_law_finer (X₃.w.keeps g'.k) hh (by omega) hfo (D₃.R.at fun o e => g'.k _ _ e) (D₃.r.mono fun v row ⟨a, ea, hl⟩ => ⟨a, ea, hl.keeps g'.k⟩) (by omega) (fun row hr => by have := (hlen row hr).1; omega)
        · obtain ⟨D', rv, e, hl, hr⟩ := q
          exact ⟨D', rv, e, hl.at fun o e => g''.k _ _ e, hr.mono fun v row ⟨a, ea, hl⟩ => ⟨a, ea, hl.keeps g''.k⟩⟩
        · obtain ⟨⟨D', rv, rfl, hl, hr⟩, rfl⟩ := q
          refine call_pack (X₃.keeps g'.k) (by omega) fun L' G h' tk N => hQ s' L' G h' tk D' rv t g' ⟨hl, hr, fun row hrow => ?_, by rw [List.length_map]; omega⟩ N
          obtain ⟨row', hrow', rfl⟩ := List.mem_map.mp hrow
          exact finer_ok hfo (hlen _ hrow').2.2 (hlen _ hrow').2.1 (hlen _ hrow').1
      · exact px_bytesOf (px_bi Xd) (px_local hns hmx) hba hz
      · have hc₄ : s₄.heap.IsCell (L + 1) (some (.ref T)) := by
          obtain ⟨o, e, r⟩ := hc₂
          exact ⟨o, gk₄.keep _ _ nL1.1 (g₃.k _ _ e), r⟩
        have hT₄ : s₄.heap.IsList T ys := by
          obtain ⟨o, e, hc, n, hd'⟩ := D₃.T
          exact ⟨o, gk₄.keep _ _ (X₃.ne51d e fun vs q => by rw [hd'] at q; cases q) e, hc, n, hd'⟩
        refine (px_cell (env := env83 L) (c := L + 1) rfl hc₄).use (.refl _ _) fun v s₅ g₅ e₅ => ?_
        subst e₅
        refine told_ne (bs := rows.map (packR d)) (hpl.isList.at fun o e => g₅.k _ _ e) (hT₄.at fun o e => g₅.k _ _ e) (by rw [hsz]; simp) (by rw [D₃.tn]; simp) hu (fun j b hj => ?_) (fun j b hj => ?_) (wpAny_truthy_bool ⟨rfl, ?_, X₄.keeps g₅.k⟩)
        · rw [List.getElem?_map] at hj
          obtain ⟨row, hrow, rfl⟩ := Option.map_eq_some_iff.mp hj
          have := hzs j (finer d f row) (by rw [List.getElem?_map, hrow]; rfl)
          rwa [pack_finer hfo (hlen _ (List.mem_of_getElem? hrow)).2.2] at this
        · rw [List.getElem?_map] at hj
          obtain ⟨row, hrow, rfl⟩ := Option.map_eq_some_iff.mp hj
          exact D₃.ty j row hrow
        · exact (Gk.trans (Gk.of g₃ (fun _ _ => by simp) rfl) gk₄).gr2 g₅ fun _ _ _ _ => by simp
  · rintro s' ⟨gj, Xj, m', hm', hme⟩
    exact h s' m' ⟨fun b o hb' e => gj.keep b o ⟨hb', o, e⟩ e, gj.size, gj.gens, gj.bare, gj.drawn, gj.os⟩ Xj hm' hme
end
end Mine
end

section
open PySem PySem.W PyProof.Rows PySem.SeqAt
set_option maxRecDepth 1000000
set_option linter.unusedVariables false
namespace Mine
variable {P : Params}
noncomputable def lawS (i : Nat) : Stmt := (bodyOf (fn 83)).getD i (.Pass ⟨0, 0, 0, 0⟩)
theorem body83 : bodyOf (fn 83) = [lawS 0, lawS 1, lawS 2, lawS 3, lawS 4, lawK, lawF, lawO, lawS 8] := rfl

/-- what _law_rows tells, taken apart -/
structure Rw (h : Heap) (R : Addr) (d : Nat) (rowsV : Array Value) (rows : List (List Int)) (long : Nat) : Prop where
  R : h.IsList R rowsV
  r : All2 (RowI h) rowsV.toList rows
  hd : d = 1 ∨ d = 2 ∨ d = 4
  n0 : 0 < rows.length
  n : rows.length ≤ 4
  l0 : 0 < long
  l : long < 10
  row : ∀ row ∈ rows, row.length = long ∧ Dig d row
theorem Rw.keeps {h h' : Heap} {R : Addr} {d : Nat} {rowsV : Array Value} {rows : List (List Int)} {long : Nat} (D : Rw h R d rowsV rows long) (k : ∀ b o xs n, h.get? b = some o → o.data = .seq xs n → h'.get? b = some o) : Rw h' R d rowsV rows long :=
  { D with
    R := by obtain ⟨o, e, c, n, hd⟩ := D.R; exact ⟨o, k _ _ _ _ e hd, c, n, hd⟩
    r := D.r.mono fun v row ⟨a, ea, vs, ⟨o, e, c, n, hd⟩, hi⟩ => ⟨a, ea, vs, ⟨o, k _ _ _ _ e hd, c, n, hd⟩, hi⟩ }
theorem Rw.size {h : Heap} {R : Addr} {d : Nat} {rowsV : Array Value} {rows : List (List Int)} {long : Nat} (D : Rw h R d rowsV rows long) : rowsV.size = rows.length := by simpa using D.r.1
theorem gr_seq {s s' : Shared} {W : List Addr} (g : Gr W s s') (hW : ∀ b ∈ W, ∀ o xs n, s.heap.get? b = some o → o.data ≠ .seq xs n) : ∀ b o xs n, s.heap.get? b = some o → o.data = .seq xs n → s'.heap.get? b = some o :=
  fun b o xs n e hd => g.keep b o (fun hm => hW b hm o xs n e hd) e
theorem ns_noseq {h : Heap} {L : Addr} {m : Str → Option Value} (hn : h.Ns L m) : ∀ o xs n, h.get? L = some o → o.data ≠ .seq xs n := fun o xs n e hd => by
  obtain ⟨o', _, _, e', hd', _⟩ := hn
  rw [e'] at e; cases e; rw [hd] at hd'; cases hd'
theorem cell_noseq {h : Heap} {c : Addr} {v : Option Value} (hc : h.IsCell c v) : ∀ o xs n, h.get? c = some o → o.data ≠ .seq xs n := fun o xs n e hd => by
  obtain ⟨o', e', hd'⟩ := hc
  rw [e'] at e; cases e; rw [hd] at hd'; cases hd'
theorem Soft.cell {h : Heap} {c : Addr} {v : Option Value} (hc : h.IsCell c v) : Soft h c := fun o e => by
  obtain ⟨o', e', hd'⟩ := hc
  rw [e'] at e; cases e
  exact ⟨fun q => (by rw [hd'] at q; cases q), fun vs q t _ q' => (by rw [hd'] at q'; cases q')⟩

section
variable {prog : Program} {w : World} {A : Around} {s s₀ : Shared} {env : Env} {O : Flow → Shared → Prop} {L R T : Addr} {d : Nat} {td : Tok} {rowsV ys : Array Value} {rows : List (List Int)} {long : Nat} {m : Str → Option Value}

theorem sx_law0 {a : Addr} {xs : List Int} (X : Wd P s.heap) (hh : A.handled = none) (hA : A.depth < 800) (hn : s.heap.Ns L m) (hm : m (Str.ofString "script") = some (.ref a)) (ha : LI s.heap a xs) (hx : xs.length ≤ 1000)
    (h : ∀ s' F ns, Gr [L] s s' → s'.heap.Ns L (upd m (Str.ofString "found") (.ref F)) → LI s'.heap F ns → ns.length = 7 → O .next s') : Sx prog w A (exec (lawS 0) (env83 L)) s O := by
  refine sx_assign (env := env83 L) (P := fun v h => ∃ D ns, v = .ref D ∧ LI h D ns ∧ ns.length = 7) hn (px_call2 (P₂ := fun a' b _ => a' = .ref a ∧ ∃ t, b = .int 7 t) (px_glob X) (px_local hn hm) (fun a' s' g e => px_int.mono fun b _ _ q => ⟨e, q⟩) (fun a' b s' g e => ?_) (.inr (.inr ⟨61, _, _, rfl, fn61 X, rfl⟩))) fun v s₁ s₂ g₁ p₁ hn₂ g₂ => ?_
  · obtain ⟨rfl, t, rfl⟩ := e
    exact px_law_numbers (X.keeps g.k) hh (by omega) (ha.keeps g.k) hx
  · obtain ⟨F, ns, rfl, hF, h7⟩ := p₁
    replace g₂ : Gr [L] s₁ s₂ := g₂
    have hL₁ : s₁.heap.Ns L m := hn.keeps g₁.k
    refine h s₂ F ns (g₁.any.trans g₂) hn₂ ?_ h7
    obtain ⟨vs, ⟨o, e, hc, n, hd⟩, hi⟩ := hF
    exact ⟨vs, ⟨o, gr_seq g₂ (fun b hb => by rw [List.mem_singleton.mp hb]; exact ns_noseq hL₁) _ _ _ _ e hd, hc, n, hd⟩, hi⟩

theorem sx_law1 {F : Addr} {ns : List Int} (X : Wd P s.heap) (hh : A.handled = none) (hA : A.depth < 800) (hn : s.heap.Ns L m) (hm : m (Str.ofString "found") = some (.ref F)) (ha : LI s.heap F ns) (h7 : ns.length = 7)
    (h : ∀ s' d td R rowsV rows long, Gr [L] s s' → s'.heap.Ns L (upd (upd m (Str.ofString "depth") (.int (d : Nat) td)) (Str.ofString "rows") (.ref R)) → Rw s'.heap R d rowsV rows long → O .next s') : Sx prog w A (exec (lawS 1) (env83 L)) s O := by
  refine sx_pair (env := env83 L) hh (P := fun a b h => ∃ d td R rowsV rows long, a = .int ((d : Nat) : Int) td ∧ b = .ref R ∧ Rw h R d rowsV rows long) (Px.mono (px_call1 (px_glob X) (px_local hn hm) (fun a' s' g e => by
      subst e
      exact px_law_rows (X.keeps g.k) hh (by omega) (ha.keeps g.k) h7) (.inr (.inr ⟨66, _, _, rfl, fn66 X, rfl⟩))) fun v s' g q => ?_) fun a b s₁ s₂ g₁ p g₂ => ?_
  · obtain ⟨T, d, td, R, rowsV, rows, long, rfl, e, q1, q2, q3, q4, q5, q6, q7, q8⟩ := q
    exact ⟨T, _, _, rfl, ⟨_, e, rfl, _, rfl⟩, d, td, R, rowsV, rows, long, rfl, rfl, ⟨q2, q3, q1, q4, q5, q6, q7, q8⟩⟩
  · obtain ⟨d, td, R, rowsV, rows, long, rfl, rfl, D⟩ := p
    have hn₂ : s₂.heap.Ns L m := hn.keeps (g₁.trans g₂).k
    refine sx_store (env := env83 L) hn₂ fun s₃ hn₃ g₃ => ?_
    replace g₃ : Gr [L] s₂ s₃ := g₃
    refine sx_store (env := env83 L) hn₃ fun s₄ hn₄ g₄ => ?_
    replace g₄ : Gr [L] s₃ s₄ := g₄
    replace hn₃ : s₃.heap.Ns L _ := hn₃
    refine h s₄ d td R rowsV rows long ((g₁.trans g₂).any.trans (g₃.trans g₄)) hn₄ ?_
    exact ((D.keeps fun b o _ _ e _ => g₂.k b o e).keeps (gr_seq g₃ (fun b hb => by rw [List.mem_singleton.mp hb]; exact ns_noseq hn₂))).keeps (gr_seq g₄ (fun b hb => by rw [List.mem_singleton.mp hb]; exact ns_noseq hn₃))

/-- a copy of the rows, apart from them -/
def Kept (h : Heap) (rowsV kV : Array Value) (rows : List (List Int)) : Prop :=
  kV.size = rows.length ∧ ∀ (j : Nat) (row : List Int), rows[j]? = some row → ∃ a b, rowsV[j]? = some (.ref a) ∧ kV[j]? = some (.ref b) ∧ a ≠ b ∧ LI h b row

theorem sx_law2 (hX : ∀ s', Gr [L] s s' → Wd P s'.heap) (hh : A.handled = none) (hn : s.heap.Ns L m) (hm : m (Str.ofString "rows") = some (.ref R)) (D : Rw s.heap R d rowsV rows long)
    (h : ∀ s' K kV, Gr [L] s s' → s'.heap.Ns L (upd m (Str.ofString "kept") (.ref K)) → s'.heap.IsList K kV → Kept s'.heap rowsV kV rows → O .next s') : Sx prog w A (exec (lawS 2) (env83 L)) s O := by
  have hn4 := D.n
  have hsz := D.size
  have lr : ∀ row ∈ rows, row.length ≤ 9 := fun row hr => by have := (D.row row hr).1; have := D.l; omega
  refine sx_comp (env := env83 L) (own := [R]) (n := rowsV.size) (P := fun i v => rowsV[i]? = some v) (cl := [])
    (fun W i y h => ∃ a b row, rowsV[i]? = some (.ref a) ∧ y = .ref b ∧ a ≠ b ∧ b ∉ W ∧ rows[i]? = some row ∧ LI h b row) hn (by rfl) ((px_local hn hm).mono fun v s' g' e => by subst e; exact itb_list hh (D.R.at fun o e => g'.k _ _ e)) (by rw [sizeLine_eq]; omega) ?_ ?_ ?_
  · rintro W i y h h' ⟨a, b, row, e1, e2, hne, hb, hr, vs, hl', hi'⟩ k
    exact ⟨a, b, row, e1, e2, hne, hb, hr, vs, hl'.at fun o e => k _ _ hb e, hi'⟩
  · intro W C i v s' m' hi hv g' hW hC hn' hm'
    have hrow : rows[i]? = some (rows[i]'(by omega)) := List.getElem?_eq_getElem _
    obtain ⟨a, rfl, vs, hla, hia⟩ := D.r.2 i v _ (by rw [Array.getElem?_toList]; exact hv) hrow
    have hla' : s'.heap.IsList a vs.toArray := by
      obtain ⟨o, e, hc, n, hd⟩ := hla
      refine ⟨o, g'.keep _ _ (fun q => ?_) e, hc, n, hd⟩
      rcases (hW _ q).1 with q | q
      · rw [show a = L from q] at e; exact ns_noseq hn o _ _ e hd
      · rw [q] at e; cases e
    have hX' : Wd P s'.heap := hX s' (g'.dropL fun b hb => (hW b hb).1.imp (fun q => by rw [q]; exact List.mem_singleton.mpr rfl) id)
    have := hia.length
    have := lr _ (List.mem_of_getElem? hrow)
    refine px_call1 (v := .type "list") (px_bi hX') (px_local hn' hm') fun v s'' g'' e => ?_
    subst e
    refine Px.mono (px_list_of (hla'.at fun o e => g''.k _ _ e) (by rw [sizeLine_eq]; simp; omega)) fun v s3 g3 q => ?_
    obtain ⟨l, rfl, hl0, hl⟩ := q
    have hl0' : s'.heap.get? l = none := noneBack g'' hl0
    refine ⟨a, l, _, hv, rfl, fun q => ?_, fun q => ?_, hrow, vs, hl, hia⟩
    · obtain ⟨o, e, _⟩ := hla'; rw [q, hl0'] at e; cases e
    · obtain ⟨o, e⟩ := (hW _ q).2; rw [hl0'] at e; cases e
  · intro K kV W s₂ hK0 hpl hsz' hWL hF hn₂ g₂
    refine h s₂ K kV g₂ hn₂ hpl.isList ⟨hsz'.trans hsz, fun j row hj => ?_⟩
    have hlt : j < rows.length := by
      rcases Nat.lt_or_ge j rows.length with q | q
      · exact q
      · rw [List.getElem?_eq_none q] at hj; cases hj
    obtain ⟨a, b, row', e1, e2, hne, _, hr, hl⟩ := hF j (by omega)
    rw [hj] at hr; cases hr
    exact ⟨a, b, e1, by rw [Array.getElem?_eq_getElem (by omega), e2], hne, hl⟩
end
end Mine
end

section
open PySem PySem.W PyProof.Rows PySem.SeqAt
set_option maxRecDepth 1000000
set_option linter.unusedVariables false
namespace Mine
variable {P : Params}
noncomputable def law4t : Expr := match lawS 4 with | .If t _ _ _ => t | _ => .Name "" ⟨0, 0, 0, 0⟩

section
variable {prog : Program} {w : World} {A : Around} {s s₀ : Shared} {env : Env} {O : Flow → Shared → Prop} {L R T : Addr} {d : Nat} {td : Tok} {rowsV ys : Array Value} {rows : List (List Int)} {long : Nat} {m : Str → Option Value}

theorem sxF_law3 {hb : Heap} {v1 : Option Value} (B : Wf P hb) (hL1 : hb.get? (L + 1) = none) (h51 : 51 < L) (X : Wf P s.heap) (hh : A.handled = none) (hA : A.depth < 790) (hn : s.heap.Ns L m) (h1 : m (Str.ofString "rows") = some (.ref R)) (h2 : m (Str.ofString "depth") = some (.int d td))
    (D : Rw s.heap R d rowsV rows long) (hc1 : s.heap.IsCell (L + 1) v1)
    (h : ∀ s' T ys, Gk (fun b => b ≠ 51 ∧ b ≠ L + 1) [] s s' → Wf P s'.heap → s'.heap.IsCell (L + 1) (some (.ref T)) → Dat s'.heap R T d rowsV ys rows long → O .next s') :
    SxF prog w A (exec (lawS 3) (env83 L)) s O := by
  have nL1 : (L + 1 : Nat) ≠ 51 := Nat.ne_of_gt (Nat.lt_succ_of_lt h51)
  have hn4 := D.n
  refine sxF_assignC (env := env83 L) (c := L + 1) rfl fun E => ?_
  refine wpF_told (P := P) (rows := rows) (d := d) X hh (by omega) D.hd (by rfl) (fun Q hQ => ?_) (fun C s' m'' D' b Xd hns hmx hba hz => px_bytesOf (px_bi Xd) (px_local hns hmx) hba hz) (fun T ys s₂ gk X₂ hT0 hpl hsz hys => ?_)
  · refine wpA_call2 (Pa := fun v _ => v = .ref R) (P₂ := fun v y _ => v = .ref R ∧ y = .int d td) (px_glob X.w) (fn56 X.w) rfl (px_local hn h1) (fun a s' g' e => (px_local (hn.keeps g'.k) h2).mono fun b _ _ e' => ⟨e, e'⟩) (fun x y s' g' q => ?_)
    obtain ⟨rfl, rfl⟩ := q
    have D' : Rw s'.heap R d rowsV rows long := D.keeps fun b o _ _ e _ => g'.k b o e
    exact call_pack (X.keeps g'.k) (by omega) fun L' G h' tk N => hQ s' L' G h' tk R rowsV td g' ⟨D'.R, D'.r, fun row hrow => ⟨by rw [(D.row row hrow).1]; exact D.l0, by rw [(D.row row hrow).1]; have := D.l; omega, (D.row row hrow).2⟩, by omega⟩ N
  · have hc₂ : s₂.heap.IsCell (L + 1) v1 := by obtain ⟨o, e, r⟩ := hc1; exact ⟨o, gk.keep _ _ nL1 e, r⟩
    refine ⟨⟨v1, hc₂⟩, fun s₃ hc₃ g₃ => ?_⟩
    have X₃ : Wf P s₃.heap := Wf.butL B X₂ (W := [L + 1]) (fun b hm => by rw [List.mem_singleton.mp hm]; exact ⟨hL1, Soft.cell hc₂⟩) g₃.keep
    have seq : ∀ b o xs n, s₂.heap.get? b = some o → o.data = .seq xs n → s₃.heap.get? b = some o := gr_seq g₃ (fun b hb => by rw [List.mem_singleton.mp hb]; exact cell_noseq hc₂)
    have D₂ : Rw s₂.heap R d rowsV rows long := D.keeps fun b o xs n e hd => gk.keep _ _ (X.ne51d e fun vs q => by rw [hd] at q; cases q) e
    have D₃ : Rw s₃.heap R d rowsV rows long := D₂.keeps seq
    refine h s₃ T ys (Gk.gr2 (gk.mono (fun b hb => hb.1) (.inl rfl) (fun _ _ h => nomatch h)) g₃ fun b o hb e hm => hb.2 (List.mem_singleton.mp hm)) X₃ hc₃ ⟨D₃.R, D₃.r, ?_, hsz, hys, D₃.hd, D₃.n0, D₃.n, D₃.l0, D₃.l, D₃.row⟩
    obtain ⟨o, e, hc, n, hd⟩ := hpl.isList
    exact ⟨o, seq _ _ _ _ e hd, hc, n, hd⟩

theorem sx_law4 {K : Addr} {kV : Array Value} (X : Wd P s.heap) (hu : A.units < cLine) (hu1 : A.in1.units < cLine) (hn : s.heap.Ns L m) (h1 : m (Str.ofString "rows") = some (.ref R)) (h3 : m (Str.ofString "kept") = some (.ref K)) (hK : s.heap.IsList K kV) (hk : Kept s.heap rowsV kV rows)
    (D : Dat s.heap R T d rowsV ys rows long) (hc1 : s.heap.IsCell (L + 1) (some (.ref T))) (h : ∀ s', Gr [] s s' → O .next s') :
    Sx prog w A (exec (lawS 4) (env83 L)) s O := by
  have hn4 := D.n
  have hsz := D.size
  have key : Px prog w A (isTrue law4t (env83 L) (eval law4t (env83 L))) s (fun c _ => c = false) := by
    refine Px.mono (px_or (b1 := false) (b2 := false) (Px.mono (px_tne (a := (rows.length : Nat)) (b := (rows.length : Nat)) (px_call1 (px_bi X) (px_cell (env := env83 L) (c := L + 1) rfl hc1) fun v s' g e => by
          subst e; exact Px.mono (px_len_list (D.T.at fun o e => g.k _ _ e) (by rw [D.tn]; omega)) fun v s'' _ q => by rw [D.tn] at q; exact q)
        (px_call1 (px_bi X) (px_local hn h1) fun v s' g e => by subst e; exact Px.mono (px_len_list (D.R.at fun o e => g.k _ _ e) (by rw [D.size]; omega)) fun v s'' _ q => by rw [D.size] at q; exact q)) fun c _ _ e => by rw [e]; simp)
      fun _ => px_test (P₂ := fun a b _ => a = .ref R ∧ b = .ref K) (px_local hn h1) (fun a s' g e => (px_local (hn.keeps g.k) h3).mono fun b _ _ e' => ⟨e, e'⟩) (fun a b s' g e => ?_)) fun c _ _ e => e
    obtain ⟨rfl, rfl⟩ := e
    refine fun s₁ Q E g' k => PySem.EqBoolInt.of_rcne (k := false) ?_ (k _ _ (.refl _ _) rfl)
    have gs := g.trans g'
    have := RcNeAt.lists (A := A) (e := fun _ => true) (D.R.at fun o e => gs.k _ _ e) (hK.at fun o e => gs.k _ _ e) (by rw [hsz, hk.1]) hu fun j q1 q2 => by
      obtain ⟨row, a, t, hr, _, _, e1, hl, _⟩ := D.at (show j < rows.length by omega)
      obtain ⟨a', b, e2, e3, hne, hl'⟩ := hk.2 j row hr
      rw [e1] at e2; cases e2
      rw [Array.getElem?_eq_getElem q1] at e1
      rw [Array.getElem?_eq_getElem q2] at e3
      rw [Option.some.inj e1, Option.some.inj e3]
      have := RcAt_ints (A := A.in1) (hl.keeps gs.k) (hl'.keeps gs.k) rfl hu1
      rw [beq_self_eq_true] at this
      exact EqAt.of_refs hne this
    rwa [show (!(List.range rowsV.size).all fun _ => true) = false by simp] at this
  refine sx_if (b := false) key fun s₁ g₁ => ?_
  rw [if_neg Bool.false_ne_true]
  exact sx_nil (h s₁ g₁)
end
end Mine
end

section
open PySem PySem.W PyProof.Rows PySem.SeqAt
set_option maxRecDepth 1000000
set_option linter.unusedVariables false
namespace Mine
variable {P : Params}

theorem Kept.keeps {h h' : Heap} {rowsV kV : Array Value} {rows : List (List Int)} (x : Kept h rowsV kV rows) (k : ∀ b o xs n, h.get? b = some o → o.data = .seq xs n → h'.get? b = some o) : Kept h' rowsV kV rows :=
  ⟨x.1, fun j row hj => by
    obtain ⟨a, b, e1, e2, hne, vs, ⟨o, e, hc, n, hd⟩, hi⟩ := x.2 j row hj
    exact ⟨a, b, e1, e2, hne, vs, ⟨o, k _ _ _ _ e hd, hc, n, hd⟩, hi⟩⟩
theorem isList_seq {h h' : Heap} {a : Addr} {xs : Array Value} (x : h.IsList a xs) (k : ∀ b o xs n, h.get? b = some o → o.data = .seq xs n → h'.get? b = some o) : h'.IsList a xs := by
  obtain ⟨o, e, hc, n, hd⟩ := x; exact ⟨o, k _ _ _ _ e hd, hc, n, hd⟩

abbrev Ko (s : Shared) (b : Addr) : Prop := b ≠ 51 ∧ ∃ o, s.heap.get? b = some o

section
variable {prog : Program} {w : World} {A : Around} {s s₁ : Shared} {L : Addr} {m : Str → Option Value}

theorem sxF_law {a : Addr} {xs : List Int} (B : Wf P s.heap) (hL : L = s.heap.objs.size) (g₁ : Gr [] s s₁) (hh : A.handled = none) (hA : A.depth < 790) (hu : A.units < cLine) (hu1 : A.in1.units < cLine)
    (hn₁ : s₁.heap.Ns L m) (hm : m (Str.ofString "script") = some (.ref a)) (ha : LI s.heap a xs) (hx : xs.length ≤ 1000) {v1 v2 v3 : Option Value} (hc1 : s₁.heap.IsCell (L + 1) v1) (hc2 : s₁.heap.IsCell (L + 2) v2) (hc3 : s₁.heap.IsCell (L + 3) v3) :
    SxF prog w A (execs (bodyOf (fn 83)) (env83 L)) s₁ (fun f s' => f = .ret (.bool true) ∧ Gk (Ko s) [] s s' ∧ Wf P s'.heap) := by
  have free : ∀ b : Nat, L ≤ b → s.heap.get? b = none := fun b hb => Heap.get?_none_of_le (by rw [← hL]; exact hb)
  have f0 : s.heap.get? L = none := free _ (Nat.le_refl _)
  have f1 : s.heap.get? (L + 1) = none := free _ (Nat.le_add_right _ _)
  have f2 : s.heap.get? (L + 2) = none := free _ (Nat.le_add_right _ _)
  have f3 : s.heap.get? (L + 3) = none := free _ (Nat.le_add_right _ _)
  have h51 : 51 < L := by obtain ⟨_, _, b, _⟩ := B.tab; rw [hL]; exact Heap.lt_size b.2
  have d0 : L ≠ 51 := Nat.ne_of_gt h51
  have d1 : L + 1 ≠ 51 := Nat.ne_of_gt (Nat.lt_succ_of_lt h51)
  have d2 : L + 2 ≠ 51 := Nat.ne_of_gt (Nat.lt_of_lt_of_le h51 (Nat.le_add_right _ _))
  have d3 : L + 3 ≠ 51 := Nat.ne_of_gt (Nat.lt_of_lt_of_le h51 (Nat.le_add_right _ _))
  have e01 : L + 1 ≠ L := Nat.ne_of_gt (Nat.lt_succ_self L)
  have e02 : L + 2 ≠ L := Nat.ne_of_gt (Nat.lt_add_of_pos_right (by decide))
  have e03 : L + 3 ≠ L := Nat.ne_of_gt (Nat.lt_add_of_pos_right (by decide))
  have e12 : L + 2 ≠ L + 1 := fun q => absurd (Nat.add_left_cancel q) (by decide)
  have e13 : L + 3 ≠ L + 1 := fun q => absurd (Nat.add_left_cancel q) (by decide)
  have one : ∀ {b c : Addr}, b ≠ c → b ∉ [c] := fun hne q => hne (List.mem_singleton.mp q)
  have cK : ∀ {s' s'' : Shared} {W : List Addr} {c : Addr} {v : Option Value}, Gr W s' s'' → c ∉ W → s'.heap.IsCell c v → s''.heap.IsCell c v := fun g hc ⟨o, e, r⟩ => ⟨o, g.keep _ _ hc e, r⟩
  have softL : ∀ {s' : Shared} {m' : Str → Option Value}, s'.heap.Ns L m' → ∀ b ∈ [L], s.heap.get? b = none ∧ Soft s'.heap b := fun {s' m'} hn' b hm => by
    rw [List.mem_singleton.mp hm]; exact ⟨f0, Soft.ns hn'⟩
  have seqL : ∀ {s' s'' : Shared} {m' : Str → Option Value}, s'.heap.Ns L m' → Gr [L] s' s'' → ∀ b o xs n, s'.heap.get? b = some o → o.data = .seq xs n → s''.heap.get? b = some o := fun {s' s'' m'} hn' g =>
    gr_seq g fun b hb => by rw [List.mem_singleton.mp hb]; exact ns_noseq hn'
  have gkL : ∀ {s' s'' : Shared} {W : List Addr}, Gk (Ko s) [] s s' → Gr W s' s'' → (∀ b ∈ W, s.heap.get? b = none) → Gk (Ko s) [] s s'' := fun k g hW => k.gr2 g fun b o hb e hm => by rw [hW b hm] at e; cases e
  have X₁ : Wf P s₁.heap := B.keeps g₁.k
  have k₁ : Gk (Ko s) [] s s₁ := Gk.of g₁ (fun _ _ => by simp) rfl
  rw [body83]
  refine sxF_cons (sxF_of (sx_law0 X₁.w hh (by omega) hn₁ hm (ha.keeps g₁.k) hx fun s₂ F ns g₂ hn₂ hF h7 => ?_))
  have X₂ : Wf P s₂.heap := Wf.butL B X₁ (softL hn₁) g₂.keep
  refine sxF_cons (sxF_of (sx_law1 X₂.w hh (by omega) hn₂ (if_pos rfl) hF h7 fun s₃ d td R rowsV rows long g₃ hn₃ D₃ => ?_))
  have X₃ : Wf P s₃.heap := Wf.butL B X₂ (softL hn₂) g₃.keep
  refine sxF_cons (sxF_of (sx_law2 (fun s' g' => (Wf.butL B X₃ (softL hn₃) g'.keep).w) hh hn₃ (if_pos rfl) D₃ fun s₄ K kV g₄ hn₄ hK hk => ?_))
  have X₄ : Wf P s₄.heap := Wf.butL B X₃ (softL hn₃) g₄.keep
  have D₄ : Rw s₄.heap R d rowsV rows long := D₃.keeps (seqL hn₃ g₄)
  have g₁₄ : Gr [L] s₁ s₄ := (g₂.trans g₃).trans g₄
  have k₄ : Gk (Ko s) [] s s₄ := gkL k₁ g₁₄ fun b hb => by rw [List.mem_singleton.mp hb]; exact f0
  have c1₄ := cK g₁₄ (one e01) hc1
  have c2₄ := cK g₁₄ (one e02) hc2
  have c3₄ := cK g₁₄ (one e03) hc3
  refine sxF_cons (sxF_law3 B f1 h51 X₄ hh hA hn₄ ((if_neg (by decide)).trans (if_pos rfl)) ((if_neg (by decide)).trans ((if_neg (by decide)).trans (if_pos rfl))) D₄ c1₄ fun s₅ T ys gk₅ X₅ hc₅ D₅ => ?_)
  have k₅ : Gk (Ko s) [] s s₅ := k₄.trans (gk₅.mono (fun b hb => ⟨hb.1, fun q => by obtain ⟨o, e⟩ := hb.2; rw [q, f1] at e; cases e⟩) (.inl rfl) (fun _ _ h => nomatch h))
  have seq₅ : ∀ b o xs n, s₄.heap.get? b = some o → o.data = .seq xs n → s₅.heap.get? b = some o := fun b o xs n e hd => gk₅.keep b o ⟨X₄.ne51d e (fun vs q => by rw [hd] at q; cases q), fun q => cell_noseq c1₄ o xs n (q ▸ e) hd⟩ e
  have hn₅ : s₅.heap.Ns L _ := hn₄.at' fun o e => gk₅.keep L o ⟨d0, Ne.symm e01⟩ e
  have c2₅ : s₅.heap.IsCell (L + 2) v2 := by obtain ⟨o, e, r⟩ := c2₄; exact ⟨o, gk₅.keep _ o ⟨d2, e12⟩ e, r⟩
  have c3₅ : s₅.heap.IsCell (L + 3) v3 := by obtain ⟨o, e, r⟩ := c3₄; exact ⟨o, gk₅.keep _ o ⟨d3, e13⟩ e, r⟩
  refine sxF_cons (sxF_of (sx_law4 X₅.w hu hu1 hn₅ ((if_neg (by decide)).trans (if_pos rfl)) (if_pos rfl) (isList_seq hK seq₅) (hk.keeps seq₅) D₅ hc₅ fun s₆ g₆ => ?_))
  have X₆ : Wf P s₆.heap := X₅.keeps g₆.k
  have D₆ : Dat s₆.heap R T d rowsV ys rows long := D₅.keeps fun b o _ _ e _ => g₆.k b o e
  have hn₆ : s₆.heap.Ns L _ := hn₅.keeps g₆.k
  have c1₆ : s₆.heap.IsCell (L + 1) (some (.ref T)) := hc₅.keeps g₆.k
  have c2₆ : s₆.heap.IsCell (L + 2) v2 := c2₅.keeps g₆.k
  have c3₆ : s₆.heap.IsCell (L + 3) v3 := c3₅.keeps g₆.k
  have mem3 : ∀ {b : Addr}, b ∈ [L, L + 2, L + 3] → b = L ∨ b = L + 2 ∨ b = L + 3 := fun hb => by simpa using hb
  have soft₆ : ∀ b ∈ [L, L + 2, L + 3], s.heap.get? b = none ∧ Soft s₆.heap b := fun b hb => by
    rcases mem3 hb with q | q | q <;> rw [q]
    · exact ⟨f0, Soft.ns hn₆⟩
    · exact ⟨f2, Soft.cell c2₆⟩
    · exact ⟨f3, Soft.cell c3₆⟩
  have at₆ : ∀ s', Gr [L, L + 2, L + 3] s₆ s' → Wf P s'.heap ∧ Dat s'.heap R T d rowsV ys rows long := fun s' g' => ⟨Wf.butL B X₆ soft₆ g'.keep, D₆.keeps (gr_seq g' fun b hb => by
    rcases mem3 hb with q | q | q <;> rw [q]
    · exact ns_noseq hn₆
    · exact cell_noseq c2₆
    · exact cell_noseq c3₆)⟩
  refine sxF_cons (sxF_of (sx_lawK (fun s' g' => ⟨(at₆ s' g').1.w, (at₆ s' g').2⟩) hh (by omega) hn₆ ((if_neg (by decide)).trans (if_pos rfl)) ((if_neg (by decide)).trans ((if_neg (by decide)).trans (if_pos rfl))) c1₆ c2₆ c3₆ fun s₇ m₇ g₇ hn₇ hm₇ hc2₇ hc3₇ => ?_))
  obtain ⟨X₇, D₇⟩ := at₆ s₇ g₇
  have k₇ : Gk (Ko s) [] s s₇ := gkL (gkL k₅ g₆ fun _ h => nomatch h) g₇ fun b hb => (soft₆ b hb).1
  have c1₇ : s₇.heap.IsCell (L + 1) (some (.ref T)) := cK g₇ (fun hb => by rcases mem3 hb with q | q | q; exact e01 q; exact e12 q.symm; exact e13 q.symm) c1₆
  have r₇ : m₇ (Str.ofString "rows") = some (.ref R) := (hm₇ _ (by decide)).trans ((if_neg (by decide)).trans (if_pos rfl))
  have de₇ : m₇ (Str.ofString "depth") = some (.int d td) := (hm₇ _ (by decide)).trans ((if_neg (by decide)).trans ((if_neg (by decide)).trans (if_pos rfl)))
  refine sxF_cons (sxF_lawF B (fun b o hb e => k₇.keep b o ⟨hb, o, e⟩ e) f0 h51 X₇ hh hA hu D₇ hn₇ r₇ de₇ c1₇ fun s₈ m₈ gk₈ X₈ hn₈ hm₈ => ?_)
  have k₈ : Gk (Ko s) [] s s₈ := k₇.trans (gk₈.mono (fun b hb => ⟨hb.1, fun q => by obtain ⟨o, e⟩ := hb.2; rw [q, f0] at e; cases e⟩) (.inl rfl) (fun _ _ h => nomatch h))
  have D₈ : Dat s₈.heap R T d rowsV ys rows long := D₇.gk (P := P) (hs := s.heap) X₇ hn₇ gk₈ fun b o a c e => ⟨a, c⟩
  have c1₈ : s₈.heap.IsCell (L + 1) (some (.ref T)) := by obtain ⟨o, e, r⟩ := c1₇; exact ⟨o, gk₈.keep _ o ⟨d1, e01⟩ e, r⟩
  refine sxF_cons (sxF_of (sx_lawO (P := P) (fun s' g' => ⟨(Wf.butL B X₈ (softL hn₈) g'.keep).w, D₈.keeps (seqL hn₈ g')⟩) hh hu hn₈ ((hm₈ _ (by decide)).trans r₇) c1₈ fun s₉ g₉ => ?_))
  refine sxF_cons (sxF_of (sx_return (P := IsB true) px_bool fun v s₁₀ g₁₀ e => ?_))
  subst e
  exact ⟨rfl, gkL (gkL k₈ g₉ fun b hb => by rw [List.mem_singleton.mp hb]; exact f0) g₁₀ (fun _ h => nomatch h), (Wf.butL B X₈ (softL hn₈) g₉.keep).keeps g₁₀.k⟩
end
end Mine
end

section
open PySem PySem.W PyProof.Rows PySem.SeqAt
set_option maxRecDepth 1000000
set_option linter.unusedVariables false
namespace Mine
theorem wf_start {P : Params} {p : Program} {loose : List Str} {mean : ExcName → Option Value} {mg mb : Str → Option Value} {h : Heap} (T : Top p loose mean mg mb h) (K : (hd.heap_39 P).In h) (h51 : h.get? 51 = some (tabObj #[])) : Wf P h where
  w := ⟨K, ⟨mb, T.b, T.builtins⟩, T.nolimit⟩
  m := let ⟨bm, ob, M⟩ := bmod_of_top T; ⟨mg, bm, ob, M⟩
  tab := ⟨#[], ⟨_, _, _, _, _, _, _, _, _, _, K 55 _ rfl, rfl, rfl, rfl, rfl, rfl, rfl, h51, rfl, trivial, by decide⟩, ⟨⟨_, _, K 55 _ rfl, rfl, rfl, rfl⟩, h51⟩, .inl rfl, .inl rfl⟩

theorem oldK_of {P : Params} {s s' : Shared} (B : Wf P s.heap) (h51 : s.heap.get? 51 = some (tabObj #[])) (k : Gk (Ko s) [] s s') (X : Wf P s'.heap) : OldK s.heap s'.heap := by
  obtain ⟨ps, _, t, _⟩ := B.tab
  obtain ⟨ps', _, t', _⟩ := X.tab
  refine ⟨fun b o e => ?_, fun b o e => ?_⟩
  · by_cases hb : b = 51
    · rw [hb] at e ⊢
      rw [h51] at e
      cases e
      exact .inr (.inl ⟨t.isCodeTable, rfl, #[], ps', rfl, by rw [t'.2]; simp⟩)
    · exact .inl (k.keep b o ⟨hb, o, e⟩ e)
  · by_cases hb : b = 51
    · rw [hb]; exact ⟨_, t'.2⟩
    · exact ⟨o, k.keep b o ⟨hb, o, e⟩ e⟩

theorem allBare_gk {Kp : Addr → Prop} {s s' : Shared} (k : Gk Kp [] s s') (hg : s.gens = #[]) : AllBare s'.gens := fun y hy => by
  obtain ⟨i, hi, e⟩ := Array.mem_iff_getElem.mp hy
  exact k.bare i y (by rw [Array.getElem?_eq_getElem hi, e]) (.inr (by rw [hg]; exact Nat.zero_le _))

variable {P : Params}
theorem fn83 {h} (X : Wd P h) : h.get? 83 = some { cls := .type "function", data := .func (fn 83) } := X.K 83 _ rfl
theorem code83 {h} (X : Wd P h) : h.CodeRec (fn 83).code (fn 83).qualname := ⟨_, _, _, _, rfl, X.K 82 _ rfl, rfl, rfl⟩
theorem bind83 (r : Value) : bindArgs (fn 83) ⟨[r], []⟩ = pure [(Str.ofString "script", r)] := by rfl
theorem gm_law : gm P (Str.ofString "law") = some (.ref 83) := by rfl

/-- the call of law -/
theorem wpF_law {prog : Program} {w : World} {s : Shared} {a : Addr} {xs : List Int} {Q E : Value → Shared → Prop} (B : Wf P s.heap) (ha : LI s.heap a xs) (hx : xs.length ≤ 1000)
    (h : ∀ s', Gk (Ko s) [] s s' → Wf P s'.heap → Q (.bool true) s') : wpF (model prog w) callerA (call (.ref 83) [.ref a]) Q E s := by
  refine wpF_call_cells (by decide) (fn83 B.w) rfl B.w.lim (code83 B.w) (body := bodyOf (fn 83)) rfl (bind83 _) rfl (fun x hx => .inl (by simp at hx; subst hx; rfl)) fun s₁ x => ?_
  have g₁ : Gr [] s s₁ := by
    obtain ⟨h', tk, rfl, hk⟩ := x.done
    exact .heap0 hk
  intro E
  refine wpF_mono (sxF_law (L := s.heap.objs.size) B rfl g₁ rfl (show (302 : Nat) < 790 by decide) (show (7 : Nat) < 9900 by decide) (show (8 : Nat) < 9900 by decide) x.toInCall.ns rfl ha hx (x.cell (Str.ofString "told") (s.heap.objs.size + 1) rfl) (x.cell (Str.ofString "k") (s.heap.objs.size + 2) rfl) (x.cell (Str.ofString "many") (s.heap.objs.size + 3) rfl) E) (fun f s' q => ?_) fun _ _ e => e
  obtain ⟨rfl, k, X⟩ := q
  exact h s' k X

theorem fin0 : PySem.Challenge.rw_ax6023_01.Holds := hd (by
  intro w s₀ s₁ mg mb G Y fa o pm cd doc dV kV ho hdd hcd hD hmg hg args vals as hpre hlay hrd hwl hlo
  clear hdd hcd hD ho
  have K := km_in_of Y
  have h51 : s₁.heap.get? 51 = some (tabObj #[]) := km_tabs_of Y 51 (by simp)
  have T := G.T
  clear G Y
  have B : Wf w.params s₁.heap := wf_start T K h51
  replace hmg : mg (Str.ofString "law") = some (.ref fa) := hmg
  have e := T.g.agree (g_ns K) (Str.ofString "law")
  rw [hmg, gm_law] at e
  cases e
  clear hmg T K
  wrow_args hpre hlay hrd hwl hlo
  rename IntsAre _ _ => hI
  rename Heap.IsList _ _ _ => hL
  rename ¬ _ < _ => hc
  refine wpF_law B ⟨_, hL, hI⟩ (by omega) fun s' k X => ?_
  exact ⟨.inl ⟨_, _, [], rfl, fun _ => rfl, ReadsW.bool true, by wrow_post, fun _ => ⟨List.nodup_nil, fun _ hm => (nomatch hm)⟩⟩, oldK_of B h51 k X, k.os, allBare_gk k hg⟩)
end Mine
end

theorem PySem.Challenge.cw_ax6023_01_holds : PySem.Challenge.rw_ax6023_01.Holds :=
  Mine.fin0
