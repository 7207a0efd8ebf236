import PyProof.Rows.All
import Wide.All
import OpenK.AllK
import Wide.FinOn
import PySem.Challenge.RW_pk0014_01

set_option Elab.async false

section
open PySem PySem.W PyProof.Rows
namespace Mine

theorem stays_refl (h : Heap) : h.StaysIn h := fun _ _ e => e
theorem stays_trans {a b c : Heap} (x : a.StaysIn b) (y : b.StaysIn c) : a.StaysIn c := fun b o e => y b o (x b o e)
theorem keeps_refl (s : Shared) : Keeps s s := ⟨s.heap, s.toks, rfl, fun _ _ e => e⟩
theorem keeps_tok (s : Shared) (t : Nat) : Keeps s { s with toks := t } := ⟨s.heap, t, rfl, fun _ _ e => e⟩
theorem keeps_trans {a b c : Shared} (x : Keeps a b) (y : Keeps b c) : Keeps a c := by
  obtain ⟨h, t, rfl, k⟩ := x
  obtain ⟨h', t', rfl, k'⟩ := y
  exact ⟨h', t', rfl, fun b o e => k' b o (k b o e)⟩
theorem keeps_stays {s s' : Shared} (x : Keeps s s') : s.heap.StaysIn s'.heap := by
  obtain ⟨h, t, rfl, k⟩ := x
  exact k
theorem keeps_push (s : Shared) (o : Obj) : Keeps s { s with heap := s.heap.push o } := ⟨_, s.toks, rfl, fun _ _ e => Heap.get?_push_of_some _ e⟩

/-- from every state whose heap has grown out of h the tree ends in P and the heap only grows -/
structure Ev (prog : Program) (w : World) {α : Type} (A : Around) (h : Heap) (t : Sem α) (P : α → Heap → Prop) : Prop where
  go : ∀ s : Shared, h.StaysIn s.heap → wpAny (model prog w) A t (fun a s' => P a s'.heap ∧ Keeps s s') (fun _ _ => False) s

abbrev IsI (n : Int) : Value → Heap → Prop := fun v _ => ∃ t, v = .int n t
abbrev IsB (b : Bool) : Value → Heap → Prop := fun v _ => v = .bool b
abbrev IsS (x : Str) : Value → Heap → Prop := fun v _ => ∃ t, v = .str x t
abbrev IsY (x : Array UInt8) : Value → Heap → Prop := fun v _ => ∃ t, v = .bytes x t
abbrev IsV (x : Value) : Value → Heap → Prop := fun v _ => v = x
abbrev IsTrue (b : Bool) : Bool → Heap → Prop := fun v _ => v = b

section core
variable {prog : Program} {w : World} {A : Around} {h : Heap} {env : Env}

theorem Ev.pure {α : Type} {a : α} {P : α → Heap → Prop} (hp : ∀ h', h.StaysIn h' → P a h') : Ev prog w A h (Pure.pure a) P :=
  Ev.mk fun s hs => wpAny_pure ⟨hp _ hs, keeps_refl s⟩
theorem Ev.mono {α : Type} {t : Sem α} {P : α → Heap → Prop} {h' : Heap} (x : Ev prog w A h t P) (k : h.StaysIn h') : Ev prog w A h' t P :=
  Ev.mk fun s hs => x.go s (stays_trans k hs)
theorem Ev.weak {α : Type} {t : Sem α} {P Q : α → Heap → Prop} (x : Ev prog w A h t P) (k : ∀ a h', h.StaysIn h' → P a h' → Q a h') : Ev prog w A h t Q :=
  Ev.mk fun s hs => wpAny_mono (x.go s hs) (fun a s' y => ⟨k a _ (stays_trans hs (keeps_stays y.2)) y.1, y.2⟩) fun _ _ e => e
theorem Ev.bind {α β : Type} {t : Sem α} {f : α → Sem β} {P : α → Heap → Prop} {Q : β → Heap → Prop} (x : Ev prog w A h t P)
    (k : ∀ a h', h.StaysIn h' → P a h' → Ev prog w A h' (f a) Q) : Ev prog w A h (t >>= f) Q :=
  Ev.mk fun s hs => wpAny_bind (wpAny_mono (x.go s hs) (fun a s' y => wpAny_mono ((k a s'.heap (stays_trans hs (keeps_stays y.2)) y.1).go s' (stays_refl _))
    (fun _ _ z => ⟨z.1, keeps_trans y.2 z.2⟩) fun _ _ e => e) fun _ _ e => e)
theorem Ev.holding {α : Type} {vs : List Value} {t : Sem α} {P : α → Heap → Prop} (x : Ev prog w A h t P) : Ev prog w A h (holding vs t) P :=
  Ev.mk fun s hs => wpAny_holding (x.go s hs)
theorem Ev.at {α : Type} {p : Pos} {f : Unit → Sem α} {P : α → Heap → Prop} (x : Ev prog w A h (f ()) P) : Ev prog w A h (standAt p >>= f) P :=
  Ev.mk fun s hs => wpAny_bind (wpAny_standAt (x.go s hs))
/-- from a state to the judgement's use in CPS -/
theorem Ev.run {α : Type} {t : Sem α} {P : α → Heap → Prop} {s : Shared} {Q : α → Shared → Prop} {E : Value → Shared → Prop} (x : Ev prog w A h t P) (hs : h.StaysIn s.heap)
    (k : ∀ a s', P a s'.heap → Keeps s s' → Q a s') : wpAny (model prog w) A t Q E s :=
  wpAny_mono (x.go s hs) (fun a s' y => k a s' y.1 y.2) fun _ _ e => e.elim

/-! names -/
theorem Ev.name_local {x : Str} {pos : Pos} {m : Str → Option Value} {v : Value} (hn : h.Ns env.locals m) (hv : m x = some v)
    (hk : env.scope.kind = .function := by rfl) (hl : env.kindOf x = some .local := by rfl) (hd : (x == ("__debug__" : Str)) = false := by decide) :
    Ev prog w A h (eval (.Name x pos) env) (IsV v) :=
  Ev.mk fun s hs => wpAny_Name (wpAny_loadName_local hk hl (hn.keeps hs) hv ⟨rfl, keeps_refl s⟩) hd
theorem Ev.name_cell {x : Str} {pos : Pos} {c : Addr} {v : Value} (hc : env.cells.lookup x = some c) (hv : h.IsCell c (some v))
    (hk : env.scope.kind = .function := by rfl) (hl : env.kindOf x = some .cell := by rfl) (hd : (x == ("__debug__" : Str)) = false := by decide) :
    Ev prog w A h (eval (.Name x pos) env) (IsV v) :=
  Ev.mk fun s hs => wpAny_Name (wpAny_loadName_cell hk hl hc (hv.keeps hs) ⟨rfl, keeps_refl s⟩) hd
theorem Ev.name_global {x : Str} {pos : Pos} {mg : Str → Option Value} {v : Value} (hg : h.Ns mainGlobals mg) (hv : mg x = some v) (he : env.globals = mainGlobals := by rfl)
    (hk : env.scope.kind = .function := by rfl) (hl : env.kindOf x = some .globalImplicit := by rfl) (hd : (x == ("__debug__" : Str)) = false := by decide) :
    Ev prog w A h (eval (.Name x pos) env) (IsV v) :=
  Ev.mk fun s hs => Calls.Name_function_global hk hl (Calls.loadGlobal_global (by rw [he]; exact hg.keeps hs) hv ⟨rfl, keeps_refl s⟩) hd
theorem Ev.name_builtin {x : Str} {pos : Pos} {mg mb : Str → Option Value} {v : Value} (hg : h.Ns mainGlobals mg) (hv : mg x = none) (hb : h.Ns builtinsNs mb) (hvb : mb x = some v)
    (he : env.globals = mainGlobals := by rfl) (heb : env.builtins = builtinsNs := by rfl)
    (hk : env.scope.kind = .function := by rfl) (hl : env.kindOf x = some .globalImplicit := by rfl) (hd : (x == ("__debug__" : Str)) = false := by decide) :
    Ev prog w A h (eval (.Name x pos) env) (IsV v) :=
  Ev.mk fun s hs => Calls.Name_function_global hk hl (Calls.loadGlobal_builtin (by rw [he]; exact hg.keeps hs) hv (by rw [heb]; exact hb.keeps hs) hvb ⟨rfl, keeps_refl s⟩) hd

/-! constants -/
theorem Ev.int {i : Int} {k pos} : Ev prog w A h (eval (.Constant (.int i) k pos) env) (IsI i) :=
  Ev.mk fun s _ => wpAny_Constant_int ⟨⟨_, rfl⟩, keeps_tok s _⟩
theorem Ev.bool {b : Bool} {k pos} : Ev prog w A h (eval (.Constant (.bool b) k pos) env) (IsB b) :=
  Ev.mk fun s _ => wpAny_pure ⟨rfl, keeps_refl s⟩
theorem Ev.str {x : Str} {k pos} : Ev prog w A h (eval (.Constant (.str x) k pos) env) (IsS x) :=
  Ev.mk fun s _ => wpAny_mkText ⟨⟨_, rfl⟩, keeps_tok s _⟩

/-! two values -/
theorem Ev.binop {l r : Expr} {op : Operator} {pos : Pos} {P : Value → Heap → Prop} {R : Value → Value → Heap → Prop} {Q : Value → Heap → Prop}
    (hl : Ev prog w A h (eval l env) P) (hr : ∀ a h', h.StaysIn h' → P a h' → Ev prog w A h' (eval r env) (R a))
    (ho : ∀ a b h', h.StaysIn h' → R a b h' → Ev prog w A h' (binaryOp op a b) Q) : Ev prog w A h (eval (.BinOp l op r pos) env) Q := Ev.mk fun s hs => by
  refine wpAny_BinOp (Ev.run hl hs fun a s₁ hp k₁ => Ev.run (hr a s₁.heap (stays_trans hs (keeps_stays k₁)) hp) (stays_refl _) fun b s₂ hr k₂ => ?_)
  exact Ev.run (ho a b s₂.heap (stays_trans hs (keeps_stays (keeps_trans k₁ k₂))) hr) (stays_refl _) fun v s₃ q k₃ => ⟨q, keeps_trans (keeps_trans k₁ k₂) k₃⟩
theorem Ev.int2 {l r : Expr} {op : Operator} {pos : Pos} {a b : Int} {Q : Value → Heap → Prop} (hl : Ev prog w A h (eval l env) (IsI a)) (hr : Ev prog w A h (eval r env) (IsI b))
    (ho : ∀ t u h', h.StaysIn h' → Ev prog w A h' (binaryOp op (.int a t) (.int b u)) Q) : Ev prog w A h (eval (.BinOp l op r pos) env) Q :=
  Ev.binop hl (R := fun x y _ => (∃ t, x = .int a t) ∧ ∃ u, y = .int b u) (fun x h' k hx => (hr.mono k).weak fun y _ _ hy => ⟨hx, hy⟩)
    fun x y h' k hxy => by obtain ⟨⟨t, rfl⟩, u, rfl⟩ := hxy; exact ho t u h' k
theorem Ev.add {l r : Expr} {pos : Pos} {a b : Int} (hl : Ev prog w A h (eval l env) (IsI a)) (hr : Ev prog w A h (eval r env) (IsI b)) : Ev prog w A h (eval (.BinOp l .Add r pos) env) (IsI (a + b)) :=
  Ev.int2 hl hr fun _ _ _ _ => Ev.mk fun s _ => wpAny_add_int ⟨⟨_, rfl⟩, keeps_tok s _⟩
theorem Ev.sub {l r : Expr} {pos : Pos} {a b : Int} (hl : Ev prog w A h (eval l env) (IsI a)) (hr : Ev prog w A h (eval r env) (IsI b)) : Ev prog w A h (eval (.BinOp l .Sub r pos) env) (IsI (a - b)) :=
  Ev.int2 hl hr fun _ _ _ _ => Ev.mk fun s _ => PyProof.Rows.sub_int ⟨⟨_, rfl⟩, keeps_tok s _⟩
theorem Ev.mul {l r : Expr} {pos : Pos} {a b : Int} (hm : IntMulOk a b) (hl : Ev prog w A h (eval l env) (IsI a)) (hr : Ev prog w A h (eval r env) (IsI b)) : Ev prog w A h (eval (.BinOp l .Mult r pos) env) (IsI (a * b)) :=
  Ev.int2 hl hr fun _ _ _ _ => Ev.mk fun s _ => PyProof.Rows.mul_int ⟨⟨_, rfl⟩, keeps_tok s _⟩ hm
theorem Ev.fdiv {l r : Expr} {pos : Pos} {a b : Int} (hb : b ≠ 0) (hs : b.natAbs < 1073741824) (hl : Ev prog w A h (eval l env) (IsI a)) (hr : Ev prog w A h (eval r env) (IsI b)) : Ev prog w A h (eval (.BinOp l .FloorDiv r pos) env) (IsI (a.fdiv b)) :=
  Ev.int2 hl hr fun _ _ _ _ => Ev.mk fun s _ => PyProof.Rows.floordiv_int hb ⟨⟨_, rfl⟩, keeps_tok s _⟩ (Or.inl (PyProof.noPylong_small hs))
theorem Ev.fmod {l r : Expr} {pos : Pos} {a b : Int} (hb : b ≠ 0) (hl : Ev prog w A h (eval l env) (IsI a)) (hr : Ev prog w A h (eval r env) (IsI b)) : Ev prog w A h (eval (.BinOp l .Mod r pos) env) (IsI (a.fmod b)) :=
  Ev.int2 hl hr fun _ _ _ _ => Ev.mk fun s _ => PyProof.Rows.mod_int' hb ⟨⟨_, rfl⟩, keeps_tok s _⟩
theorem Ev.shr {l r : Expr} {pos : Pos} {a b : Int} (hb : 0 ≤ b) (hl : Ev prog w A h (eval l env) (IsI a)) (hr : Ev prog w A h (eval r env) (IsI b)) : Ev prog w A h (eval (.BinOp l .RShift r pos) env) (IsI (a.fdiv (2 ^ b.toNat))) :=
  Ev.int2 hl hr fun _ _ _ _ => Ev.mk fun s _ => PyProof.Rows.rshift_int hb ⟨⟨_, rfl⟩, keeps_tok s _⟩
theorem Ev.band {l r : Expr} {pos : Pos} {a b : Int} (hl : Ev prog w A h (eval l env) (IsI a)) (hr : Ev prog w A h (eval r env) (IsI b)) : Ev prog w A h (eval (.BinOp l .BitAnd r pos) env) (IsI (Builtin.bitAnd a b)) :=
  Ev.int2 hl hr fun _ _ _ _ => Ev.mk fun s _ => PyProof.Rows.and_int ⟨⟨_, rfl⟩, keeps_tok s _⟩

/-! comparisons -/
theorem Ev.operate {vs : List Value} {t : Sem Value} {P : Value → Heap → Prop} (x : Ev prog w A h t P) : Ev prog w A h (operate vs t) P :=
  Ev.mk fun s hs => fun Γ p hΓ => by rw [Sem.wp_operate]; exact x.go s hs Γ p hΓ
theorem Ev.cmp1 {l r : Expr} {op : CmpOp} {pos : Pos} {P : Value → Heap → Prop} {R : Value → Value → Heap → Prop} {Q : Value → Heap → Prop}
    (hl : Ev prog w A h (eval l env) P) (hr : ∀ a h', h.StaysIn h' → P a h' → Ev prog w A h' (eval r env) (R a))
    (ho : ∀ a b h', h.StaysIn h' → R a b h' → Ev prog w A h' (compareOp op a b) Q) (hm : behindInMarks op r = false := by rfl) :
    Ev prog w A h (eval (.Compare l [op] [r] pos) env) Q := Ev.mk fun s hs => by
  refine wpAny_Compare1 (Ev.run hl hs fun a s₁ hp k₁ => Ev.run (hr a s₁.heap (stays_trans hs (keeps_stays k₁)) hp) (stays_refl _) fun b s₂ hr k₂ => ?_) hm
  exact Ev.run (ho a b s₂.heap (stays_trans hs (keeps_stays (keeps_trans k₁ k₂))) hr) (stays_refl _) fun v s₃ q k₃ => ⟨q, keeps_trans (keeps_trans k₁ k₂) k₃⟩
theorem Ev.cmpI {l r : Expr} {op : CmpOp} {pos : Pos} {a b : Int} {Q : Value → Heap → Prop} (hl : Ev prog w A h (eval l env) (IsI a)) (hr : Ev prog w A h (eval r env) (IsI b))
    (ho : ∀ t u h', Ev prog w A h' (compareOp op (.int a t) (.int b u)) Q) (hm : behindInMarks op r = false := by rfl) : Ev prog w A h (eval (.Compare l [op] [r] pos) env) Q :=
  Ev.cmp1 hl (R := fun x y _ => (∃ t, x = .int a t) ∧ ∃ u, y = .int b u) (fun x h' k hx => (hr.mono k).weak fun y _ _ hy => ⟨hx, hy⟩)
    (fun x y h' k hxy => by obtain ⟨⟨t, rfl⟩, u, rfl⟩ := hxy; exact ho t u h') hm
theorem Ev.opLe {a b : Int} {t u : Tok} : Ev prog w A h (compareOp .LtE (.int a t) (.int b u)) (IsB (decide (a ≤ b))) := Ev.mk fun s _ => PyProof.Rows.le_int ⟨rfl, keeps_refl s⟩
theorem Ev.opLt {a b : Int} {t u : Tok} : Ev prog w A h (compareOp .Lt (.int a t) (.int b u)) (IsB (decide (a < b))) := Ev.mk fun s _ => PyProof.Rows.lt_int ⟨rfl, keeps_refl s⟩
theorem Ev.opGt {a b : Int} {t u : Tok} : Ev prog w A h (compareOp .Gt (.int a t) (.int b u)) (IsB (decide (b < a))) := Ev.mk fun s _ => PyProof.Rows.gt_int ⟨rfl, keeps_refl s⟩
theorem Ev.opGe {a b : Int} {t u : Tok} : Ev prog w A h (compareOp .GtE (.int a t) (.int b u)) (IsB (decide (b ≤ a))) := Ev.mk fun s _ => PyProof.Rows.ge_int ⟨rfl, keeps_refl s⟩
theorem Ev.opEq {a b : Int} {t u : Tok} : Ev prog w A h (compareOp .Eq (.int a t) (.int b u)) (IsB (a == b)) := Ev.mk fun s _ => PyProof.Rows.eq_int ⟨rfl, keeps_refl s⟩
theorem Ev.opNe {a b : Int} {t u : Tok} : Ev prog w A h (compareOp .NotEq (.int a t) (.int b u)) (IsB (a != b)) := Ev.mk fun s _ => PyProof.Rows.ne_int ⟨rfl, keeps_refl s⟩
theorem Ev.truthyB {b : Bool} : Ev prog w A h (truthy (.bool b)) (IsTrue b) := Ev.mk fun s _ => wpAny_truthy_bool ⟨rfl, keeps_refl s⟩
theorem Ev.truthyI {n : Int} {t : Tok} : Ev prog w A h (truthy (.int n t)) (IsTrue (n != 0)) := Ev.mk fun s _ => PyProof.Rows.truthy_int ⟨rfl, keeps_refl s⟩

/-- a chain of two comparisons of ints -/
theorem Ev.cmpII {l r r' : Expr} {op op' : CmpOp} {pos : Pos} {a b c : Int} {p q : Bool} (hl : Ev prog w A h (eval l env) (IsI a)) (hr : Ev prog w A h (eval r env) (IsI b)) (hr' : Ev prog w A h (eval r' env) (IsI c))
    (ho : ∀ t u h', Ev prog w A h' (compareOp op (.int a t) (.int b u)) (IsB p)) (ho' : ∀ t u h', Ev prog w A h' (compareOp op' (.int b t) (.int c u)) (IsB q))
    (hm : markedEach [op, op'] [r, r'] (evalEach [r, r'] env) = [eval r env, eval r' env] := by rfl) :
    Ev prog w A h (eval (.Compare l [op, op'] [r, r'] pos) env) (IsB (p && q)) := by
  show Ev prog w A h (eval l env >>= fun v => compareChain pos v [op, op'] (markedEach [op, op'] [r, r'] (evalEach [r, r'] env))) _
  rw [hm]
  refine Ev.bind hl fun x h₁ k₁ hx => ?_
  obtain ⟨t, rfl⟩ := hx
  show Ev prog w A h₁ (PySem.holding [_] (eval r env) >>= fun rv => standAt pos >>= fun _ => PySem.holding [_, rv] (compareOp op _ rv) >>= fun c => release [_, rv] [c] >>= fun _ => PySem.holding [c, rv] (truthy c) >>= fun tt => if tt = true then compareChain pos rv [op'] [eval r' env] else Pure.pure c) _
  refine Ev.bind (Ev.holding (hr.mono k₁)) fun y h₂ k₂ hy => Ev.at ?_
  obtain ⟨u, rfl⟩ := hy
  refine Ev.bind (Ev.holding (ho t u h₂)) fun c₁ h₃ k₃ hc => ?_
  subst hc
  refine Ev.bind (P := fun _ _ => True) (Ev.mk fun s hs => ?_) fun _ h₄ k₄ _ => Ev.bind (Ev.holding Ev.truthyB) fun tt h₅ k₅ htt => ?_
  · intro Γ p' _
    rw [Sem.wp_release]
    exact ⟨trivial, keeps_refl s⟩
  · obtain rfl : tt = p := htt
    cases tt with
    | false => exact Ev.pure fun _ _ => rfl
    | true =>
      show Ev prog w A h₅ (PySem.holding [_] (eval r' env) >>= fun rv => standAt pos >>= fun _ => PySem.operate [_, rv] (compareOp op' _ rv)) _
      refine Ev.bind (Ev.holding (hr'.mono (stays_trans k₁ (stays_trans k₂ (stays_trans k₃ (stays_trans k₄ k₅)))))) fun z h₆ k₆ hz => Ev.at ?_
      obtain ⟨v, rfl⟩ := hz
      exact Ev.operate ((ho' u v h₆).weak fun _ _ _ e => by rw [e]; rfl)

/-! truth -/
theorem Ev.test_value {e : Expr} {b : Bool} {P : Value → Heap → Prop} (he : Ev prog w A h (eval e env) P) (ht : ∀ v h', h.StaysIn h' → P v h' → Ev prog w A h' (truthy v) (IsTrue b))
    (hi : isTrue e env (eval e env) = (do let v ← eval e env; standAt e.pos; PySem.holding [v] (truthy v)) := by rfl) : Ev prog w A h (isTrue e env (eval e env)) (IsTrue b) := by
  rw [hi]
  exact Ev.bind he fun v h' k hp => Ev.at (Ev.holding (ht v h' k hp))
theorem Ev.testB {e : Expr} {b : Bool} (he : Ev prog w A h (eval e env) (IsB b))
    (hi : isTrue e env (eval e env) = (do let v ← eval e env; standAt e.pos; PySem.holding [v] (truthy v)) := by rfl) : Ev prog w A h (isTrue e env (eval e env)) (IsTrue b) :=
  Ev.test_value he (fun v h' _ hv => by obtain rfl := hv; exact Ev.truthyB) hi
theorem Ev.testI {e : Expr} {n : Int} (he : Ev prog w A h (eval e env) (IsI n))
    (hi : isTrue e env (eval e env) = (do let v ← eval e env; standAt e.pos; PySem.holding [v] (truthy v)) := by rfl) : Ev prog w A h (isTrue e env (eval e env)) (IsTrue (n != 0)) :=
  Ev.test_value he (fun v h' _ hv => by obtain ⟨t, rfl⟩ := hv; exact Ev.truthyI) hi
/-- a test that is one comparison: as its value -/
theorem Ev.test_cmp1 {l r : Expr} {op : CmpOp} {pos : Pos} {whole : Sem Value} {P : Value → Heap → Prop} {R : Value → Value → Heap → Prop} {b : Bool}
    (hl : Ev prog w A h (eval l env) P) (hr : ∀ a h', h.StaysIn h' → P a h' → Ev prog w A h' (eval r env) (R a))
    (ho : ∀ a b' h', h.StaysIn h' → R a b' h' → Ev prog w A h' (compareOp op a b') (IsB b)) (hm : behindInMarks op r = false := by rfl) :
    Ev prog w A h (isTrue (.Compare l [op] [r] pos) env whole) (IsTrue b) := Ev.mk fun s hs => by
  refine wpAny_isTrue_Compare1 (Ev.run hl hs fun a s₁ hp k₁ => Ev.run (hr a s₁.heap (stays_trans hs (keeps_stays k₁)) hp) (stays_refl _) fun b' s₂ hr k₂ => ?_) hm
  refine Ev.run (ho a b' s₂.heap (stays_trans hs (keeps_stays (keeps_trans k₁ k₂))) hr) (stays_refl _) fun v s₃ q k₃ => ?_
  obtain rfl := q
  exact wpAny_truthy_bool ⟨rfl, keeps_trans (keeps_trans k₁ k₂) k₃⟩
theorem Ev.test_cmpI {l r : Expr} {op : CmpOp} {pos : Pos} {whole : Sem Value} {a b : Int} {p : Bool} (hl : Ev prog w A h (eval l env) (IsI a)) (hr : Ev prog w A h (eval r env) (IsI b))
    (ho : ∀ t u h', Ev prog w A h' (compareOp op (.int a t) (.int b u)) (IsB p)) (hm : behindInMarks op r = false := by rfl) : Ev prog w A h (isTrue (.Compare l [op] [r] pos) env whole) (IsTrue p) :=
  Ev.test_cmp1 hl (R := fun x y _ => (∃ t, x = .int a t) ∧ ∃ u, y = .int b u) (fun x h' k hx => (hr.mono k).weak fun y _ _ hy => ⟨hx, hy⟩)
    (fun x y h' k hxy => by obtain ⟨⟨t, rfl⟩, u, rfl⟩ := hxy; exact ho t u h') hm
theorem Ev.test_not {e : Expr} {pos : Pos} {whole : Sem Value} {b : Bool} (he : Ev prog w A h (isTrue e env (eval e env)) (IsTrue b)) : Ev prog w A h (isTrue (.UnaryOp .Not e pos) env whole) (IsTrue (!b)) :=
  Ev.mk fun s hs => wpAny_isTrue_Not (Ev.run he hs fun _ _ q k => ⟨by rw [q], k⟩)
theorem Ev.all_nil : Ev prog w A h (allTrue .And [] env) (IsTrue true) := Ev.mk fun s _ => wpAny_allTrue_And_nil ⟨rfl, keeps_refl s⟩
theorem Ev.any_nil : Ev prog w A h (allTrue .Or [] env) (IsTrue false) := Ev.mk fun s _ => wpAny_allTrue_Or_nil ⟨rfl, keeps_refl s⟩
theorem Ev.all_cons {e : Expr} {es : List Expr} {a b : Bool} (he : Ev prog w A h (isTrue e env (eval e env)) (IsTrue a)) (hr : a = true → ∀ h', h.StaysIn h' → Ev prog w A h' (allTrue .And es env) (IsTrue b)) :
    Ev prog w A h (allTrue .And (e :: es) env) (IsTrue (a && b)) := Ev.mk fun s hs => wpAny_allTrue_And_cons (Ev.run he hs fun v s₁ q k => by
  obtain rfl : v = a := q
  cases v with
  | false => exact ⟨rfl, k⟩
  | true => exact Ev.run (hr rfl s₁.heap (stays_trans hs (keeps_stays k))) (stays_refl _) fun v s₂ q k₂ => ⟨q, keeps_trans k k₂⟩)
theorem Ev.any_cons {e : Expr} {es : List Expr} {a b : Bool} (he : Ev prog w A h (isTrue e env (eval e env)) (IsTrue a)) (hr : a = false → ∀ h', h.StaysIn h' → Ev prog w A h' (allTrue .Or es env) (IsTrue b)) :
    Ev prog w A h (allTrue .Or (e :: es) env) (IsTrue (a || b)) := Ev.mk fun s hs => wpAny_allTrue_Or_cons (Ev.run he hs fun v s₁ q k => by
  obtain rfl : v = a := q
  cases v with
  | true => exact ⟨rfl, k⟩
  | false => exact Ev.run (hr rfl s₁.heap (stays_trans hs (keeps_stays k))) (stays_refl _) fun v s₂ q k₂ => ⟨q, keeps_trans k k₂⟩)
theorem Ev.test_bool {op : BoolOp} {es : List Expr} {pos : Pos} {whole : Sem Value} {b : Bool} (he : Ev prog w A h (allTrue op es env) (IsTrue b)) : Ev prog w A h (isTrue (.BoolOp op es pos) env whole) (IsTrue b) :=
  Ev.mk fun s hs => wpAny_isTrue_BoolOp (he.go s hs)

/-! and, or, not on bools as values -/
theorem Ev.or_cons {pos : Pos} {x y : Sem Value} {ys : List (Sem Value)} {a b : Bool} (hx : Ev prog w A h x (IsB a)) (hy : ∀ h', h.StaysIn h' → Ev prog w A h' (boolOp pos .Or (y :: ys)) (IsB b)) :
    Ev prog w A h (boolOp pos .Or (x :: y :: ys)) (IsB (a || b)) := by
  show Ev prog w A h (x >>= fun v => standAt pos >>= fun _ => PySem.holding [v] (truthy v) >>= fun t => match BoolOp.Or, t with | .And, false | .Or, true => Pure.pure v | _, _ => boolOp pos .Or (y :: ys)) _
  refine Ev.bind hx fun v h₁ k₁ hv => Ev.at ?_
  obtain rfl := hv
  refine Ev.bind (Ev.holding Ev.truthyB) fun t h₂ k₂ ht => ?_
  obtain rfl : t = a := ht
  cases t with
  | true => exact Ev.pure fun _ _ => rfl
  | false => exact (hy h₂ (stays_trans k₁ k₂)).weak fun _ _ _ e => e
theorem Ev.and_cons {pos : Pos} {x y : Sem Value} {ys : List (Sem Value)} {a b : Bool} (hx : Ev prog w A h x (IsB a)) (hy : ∀ h', h.StaysIn h' → Ev prog w A h' (boolOp pos .And (y :: ys)) (IsB b)) :
    Ev prog w A h (boolOp pos .And (x :: y :: ys)) (IsB (a && b)) := by
  show Ev prog w A h (x >>= fun v => standAt pos >>= fun _ => PySem.holding [v] (truthy v) >>= fun t => match BoolOp.And, t with | .And, false | .Or, true => Pure.pure v | _, _ => boolOp pos .And (y :: ys)) _
  refine Ev.bind hx fun v h₁ k₁ hv => Ev.at ?_
  obtain rfl := hv
  refine Ev.bind (Ev.holding Ev.truthyB) fun t h₂ k₂ ht => ?_
  obtain rfl : t = a := ht
  cases t with
  | false => exact Ev.pure fun _ _ => rfl
  | true => exact (hy h₂ (stays_trans k₁ k₂)).weak fun _ _ _ e => e
theorem Ev.or2 {x y : Expr} {pos : Pos} {a b : Bool} (hx : Ev prog w A h (eval x env) (IsB a)) (hy : Ev prog w A h (eval y env) (IsB b)) : Ev prog w A h (eval (.BoolOp .Or [x, y] pos) env) (IsB (a || b)) :=
  Ev.or_cons (y := eval y env) (ys := []) hx fun _ k => hy.mono k
theorem Ev.or3 {x y z : Expr} {pos : Pos} {a b c : Bool} (hx : Ev prog w A h (eval x env) (IsB a)) (hy : Ev prog w A h (eval y env) (IsB b)) (hz : Ev prog w A h (eval z env) (IsB c)) : Ev prog w A h (eval (.BoolOp .Or [x, y, z] pos) env) (IsB (a || (b || c))) :=
  Ev.or_cons (y := eval y env) (ys := [eval z env]) hx fun _ k => Ev.or_cons (y := eval z env) (ys := []) (hy.mono k) fun _ k' => hz.mono (stays_trans k k')
theorem Ev.and2 {x y : Expr} {pos : Pos} {a b : Bool} (hx : Ev prog w A h (eval x env) (IsB a)) (hy : Ev prog w A h (eval y env) (IsB b)) : Ev prog w A h (eval (.BoolOp .And [x, y] pos) env) (IsB (a && b)) :=
  Ev.and_cons (y := eval y env) (ys := []) hx fun _ k => hy.mono k

/-! conditional expression -/
theorem Ev.ifexp {t x y : Expr} {pos : Pos} {b : Bool} {P : Value → Heap → Prop} (ht : Ev prog w A h (isTrue t env (eval t env)) (IsTrue b)) (hx : b = true → Ev prog w A h (eval x env) P) (hy : b = false → Ev prog w A h (eval y env) P) :
    Ev prog w A h (eval (.IfExp t x y pos) env) P := Ev.mk fun s hs => wpAny_IfExp (Ev.run ht hs fun v s₁ q k => by
  obtain rfl : v = b := q
  cases v with
  | true => exact Ev.run (hx rfl) (stays_trans hs (keeps_stays k)) fun v s₂ q k₂ => ⟨q, keeps_trans k k₂⟩
  | false => exact Ev.run (hy rfl) (stays_trans hs (keeps_stays k)) fun v s₂ q k₂ => ⟨q, keeps_trans k k₂⟩)

/-! calls by a name -/
theorem Ev.args1 {f : Value} {e : Expr} {pos : Pos} {P : Value → Heap → Prop} (he : Ev prog w A h (eval e env) P) (hs : backTo pos (starEach [e] env) = [(false, eval e env)] := by rfl) :
    Ev prog w A h (evalArgs f true (backTo pos (starEach [e] env)) []) (fun a h' => ∃ v, a = ⟨[v], []⟩ ∧ P v h') := Ev.mk fun s hss => by
  rw [hs]
  exact Calls.evalArgs_plain (Calls.spliced_cons (Ev.run he hss fun v s₁ p k => Calls.spliced_nil ⟨⟨v, rfl, p⟩, k⟩))
theorem Ev.args2 {f : Value} {e e' : Expr} {pos : Pos} {P : Value → Heap → Prop} {R : Value → Value → Heap → Prop} (he : Ev prog w A h (eval e env) P) (he' : ∀ v h', h.StaysIn h' → P v h' → Ev prog w A h' (eval e' env) (R v))
    (hs : backTo pos (starEach [e, e'] env) = [(false, eval e env), (false, eval e' env)] := by rfl) :
    Ev prog w A h (evalArgs f true (backTo pos (starEach [e, e'] env)) []) (fun a h' => ∃ v u, a = ⟨[v, u], []⟩ ∧ R v u h') := Ev.mk fun s hss => by
  rw [hs]
  exact Calls.evalArgs_plain (Calls.spliced_cons (Ev.run he hss fun v s₁ p k => Calls.spliced_cons (Ev.run (he' v s₁.heap (stays_trans hss (keeps_stays k)) p) (stays_refl _) fun u s₂ r k₂ => Calls.spliced_nil ⟨⟨v, u, rfl, r⟩, keeps_trans k k₂⟩)))
theorem Ev.args3 {f : Value} {e e' e'' : Expr} {pos : Pos} {P : Value → Heap → Prop} {R : Value → Value → Heap → Prop} {T : Value → Value → Value → Heap → Prop} (he : Ev prog w A h (eval e env) P) (he' : ∀ v h', h.StaysIn h' → P v h' → Ev prog w A h' (eval e' env) (R v))
    (he'' : ∀ v u h', h.StaysIn h' → R v u h' → Ev prog w A h' (eval e'' env) (T v u))
    (hs : backTo pos (starEach [e, e', e''] env) = [(false, eval e env), (false, eval e' env), (false, eval e'' env)] := by rfl) :
    Ev prog w A h (evalArgs f true (backTo pos (starEach [e, e', e''] env)) []) (fun a h' => ∃ v u x, a = ⟨[v, u, x], []⟩ ∧ T v u x h') := Ev.mk fun s hss => by
  rw [hs]
  exact Calls.evalArgs_plain (Calls.spliced_cons (Ev.run he hss fun v s₁ p k => Calls.spliced_cons (Ev.run (he' v s₁.heap (stays_trans hss (keeps_stays k)) p) (stays_refl _) fun u s₂ r k₂ =>
    Calls.spliced_cons (Ev.run (he'' v u s₂.heap (stays_trans hss (keeps_stays (keeps_trans k k₂))) r) (stays_refl _) fun x s₃ q k₃ => Calls.spliced_nil ⟨⟨v, u, x, rfl, q⟩, keeps_trans (keeps_trans k k₂) k₃⟩))))
theorem Ev.call_builtin {x : Str} {p pos : Pos} {es : List Expr} {id : String} {P : Args → Heap → Prop} {Q : Value → Heap → Prop} (hn : Ev prog w A h (eval (.Name x p) env) (IsV (.builtin id)))
    (ha : Ev prog w A h (evalArgs (.builtin id) true (backTo pos (starEach es env)) []) P) (hc : ∀ a h', h.StaysIn h' → P a h' → Ev prog w A h' (call (.builtin id) a.pos a.kw) Q) (hp : (backTo pos (starEach es env)).any (·.1) = false := by rfl) :
    Ev prog w A h (eval (.Call (.Name x p) es [] pos) env) Q := Ev.mk fun s hs => by
  show wpAny _ _ (do callWith pos (← eval (.Name x p) env) [] (backTo pos (starEach es env)) (backToKw pos (keywordEach [] env))) _ _ s
  refine wpAny_bind (Ev.run hn hs fun f s₁ hf k₁ => ?_)
  obtain rfl := hf
  refine Calls.callWith_builtin hp (Ev.run ha (stays_trans hs (keeps_stays k₁)) fun a s₂ pa k₂ => ?_)
  exact Ev.run (hc a s₂.heap (stays_trans hs (keeps_stays (keeps_trans k₁ k₂))) pa) (stays_refl _) fun v s₃ q k₃ => ⟨q, keeps_trans (keeps_trans k₁ k₂) k₃⟩
theorem Ev.call_type {x : Str} {p pos : Pos} {es : List Expr} {id : String} {P : Args → Heap → Prop} {Q : Value → Heap → Prop} (hn : Ev prog w A h (eval (.Name x p) env) (IsV (.type id)))
    (ha : Ev prog w A h (evalArgs (.type id) true (backTo pos (starEach es env)) []) P) (hc : ∀ a h', h.StaysIn h' → P a h' → Ev prog w A h' (call (.type id) a.pos a.kw) Q) (hp : (backTo pos (starEach es env)).any (·.1) = false := by rfl) :
    Ev prog w A h (eval (.Call (.Name x p) es [] pos) env) Q := Ev.mk fun s hs => by
  show wpAny _ _ (do callWith pos (← eval (.Name x p) env) [] (backTo pos (starEach es env)) (backToKw pos (keywordEach [] env))) _ _ s
  refine wpAny_bind (Ev.run hn hs fun f s₁ hf k₁ => ?_)
  obtain rfl := hf
  refine PyProof.Rows.callWith_type hp (Ev.run ha (stays_trans hs (keeps_stays k₁)) fun a s₂ pa k₂ => ?_)
  exact Ev.run (hc a s₂.heap (stays_trans hs (keeps_stays (keeps_trans k₁ k₂))) pa) (stays_refl _) fun v s₃ q k₃ => ⟨q, keeps_trans (keeps_trans k₁ k₂) k₃⟩
/-- the call of a def that stands at a -/
theorem Ev.call_ref {x : Str} {p pos : Pos} {es : List Expr} {a : Addr} {o : Obj} {fd : FuncData} {P : Args → Heap → Prop} {Q : Value → Heap → Prop} (ho : h.get? a = some o) (hd : o.data = .func fd)
    (hn : Ev prog w A h (eval (.Name x p) env) (IsV (.ref a)))
    (ha : Ev prog w A h (evalArgs (.ref a) true (backTo pos (starEach es env)) []) P) (hc : ∀ a' h', h.StaysIn h' → P a' h' → Ev prog w A h' (call (.ref a) a'.pos a'.kw) Q) :
    Ev prog w A h (eval (.Call (.Name x p) es [] pos) env) Q := Ev.mk fun s hs => by
  show wpAny _ _ (do callWith pos (← eval (.Name x p) env) [] (backTo pos (starEach es env)) (backToKw pos (keywordEach [] env))) _ _ s
  refine wpAny_bind (Ev.run hn hs fun f s₁ hf k₁ => ?_)
  obtain rfl := hf
  refine Calls.callWith_function (o := o) (fd := fd) (Ev.run ha (stays_trans hs (keeps_stays k₁)) fun a' s₂ pa k₂ => ⟨⟨(stays_trans hs (keeps_stays (keeps_trans k₁ k₂))) _ _ ho, hd⟩, ?_⟩)
  exact Ev.run (hc a' s₂.heap (stays_trans hs (keeps_stays (keeps_trans k₁ k₂))) pa) (stays_refl _) fun v s₃ q k₃ => ⟨q, keeps_trans (keeps_trans k₁ k₂) k₃⟩
end core
end Mine
end

section
open PySem PySem.W PyProof.Rows
namespace Mine

abbrev pw : Program := PySem.Challenge.pw_pk0014_01

def bnames : List Str := ["isinstance", "str", "ord", "chr", "len", "range", "bytearray", "bytes", "max", "min", "sum", "TypeError"]

/-- what every heap of the call holds: the text's names, its defs, the built-ins -/
structure Gd (mg mb : Str → Option Value) (h : Heap) : Prop where
  g : h.Ns mainGlobals mg
  b : h.Ns builtinsNs mb
  nolimit : h.NoLimit
  fn : ∀ d ∈ recsOf pw, ∃ a o pm code doc, mg d.name = some (.ref a) ∧ h.get? a = some o ∧ o.data = .func (Calls.docDef d.name d.params d.body d.scope pm code doc) ∧ h.CodeRec code d.name
  bi : ∀ x : Str, x ≠ "__name__" → mb x = bootBuiltins x
  free : ∀ x ∈ bnames, mg x = none
theorem Gd.keeps {mg mb : Str → Option Value} {h h' : Heap} (G : Gd mg mb h) (k : h.StaysIn h') : Gd mg mb h' where
  g := G.g.keeps k
  b := G.b.keeps k
  nolimit := G.nolimit.keeps k
  fn := fun d hd => let ⟨a, o, pm, code, doc, h1, h2, h3, h4⟩ := G.fn d hd; ⟨a, o, pm, code, doc, h1, k _ _ h2, h3, h4.keeps k⟩
  bi := G.bi
  free := G.free

def Room (k : Nat) (A : Around) : Prop := A.depth + k < recursionLimit ∧ A.units + 8 * k + 100 < cLine ∧ A.handled = none
theorem Room.deeper {k : Nat} {A : Around} (r : Room (k + 1) A) (env : Env) : Room k (A.deeper env) := by
  obtain ⟨a, b, c⟩ := r
  refine ⟨?_, ?_, c⟩
  · show A.depth + 1 + k < recursionLimit; omega
  · show A.units + 3 + 8 * k + 100 < cLine; omega
theorem Room.le {k k' : Nat} {A : Around} (r : Room k A) (h : k' ≤ k) : Room k' A := ⟨by have := r.1; omega, by have := r.2.1; omega, r.2.2⟩

section
variable (prog : Program) (w : World) (mg : Str → Option Value)
/-- the def of the name x, called with vs from a heap grown out of h, with k frames of room, gives back P -/
def Fn (x : Str) (vs : List Value) (h : Heap) (k : Nat) (P : Value → Heap → Prop) : Prop :=
  ∃ a o fd, mg x = some (.ref a) ∧ h.get? a = some o ∧ o.data = .func fd ∧ ∀ A, Room k A → Ev prog w A h (call (.ref a) vs) P
end

section
variable {prog : Program} {w : World} {mg mb : Str → Option Value} {A : Around} {h : Heap} {env : Env}

theorem Fn.of_body {name : Str} {params : Arguments} {body : List Stmt} {scope : Scope} {pos : Pos} {i : Nat} {vs : List Value} {binds : List (Str × Value)} {k : Nat} {P : Value → Heap → Prop}
    (G : Gd mg mb h) (hd : (recsOf pw)[i]? = some ⟨name, params, body, scope, pos⟩)
    (hx : ∀ (s : Shared) (h₁ : Heap) (A : Around) (L a : Addr) (cd : Value), Room k A → h.StaysIn s.heap → Fr s.heap L h₁ (fun x => binds.reverse.lookup x) →
      wpAny (model prog w) A (execs body (envOf name scope L a cd)) (fun f s' => P (match f with | .ret v => v | _ => .none) s'.heap ∧ Keeps s s') (fun _ _ => False) { s with heap := h₁, toks := s.toks + binds.length })
    (hbind : ∀ pm cd doc, bindArgs (Calls.docDef name params body scope pm cd doc) ⟨vs, []⟩ = pure binds)
    (hloc : ∀ x ∈ binds, scope.names.lookup x.1 = some .local)
    (hco : scope.isCoroutine = false := by rfl) (hgen : scope.isGenerator = false := by rfl) (hk : scope.kind = .function := by rfl)
    (hcell : ∀ x ∈ scope.names, x.2 ≠ .cell := by decide) : Fn prog w mg name vs h (k + 1) P := by
  obtain ⟨a, o, pm, cd, doc, h1, h2, h3, h4⟩ := G.fn _ (List.mem_of_getElem? hd)
  refine ⟨a, o, _, h1, h2, h3, fun A R => Ev.mk fun s hs => wpAny_call ?_⟩
  refine call_plain_ret (by have := R.1; omega) (hs _ _ h2) h3 ((G.nolimit).keeps hs) (h4.keeps hs) (hbind pm cd doc) hloc (fun h₁ F => ?_) hco hgen hk hcell
  exact wpAny_mono (hx s h₁ _ _ a cd (R.deeper _) hs F) (fun f s' y => y) fun _ _ e => e

/-- a def whose body is one return -/
theorem Fn.of_return {name : Str} {params : Arguments} {e : Expr} {scope : Scope} {rp pos : Pos} {i : Nat} {vs : List Value} {binds : List (Str × Value)} {k : Nat} {P : Value → Heap → Prop}
    (G : Gd mg mb h) (hd : (recsOf pw)[i]? = some ⟨name, params, [.Return (some e) rp], scope, pos⟩)
    (hx : ∀ (h' : Heap) (A : Around) (L a : Addr) (cd : Value), Room k A → h.StaysIn h' → Gd mg mb h' → h'.Ns L (fun x => binds.reverse.lookup x) → Ev prog w A h' (eval e (envOf name scope L a cd)) P)
    (hbind : ∀ pm cd doc, bindArgs (Calls.docDef name params [.Return (some e) rp] scope pm cd doc) ⟨vs, []⟩ = pure binds)
    (hloc : ∀ x ∈ binds, scope.names.lookup x.1 = some .local)
    (hco : scope.isCoroutine = false := by rfl) (hgen : scope.isGenerator = false := by rfl) (hk : scope.kind = .function := by rfl)
    (hcell : ∀ x ∈ scope.names, x.2 ≠ .cell := by decide) : Fn prog w mg name vs h (k + 1) P := by
  refine Fn.of_body G hd (fun s h₁ A L a cd R hs F => ?_) hbind hloc hco hgen hk hcell
  refine wpAny_execs_cons (wpAny_Return_some ?_)
  have k₁ : h.StaysIn h₁ := stays_trans hs F.keep
  refine Ev.run (hx h₁ A L a cd R k₁ (G.keeps k₁) F.ns) (stays_refl h₁) fun v s' p k => ⟨p, ?_⟩
  exact keeps_trans ⟨h₁, _, rfl, F.keep⟩ k

theorem Ev.call1 {x : Str} {p pos : Pos} {e : Expr} {k : Nat} {P Q : Value → Heap → Prop} (G : Gd mg mb h) (R : Room k A) (he : Ev prog w A h (eval e env) P) (hf : ∀ v h', h.StaysIn h' → P v h' → Fn prog w mg x [v] h' k Q)
    (hx : ∃ a o fd, mg x = some (.ref a) ∧ h.get? a = some o ∧ o.data = .func fd)
    (hg : env.globals = mainGlobals := by rfl)
    (hk : env.scope.kind = .function := by rfl) (hl : env.kindOf x = some .globalImplicit := by rfl) (hd : (x == ("__debug__" : Str)) = false := by decide)
    (hs : backTo pos (starEach [e] env) = [(false, eval e env)] := by rfl) : Ev prog w A h (eval (.Call (.Name x p) [e] [] pos) env) Q := by
  obtain ⟨a, o, fd, h1, h2, h3⟩ := hx
  refine Ev.call_ref h2 h3 (Ev.name_global G.g h1 hg hk hl hd) (Ev.args1 he hs) fun a' h' k' ha => ?_
  obtain ⟨v, rfl, hv⟩ := ha
  obtain ⟨a₂, o₂, fd₂, g1, g2, g3, g4⟩ := hf v h' k' hv
  rw [h1] at g1
  cases g1
  exact g4 A R

theorem Gd.at {name : Str} {params : Arguments} {body : List Stmt} {scope : Scope} {pos : Pos} {i : Nat} (G : Gd mg mb h) (hd : (recsOf pw)[i]? = some ⟨name, params, body, scope, pos⟩) : ∃ a o fd, mg name = some (.ref a) ∧ h.get? a = some o ∧ o.data = .func fd := by
  obtain ⟨a, o, pm, cd, doc, h1, h2, h3, h4⟩ := G.fn _ (List.mem_of_getElem? hd)
  exact ⟨a, o, _, h1, h2, h3⟩
theorem Ev.name_bi {x : Str} {pos : Pos} {v : Value} (G : Gd mg mb h) (hm : x ∈ bnames) (hv : bootBuiltins x = some v) (hn : x ≠ "__name__") (he : env.globals = mainGlobals := by rfl) (heb : env.builtins = builtinsNs := by rfl)
    (hk : env.scope.kind = .function := by rfl) (hl : env.kindOf x = some .globalImplicit := by rfl) (hd : (x == ("__debug__" : Str)) = false := by decide) :
    Ev prog w A h (eval (.Name x pos) env) (IsV v) :=
  Ev.name_builtin G.g (G.free x hm) G.b ((G.bi x hn).trans hv) he heb hk hl hd
end

/-- v is the code n, as a number or as a text of one sign -/
inductive CodeV : Value → Int → Prop
  | int (n : Int) (t : Tok) : CodeV (.int n t) n
  | str (c : Nat) (t : Tok) : CodeV (.str ⟨#[c]⟩ t) c

section
variable {prog : Program} {w : World} {mg mb : Str → Option Value} {A : Around} {h : Heap} {env : Env}

theorem ctoi_ok {v : Value} {n : Int} (G : Gd mg mb h) (hv : CodeV v n) : Fn prog w mg "_ctoi" [v] h 1 (IsI n) := by
  refine Fn.of_body (i := 0) (binds := [("c", v)]) (k := 0) G rfl (fun s h₁ A L a cd R hs F => ?_) (fun _ _ _ => rfl) (locs rfl)
  have G₁ := G.keeps (stays_trans hs F.keep)
  have up : Keeps s { s with heap := h₁, toks := s.toks + 1 } := ⟨h₁, _, rfl, F.keep⟩
  cases hv with
  | int n t =>
    refine wpAny_execs_cons (wpAny_If (Ev.run (h := h₁) (P := IsTrue false) (Ev.testB (Ev.call_builtin (Ev.name_bi G₁ (by decide) (by boot_fast) (by decide))
      (Ev.args2 (Ev.name_local F.ns rfl) fun _ _ k e => (Ev.name_bi (G₁.keeps k) (by decide) (by boot_fast) (by decide)).weak fun _ _ _ e' => And.intro e e') fun a h' k ha => ?_)) (stays_refl _) fun b s' hb k => ?_))
    · obtain ⟨_, _, rfl, rfl, rfl⟩ := ha
      exact Ev.mk fun s _ => IsiPair.int_str ⟨rfl, keeps_tok s _⟩
    · obtain rfl := hb
      refine wpAny_execs_cons (wpAny_Return_some (Ev.run (h := h₁) (P := IsV (.int n t)) (Ev.name_local F.ns rfl) (keeps_stays k) fun v s₂ hv k₂ => ?_))
      exact ⟨⟨t, hv⟩, keeps_trans up (keeps_trans k k₂)⟩
  | str c t =>
    refine wpAny_execs_cons (wpAny_If (Ev.run (h := h₁) (P := IsTrue true) (Ev.testB (Ev.call_builtin (Ev.name_bi G₁ (by decide) (by boot_fast) (by decide))
      (Ev.args2 (Ev.name_local F.ns rfl) fun _ _ k e => (Ev.name_bi (G₁.keeps k) (by decide) (by boot_fast) (by decide)).weak fun _ _ _ e' => And.intro e e') fun a h' k ha => ?_)) (stays_refl _) fun b s' hb k => ?_))
    · obtain ⟨_, _, rfl, rfl, rfl⟩ := ha
      exact Ev.mk fun s _ => IsiPair.str_str ⟨rfl, keeps_refl s⟩
    · obtain rfl := hb
      refine wpAny_execs_cons (wpAny_Return_some (Ev.run (h := h₁) (P := IsI c) (Ev.call_builtin (Ev.name_bi G₁ (by decide) (by boot_fast) (by decide)) (Ev.args1 (Ev.name_local F.ns rfl)) fun a h' k ha => ?_) (keeps_stays k) fun v s₂ hv k₂ => ?_))
      · obtain ⟨_, rfl, rfl⟩ := ha
        exact Ev.mk fun s _ => P.ord_of_char ⟨⟨_, rfl⟩, keeps_tok s _⟩
      · exact ⟨hv, keeps_trans up (keeps_trans k k₂)⟩

/-- the one call «_ctoi(c)» in a judge's body -/
theorem Ev.ctoi {v : Value} {n : Int} {p q pos : Pos} {m : Str → Option Value} (G : Gd mg mb h) (R : Room 1 A) (hv : CodeV v n) (hn : h.Ns env.locals m) (hm : m "c" = some v) (hg : env.globals = mainGlobals := by rfl)
    (hk : env.scope.kind = .function := by rfl) (hl : env.kindOf "_ctoi" = some .globalImplicit := by rfl) (hl' : env.kindOf "c" = some .local := by rfl) :
    Ev prog w A h (eval (.Call (.Name "_ctoi" p) [.Name "c" q] [] pos) env) (IsI n) :=
  Ev.call1 G R (Ev.name_local hn hm hk hl') (fun u h' k hu => by obtain rfl := hu; exact ctoi_ok (G.keeps k) hv) (G.at (i := 0) rfl) hg hk hl

end
end Mine
end

section
open PySem PySem.W PyProof.Rows
namespace Mine

abbrev IsIL (ns : List Int) : Value → Heap → Prop := fun v h => ∃ a vs, v = .ref a ∧ h.IsList a vs.toArray ∧ IntsAre vs ns
abbrev IsBL (bs : List Bool) : Value → Heap → Prop := fun v h => ∃ a, v = .ref a ∧ h.IsList a (bs.map Value.bool).toArray
abbrev IsIT (ns : List Int) : Value → Heap → Prop := fun v h => ∃ a vs, v = .ref a ∧ IsTup h a vs.toArray ∧ IntsAre vs ns
theorem isList_up {h h' : Heap} {a : Addr} {items : Array Value} (x : h.IsList a items) (k : h.StaysIn h') : h'.IsList a items :=
  let ⟨o, ho, r⟩ := x; ⟨o, k _ _ ho, r⟩
theorem isTup_up {h h' : Heap} {a : Addr} {items : Array Value} (x : IsTup h a items) (k : h.StaysIn h') : IsTup h' a items :=
  let ⟨o, ho, r⟩ := x; ⟨o, k _ _ ho, r⟩
theorem IsIL.up {h h' : Heap} {v : Value} {ns : List Int} (x : IsIL ns v h) (k : h.StaysIn h') : IsIL ns v h' :=
  let ⟨a, vs, e, l, i⟩ := x; ⟨a, vs, e, isList_up l k, i⟩
theorem IsBL.up {h h' : Heap} {v : Value} {bs : List Bool} (x : IsBL bs v h) (k : h.StaysIn h') : IsBL bs v h' :=
  let ⟨a, e, l⟩ := x; ⟨a, e, isList_up l k⟩

section
variable {prog : Program} {w : World} {mg mb : Str → Option Value} {A : Around} {h : Heap} {env : Env}

theorem Ev.spl_nil : Ev prog w A h (spliced []) (fun vs _ => vs = []) := Ev.mk fun s _ => Calls.spliced_nil ⟨rfl, keeps_refl s⟩
theorem Ev.spl_cons {x : Sem Value} {rest : List (Bool × Sem Value)} {P : Value → Heap → Prop} {R : Value → List Value → Heap → Prop} (hx : Ev prog w A h x P)
    (hr : ∀ v h', h.StaysIn h' → P v h' → Ev prog w A h' (spliced rest) (R v)) : Ev prog w A h (spliced ((false, x) :: rest)) (fun vs h' => ∃ v vs', vs = v :: vs' ∧ R v vs' h') := Ev.mk fun s hs =>
  Calls.spliced_cons (Ev.run hx hs fun v s₁ p k => Ev.run (hr v s₁.heap (stays_trans hs (keeps_stays k)) p) (stays_refl _) fun vs s₂ r k₂ => ⟨⟨v, vs, rfl, r⟩, keeps_trans k k₂⟩)
theorem Ev.spi_nil : Ev prog w A h (spliced []) (fun vs _ => IntsAre vs []) := Ev.spl_nil.weak fun _ _ _ e => e ▸ IntsAre.nil
theorem Ev.spi {x : Sem Value} {rest : List (Bool × Sem Value)} {n : Int} {ns : List Int} (hx : Ev prog w A h x (IsI n)) (hr : Ev prog w A h (spliced rest) (fun vs _ => IntsAre vs ns)) :
    Ev prog w A h (spliced ((false, x) :: rest)) (fun vs _ => IntsAre vs (n :: ns)) :=
  (Ev.spl_cons (R := fun v vs _ => (∃ t, v = .int n t) ∧ IntsAre vs ns) hx fun v h' k hv => (hr.mono k).weak fun _ _ _ e => ⟨hv, e⟩).weak fun vs _ _ e => by
    obtain ⟨v, vs', rfl, ⟨t, rfl⟩, i⟩ := e
    exact .cons n t i
theorem Ev.spb {x : Sem Value} {rest : List (Bool × Sem Value)} {n : Bool} {ns : List Bool} (hx : Ev prog w A h x (IsB n)) (hr : Ev prog w A h (spliced rest) (fun vs _ => vs = ns.map Value.bool)) :
    Ev prog w A h (spliced ((false, x) :: rest)) (fun vs _ => vs = (n :: ns).map Value.bool) :=
  (Ev.spl_cons (R := fun v vs _ => v = .bool n ∧ vs = ns.map Value.bool) hx fun v h' k hv => (hr.mono k).weak fun _ _ _ e => ⟨hv, e⟩).weak fun vs _ _ e => by
    obtain ⟨v, vs', rfl, rfl, rfl⟩ := e
    rfl
theorem Ev.spb_nil : Ev prog w A h (spliced []) (fun vs _ => vs = ([] : List Bool).map Value.bool) := Ev.spl_nil
theorem Ev.ei_nil {pos : Pos} : Ev prog w A h (spliced (backTo pos (starEach [] env))) (fun vs _ => IntsAre vs []) := Ev.spi_nil
theorem Ev.ei {pos : Pos} {e : Expr} {es : List Expr} {n : Int} {ns : List Int} (he : Ev prog w A h (eval e env) (IsI n)) (hr : Ev prog w A h (spliced (backTo pos (starEach es env))) (fun vs _ => IntsAre vs ns))
    (hs : starEach (e :: es) env = (false, eval e env) :: starEach es env := by rfl) : Ev prog w A h (spliced (backTo pos (starEach (e :: es) env))) (fun vs _ => IntsAre vs (n :: ns)) := by
  rw [hs]
  exact Ev.spi he hr
theorem Ev.eb_nil {pos : Pos} : Ev prog w A h (spliced (backTo pos (starEach [] env))) (fun vs _ => vs = ([] : List Bool).map Value.bool) := Ev.spb_nil
theorem Ev.eb {pos : Pos} {e : Expr} {es : List Expr} {n : Bool} {ns : List Bool} (he : Ev prog w A h (eval e env) (IsB n)) (hr : Ev prog w A h (spliced (backTo pos (starEach es env))) (fun vs _ => vs = ns.map Value.bool))
    (hs : starEach (e :: es) env = (false, eval e env) :: starEach es env := by rfl) : Ev prog w A h (spliced (backTo pos (starEach (e :: es) env))) (fun vs _ => vs = (n :: ns).map Value.bool) := by
  rw [hs]
  exact Ev.spb he hr
theorem Ev.newL {vs : List Value} {P : Value → Heap → Prop} (hl : vs.length ≤ sizeLine) (hp : ∀ a h', h.StaysIn h' → h'.IsList a vs.toArray → P (.ref a) h') : Ev prog w A h (newList vs) P := Ev.mk fun s hs =>
  wpAny_newObj_type ⟨hp _ _ (stays_trans hs (keeps_stays (keeps_push s _))) ⟨_, Heap.get?_push_size _ rfl, rfl, _, rfl⟩, keeps_push s _⟩ (by show vs.toArray.size ≤ sizeLine; rw [List.size_toArray]; exact hl)
theorem Ev.newT {vs : List Value} {P : Value → Heap → Prop} (hl : vs.length ≤ sizeLine) (hp : ∀ a h', h.StaysIn h' → IsTup h' a vs.toArray → P (.ref a) h') : Ev prog w A h (newTuple vs) P := Ev.mk fun s hs =>
  wpAny_newObj_type ⟨hp _ _ (stays_trans hs (keeps_stays (keeps_push s _))) ⟨_, Heap.get?_push_size _ rfl, rfl, _, rfl⟩, keeps_push s _⟩ (by show vs.toArray.size ≤ sizeLine; rw [List.size_toArray]; exact hl)
theorem small_ints {vs : List Value} {ns : List Int} (i : IntsAre vs ns) (hl : ns.length ≤ 100) : vs.length ≤ sizeLine := by
  rw [i.length]; exact Nat.le_trans hl (by decide)
theorem Ev.list_ints {elts : List Expr} {pos : Pos} {ns : List Int} (hl : ns.length ≤ 100) (hs : Ev prog w A h (spliced (backTo pos (starEach elts env))) (fun vs _ => IntsAre vs ns)) :
    Ev prog w A h (eval (.List elts pos) env) (IsIL ns) := by
  show Ev prog w A h (standAt pos >>= fun _ => spliced (backTo pos (starEach elts env)) >>= fun vs => newList vs) _
  exact Ev.at (Ev.bind hs fun vs h' k i => Ev.newL (small_ints i hl) fun a h₂ k₂ l => ⟨a, vs, rfl, l, i⟩)
theorem Ev.list_bools {elts : List Expr} {pos : Pos} {ns : List Bool} (hl : ns.length ≤ 100) (hs : Ev prog w A h (spliced (backTo pos (starEach elts env))) (fun vs _ => vs = ns.map Value.bool)) :
    Ev prog w A h (eval (.List elts pos) env) (IsBL ns) := by
  show Ev prog w A h (standAt pos >>= fun _ => spliced (backTo pos (starEach elts env)) >>= fun vs => newList vs) _
  exact Ev.at (Ev.bind hs fun vs h' k i => Ev.newL (by rw [i, List.length_map]; exact Nat.le_trans hl (by decide)) fun a h₂ k₂ l => ⟨a, rfl, i ▸ l⟩)
theorem Ev.tuple_ints {elts : List Expr} {k : Nat} {pos : Pos} {ns : List Int} (hl : ns.length ≤ 100) (hs : Ev prog w A h (spliced (backTo pos (starEach elts env))) (fun vs _ => IntsAre vs ns)) :
    Ev prog w A h (eval (.Tuple elts k pos) env) (IsIT ns) := by
  show Ev prog w A h (standAt pos >>= fun _ => spliced (backTo pos (starEach elts env)) >>= fun vs => newTuple vs) _
  exact Ev.at (Ev.bind hs fun vs h' k i => Ev.newT (small_ints i hl) fun a h₂ k₂ l => ⟨a, vs, rfl, l, i⟩)
theorem Ev.in_ints {l r : Expr} {pos : Pos} {a : Int} {ns : List Int} (hl : Ev prog w A h (eval l env) (IsI a)) (hr : Ev prog w A h (eval r env) (IsIT ns)) (hm : behindInMarks .In r = false := by rfl) :
    Ev prog w A h (eval (.Compare l [.In] [r] pos) env) (IsB (ns.any (· == a))) :=
  Ev.cmp1 hl (R := fun x y h' => (∃ t, x = .int a t) ∧ IsIT ns y h') (fun x h' k hx => (hr.mono k).weak fun y _ _ hy => ⟨hx, hy⟩)
    (fun x y h' k hxy => by
      obtain ⟨⟨t, rfl⟩, b, vs, rfl, tp, i⟩ := hxy
      exact Ev.mk fun s hs => in_tuple_ints (isTup_up tp hs) i ⟨rfl, keeps_refl s⟩) hm
theorem Ev.notB {e : Expr} {pos : Pos} {b : Bool} (he : Ev prog w A h (eval e env) (IsB b)) : Ev prog w A h (eval (.UnaryOp .Not e pos) env) (IsB (!b)) := by
  show Ev prog w A h (eval e env >>= fun v => standAt pos >>= fun _ => PySem.holding [v] (unaryOp .Not v)) _
  refine Ev.bind he fun v h' k hv => Ev.at (Ev.holding (Ev.mk fun s hs => ?_))
  obtain rfl := hv
  exact fun Γ p hΓ => ⟨rfl, keeps_refl s⟩
end

/-! the fifteen judges -/
def jalnum (n : Int) : Bool := (decide (65 ≤ n) && decide (n ≤ 90) || decide (97 ≤ n) && decide (n ≤ 122)) || decide (48 ≤ n) && decide (n ≤ 57)
def jalpha (n : Int) : Bool := decide (65 ≤ n) && decide (n ≤ 90) || decide (97 ≤ n) && decide (n ≤ 122)
def jascii (n : Int) : Bool := decide (0 ≤ n) && decide (n ≤ 127)
def jblank (n : Int) : Bool := [9, 32].any (· == n)
def jcntrl (n : Int) : Bool := decide (0 ≤ n) && decide (n ≤ 31) || n == 127
def jdigit (n : Int) : Bool := decide (48 ≤ n) && decide (n ≤ 57)
def jgraph (n : Int) : Bool := decide (33 ≤ n) && decide (n ≤ 126)
def jlower (n : Int) : Bool := decide (97 ≤ n) && decide (n ≤ 122)
def jprint (n : Int) : Bool := decide (32 ≤ n) && decide (n ≤ 126)
def jpunct (n : Int) : Bool := jgraph n && !jalnum n
def jspace (n : Int) : Bool := [9, 10, 11, 12, 13, 32].any (· == n)
def jupper (n : Int) : Bool := decide (65 ≤ n) && decide (n ≤ 90)
def jxdigit (n : Int) : Bool := jdigit n || (decide (65 ≤ n) && decide (n ≤ 70) || decide (97 ≤ n) && decide (n ≤ 102))
def jctrl (n : Int) : Bool := decide (0 ≤ n) && decide (n < 32)
def jmeta (n : Int) : Bool := decide (127 < n)

section
variable {prog : Program} {w : World} {mg mb : Str → Option Value} {A : Around} {h : Heap} {env : Env} {v : Value} {n : Int}
theorem jdigit_ok (G : Gd mg mb h) (hv : CodeV v n) : Fn prog w mg "isdigit" [v] h 2 (IsB (jdigit n)) :=
  Fn.of_return (i := 6) (binds := [("c", v)]) (k := 1) G rfl (fun _ _ _ _ _ R _ G' N => Ev.cmpII Ev.int (Ev.ctoi G' R hv N rfl) Ev.int (fun _ _ _ => Ev.opLe) fun _ _ _ => Ev.opLe) (fun _ _ _ => rfl) (locs rfl)
theorem jascii_ok (G : Gd mg mb h) (hv : CodeV v n) : Fn prog w mg "isascii" [v] h 2 (IsB (jascii n)) :=
  Fn.of_return (i := 3) (binds := [("c", v)]) (k := 1) G rfl (fun _ _ _ _ _ R _ G' N => Ev.cmpII Ev.int (Ev.ctoi G' R hv N rfl) Ev.int (fun _ _ _ => Ev.opLe) fun _ _ _ => Ev.opLe) (fun _ _ _ => rfl) (locs rfl)
theorem jgraph_ok (G : Gd mg mb h) (hv : CodeV v n) : Fn prog w mg "isgraph" [v] h 2 (IsB (jgraph n)) :=
  Fn.of_return (i := 7) (binds := [("c", v)]) (k := 1) G rfl (fun _ _ _ _ _ R _ G' N => Ev.cmpII Ev.int (Ev.ctoi G' R hv N rfl) Ev.int (fun _ _ _ => Ev.opLe) fun _ _ _ => Ev.opLe) (fun _ _ _ => rfl) (locs rfl)
theorem jlower_ok (G : Gd mg mb h) (hv : CodeV v n) : Fn prog w mg "islower" [v] h 2 (IsB (jlower n)) :=
  Fn.of_return (i := 8) (binds := [("c", v)]) (k := 1) G rfl (fun _ _ _ _ _ R _ G' N => Ev.cmpII Ev.int (Ev.ctoi G' R hv N rfl) Ev.int (fun _ _ _ => Ev.opLe) fun _ _ _ => Ev.opLe) (fun _ _ _ => rfl) (locs rfl)
theorem jprint_ok (G : Gd mg mb h) (hv : CodeV v n) : Fn prog w mg "isprint" [v] h 2 (IsB (jprint n)) :=
  Fn.of_return (i := 9) (binds := [("c", v)]) (k := 1) G rfl (fun _ _ _ _ _ R _ G' N => Ev.cmpII Ev.int (Ev.ctoi G' R hv N rfl) Ev.int (fun _ _ _ => Ev.opLe) fun _ _ _ => Ev.opLe) (fun _ _ _ => rfl) (locs rfl)
theorem jupper_ok (G : Gd mg mb h) (hv : CodeV v n) : Fn prog w mg "isupper" [v] h 2 (IsB (jupper n)) :=
  Fn.of_return (i := 12) (binds := [("c", v)]) (k := 1) G rfl (fun _ _ _ _ _ R _ G' N => Ev.cmpII Ev.int (Ev.ctoi G' R hv N rfl) Ev.int (fun _ _ _ => Ev.opLe) fun _ _ _ => Ev.opLe) (fun _ _ _ => rfl) (locs rfl)
theorem jctrl_ok (G : Gd mg mb h) (hv : CodeV v n) : Fn prog w mg "isctrl" [v] h 2 (IsB (jctrl n)) :=
  Fn.of_return (i := 14) (binds := [("c", v)]) (k := 1) G rfl (fun _ _ _ _ _ R _ G' N => Ev.cmpII Ev.int (Ev.ctoi G' R hv N rfl) Ev.int (fun _ _ _ => Ev.opLe) fun _ _ _ => Ev.opLt) (fun _ _ _ => rfl) (locs rfl)
theorem jmeta_ok (G : Gd mg mb h) (hv : CodeV v n) : Fn prog w mg "ismeta" [v] h 2 (IsB (jmeta n)) :=
  Fn.of_return (i := 15) (binds := [("c", v)]) (k := 1) G rfl (fun _ _ _ _ _ R _ G' N => Ev.cmpI (Ev.ctoi G' R hv N rfl) Ev.int fun _ _ _ => Ev.opGt) (fun _ _ _ => rfl) (locs rfl)
theorem jblank_ok (G : Gd mg mb h) (hv : CodeV v n) : Fn prog w mg "isblank" [v] h 2 (IsB (jblank n)) :=
  Fn.of_return (i := 4) (binds := [("c", v)]) (k := 1) G rfl (fun _ _ _ _ _ R _ G' N => Ev.in_ints (ns := [9, 32]) (Ev.ctoi G' R hv N rfl) (Ev.tuple_ints (by decide) (Ev.ei Ev.int (Ev.ei Ev.int Ev.ei_nil)))) (fun _ _ _ => rfl) (locs rfl)
theorem jspace_ok (G : Gd mg mb h) (hv : CodeV v n) : Fn prog w mg "isspace" [v] h 2 (IsB (jspace n)) :=
  Fn.of_return (i := 11) (binds := [("c", v)]) (k := 1) G rfl (fun _ _ _ _ _ R _ G' N => Ev.in_ints (ns := [9, 10, 11, 12, 13, 32]) (Ev.ctoi G' R hv N rfl) (Ev.tuple_ints (by decide) (Ev.ei Ev.int (Ev.ei Ev.int (Ev.ei Ev.int (Ev.ei Ev.int (Ev.ei Ev.int (Ev.ei Ev.int Ev.ei_nil)))))))) (fun _ _ _ => rfl) (locs rfl)
theorem jcntrl_ok (G : Gd mg mb h) (hv : CodeV v n) : Fn prog w mg "iscntrl" [v] h 2 (IsB (jcntrl n)) :=
  Fn.of_return (i := 5) (binds := [("c", v)]) (k := 1) G rfl (fun _ _ _ _ _ R _ G' N => Ev.or2 (Ev.cmpII Ev.int (Ev.ctoi G' R hv N rfl) Ev.int (fun _ _ _ => Ev.opLe) fun _ _ _ => Ev.opLe) (Ev.cmpI (Ev.ctoi G' R hv N rfl) Ev.int fun _ _ _ => Ev.opEq)) (fun _ _ _ => rfl) (locs rfl)

/-- a call of another judge upon c in a judge's body -/
theorem Ev.judge {x : Str} {b : Bool} {k i : Nat} {p q pos : Pos} {m : Str → Option Value} {params : Arguments} {body : List Stmt} {scope : Scope} {dp : Pos} (hd : (recsOf pw)[i]? = some ⟨x, params, body, scope, dp⟩) (G : Gd mg mb h) (R : Room k A)
    (hf : ∀ h', Gd mg mb h' → Fn prog w mg x [v] h' k (IsB b)) (hn : h.Ns env.locals m) (hm : m "c" = some v) (hg : env.globals = mainGlobals := by rfl)
    (hk : env.scope.kind = .function := by rfl) (hl : env.kindOf x = some .globalImplicit := by rfl) (hl' : env.kindOf "c" = some .local := by rfl) (hdb : (x == ("__debug__" : Str)) = false := by decide) :
    Ev prog w A h (eval (.Call (.Name x p) [.Name "c" q] [] pos) env) (IsB b) :=
  Ev.call1 G R (Ev.name_local hn hm hk hl') (fun u h' k hu => by obtain rfl := hu; exact hf h' (G.keeps k)) (G.at hd) hg hk hl hdb
theorem jalpha_ok (G : Gd mg mb h) (hv : CodeV v n) : Fn prog w mg "isalpha" [v] h 3 (IsB (jalpha n)) :=
  Fn.of_return (i := 2) (binds := [("c", v)]) (k := 2) G rfl (fun _ _ _ _ _ R _ G' N => Ev.or2 (Ev.judge (i := 12) rfl G' R (fun _ G => jupper_ok G hv) N rfl) (Ev.judge (i := 8) rfl G' R (fun _ G => jlower_ok G hv) N rfl)) (fun _ _ _ => rfl) (locs rfl)
theorem jalnum_ok (G : Gd mg mb h) (hv : CodeV v n) : Fn prog w mg "isalnum" [v] h 4 (IsB (jalnum n)) :=
  Fn.of_return (i := 1) (binds := [("c", v)]) (k := 3) G rfl (fun _ _ _ _ _ R _ G' N => Ev.or2 (Ev.judge (i := 2) rfl G' R (fun _ G => jalpha_ok G hv) N rfl) (Ev.judge (i := 6) rfl G' (R.le (by decide)) (fun _ G => jdigit_ok G hv) N rfl)) (fun _ _ _ => rfl) (locs rfl)
theorem jpunct_ok (G : Gd mg mb h) (hv : CodeV v n) : Fn prog w mg "ispunct" [v] h 5 (IsB (jpunct n)) :=
  Fn.of_return (i := 10) (binds := [("c", v)]) (k := 4) G rfl (fun _ _ _ _ _ R _ G' N => Ev.and2 (Ev.judge (i := 7) rfl G' (R.le (by decide)) (fun _ G => jgraph_ok G hv) N rfl) (Ev.notB (Ev.judge (i := 1) rfl G' R (fun _ G => jalnum_ok G hv) N rfl))) (fun _ _ _ => rfl) (locs rfl)
theorem jxdigit_ok (G : Gd mg mb h) (hv : CodeV v n) : Fn prog w mg "isxdigit" [v] h 3 (IsB (jxdigit n)) :=
  Fn.of_return (i := 13) (binds := [("c", v)]) (k := 2) G rfl (fun _ _ _ _ _ R _ G' N => Ev.or3 (Ev.judge (i := 6) rfl G' R (fun _ G => jdigit_ok G hv) N rfl) (Ev.cmpII Ev.int (Ev.ctoi G' (R.le (by decide)) hv N rfl) Ev.int (fun _ _ _ => Ev.opLe) fun _ _ _ => Ev.opLe)
    (Ev.cmpII Ev.int (Ev.ctoi G' (R.le (by decide)) hv N rfl) Ev.int (fun _ _ _ => Ev.opLe) fun _ _ _ => Ev.opLe)) (fun _ _ _ => rfl) (locs rfl)

def answers (n : Int) : List Bool := [jalnum n, jalpha n, jascii n, jblank n, jcntrl n, jdigit n, jgraph n, jlower n, jprint n, jpunct n, jspace n, jupper n, jxdigit n, jctrl n, jmeta n]
theorem answers_ok (G : Gd mg mb h) (hv : CodeV v n) : Fn prog w mg "_law_answers" [v] h 6 (IsBL (answers n)) :=
  Fn.of_return (i := 17) (binds := [("c", v)]) (k := 5) G rfl (fun _ _ _ _ _ R _ G' N => Ev.list_bools (ns := answers n) (Nat.le_of_ble_eq_true rfl)
    (Ev.eb (Ev.judge (i := 1) rfl G' (R.le (by decide)) (fun _ G => jalnum_ok G hv) N rfl)
    (Ev.eb (Ev.judge (i := 2) rfl G' (R.le (by decide)) (fun _ G => jalpha_ok G hv) N rfl)
    (Ev.eb (Ev.judge (i := 3) rfl G' (R.le (by decide)) (fun _ G => jascii_ok G hv) N rfl)
    (Ev.eb (Ev.judge (i := 4) rfl G' (R.le (by decide)) (fun _ G => jblank_ok G hv) N rfl)
    (Ev.eb (Ev.judge (i := 5) rfl G' (R.le (by decide)) (fun _ G => jcntrl_ok G hv) N rfl)
    (Ev.eb (Ev.judge (i := 6) rfl G' (R.le (by decide)) (fun _ G => jdigit_ok G hv) N rfl)
    (Ev.eb (Ev.judge (i := 7) rfl G' (R.le (by decide)) (fun _ G => jgraph_ok G hv) N rfl)
    (Ev.eb (Ev.judge (i := 8) rfl G' (R.le (by decide)) (fun _ G => jlower_ok G hv) N rfl)
    (Ev.eb (Ev.judge (i := 9) rfl G' (R.le (by decide)) (fun _ G => jprint_ok G hv) N rfl)
    (Ev.eb (Ev.judge (i := 10) rfl G' (R.le (by decide)) (fun _ G => jpunct_ok G hv) N rfl)
    (Ev.eb (Ev.judge (i := 11) rfl G' (R.le (by decide)) (fun _ G => jspace_ok G hv) N rfl)
    (Ev.eb (Ev.judge (i := 12) rfl G' (R.le (by decide)) (fun _ G => jupper_ok G hv) N rfl)
    (Ev.eb (Ev.judge (i := 13) rfl G' (R.le (by decide)) (fun _ G => jxdigit_ok G hv) N rfl)
    (Ev.eb (Ev.judge (i := 14) rfl G' (R.le (by decide)) (fun _ G => jctrl_ok G hv) N rfl)
    (Ev.eb (Ev.judge (i := 15) rfl G' (R.le (by decide)) (fun _ G => jmeta_ok G hv) N rfl) Ev.eb_nil)))))))))))))))) (fun _ _ _ => rfl) (locs rfl)
end
end Mine
end

section
open PySem PySem.W PyProof.Rows
namespace Mine

/-! iterables -/
/-- v can be walked: n items, the i-th one is told by P -/
def ItOk (prog : Program) (w : World) (A : Around) (h : Heap) (v : Value) (n : Nat) (P : Nat → Value → Prop) : Prop :=
  ∀ (s : Shared) (Q : Value → Shared → Prop) (E : Value → Shared → Prop), h.StaysIn s.heap →
    (∀ I fp St (s₂ : Shared), s.heap.get? I = none → Walks prog w A I fp [I] n P St → St 0 s₂.heap → (∀ b ∈ fp, b < s₂.heap.objs.size) → (∀ i h, St i h → ∃ o, h.get? I = some o) → (∀ b ∈ fp, b = I ∨ (v = .ref b ∧ ∃ o, h.get? b = some o ∧ ∃ xs n, o.data = .seq xs n)) → Keeps s s₂ → Q (.ref I) s₂) → wpAny (model prog w) A (pyIter v) Q E s
theorem fresh_size (h : Heap) : h.get? h.objs.size = none := by
  cases e : h.get? h.objs.size with
  | none => rfl
  | some o => exact absurd (Heap.lt_size e) (Nat.lt_irrefl _)
theorem not_of_stays {h h' : Heap} (k : h.StaysIn h') {a : Addr} (e : h'.get? a = none) : h.get? a = none := by
  cases q : h.get? a with
  | none => rfl
  | some o => rw [k _ _ q] at e; cases e

section
variable {prog : Program} {w : World} {mg mb : Str → Option Value} {A : Around} {h : Heap} {env : Env}

theorem ItOk.list {a : Addr} {items : Array Value} (hh : A.handled = none) (hl : h.IsList a items) : ItOk prog w A h (.ref a) items.size (fun i v => items[i]? = some v) := fun s Q E hs k => by
  have hl' := isList_up hl hs
  have hlt : a < s.heap.objs.size := by obtain ⟨_, e, _⟩ := hl'; exact Heap.lt_size e
  refine wpAny_pyIter_list hl' ?_
  refine k _ _ _ _ (fresh_size _) (Walks.list hh s.heap.objs.size a (Nat.ne_of_lt hlt) items) ⟨⟨_, Heap.get?_push_size _ rfl, rfl, rfl⟩, hl'.push _⟩ (fun b hb => ?_) (fun i h st => by obtain ⟨o, e, _⟩ := st.1; exact ⟨o, e⟩) (fun b hb => (List.mem_cons.mp hb).imp id fun q => ⟨congrArg Value.ref (List.mem_singleton.mp q).symm, (by rw [List.mem_singleton.mp q]; obtain ⟨o, ho, _, n, hd⟩ := hl; exact ⟨o, ho, _, n, hd⟩)⟩) (keeps_push s _)
  show b < (s.heap.push _).objs.size
  rw [Heap.size_push]
  rcases List.mem_cons.mp hb with rfl | hb
  · exact Nat.lt_succ_self _
  · rw [List.mem_singleton.mp hb]; exact Nat.lt_succ_of_lt hlt
theorem ItOk.tuple {a : Addr} {items : Array Value} (hh : A.handled = none) (hl : IsTup h a items) : ItOk prog w A h (.ref a) items.size (fun i v => items[i]? = some v) := fun s Q E hs k => by
  have hl' : s.heap.IsTuple a items := isTup_up hl hs
  have hlt : a < s.heap.objs.size := by obtain ⟨_, e, _⟩ := hl'; exact Heap.lt_size e
  refine wpAny_pyIter_tuple hl' ?_
  refine k _ _ _ _ (fresh_size _) (Walks.tuple hh s.heap.objs.size a (Nat.ne_of_lt hlt) items) ⟨⟨_, Heap.get?_push_size _ rfl, rfl, rfl⟩, isTup_up hl' (keeps_stays (keeps_push s _))⟩ (fun b hb => ?_) (fun i h st => by obtain ⟨o, e, _⟩ := st.1; exact ⟨o, e⟩) (fun b hb => (List.mem_cons.mp hb).imp id fun q => ⟨congrArg Value.ref (List.mem_singleton.mp q).symm, (by rw [List.mem_singleton.mp q]; obtain ⟨o, ho, _, n, hd⟩ := hl; exact ⟨o, ho, _, n, hd⟩)⟩) (keeps_push s _)
  show b < (s.heap.push _).objs.size
  rw [Heap.size_push]
  rcases List.mem_cons.mp hb with rfl | hb
  · exact Nat.lt_succ_self _
  · rw [List.mem_singleton.mp hb]; exact Nat.lt_succ_of_lt hlt
theorem ItOk.range {r : Addr} {a b c : Int} {t u v : Tok} {n : Nat} (hh : A.handled = none) (hr : IsRange h r a b c t u v) (hsm : Builtin.Range.small a b c = true) (hn : Builtin.Range.rangeSize a b c = ((n : Nat) : Int)) :
    ItOk prog w A h (.ref r) n (fun i x => ∃ t, x = .int (a + i * c) t) := fun s Q E hs k => by
  refine wpAny_pyIter_range (hs _ _ hr) hsm ?_
  refine k _ _ _ _ (fresh_size _) (Walks.range hh s.heap.objs.size a c n) (by rw [hn]; simpa using Heap.get?_push_size _ rfl) (fun b hb => ?_) (fun i h st => ⟨_, st⟩) (fun b hb => .inl (List.mem_singleton.mp hb)) (keeps_push s _)
  rw [List.mem_singleton.mp hb]
  show s.heap.objs.size < (s.heap.push _).objs.size
  rw [Heap.size_push]; exact Nat.lt_succ_self _
end

/-! comprehensions -/
/-- the pieces that a loop may turn -/
abbrev Off (X I D : Addr) : Addr → Prop := fun b => b = X ∨ b = I ∨ b = D

inductive All2 {α β : Type} (R : α → β → Prop) : List α → List β → Prop
  | nil : All2 R [] []
  | cons {a b l₁ l₂} : R a b → All2 R l₁ l₂ → All2 R (a :: l₁) (b :: l₂)
theorem All2.mono {α β : Type} {R R' : α → β → Prop} (f : ∀ a b, R a b → R' a b) : ∀ {l₁ l₂}, All2 R l₁ l₂ → All2 R' l₁ l₂
  | _, _, .nil => .nil
  | _, _, .cons h r => .cons (f _ _ h) (r.mono f)
theorem All2.snoc {α β : Type} {R : α → β → Prop} {a : α} {b : β} (x : R a b) : ∀ {l₁ l₂}, All2 R l₁ l₂ → All2 R (l₁ ++ [a]) (l₂ ++ [b])
  | _, _, .nil => .cons x .nil
  | _, _, .cons h r => .cons h (r.snoc x)
theorem All2.length {α β : Type} {R : α → β → Prop} : ∀ {l₁ : List α} {l₂ : List β}, All2 R l₁ l₂ → l₁.length = l₂.length
  | _, _, .nil => rfl
  | _, _, .cons _ r => by simp [r.length]
theorem All2.ints {α : Type} {f : α → Int} : ∀ {l : List α} {ys : List Value}, All2 (fun i y => ∃ t, y = Value.int (f i) t) l ys → IntsAre ys (l.map f)
  | _, _, .nil => .nil
  | _, _, .cons ⟨t, e⟩ r => by subst e; exact .cons _ t r.ints
theorem All2.bools {α : Type} {f : α → Bool} : ∀ {l : List α} {ys : List Value}, All2 (fun i y => y = Value.bool (f i)) l ys → ys = (l.map f).map Value.bool
  | _, _, .nil => rfl
  | _, _, .cons e r => by subst e; rw [r.bools]; rfl

section
variable {prog : Program} {w : World} {A : Around} {s : Shared} {R : Result → Shared → Prop}

/-- the tests of a clause, none or one -/
abbrev tests (ifs : List Expr) (env : Env) : Sem Bool := forIn ifs true fun c r => if r = true then do let ok ← isTrue c env (eval c env); pure (ForInStep.yield ok) else pure (ForInStep.yield r)
theorem Ev.tests_nil {h : Heap} {env : Env} : Ev prog w A h (tests [] env) (IsTrue true) := Ev.mk fun s _ => wpAny_tests_nil ⟨rfl, keeps_refl s⟩
theorem Ev.tests_one {h : Heap} {env : Env} {c : Expr} {b : Bool} (hc : Ev prog w A h (isTrue c env (eval c env)) (IsTrue b)) : Ev prog w A h (tests [c] env) (IsTrue b) := Ev.mk fun s hs => wpAny_tests_one (hc.go s hs)

theorem comp_loop {elt iter : Expr} {x : Str} {px : Pos} {ifs : List Expr} {scope : Scope} {pos : Pos} {I D X : Addr} {fp : List Addr} {n : Nat} {P : Nat → Value → Prop} {St : Nat → Heap → Prop} {cenv : Env} {h₀ : Heap}
    {Inv : Heap → Prop} {B : Value → Heap → Prop} {ok : Nat → Bool} {Y : (Addr → Prop) → Nat → Value → Heap → Prop}
    (W : Walks prog w A I fp [I] n P St) (hsz : n ≤ sizeLine)
    (hbind : ∀ v (s : Shared) (Q : Unit → Shared → Prop) (E : Value → Shared → Prop), Inv s.heap → (∀ h' tk, Heap.SameBut X s.heap h' → B v h' → Q () { s with heap := h', toks := tk }) → wpAny (model prog w) A (assign (.Name x px) cenv v) Q E s)
    (hInv : ∀ h h', Inv h → (∀ o, h.get? X = some o → h'.get? X = some o) → Inv h') (hB : ∀ v h h', B v h → h.StaysIn h' → B v h') (hBI : ∀ v h, B v h → Inv h)
    (hXD : X ≠ D) (hXI : X ≠ I) (hDI : D ≠ I) (hXf : X ∉ fp) (hDf : D ∉ fp) (hX : ∀ h, Inv h → ∃ o, h.get? X = some o)
    (hI : ∀ i h, St i h → ∃ o, h.get? I = some o)
    (hst : St 0 s.heap) (hacc : s.heap.IsList D #[]) (hinv : Inv s.heap) (k0 : ∀ b o, h₀.get? b = some o → s.heap.get? b = some o ∧ b ≠ X ∧ b ≠ I ∧ b ≠ D)
    (hY : ∀ fb i y h h', Y fb i y h → (∀ b o, ¬ fb b → h.get? b = some o → h'.get? b = some o) → Y fb i y h')
    (htest : ∀ i v h', i < n → P i v → h₀.StaysIn h' → B v h' → Ev prog w A h' (tests ifs cenv) (IsTrue (ok i)))
    (helt : ∀ fb i v h', i < n → ok i = true → P i v → h₀.StaysIn h' → B v h' → (∀ b, fb b → ∃ o, h'.get? b = some o) → Ev prog w A h' (eval elt cenv) (Y fb i))
    (hR : ∀ h' tk ys, Inv h' → h'.IsList D ys.toArray → All2 (fun i y => Y (Off X I D) i y h') ((List.range n).filter ok) ys → (∀ b o, b ≠ X → b ≠ I → b ≠ D → s.heap.get? b = some o → h'.get? b = some o) → R (.ok .next) { s with heap := h', toks := tk }) :
    codeAny (model prog w) A (.compLoop (.ListComp elt [⟨.Name x px, iter, ifs, 0⟩] scope pos) 0 (.ref I) (.ref D) cenv) R s := by
  refine codeAny_compLoop_tests
    (fun k s' => ∃ H tk i ys, s' = { s with heap := H, toks := tk } ∧ i ≤ n ∧ k = n + 1 - i ∧ St i H ∧ H.IsList D ys.toArray ∧ Inv H ∧ All2 (fun j y => Y (Off X I D) j y H) ((List.range i).filter ok) ys ∧
      (∀ b o, b ≠ X → b ≠ I → b ≠ D → s.heap.get? b = some o → H.get? b = some o)) ?_ (n + 1)
    ⟨s.heap, s.toks, 0, [], rfl, Nat.zero_le _, rfl, hst, hacc, hinv, .nil, fun _ _ _ _ _ e => e⟩
  rintro k s' ⟨H, tk, i, ys, rfl, hi, rfl, hst', hacc', hinv', hall, hk⟩
  by_cases hlt : i < n
  · refine W.item i _ _ _ hlt hst' fun v h₁ tk₁ hPv hst₁ hk₁ => ?_
    have up₁ : ∀ b o, b ≠ I → H.get? b = some o → h₁.get? b = some o := fun b o hb e => hk₁ b o (by simpa using hb) e
    refine hbind v _ _ _ (hInv _ _ hinv' fun o e => up₁ X o hXI e) fun h₂ tk₂ hs₂ hB₂ => ?_
    have up₂ : ∀ b o, b ≠ I → b ≠ X → H.get? b = some o → h₂.get? b = some o := fun b o hbI hbX e => hs₂.extBut b o hbX (up₁ b o hbI e)
    have hst₂ : St (i + 1) h₂ := W.frame _ _ _ hst₁ fun b hb o e => hs₂.extBut b o (fun q => hXf (q ▸ hb)) e
    have kk : h₀.StaysIn h₂ := fun b o e => let ⟨e1, e2, e3, e4⟩ := k0 b o e; up₂ b o e3 e2 (hk b o e2 e3 e4 e1)
    refine Ev.run (htest i v h₂ hlt hPv kk hB₂) (stays_refl _) fun b s₃ hb k₃ => ?_
    obtain rfl := hb
    obtain ⟨h₃, tk₃, rfl, k₃⟩ := k₃
    have len : (List.range (i + 1)).filter ok = (List.range i).filter ok ++ (if ok i = true then [i] else []) := by
      rw [List.range_succ, List.filter_append]
      congr 1
      cases hoi : ok i <;> simp [hoi]
    have all₃ : All2 (fun j y => Y (Off X I D) j y h₃) ((List.range i).filter ok) ys := hall.mono fun j y q => hY _ _ _ _ _ q fun b o nb e => k₃ b o (up₂ b o (fun z => nb (.inr (.inl z))) (fun z => nb (.inl z)) e)
    have hst₃ : St (i + 1) h₃ := W.frame _ _ _ hst₂ fun b _ o e => k₃ b o e
    have acc₃ : h₃.IsList D ys.toArray := isList_up (show h₂.IsList D ys.toArray by obtain ⟨o, ho, r⟩ := hacc'; exact ⟨o, up₂ D o hDI (Ne.symm hXD) ho, r⟩) k₃
    have B₃ := hB v _ _ hB₂ k₃
    by_cases hoi : ok i = true
    · rw [if_pos hoi] at len ⊢
      refine Ev.run (helt (Off X I D) i v h₃ hlt hoi hPv (stays_trans kk k₃) B₃ ?_) (stays_refl _) fun y s₄ hy k₄ => ?_
      · rintro b (rfl | rfl | rfl)
        · exact hX _ (hBI v _ B₃)
        · exact hI _ _ hst₃
        · obtain ⟨o, ho, _⟩ := acc₃
          exact ⟨o, ho⟩
      obtain ⟨h₄, tk₄, rfl, k₄⟩ := k₄
      refine wpAny_list_append (isList_up acc₃ k₄) (fun h₅ hl₅ hs₅ => ?_) ?_
      · have up₅ : ∀ b o, b ≠ D → h₄.get? b = some o → h₅.get? b = some o := fun b o hb e => hs₅.extBut b o hb e
        refine ⟨n + 1 - (i + 1), by omega, h₅, tk₄, i + 1, ys ++ [y], rfl, hlt, rfl, W.frame _ _ _ hst₃ fun b hb o e => up₅ b o (fun q => hDf (q ▸ hb)) (k₄ b o e), by simpa using hl₅,
          hInv _ _ (hBI v _ (hB v _ _ B₃ k₄)) fun o e => up₅ X o hXD e, ?_, fun b o b1 b2 b3 e => up₅ b o b3 (k₄ b o (k₃ b o (up₂ b o b2 b1 (hk b o b1 b2 b3 e))))⟩
        rw [len]
        refine All2.snoc (R := fun j y => Y (Off X I D) j y h₅) (hY _ _ _ _ _ hy fun b o nb e => up₅ b o (fun z => nb (.inr (.inr z))) e) (all₃.mono fun j y q => hY _ _ _ _ _ q fun b o nb e => up₅ b o (fun z => nb (.inr (.inr z))) (k₄ b o e))
      · show ys.toArray.size ≤ sizeLine
        rw [List.size_toArray, ← hall.length]
        refine Nat.le_trans (List.length_filter_le _ _) ?_
        rw [List.length_range]; omega
    · rw [if_neg hoi, List.append_nil] at len
      rw [if_neg hoi]
      refine ⟨n + 1 - (i + 1), by omega, h₃, tk₃, i + 1, ys, rfl, hlt, rfl, hst₃, acc₃, hBI v _ B₃, ?_, fun b o b1 b2 b3 e => k₃ b o (up₂ b o b2 b1 (hk b o b1 b2 b3 e))⟩
      rw [len]
      exact all₃
  · obtain rfl : i = n := Nat.le_antisymm hi (Nat.not_lt.mp hlt)
    refine W.done _ _ _ hst' fun h₁ tk₁ hk₁ => ?_
    have up₁ : ∀ b o, b ≠ I → H.get? b = some o → h₁.get? b = some o := fun b o hb e => hk₁ b o (by simpa using hb) e
    refine hR h₁ tk₁ ys (hInv _ _ hinv' fun o e => up₁ X o hXI e) (by obtain ⟨o, ho, r⟩ := hacc'; exact ⟨o, up₁ D o hDI ho, r⟩) (hall.mono fun j y q => hY _ _ _ _ _ q fun b o nb e => up₁ b o (fun z => nb (.inr (.inl z))) e)
      fun b o b1 b2 b3 e => up₁ b o b2 (hk b o b1 b2 b3 e)

/-- the block of a list comprehension behind its iterator: the loop's name is a local one -/
theorem comp_block {elt iter : Expr} {x : Str} {px : Pos} {ifs : List Expr} {scope : Scope} {cl : List (Str × Addr)} {pos : Pos} {I : Addr} {fp : List Addr} {n : Nat} {P : Nat → Value → Prop} {St : Nat → Heap → Prop} {env : Env} {h₀ : Heap}
    {ok : Nat → Bool} {Y : (Addr → Prop) → Nat → Value → Heap → Prop} {E : Value → Shared → Prop} {RR : Value → Addr → Result → Shared → Prop}
    (W : Walks prog w A I fp [I] n P St) (hsz : n ≤ sizeLine) (hI : ∀ i h, St i h → ∃ o, h.get? I = some o)
    (hcell : ∀ y ∈ scope.names, y.2 ≠ .cell) (hkind : scope.kind = .function) (hx : scope.names.lookup x = some .local)
    (hst : St 0 s.heap) (hfp : ∀ b ∈ fp, b < s.heap.objs.size) (hI₀ : h₀.get? I = none) (k0 : h₀.StaysIn s.heap)
    (hY : ∀ fb i y h h', Y fb i y h → (∀ b o, ¬ fb b → h.get? b = some o → h'.get? b = some o) → Y fb i y h')
    (htest : ∀ i v h' C m', i < n → P i v → h₀.StaysIn h' → h'.Ns C m' → m' x = some v → Ev prog w A h' (tests ifs (compEnvC scope cl C env)) (IsTrue (ok i)))
    (helt : ∀ fb i v h' C m', i < n → ok i = true → P i v → h₀.StaysIn h' → h'.Ns C m' → m' x = some v → (∀ b, fb b → ∃ o, h'.get? b = some o) → Ev prog w A h' (eval elt (compEnvC scope cl C env)) (Y fb i))
    (hRR : ∀ D C h' tk m' ys fb, s.heap.get? D = none → s.heap.get? C = none → D ≠ C → h'.Ns C m' → h'.IsList D ys.toArray → (fb C ∧ fb D) → All2 (fun i y => Y fb i y h') ((List.range n).filter ok) ys →
      (∀ b o, b ≠ I → s.heap.get? b = some o → h'.get? b = some o) → RR (.ref D) C (.ok .next) { s with heap := h', toks := tk }) :
    wpAny (model prog w) A (newList []) (fun acc s₃ => wpAny (model prog w) A (newFunctionEnv scope env.globals cl [] env.qual none .none (some env)) (fun cenv s₄ =>
      codeAny (model prog w) A (.compStart (.ListComp elt [⟨.Name x px, iter, ifs, 0⟩] scope pos) 0 (.ref I) acc { cenv with scope := relabel scope env }) (RR acc cenv.locals) s₄) E s₃) E s := by
  refine wpAny_newObj_type (wpAny_newFunctionEnv hcell (by intro y hy; simp at hy) (fun h₁ hns₁ hsb₁ => ?_) hkind)
  dsimp only at hns₁ hsb₁ ⊢
  generalize hH2 : s.heap.push { cls := .type "list", dict := none, data := .seq ([] : List Value).toArray } = H2 at hns₁ hsb₁ ⊢
  have hC : H2.objs.size = s.heap.objs.size + 1 := by rw [← hH2, Heap.size_push]
  have hDC : s.heap.objs.size ≠ H2.objs.size := by rw [hC]; exact Nat.ne_of_lt (Nat.lt_succ_self _)
  have below : ∀ b, b < s.heap.objs.size → b ≠ H2.objs.size ∧ b ≠ s.heap.objs.size := fun b hb => ⟨by rw [hC]; exact Nat.ne_of_lt (Nat.lt_succ_of_lt hb), Nat.ne_of_lt hb⟩
  have hIf : I ∈ fp := W.sub I (List.mem_singleton.mpr rfl)
  have hIlt : I < s.heap.objs.size := hfp I hIf
  have old : s.heap.StaysIn h₁ := fun b o e => hsb₁.extBut b o (below b (Heap.lt_size e)).1 (Heap.get?_push_of_some _ (hH2 ▸ Heap.get?_push_of_some _ e))
  have hacc : h₁.IsList s.heap.objs.size #[] := ⟨_, hsb₁.extBut _ _ hDC (Heap.get?_push_of_some _ (hH2 ▸ Heap.get?_push_size _ rfl)), rfl, _, rfl⟩
  have hst₁ : St 0 h₁ := W.frame _ _ _ hst fun b _ o e => old b o e
  have fresh : ∀ a, s.heap.objs.size ≤ a → s.heap.get? a = none := fun a ha => by
    cases e : s.heap.get? a with
    | none => rfl
    | some o' => exact absurd (Heap.lt_size e) (Nat.not_lt.mpr ha)
  have loop : ∀ s₃ : Shared, s₃ = { s with heap := h₁, toks := s.toks + ([] : List (Str × Value)).length } →
      codeAny (model prog w) A (.compLoop (.ListComp elt [⟨.Name x px, iter, ifs, 0⟩] scope pos) 0 (.ref I) (.ref s.heap.objs.size) (compEnvC scope cl H2.objs.size env))
        (RR (.ref s.heap.objs.size) H2.objs.size) s₃ := by
    rintro s₃ rfl
    refine comp_loop (h₀ := h₀) (X := H2.objs.size) (Inv := fun h => ∃ m, h.Ns H2.objs.size m) (B := fun v h => ∃ m, h.Ns H2.objs.size m ∧ m x = some v) (ok := ok) (Y := Y) W hsz ?_ ?_ ?_ ?_ (Ne.symm hDC) (Ne.symm (below I hIlt).1) (Ne.symm (below I hIlt).2)
      (fun hm => Nat.lt_irrefl _ (Nat.lt_of_succ_lt (by have := hfp _ hm; rw [hC] at this; exact this))) (fun hm => Nat.lt_irrefl _ (hfp _ hm)) ?_ hI hst₁ hacc ⟨_, hns₁⟩ ?_ hY ?_ ?_ ?_
    · rintro v s' Q E' ⟨m, hm⟩ k
      refine wpAny_assign_Name (wpAny_storeName_local (lookup_relabel_local hx) hm (fun h' hn hs => k h' _ hs ⟨_, hn, by simp⟩) (by simp [compEnvC, relabel, hkind]))
    · rintro h h' ⟨m, hm⟩ k
      exact ⟨m, hm.at' fun o e => k o e⟩
    · rintro v h h' ⟨m, hm, e⟩ k
      exact ⟨m, hm.keeps k, e⟩
    · rintro v h ⟨m, hm, _⟩
      exact ⟨m, hm⟩
    · rintro h ⟨m, o, _, _, ho, _⟩
      exact ⟨o, ho⟩
    · intro b o e
      have e' := k0 b o e
      have lt := Heap.lt_size e'
      refine ⟨old b o e', (below b lt).1, ?_, (below b lt).2⟩
      rintro rfl
      rw [hI₀] at e; cases e
    · rintro i v h' hi hp k ⟨m, hm, e⟩
      exact htest i v h' _ m hi hp k hm e
    · rintro fb i v h' hi hoi hp k ⟨m, hm, e⟩ hfb
      exact helt fb i v h' _ m hi hoi hp k hm e hfb
    · rintro h' tk ys ⟨m, hm⟩ hl hall kk
      exact hRR _ _ h' tk m ys _ (fresh _ (Nat.le_refl _)) (fresh _ (by rw [hC]; exact Nat.le_succ _)) hDC hm hl ⟨.inl rfl, .inr (.inr rfl)⟩ hall fun b o hb e => kk b o (below b (Heap.lt_size e)).1 hb (below b (Heap.lt_size e)).2 (old b o e)
  exact codeAny_compStart_list (loop _ rfl) (W.self 0 _ _ _ hst₁ (loop _ rfl))

theorem Ev.listcomp {h : Heap} {env : Env} {elt iter : Expr} {x : Str} {px : Pos} {ifs : List Expr} {scope : Scope} {cl : List (Str × Addr)} {pos : Pos} {n : Nat} {Pv : Value → Heap → Prop} {P : Nat → Value → Prop} {ok : Nat → Bool} {Y : (Addr → Prop) → Nat → Value → Heap → Prop}
    (hclos : closureFor scope env = Pure.pure cl)
    (hit : Ev prog w A h (eval iter env) Pv) (hsrc : ∀ v h', h.StaysIn h' → Pv v h' → ItOk prog w A h' v n P)
    (hY : ∀ fb i y h h', Y fb i y h → (∀ b o, ¬ fb b → h.get? b = some o → h'.get? b = some o) → Y fb i y h')
    (htest : ∀ i v h' C m', i < n → P i v → h.StaysIn h' → h'.Ns C m' → m' x = some v → Ev prog w A h' (tests ifs (compEnvC scope cl C env)) (IsTrue (ok i)))
    (helt : ∀ fb i v h' C m', i < n → ok i = true → P i v → h.StaysIn h' → h'.Ns C m' → m' x = some v → (∀ b, fb b → ∃ o, h'.get? b = some o) → Ev prog w A h' (eval elt (compEnvC scope cl C env)) (Y fb i))
    (hsz : n ≤ sizeLine := by decide)
    (hcell : ∀ y ∈ scope.names, y.2 ≠ .cell := by decide) (hkind : scope.kind = .function := by rfl) (hnames : ∀ y ∈ scope.names, y.2 = .local → scope.names.lookup y.1 = some .local := by decide) (hx : scope.names.lookup x = some .local := by rfl)
    (hs : ∀ x, foldedSetIterable iter env x = Pure.pure x := by intro _; rfl) :
    Ev prog w A h (eval (.ListComp elt [⟨.Name x px, iter, ifs, 0⟩] scope pos) env) (fun v h' => ∃ D ys fb, v = .ref D ∧ h.get? D = none ∧ h'.IsList D ys.toArray ∧ All2 (fun i y => Y fb i y h') ((List.range n).filter ok) ys) := Ev.mk fun s hss => by
  rw [eval_ListComp]
  refine wpAny_comprehension_free (use := none) rfl hs hclos hkind hnames (Ev.run hit hss fun xv s₁ pv k₁ => ?_)
  refine hsrc xv s₁.heap (stays_trans hss (keeps_stays k₁)) pv s₁ _ _ (stays_refl _) fun I fp St s₂ hI W hst hfp hIo hfv k₂ => ?_
  have hI₀ : h.get? I = none := not_of_stays (stays_trans hss (keeps_stays k₁)) hI
  have kk : h.StaysIn s₂.heap := stays_trans hss (keeps_stays (keeps_trans k₁ k₂))
  refine comp_block (RR := fun acc C => compPost (model prog w) A (fun _ _ => False) none _ acc C) (h₀ := h) (ok := ok) (Y := Y) W hsz hIo hcell hkind hx hst hfp hI₀ kk hY htest helt ?_
  · intro D C h' tk m' ys fb hD hC hDC hn hl hfb hall hk
    refine ⟨m', hn, fun h'' hs'' => ⟨⟨D, ys, fb, rfl, not_of_stays kk hD, ?_, ?_⟩, ?_⟩⟩
    · obtain ⟨o, ho, r⟩ := hl
      exact ⟨o, hs''.extBut D o hDC ho, r⟩
    · exact hall.mono fun i y q => hY _ _ _ _ _ q fun b o nb e => hs''.extBut b o (fun z => nb (z ▸ hfb.1)) e
    · obtain ⟨H1, t1, rfl, q1⟩ := k₁
      obtain ⟨H2, t2, rfl, q2⟩ := k₂
      refine ⟨h'', _, rfl, fun b o e => hs''.extBut b o ?_ (hk b o ?_ (q2 b o (q1 b o e)))⟩
      · rintro rfl
        rw [q2 _ _ (q1 _ _ e)] at hC; cases hC
      · rintro rfl
        rw [q1 _ _ e] at hI; cases hI
end
end Mine
end

section
open PySem PySem.W PyProof.Rows
namespace Mine

/-! the state within a def: its names, its cells, and a heap g of all that stands still -/
structure St (s₀ : Shared) (env : Env) (m cm : Str → Option Value) (g : Heap) (s : Shared) : Prop where
  same : ∃ h tk, s = { s₀ with heap := h, toks := tk }
  base : s₀.heap.StaysIn g
  imm : g.StaysIn s.heap
  ns : s.heap.Ns env.locals m
  cell : ∀ n c, env.cells.lookup n = some c → s.heap.IsCell c (cm n)
  gl : g.get? env.locals = none
  gc : ∀ n c, (n, c) ∈ env.cells → g.get? c = none ∧ c ≠ env.locals
  apart : env.cells.Pairwise fun x y => x.2 ≠ y.2
  live : ∀ n c, (n, c) ∈ env.cells → ∃ v, s.heap.IsCell c v

abbrev upd (m : Str → Option Value) (x : Str) (v : Value) : Str → Option Value := fun y => if y = x then some v else m y

def Own (env : Env) (a : Addr) : Prop := a = env.locals ∨ ∃ n, (n, a) ∈ env.cells

section
variable {prog : Program} {w : World} {A : Around} {s₀ s s' : Shared} {env : Env} {m cm : Str → Option Value} {g : Heap}

theorem St.keeps (S : St s₀ env m cm g s) (k : Keeps s s') : St s₀ env m cm g s' := by
  obtain ⟨h, t, rfl⟩ := S.same
  obtain ⟨h', t', rfl, k⟩ := k
  exact ⟨⟨h', t', rfl⟩, S.base, stays_trans S.imm k, S.ns.keeps k, fun n c e => (S.cell n c e).keeps k, S.gl, S.gc, S.apart, fun n c e => let ⟨v, hv⟩ := S.live n c e; ⟨v, hv.keeps k⟩⟩
theorem St.done (S : St s₀ env m cm g s) : Keeps s₀ s := by
  obtain ⟨h, t, rfl⟩ := S.same
  exact ⟨h, t, rfl, stays_trans S.base S.imm⟩
/-- g may take in all that stands now but the frame's own -/
theorem St.grow (S : St s₀ env m cm g s) : ∃ g', St s₀ env m cm g' s ∧ g.StaysIn g' ∧ ∀ a o, s.heap.get? a = some o → ¬ Own env a → g'.get? a = some o := by
  have mem : ∀ a, a ∈ env.locals :: env.cells.map (·.2) ↔ Own env a := fun a => by
    rw [List.mem_cons, List.mem_map]
    exact ⟨fun h => h.imp id fun ⟨x, hx, e⟩ => ⟨x.1, e ▸ hx⟩, fun h => h.imp id fun ⟨n, hn⟩ => ⟨(n, a), hn, rfl⟩⟩
  have up : g.StaysIn (hideAll s.heap (env.locals :: env.cells.map (·.2))) := fun b o e => hideAll_get _ (S.imm b o e) fun hm => by
    rcases (mem b).mp hm with rfl | ⟨n, hn⟩
    · rw [S.gl] at e; cases e
    · rw [(S.gc n b hn).1] at e; cases e
  refine ⟨hideAll s.heap (env.locals :: env.cells.map (·.2)), ⟨S.same, stays_trans S.base up, fun b o e => of_hideAll _ e, S.ns, S.cell, hideAll_none _ ((mem _).mpr (.inl rfl)), fun n c hc => ⟨hideAll_none _ ((mem _).mpr (.inr ⟨n, hc⟩)), (S.gc n c hc).2⟩, S.apart, S.live⟩, up, fun a o e n => hideAll_get _ e fun hm => n ((mem a).mp hm)⟩
theorem St.own_some (S : St s₀ env m cm g s) {a : Addr} (h : Own env a) : ∃ o, s.heap.get? a = some o ∧ ∀ xs n, o.data ≠ .seq xs n := by
  rcases h with rfl | ⟨n, hn⟩
  · obtain ⟨o, es, ep, ho, hd, _⟩ := S.ns
    exact ⟨o, ho, fun xs n q => by rw [hd] at q; cases q⟩
  · obtain ⟨v, o, ho, hd⟩ := S.live n a hn
    exact ⟨o, ho, fun xs n q => by rw [hd] at q; cases q⟩
theorem St.not_own_seq (S : St s₀ env m cm g s) {a : Addr} {o : Obj} {xs : Array Value} {n : Nat} (ho : s.heap.get? a = some o) (hd : o.data = .seq xs n) : ¬ Own env a := fun h => by
  obtain ⟨o', ho', hn⟩ := S.own_some h
  rw [ho] at ho'
  cases ho'
  exact hn xs n hd
theorem St.not_own_new (S : St s₀ env m cm g s) {a : Addr} (ho : s.heap.get? a = none) : ¬ Own env a := fun h => by
  obtain ⟨o', ho', _⟩ := S.own_some h
  rw [ho] at ho'
  cases ho'
/-- a fact of lists is kept when the frame's own are hidden -/
def Seqs (h h' : Heap) : Prop := ∀ a o, h.get? a = some o → (∃ xs n, o.data = .seq xs n) → h'.get? a = some o
theorem isList_seqs {h h' : Heap} {a : Addr} {items : Array Value} (x : h.IsList a items) (k : Seqs h h') : h'.IsList a items :=
  let ⟨o, ho, hc, n, hd⟩ := x; ⟨o, k _ _ ho ⟨_, _, hd⟩, hc, n, hd⟩
theorem IsIL.seqs {h h' : Heap} {v : Value} {ns : List Int} (x : IsIL ns v h) (k : Seqs h h') : IsIL ns v h' :=
  let ⟨a, vs, e, l, i⟩ := x; ⟨a, vs, e, isList_seqs l k, i⟩
theorem IsBL.seqs {h h' : Heap} {v : Value} {bs : List Bool} (x : IsBL bs v h) (k : Seqs h h') : IsBL bs v h' :=
  let ⟨a, e, l⟩ := x; ⟨a, e, isList_seqs l k⟩
theorem St.store_local {x : Str} {v : Value} {Q : Unit → Shared → Prop} {E : Value → Shared → Prop} (S : St s₀ env m cm g s) (hx : env.kindOf x = some .local) (hk : env.scope.kind = .function)
    (k : ∀ s', St s₀ env (upd m x v) cm g s' → Heap.SameBut env.locals s.heap s'.heap → Q () s') : wpAny (model prog w) A (storeName env x v) Q E s := by
  refine wpAny_storeName_local hx S.ns (fun h' hn hs => k _ ?_ hs) (by rw [hk]; rfl)
  obtain ⟨h, t, rfl⟩ := S.same
  refine ⟨⟨h', _, rfl⟩, S.base, fun b o e => hs.extBut b o (fun q => ?_) (S.imm b o e), hn, fun n c e => (S.cell n c e).sameBut hs (S.gc n c (mem_of_lookup e)).2, S.gl, S.gc, S.apart, fun n c e => let ⟨v, hv⟩ := S.live n c e; ⟨v, hv.sameBut hs (S.gc n c e).2⟩⟩
  rw [q, S.gl] at e; cases e
theorem St.store_cell {x : Str} {v : Value} {c : Addr} {Q : Unit → Shared → Prop} {E : Value → Shared → Prop} (S : St s₀ env m cm g s) (hx : env.kindOf x = some .cell) (hc : env.cells.lookup x = some c) (hk : env.scope.kind = .function)
    (k : ∀ s', St s₀ env m (upd cm x v) g s' → Heap.SameBut c s.heap s'.heap → Q () s') : wpAny (model prog w) A (storeName env x v) Q E s := by
  refine wpAny_storeName_cell hk hx hc (S.cell x c hc) fun h' hv hs => k _ ?_ hs
  obtain ⟨h, t, rfl⟩ := S.same
  have hm := mem_of_lookup hc
  refine ⟨⟨h', _, rfl⟩, S.base, fun b o e => hs.extBut b o (fun q => ?_) (S.imm b o e), S.ns.sameBut hs (Ne.symm (S.gc x c hm).2), fun n c' e => ?_, S.gl, S.gc, S.apart, fun n c' e => ?_⟩
  · rw [q, (S.gc x c hm).1] at e; cases e
  · by_cases hn : n = x
    · subst hn
      rw [hc] at e
      cases e
      simpa [upd] using hv
    · rw [show upd cm x v n = cm n from if_neg hn]
      exact (S.cell n c' e).sameBut hs fun q => hn (name_of_addr S.apart (mem_of_lookup e) (q ▸ hm))
  · by_cases hn : c' = c
    · subst hn
      exact ⟨_, hv⟩
    · obtain ⟨u, hu⟩ := S.live n c' e
      exact ⟨u, hu.sameBut hs hn⟩

theorem St.change {C : Addr} {h' : Heap} (S : St s₀ env m cm g s) (hg : g.get? C = none) (nC : ¬ Own env C) (sc : Heap.SameBut C s.heap h') : St s₀ env m cm g { s with heap := h' } := by
  obtain ⟨h, t, rfl⟩ := S.same
  refine ⟨⟨h', t, rfl⟩, S.base, fun b o e => sc.extBut b o (fun q => ?_) (S.imm b o e), S.ns.sameBut sc fun q => nC (.inl q.symm), fun n c e => (S.cell n c e).sameBut sc fun q => nC (.inr ⟨n, q ▸ mem_of_lookup e⟩), S.gl, S.gc, S.apart,
    fun n c e => let ⟨v, hv⟩ := S.live n c e; ⟨v, hv.sameBut sc fun q => nC (.inr ⟨n, q ▸ e⟩)⟩⟩
  rw [q, hg] at e; cases e
theorem St.loc {x : Str} {pos : Pos} {v : Value} (S : St s₀ env m cm g s) (hv : m x = some v) (hk : env.scope.kind = .function := by rfl) (hl : env.kindOf x = some .local := by rfl) (hd : (x == ("__debug__" : Str)) = false := by decide) :
    Ev prog w A s.heap (eval (.Name x pos) env) (IsV v) := Ev.name_local S.ns hv hk hl hd
theorem St.cel {x : Str} {pos : Pos} {v : Value} {c : Addr} (S : St s₀ env m cm g s) (hc : env.cells.lookup x = some c) (hv : cm x = some v) (hk : env.scope.kind = .function := by rfl) (hl : env.kindOf x = some .cell := by rfl) (hd : (x == ("__debug__" : Str)) = false := by decide) :
    Ev prog w A s.heap (eval (.Name x pos) env) (IsV v) := Ev.name_cell hc (hv ▸ S.cell x c hc) hk hl hd

/-- x = e, x a local name, e no comprehension -/
theorem St.assign {x : Str} {p pos : Pos} {e : Expr} {P : Value → Heap → Prop} {Q : Flow → Shared → Prop} {E : Value → Shared → Prop} (S : St s₀ env m cm g s) (he : Ev prog w A s.heap (eval e env) P)
    (k : ∀ v s₁, P v s₁.heap → Keeps s s₁ → ∀ g' s₂, g.StaysIn g' → (∀ a o, s₁.heap.get? a = some o → ¬ Own env a → g'.get? a = some o) → St s₀ env (upd m x v) cm g' s₂ → Q .next s₂)
    (hk : env.scope.kind = .function := by rfl) (hl : env.kindOf x = some .local := by rfl) (hs : swapsWith e (some (.Name x p)) pos.line env = pure false := by rfl) :
    wpAny (model prog w) A (exec (.Assign [.Name x p] e pos) env) Q E s := by
  refine wpAny_Assign_Name (Ev.run he (stays_refl _) fun v s₁ hp k₁ => ?_) hs
  obtain ⟨g', S', gk, tr⟩ := (S.keeps k₁).grow
  exact S'.store_local hl hk fun s₂ S₂ _ => k v s₁ hp k₁ g' s₂ gk tr S₂
/-- x = e, x a cell -/
theorem St.assignC {x : Str} {p pos : Pos} {e : Expr} {c : Addr} {P : Value → Heap → Prop} {Q : Flow → Shared → Prop} {E : Value → Shared → Prop} (S : St s₀ env m cm g s) (hc : env.cells.lookup x = some c) (he : Ev prog w A s.heap (eval e env) P)
    (k : ∀ v s₁, P v s₁.heap → Keeps s s₁ → ∀ g' s₂, g.StaysIn g' → (∀ a o, s₁.heap.get? a = some o → ¬ Own env a → g'.get? a = some o) → St s₀ env m (upd cm x v) g' s₂ → Q .next s₂)
    (hk : env.scope.kind = .function := by rfl) (hl : env.kindOf x = some .cell := by rfl) (hs : swapsWith e (some (.Name x p)) pos.line env = pure false := by rfl) :
    wpAny (model prog w) A (exec (.Assign [.Name x p] e pos) env) Q E s := by
  refine wpAny_Assign_Name (Ev.run he (stays_refl _) fun v s₁ hp k₁ => ?_) hs
  obtain ⟨g', S', gk, tr⟩ := (S.keeps k₁).grow
  exact S'.store_cell hl hc hk fun s₂ S₂ _ => k v s₁ hp k₁ g' s₂ gk tr S₂
theorem St.ret {e : Expr} {pos : Pos} {P : Value → Heap → Prop} {Q : Flow → Shared → Prop} {E : Value → Shared → Prop} (S : St s₀ env m cm g s) (he : Ev prog w A s.heap (eval e env) P) (k : ∀ v s₁, P v s₁.heap → Keeps s₀ s₁ → Q (.ret v) s₁) :
    wpAny (model prog w) A (exec (.Return (some e) pos) env) Q E s :=
  wpAny_Return_some (Ev.run he (stays_refl _) fun v s₁ hp k₁ => k v s₁ hp (keeps_trans S.done k₁))
/-- x = [..], x a local name: the name is bound before the loop's own name goes -/
theorem St.assignL {x y : Str} {p px pos spos : Pos} {elt iter : Expr} {ifs : List Expr} {scope : Scope} {cl : List (Str × Addr)} {n : Nat} {Pv : Value → Heap → Prop} {P : Nat → Value → Prop} {ok : Nat → Bool} {Y : (Addr → Prop) → Nat → Value → Heap → Prop}
    {Q : Flow → Shared → Prop} {E : Value → Shared → Prop} (S : St s₀ env m cm g s) (hclos : closureFor scope env = Pure.pure cl)
    (hit : Ev prog w A s.heap (eval iter env) Pv) (hsrc : ∀ v h', s.heap.StaysIn h' → Pv v h' → ItOk prog w A h' v n P)
    (hY : ∀ fb i y h h', Y fb i y h → (∀ b o, ¬ fb b → h.get? b = some o → h'.get? b = some o) → Y fb i y h')
    (htest : ∀ i v h' C m', i < n → P i v → s.heap.StaysIn h' → h'.Ns C m' → m' x = some v → Ev prog w A h' (tests ifs (compEnvC scope cl C env)) (IsTrue (ok i)))
    (helt : ∀ fb i v h' C m', i < n → ok i = true → P i v → s.heap.StaysIn h' → h'.Ns C m' → m' x = some v → (∀ b, fb b → ∃ o, h'.get? b = some o) → Ev prog w A h' (eval elt (compEnvC scope cl C env)) (Y fb i))
    (k : ∀ D ys fb (s₁ : Shared), s.heap.get? D = none → s₁.heap.IsList D ys.toArray → All2 (fun i y => Y fb i y s₁.heap) ((List.range n).filter ok) ys → Keeps s s₁ →
      ∀ g' s₂, g.StaysIn g' → (∀ a o, s₁.heap.get? a = some o → ¬ Own env a → ¬ fb a ∨ a = D → g'.get? a = some o) → St s₀ env (upd m y (.ref D)) cm g' s₂ → Q .next s₂)
    (hsz : n ≤ sizeLine := by decide)
    (hcell : ∀ y ∈ scope.names, y.2 ≠ .cell := by decide) (hkind : scope.kind = .function := by rfl) (hnames : ∀ y ∈ scope.names, y.2 = .local → scope.names.lookup y.1 = some .local := by decide) (hx : scope.names.lookup x = some .local := by rfl)
    (hk : env.scope.kind = .function := by rfl) (hl : env.kindOf y = some .local := by rfl)
    (hsw : swapsWith (.ListComp elt [⟨.Name x px, iter, ifs, 0⟩] scope pos) (some (.Name y p)) spos.line env = Pure.pure true := by rfl)
    (hs : ∀ x, foldedSetIterable iter env x = Pure.pure x := by intro _; rfl) :
    wpAny (model prog w) A (exec (.Assign [.Name y p] (.ListComp elt [⟨.Name x px, iter, ifs, 0⟩] scope pos) spos) env) Q E s := by
  rw [exec_Assign_Name_used _ _ _ _ hsw]
  refine wpAny_bind (wpAny_standAt (wpAny_bind ?_))
  show wpAny _ A (do let _ ← comprehension (.ListComp elt [⟨.Name x px, iter, ifs, 0⟩] scope pos) scope env _ (newList []) false (eval iter env) (some (PySem.assign (.Name y p) env))) _ _ s
  refine wpAny_bind (wpAny_mono (wpAny_comprehension_free (use := some (PySem.assign (.Name y p) env)) (Q := fun _ s' => Q .next s') rfl hs hclos hkind hnames
    (Ev.run hit (stays_refl _) fun xv s₁ pv k₁ => ?_)) (fun _ s' hq => wpAny_pure (wpAny_pure hq)) fun _ _ e => e)
  refine hsrc xv s₁.heap (keeps_stays k₁) pv s₁ _ _ (stays_refl _) fun I fp St' s₂ hI W hst hfp hIo hfv k₂ => ?_
  have hI₀ : s.heap.get? I = none := not_of_stays (keeps_stays k₁) hI
  have kk : s.heap.StaysIn s₂.heap := keeps_stays (keeps_trans k₁ k₂)
  refine comp_block (RR := fun acc C => compPost (model prog w) A E (some (PySem.assign (.Name y p) env)) (fun _ s' => Q .next s') acc C) (h₀ := s.heap) (ok := ok) (Y := Y) W hsz hIo hcell hkind hx hst hfp hI₀ kk hY htest helt ?_
  intro D C h' tk m' ys fb hD hC hDC hn hl' hfb hall hk'
  have K₃ : Keeps s { s₂ with heap := h', toks := tk } := by
    obtain ⟨H1, t1, rfl, q1⟩ := k₁
    obtain ⟨H2, t2, rfl, q2⟩ := k₂
    exact ⟨h', _, rfl, fun b o e => hk' b o (fun q => by rw [q, hI₀] at e; cases e) (q2 b o (q1 b o e))⟩
  have S₃ := S.keeps K₃
  obtain ⟨g₁, S₄, gk, tr⟩ := S₃.grow
  show wpAny _ A (PySem.assign (.Name y p) env (.ref D)) _ _ _
  refine wpAny_assign_Name ?_
  have nC : ¬ Own env C := fun hc => by
    obtain ⟨o, ho, _⟩ := S.own_some hc
    rw [kk _ _ ho] at hC; cases hC
  -- hide the loop's own names from what stands still
  have gC : ∃ g₂, St s₀ env m cm g₂ { s₂ with heap := h', toks := tk } ∧ g.StaysIn g₂ ∧ g₂.get? C = none ∧ ∀ a o, h'.get? a = some o → ¬ Own env a → a ≠ C → g₂.get? a = some o := by
    refine ⟨g₁.hide C, ⟨S₄.same, fun b o e => ?_, fun b o e => S₄.imm b o (Heap.of_hide e), S₄.ns, S₄.cell, ?_, fun n c hc => ⟨?_, (S₄.gc n c hc).2⟩, S₄.apart, S₄.live⟩, fun b o e => ?_, Heap.hide_self _ _, fun a o e na nc => ?_⟩
    · refine (Heap.hide_ne _ fun q => ?_).trans (S₄.base b o e)
      have := kk _ _ (S.imm _ _ (S.base b o e))
      rw [q, hC] at this; cases this
    · cases q : (g₁.hide C).get? env.locals with
      | none => rfl
      | some o => have := Heap.of_hide q; rw [S₄.gl] at this; cases this
    · cases q : (g₁.hide C).get? c with
      | none => rfl
      | some o => have := Heap.of_hide q; rw [(S₄.gc n c hc).1] at this; cases this
    · refine (Heap.hide_ne _ fun q => ?_).trans (gk b o e)
      have := kk _ _ (S.imm _ _ e)
      rw [q, hC] at this; cases this
    · exact (Heap.hide_ne _ nc).trans (tr a o e na)
  obtain ⟨g₂, S₅, gk₂, gC, tr₂⟩ := gC
  refine S₅.store_local hl hk fun s₆ S₆ sb => ⟨m', hn.sameBut sb fun q => nC (.inl q), fun h₇ sc => ?_⟩
  refine k D ys fb _ (not_of_stays kk hD) hl' hall K₃ g₂ _ gk₂ (fun a o e na q => tr₂ a o e na ?_) (S₆.change gC nC sc)
  rcases q with q | rfl
  · exact fun z => q (z ▸ hfb.1)
  · exact hDC
end
end Mine
end

section
open PySem PySem.W PyProof.Rows
namespace Mine

section
variable {prog : Program} {w : World} {mg mb : Str → Option Value} {A : Around} {h : Heap} {env : Env}

/-- a def whose names are partly cells -/
theorem Fn.of_bodyC {name : Str} {params : Arguments} {body : List Stmt} {scope : Scope} {pos : Pos} {i : Nat} {vs : List Value} {binds : List (Str × Value)} {k : Nat} {P : Value → Heap → Prop}
    (G : Gd mg mb h) (hd : (recsOf pw)[i]? = some ⟨name, params, body, scope, pos⟩)
    (hx : ∀ (s s₁ : Shared) (A : Around) (L a : Addr) (cd : Value), Room k A → h.StaysIn s.heap → St s (envOfC name scope L a cd) (bindL (envOfC name scope L a cd).kindOf binds fun _ => none) (bindC (envOfC name scope L a cd).kindOf binds fun _ => none) s.heap s₁ →
      wpAny (model prog w) A (execs body (envOfC name scope L a cd)) (fun f s' => P (match f with | .ret v => v | _ => .none) s'.heap ∧ Keeps s s') (fun _ _ => False) s₁)
    (hbind : ∀ pm cd doc, bindArgs (Calls.docDef name params body scope pm cd doc) ⟨vs, []⟩ = pure binds)
    (hkind : (binds.all fun y => scope.names.lookup y.1 == some .local || scope.names.lookup y.1 == some .cell) = true) (hnd : ((cellsFrom 0 scope.names []).map (·.1)).Nodup)
    (hco : scope.isCoroutine = false := by rfl) (hgen : scope.isGenerator = false := by rfl) (hk : scope.kind = .function := by rfl) : Fn prog w mg name vs h (k + 1) P := by
  obtain ⟨a, o, pm, cd, doc, h1, h2, h3, h4⟩ := G.fn _ (List.mem_of_getElem? hd)
  refine ⟨a, o, _, h1, h2, h3, fun A R => Ev.mk fun s hs => wpAny_call ?_⟩
  refine codeAny_call_cells (fd := Calls.docDef name params body scope pm cd doc) (body := body) (by have := R.1; omega) (hs _ _ h2) h3 (G.nolimit.keeps hs) (h4.keeps hs) rfl (hbind pm cd doc) rfl (kindsX hkind _) (fun s₁ x => ?_) hco hgen hk
  have up := x.toInCall.keep
  have S : St s (envOfC name scope s.heap.objs.size a cd) (bindL (envOfC name scope s.heap.objs.size a cd).kindOf binds fun _ => none) (bindC (envOfC name scope s.heap.objs.size a cd).kindOf binds fun _ => none) s.heap s₁ := by
    have above : ∀ n c, (n, c) ∈ (envOfC name scope s.heap.objs.size a cd).cells → s.heap.objs.size < c := fun n c hm => x.above n c hm
    refine ⟨x.toInCall.same, stays_refl _, up, x.toInCall.ns, x.cell, fresh_size _, fun n c hm => ⟨?_, Nat.ne_of_gt (above n c hm)⟩, x.apart, fun n c hm => ⟨_, x.cell n c (lookup_of_mem_nodup (cellsFrom_names scope.names 0 (s.heap.objs.size + 1) [] [] rfl ▸ hnd) hm)⟩⟩
    cases q : s.heap.get? c with
    | none => rfl
    | some o => exact absurd (Heap.lt_size q) (Nat.not_lt.mpr (Nat.le_of_lt (above n c hm)))
  exact wpAny_mono (hx s s₁ _ _ a cd (R.deeper _) hs S) (fun f s' y => y) fun _ _ e => e.elim
/-! built-ins on lists -/
theorem Ev.len_list {e : Expr} {p pos : Pos} {xs : List Value} {P : Value → Heap → Prop} (G : Gd mg mb h) (he : Ev prog w A h (eval e env) P) (hp : ∀ v h', h.StaysIn h' → P v h' → ∃ a, v = .ref a ∧ ∃ vs : List Value, h'.IsList a vs.toArray ∧ vs.length = xs.length) (hl : xs.length ≤ sizeLine)
    (hg : env.globals = mainGlobals := by rfl) (heb : env.builtins = builtinsNs := by rfl) (hk : env.scope.kind = .function := by rfl) (hn : env.kindOf "len" = some .globalImplicit := by rfl) (hs : backTo pos (starEach [e] env) = [(false, eval e env)] := by rfl) :
    Ev prog w A h (eval (.Call (.Name "len" p) [e] [] pos) env) (IsI xs.length) :=
  Ev.call_builtin (Ev.name_bi G (by decide) boot_len (by decide) hg heb hk hn) (Ev.args1 he hs) (fun a h' k ha => by
    obtain ⟨v, rfl, pv⟩ := ha
    obtain ⟨b, rfl, vs, l, e⟩ := hp v h' k pv
    exact Ev.mk fun s hs => PyProof.Rows.len_list (isList_up l hs) (by rw [List.size_toArray, e]; have : sizeLine = 2 ^ 24 := rfl; omega) ⟨⟨_, by rw [List.size_toArray, e]⟩, keeps_tok s _⟩) (by rw [hs]; rfl)
theorem Ev.len_ints {e : Expr} {p pos : Pos} {ns : List Int} (G : Gd mg mb h) (he : Ev prog w A h (eval e env) (IsIL ns)) (hl : ns.length ≤ sizeLine)
    (hg : env.globals = mainGlobals := by rfl) (heb : env.builtins = builtinsNs := by rfl) (hk : env.scope.kind = .function := by rfl) (hn : env.kindOf "len" = some .globalImplicit := by rfl) (hs : backTo pos (starEach [e] env) = [(false, eval e env)] := by rfl) :
    Ev prog w A h (eval (.Call (.Name "len" p) [e] [] pos) env) (IsI ns.length) := by
  have := Ev.len_list (xs := ns.map fun _ => Value.none) G he (fun v h' k hv => by obtain ⟨a, vs, rfl, l, i⟩ := hv; exact ⟨a, rfl, vs, l, by rw [i.length, List.length_map]⟩) (by rw [List.length_map]; exact hl) hg heb hk hn hs (p := p) (pos := pos)
  rw [List.length_map] at this
  exact this
/-- range(n) -/
theorem Ev.range1 {e : Expr} {p pos : Pos} {n : Int} (G : Gd mg mb h) (he : Ev prog w A h (eval e env) (IsI n))
    (hg : env.globals = mainGlobals := by rfl) (heb : env.builtins = builtinsNs := by rfl) (hk : env.scope.kind = .function := by rfl) (hn : env.kindOf "range" = some .globalImplicit := by rfl) (hs : backTo pos (starEach [e] env) = [(false, eval e env)] := by rfl) :
    Ev prog w A h (eval (.Call (.Name "range" p) [e] [] pos) env) (fun v h' => ∃ r t u x, v = .ref r ∧ IsRange h' r 0 n 1 t u x) :=
  Ev.call_type (Ev.name_bi G (by decide) boot_range (by decide) hg heb hk hn) (Ev.args1 he hs) (fun a h' k ha => by
    obtain ⟨v, rfl, t, rfl⟩ := ha
    exact Ev.mk fun s hs => call_range_1 ⟨⟨_, _, _, _, rfl, Heap.get?_push_size _ rfl⟩, ⟨_, _, rfl, fun _ _ e => Heap.get?_push_of_some _ e⟩⟩) (by rw [hs]; rfl)
theorem itRange {v : Value} {n : Nat} (hh : A.handled = none) (hn : n ≤ 1000) (x : ∃ r t u x, v = .ref r ∧ IsRange h r 0 (n : Int) 1 t u x) : ItOk prog w A h v n (fun i y => ∃ t, y = .int i t) := by
  obtain ⟨r, t, u, y, rfl, hr⟩ := x
  have hsz : Builtin.Range.rangeSize 0 (n : Int) 1 = ((n : Nat) : Int) := by
    rw [rangeSize_one]
    split <;> omega
  have W := ItOk.range (prog := prog) (w := w) (n := n) hh hr (small_one (by omega) (by omega) (by omega) (by omega)) hsz
  refine fun s Q E hs k => W s Q E hs fun I fp St s₂ hI W' hst hfp hIo hfv k₂ => k I fp St s₂ hI ⟨W'.sub, W'.frame, fun i s Q E hi st hQ => W'.item i s Q E hi st fun v h' tk hP => hQ v h' tk ?_, W'.done, W'.self⟩ hst hfp hIo hfv k₂
  obtain ⟨t, rfl⟩ := hP
  exact ⟨t, by rw [Int.mul_one, Int.zero_add]⟩
end
end Mine
end

section
open PySem PySem.W PyProof.Rows PySem.Spec PySem.Calls PyProof.V PySem.SeqAt
namespace Mine

section
variable {prog : Program} {w : World} {mg mb : Str → Option Value} {A : Around} {h : Heap} {env : Env}

theorem Ev.add_lists {a b : Addr} {vs us : List Value} {P : Value → Heap → Prop} (ha : h.IsList a vs.toArray) (hb : h.IsList b us.toArray) (hsz : vs.length + us.length ≤ sizeLine)
    (hp : ∀ c h', h.StaysIn h' → h.get? c = none → h'.IsList c (vs ++ us).toArray → P (.ref c) h') : Ev prog w A h (binaryOp .Add (.ref a) (.ref b)) P := Ev.mk fun s hs => by
  obtain ⟨⟨cls, dd, data, sl⟩, ho, hc, n, hd⟩ := isList_up ha hs
  obtain ⟨⟨cls2, dd2, data2, sl2⟩, ho2, hc2, n2, hd2⟩ := isList_up hb hs
  simp only at hc hd hc2 hd2
  subst hc hd hc2 hd2
  have e : vs.toArray ++ us.toArray = (vs ++ us).toArray := by simp
  refine concat_meets ⟨_, ho, rfl⟩ ⟨_, ho2, rfl⟩ noFill_list_add seq_list_add PySem.F.slot_list_add PySem.F.entry_list_add (PySem.F.args_list_add_2 _ _) (list_addW a b vs.toArray us.toArray n n2 dd dd2 sl sl2 (by simpa using hsz)) ⟨ho, ho2, ?_⟩
  rw [e]
  exact ⟨hp _ _ (stays_trans hs (keeps_stays (keeps_push s _))) (not_of_stays hs (fresh_size _)) ⟨_, Heap.get?_push_size _ rfl, rfl, _, rfl⟩, keeps_push s _⟩

/-! subscripts -/
theorem Ev.subscript {value slice : Expr} {pos : Pos} {P : Value → Heap → Prop} {R : Value → Value → Heap → Prop} {Q : Value → Heap → Prop} (hv : Ev prog w A h (eval value env) P) (hi : ∀ o h', h.StaysIn h' → P o h' → Ev prog w A h' (eval slice env) (R o))
    (ht : ∀ o i h', h.StaysIn h' → R o i h' → Ev prog w A h' (subscriptTail value slice o i) Q) : Ev prog w A h (eval (.Subscript value slice pos) env) Q := Ev.mk fun s hs => by
  refine Subscript_ (Ev.run hv hs fun o s₁ p k₁ => Ev.run (hi o s₁.heap (stays_trans hs (keeps_stays k₁)) p) (stays_refl _) fun i s₂ r k₂ => ?_)
  exact Ev.run (ht o i s₂.heap (stays_trans hs (keeps_stays (keeps_trans k₁ k₂))) r) (stays_refl _) fun v s₃ q k₃ => ⟨q, keeps_trans (keeps_trans k₁ k₂) k₃⟩
theorem Ev.tail_list {value slice : Expr} {l : Addr} {items : Array Value} {k : Int} {u : Tok} {x : Value} (hl : h.IsList l items) (h0 : 0 ≤ k) (hhi : k < 2 ^ 63) (hx : items[k.toNat]? = some x)
    (hs : subscripted slice false (.ref l) (.int k u) = PySem.operate [.ref l, .int k u] (getItem (.ref l) (.int k u)) := by with_unfolding_all rfl) : Ev prog w A h (subscriptTail value slice (.ref l) (.int k u)) (IsV x) := Ev.mk fun s hss =>
  tail_any (isList_up hl hss).typeIs slot_list_getitem.lookup (wpAny_getItem_list (isList_up hl hss) h0 hhi hx ⟨rfl, keeps_refl s⟩) hs
theorem ints_get {vs : List Value} {ns : List Int} (i : IntsAre vs ns) {k : Nat} {n : Int} (e : ns[k]? = some n) : ∃ t, vs[k]? = some (.int n t) := by
  induction i generalizing k with
  | nil => simp at e
  | cons m t r ih =>
    cases k with
    | zero => simp at e; exact ⟨t, by simp [e]⟩
    | succ k => simpa using ih (by simpa using e)
/-- an item of a list of ints, at a place that is a number -/
theorem Ev.item_int {value slice : Expr} {pos : Pos} {ns : List Int} {k : Nat} {n : Int} (hv : Ev prog w A h (eval value env) (IsIL ns)) (hi : Ev prog w A h (eval slice env) (IsI k)) (hk : k < 2 ^ 62) (hn : ns[k]? = some n)
    (hs : ∀ l u, subscripted slice false (.ref l) (.int k u) = PySem.operate [.ref l, .int k u] (getItem (.ref l) (.int k u)) := by intro _ _; with_unfolding_all rfl) : Ev prog w A h (eval (.Subscript value slice pos) env) (IsI n) :=
  Ev.subscript hv (R := fun o i h' => IsIL ns o h' ∧ ∃ t, i = .int k t) (fun o h' kk p => ((hi.mono kk)).weak fun i h'' k2 q => ⟨IsIL.up p k2, q⟩) fun o i h' kk r => by
    obtain ⟨⟨l, vs, rfl, hl, is⟩, t, rfl⟩ := r
    obtain ⟨u, hu⟩ := ints_get is hn
    exact (Ev.tail_list hl (by omega) (by omega) (by simpa using hu) (hs l t)).weak fun v _ _ e => ⟨u, e⟩
theorem Ev.item_bool {value slice : Expr} {pos : Pos} {ns : List Bool} {k : Nat} {n : Bool} (hv : Ev prog w A h (eval value env) (IsBL ns)) (hi : Ev prog w A h (eval slice env) (IsI k)) (hk : k < 2 ^ 62) (hn : ns[k]? = some n)
    (hs : ∀ l u, subscripted slice false (.ref l) (.int k u) = PySem.operate [.ref l, .int k u] (getItem (.ref l) (.int k u)) := by intro _ _; with_unfolding_all rfl) : Ev prog w A h (eval (.Subscript value slice pos) env) (IsB n) :=
  Ev.subscript hv (R := fun o i h' => IsBL ns o h' ∧ ∃ t, i = .int k t) (fun o h' kk p => ((hi.mono kk)).weak fun i h'' k2 q => ⟨IsBL.up p k2, q⟩) fun o i h' kk r => by
    obtain ⟨⟨l, rfl, hl⟩, t, rfl⟩ := r
    exact Ev.tail_list hl (by omega) (by omega) (by simp [hn]) (hs l t)

/-! slices -/
theorem Ev.part_none : Ev prog w A h (valueOrNone (evalOpt none env)) (fun v _ => IsPart v none) := Ev.mk fun s _ => wpAny_pure ⟨.none, keeps_refl s⟩
theorem Ev.part_some {e : Expr} {k : Int} (he : Ev prog w A h (eval e env) (IsI k)) : Ev prog w A h (valueOrNone (evalOpt (some e) env)) (fun v _ => IsPart v (some k)) :=
  Ev.weak (t := eval e env) he fun v _ _ ⟨t, e⟩ => e ▸ .int k t
abbrev IsSl (lo hi st : Option Int) : Value → Heap → Prop := fun v h => ∃ a vl vu vs, v = .ref a ∧ h.IsSliceOf a vl vu vs ∧ IsPart vl lo ∧ IsPart vu hi ∧ IsPart vs st
theorem Ev.slice {l u t : Option Expr} {pos : Pos} {lo hi st : Option Int} (hl : Ev prog w A h (valueOrNone (evalOpt l env)) (fun v _ => IsPart v lo)) (hu : Ev prog w A h (valueOrNone (evalOpt u env)) (fun v _ => IsPart v hi))
    (ht : Ev prog w A h (valueOrNone (evalOpt t env)) (fun v _ => IsPart v st)) : Ev prog w A h (eval (.Slice l u t pos) env) (IsSl lo hi st) := by
  show Ev prog w A h (valueOrNone (evalOpt l env) >>= fun vl => PySem.holding [vl] (valueOrNone (evalOpt u env)) >>= fun vu => PySem.holding [vl, vu] (valueOrNone (evalOpt t env)) >>= fun vs => newFields "slice" [vl, vu, vs]) _
  refine Ev.bind hl fun vl h₁ k₁ p₁ => Ev.bind (Ev.holding (hu.mono k₁)) fun vu h₂ k₂ p₂ => Ev.bind (Ev.holding (ht.mono (stays_trans k₁ k₂))) fun vs h₃ k₃ p₃ => Ev.mk fun s hs => ?_
  refine wpAny_newObj_type ⟨⟨_, vl, vu, vs, rfl, ⟨_, Heap.get?_push_size _ rfl, rfl, rfl⟩, p₁, p₂, p₃⟩, keeps_push s _⟩ 
theorem Ev.list_slice {value : Expr} {l u : Option Expr} {p pos : Pos} {lo up : Option Int} {P : Value → Heap → Prop} {Q : Value → Heap → Prop} (hv : Ev prog w A h (eval value env) P) (hi : Ev prog w A h (eval (.Slice l u none p) env) (IsSl lo up none))
    (hP : ∀ o h₁ h₂, h₁.StaysIn h₂ → P o h₁ → P o h₂) (hp : ∀ o h', P o h' → ∃ a, ∃ vs : List Value, o = .ref a ∧ h'.IsList a vs.toArray ∧ vs.length ≤ sizeLine ∧ ∀ c h₂, h'.StaysIn h₂ → h'.get? c = none → h₂.IsList c (slicePick vs.toArray lo up none) → Q (.ref c) h₂) :
    Ev prog w A h (eval (.Subscript value (.Slice l u none p) pos) env) Q :=
  Ev.subscript hv (R := fun o i h' => P o h' ∧ IsSl lo up none i h') (fun o h' kk q => ((hi.mono kk)).weak fun i h'' k2 r => ⟨hP _ _ _ k2 q, r⟩) fun o i h' kk r => Ev.mk fun s hs => by
    obtain ⟨po, sl, vl, vu, vs, rfl, hsl, pl, pu, ps⟩ := r
    obtain ⟨a, us, rfl, hl, hlen, hq⟩ := hp o h' po
    have hl' := isList_up hl hs
    refine tail_any hl'.typeIs slot_list_getitem.lookup (wpAny_getItem_list_slice hl' (let ⟨o, ho, r⟩ := hsl; ⟨o, hs _ _ ho, r⟩) pl pu ps (by simp) ?_ (by rw [List.size_toArray]; exact hlen)) (by with_unfolding_all rfl)
    exact ⟨hq _ _ (stays_trans hs (keeps_stays (keeps_push s _))) (not_of_stays hs (fresh_size _)) ⟨_, Heap.get?_push_size _ rfl, rfl, _, rfl⟩, keeps_push s _⟩
end

/-! two lists of bools compared -/
theorem readsAll_bools {h : Heap} : ∀ bs : List Bool, ReadsAll h (bs.map Value.bool) (bs.map PyData.bool) []
  | [] => .nil
  | b :: r => by simpa using ReadsAll.cons (.bool b) (readsAll_bools r)
theorem canLay_bools : ∀ ns : List Bool, PyData.canLayAll0 (ns.map PyData.bool) = true
  | [] => by simp [PyData.canLayAll0]
  | n :: r => by simp [PyData.canLayAll0, PyData.canLay0, canLay_bools r]
theorem depth_bools : ∀ ns : List Bool, PyData.depthAll (ns.map PyData.bool) ≤ 1
  | [] => by simp [PyData.depthAll]
  | n :: r => by have := depth_bools r; simp only [List.map_cons, PyData.depthAll, PyData.depth]; omega
theorem shaped_bools (ns : List Bool) : shaped (.list (ns.map PyData.bool)) = true := by
  have h1 := depth_bools ns
  have h2 : PyData.depth (.list (ns.map PyData.bool)) ≤ 64 := by simp only [PyData.depth]; omega
  show (PyData.canLay0 (.list (ns.map PyData.bool)) && decide (PyData.depth (.list (ns.map PyData.bool)) ≤ 64)) = true
  rw [Bool.and_eq_true]
  exact ⟨by simp only [PyData.canLay0]; exact canLay_bools ns, decide_eq_true h2⟩
theorem noMix_bools : ∀ ns ms : List Bool, noMixAll (ns.map PyData.bool) (ms.map PyData.bool) = true
  | [], [] => by simp [noMixAll]
  | [], _ :: _ => by simp [noMixAll]
  | _ :: _, [] => by simp [noMixAll]
  | _ :: r, _ :: q => by simp [noMixAll, noMix, noMix_bools r q]
theorem same_bools : ∀ ns ms : List Bool, PySem.Spec.sameAll (ns.map PyData.bool) (ms.map PyData.bool) = decide (ns = ms)
  | [], [] => by simp [PySem.Spec.sameAll]
  | [], _ :: _ => by simp [PySem.Spec.sameAll]
  | _ :: _, [] => by simp [PySem.Spec.sameAll]
  | n :: r, k :: q => by
    simp only [List.map_cons, PySem.Spec.sameAll, PySem.Spec.same, same_bools r q]
    by_cases h : n = k <;> simp [h]
theorem reads_bools {h : Heap} {a : Addr} {bs : List Bool} (hl : h.IsList a (bs.map Value.bool).toArray) : Reads h (.ref a) (.list (bs.map PyData.bool)) [a] := by
  obtain ⟨o, ho, hc, n, hd⟩ := hl
  exact Reads.list ho hc hd (by simpa using readsAll_bools bs)
section
variable {prog : Program} {w : World} {A : Around} {h : Heap} {env : Env}
theorem Ev.ne_bools {a b : Addr} {bs cs : List Bool} (ha : h.IsList a (bs.map Value.bool).toArray) (hb : h.IsList b (cs.map Value.bool).toArray) (hu : A.units + 64 < cLine) : Ev prog w A h (compareOp .NotEq (.ref a) (.ref b)) (IsB (!decide (bs = cs))) := Ev.mk fun s hs =>
  ne_dataH_same (reads_bools (isList_up ha hs)) (reads_bools (isList_up hb hs)) (shaped_bools bs) (shaped_bools cs) hu (by simp only [noMix]; exact noMix_bools bs cs) (by simp only [PySem.Spec.same]; rw [same_bools]; exact ⟨rfl, keeps_refl s⟩)
theorem Ev.test_ne_bools {l r : Expr} {pos : Pos} {whole : Sem Value} {bs cs : List Bool} (hl : Ev prog w A h (eval l env) (IsBL bs)) (hr : Ev prog w A h (eval r env) (IsBL cs)) (hu : A.units + 64 < cLine) (hm : behindInMarks .NotEq r = false := by rfl) :
    Ev prog w A h (isTrue (.Compare l [.NotEq] [r] pos) env whole) (IsTrue (!decide (bs = cs))) :=
  Ev.test_cmp1 hl (R := fun x y h' => IsBL bs x h' ∧ IsBL cs y h') (fun x h' k hx => (hr.mono k).weak fun y h'' k2 hy => ⟨IsBL.up hx k2, hy⟩)
    (fun x y h' k hxy => by obtain ⟨⟨a, rfl, ha⟩, b, rfl, hb⟩ := hxy; exact Ev.ne_bools ha hb hu) hm
end
end Mine
end

section
open PySem PySem.W PyProof.Rows
namespace Mine

def bit (mask : Int) (k : Nat) : Bool := Builtin.bitAnd (mask.fdiv (2 ^ k)) 1 != 0
def told (code mask : Int) : Nat := ((List.range 15).filter fun k => (answers code).getD k false && bit mask k).length

section
variable {prog : Program} {w : World} {mg mb : Str → Option Value} {A : Around} {h : Heap} {env : Env}

theorem Ev.is_bool {l : Expr} {pos : Pos} {k : Nat} {p : Pos} {b c : Bool} (hl : Ev prog w A h (eval l env) (IsB b)) : Ev prog w A h (eval (.Compare l [.Is] [.Constant (.bool c) k p] pos) env) (IsB (b == c)) :=
  Ev.cmp1 hl (R := fun x y _ => x = .bool b ∧ y = .bool c) (fun x h' kk hx => Ev.bool.weak fun y _ _ hy => ⟨hx, hy⟩) (fun x y h' kk e => by obtain ⟨rfl, rfl⟩ := e; exact Ev.mk fun s _ => PyProof.Rows.is_bool ⟨rfl, keeps_refl s⟩) rfl
theorem Ev.isnot_bool {l : Expr} {pos : Pos} {k : Nat} {p : Pos} {b c : Bool} (hl : Ev prog w A h (eval l env) (IsB b)) : Ev prog w A h (eval (.Compare l [.IsNot] [.Constant (.bool c) k p] pos) env) (IsB (b != c)) :=
  Ev.cmp1 hl (R := fun x y _ => x = .bool b ∧ y = .bool c) (fun x h' kk hx => Ev.bool.weak fun y _ _ hy => ⟨hx, hy⟩) (fun x y h' kk e => by obtain ⟨rfl, rfl⟩ := e; exact Ev.mk fun s _ => PyProof.Rows.isnot_bool ⟨rfl, keeps_refl s⟩) rfl
theorem Ev.val {e : Expr} {v : Value} {P : Value → Heap → Prop} (he : Ev prog w A h (eval e env) (IsV v)) (hp : ∀ h', h.StaysIn h' → P v h') : Ev prog w A h (eval e env) P := he.weak fun _ h' k q => q ▸ hp h' k
/-- a comprehension over a list of bools, no test, that gives bools -/
theorem Ev.comp_bb {elt iter : Expr} {x : Str} {px : Pos} {scope : Scope} {cl : List (Str × Addr)} {pos : Pos} {bs : List Bool} {f : Bool → Bool} (hh : A.handled = none) (hclos : closureFor scope env = Pure.pure cl) (hit : Ev prog w A h (eval iter env) (IsBL bs))
    (helt : ∀ b h' C m', h.StaysIn h' → h'.Ns C m' → m' x = some (.bool b) → Ev prog w A h' (eval elt (compEnvC scope cl C env)) (IsB (f b))) (hsz : bs.length ≤ sizeLine)
    (hcell : ∀ y ∈ scope.names, y.2 ≠ .cell := by decide) (hkind : scope.kind = .function := by rfl) (hnames : ∀ y ∈ scope.names, y.2 = .local → scope.names.lookup y.1 = some .local := by decide) (hx : scope.names.lookup x = some .local := by rfl)
    (hs : ∀ x, foldedSetIterable iter env x = Pure.pure x := by intro _; rfl) : Ev prog w A h (eval (.ListComp elt [⟨.Name x px, iter, [], 0⟩] scope pos) env) (IsBL (bs.map f)) := by
  refine (Ev.listcomp (n := bs.length) (P := fun i v => (bs.map Value.bool)[i]? = some v) (ok := fun _ => true) (Y := fun _ i y _ => y = .bool (f (bs.getD i false))) hclos hit (fun v h' k hv => ?_) (fun _ _ _ _ _ q _ => q) (fun _ _ _ _ _ _ _ _ _ _ => Ev.tests_nil) (fun fb i v h' C m' hi _ hp k hn hm _ => ?_) hsz hcell hkind hnames hx hs).weak fun v h' k hv => ?_
  · obtain ⟨a, rfl, hl⟩ := hv
    have := ItOk.list (prog := prog) (w := w) hh hl
    simpa using this
  · have e : bs[i]? = some (bs.getD i false) := by simp [List.getD_eq_getElem?_getD, List.getElem?_eq_getElem hi]
    have e2 : v = .bool (bs.getD i false) := by
      rw [List.getElem?_map, e] at hp
      simpa using hp.symm
    subst e2
    exact helt _ h' C m' k hn hm
  · obtain ⟨D, ys, fb, rfl, _, hl, hall⟩ := hv
    have := All2.bools (f := fun i => f (bs.getD i false)) hall
    refine ⟨D, rfl, ?_⟩
    have e : ((List.range bs.length).filter fun _ => true).map (fun i => f (bs.getD i false)) = bs.map f := by
      rw [List.filter_eq_self.mpr (by simp)]
      apply List.ext_getElem <;> simp
      intro i h1 h2
      simp [List.getElem?_eq_getElem h2]
    rw [this, e] at hl
    exact hl

/-- a comprehension over range(n) that gives ints -/
theorem Ev.comp_range {elt iter : Expr} {x : Str} {px : Pos} {ifs : List Expr} {scope : Scope} {cl : List (Str × Addr)} {pos : Pos} {n : Nat} {ok : Nat → Bool} {f : Nat → Int} (hh : A.handled = none) (hclos : closureFor scope env = Pure.pure cl)
    (hit : Ev prog w A h (eval iter env) (fun v h' => ∃ r t u x, v = .ref r ∧ IsRange h' r 0 (n : Int) 1 t u x))
    (htest : ∀ i t h' C m', i < n → h.StaysIn h' → h'.Ns C m' → m' x = some (.int (i : Nat) t) → Ev prog w A h' (tests ifs (compEnvC scope cl C env)) (IsTrue (ok i)))
    (helt : ∀ i t h' C m', i < n → ok i = true → h.StaysIn h' → h'.Ns C m' → m' x = some (.int (i : Nat) t) → Ev prog w A h' (eval elt (compEnvC scope cl C env)) (IsI (f i))) (hn : n ≤ 1000)
    (hcell : ∀ y ∈ scope.names, y.2 ≠ .cell := by decide) (hkind : scope.kind = .function := by rfl) (hnames : ∀ y ∈ scope.names, y.2 = .local → scope.names.lookup y.1 = some .local := by decide) (hx : scope.names.lookup x = some .local := by rfl)
    (hs : ∀ x, foldedSetIterable iter env x = Pure.pure x := by intro _; rfl) : Ev prog w A h (eval (.ListComp elt [⟨.Name x px, iter, ifs, 0⟩] scope pos) env) (IsIL (((List.range n).filter ok).map f)) := by
  refine (Ev.listcomp (n := n) (P := fun i v => ∃ t, v = .int i t) (ok := ok) (Y := fun _ i y _ => ∃ t, y = .int (f i) t) hclos hit (fun v h' k hv => itRange hh hn hv) (fun _ _ _ _ _ q _ => q) (fun i v h' C m' hi hp k hns hm => ?_) (fun fb i v h' C m' hi hoi hp k hns hm _ => ?_) (Nat.le_trans hn (by decide)) hcell hkind hnames hx hs).weak fun v h' k hv => ?_
  · obtain ⟨t, rfl⟩ := hp
    exact htest i t h' C m' hi k hns hm
  · obtain ⟨t, rfl⟩ := hp
    exact helt i t h' C m' hi hoi k hns hm
  · obtain ⟨D, ys, fb, rfl, _, hl, hall⟩ := hv
    exact ⟨D, ys, rfl, hl, All2.ints hall⟩
theorem exec_if {s : Shared} {test : Expr} {body orelse : List Stmt} {pos : Pos} {b : Bool} {Q : Flow → Shared → Prop} {E : Value → Shared → Prop} (ht : Ev prog w A s.heap (isTrue test env (eval test env)) (IsTrue b))
    (k1 : b = true → ∀ s', Keeps s s' → wpAny (model prog w) A (execs body env) Q E s') (k2 : b = false → ∀ s', Keeps s s' → wpAny (model prog w) A (execs orelse env) Q E s') : wpAny (model prog w) A (exec (.If test body orelse pos) env) Q E s :=
  wpAny_If (Ev.run ht (stays_refl _) fun v s' e k => by
    obtain rfl : v = b := e
    cases v with
    | true => exact k1 rfl s' k
    | false => exact k2 rfl s' k)
theorem Ev.slice_bools {value : Expr} {l u : Option Expr} {p pos : Pos} {lo up : Option Int} {bs cs : List Bool} (hv : Ev prog w A h (eval value env) (IsBL bs)) (hi : Ev prog w A h (eval (.Slice l u none p) env) (IsSl lo up none)) (hl : bs.length ≤ sizeLine)
    (hc : slicePick (bs.map Value.bool).toArray lo up none = (cs.map Value.bool).toArray) : Ev prog w A h (eval (.Subscript value (.Slice l u none p) pos) env) (IsBL cs) :=
  Ev.list_slice hv hi (fun o h₁ h₂ k x => IsBL.up x k) fun o h' x => by
    obtain ⟨a, rfl, ha⟩ := x
    refine ⟨a, _, rfl, ha, by rw [List.length_map]; exact hl, fun c h₂ _ _ hcl => ⟨c, rfl, ?_⟩⟩
    rw [hc] at hcl
    exact hcl
theorem bshr {e e' : Expr} {p q : Pos} {k₀ : Nat} {pc : Pos} {mask : Int} {k : Nat} (hm : Ev prog w A h (eval e env) (IsI mask)) (hk : Ev prog w A h (eval e' env) (IsI k)) :
    Ev prog w A h (eval (.BinOp (.BinOp e .RShift e' p) .BitAnd (.Constant (.int 1) k₀ pc) q) env) (IsI (Builtin.bitAnd (mask.fdiv (2 ^ k)) 1)) := by
  have := Ev.band (pos := q) (Ev.shr (pos := p) (by omega) hm hk) (Ev.int (i := 1) (k := k₀) (pos := pc))
  simpa using this
theorem told_ok {code mask : Int} {t u : Tok} (G : Gd mg mb h) (hc : 0 ≤ code ∧ code < 55296) : Fn prog w mg "_law_told" [.int code t, .int mask u] h 7 (IsI (told code mask)) := by
  refine Fn.of_bodyC (i := 18) (binds := [("code", .int code t), ("mask", .int mask u)]) (k := 6) G rfl (fun s s₁ A L a cd R hs S => ?_) (fun _ _ _ => rfl) rfl (by decide)
  have G₁ : Gd mg mb s₁.heap := G.keeps (stays_trans hs (keeps_stays S.done))
  have hh := R.2.2
  refine wpAny_execs_cons (St.assign S (P := IsBL (answers code ++ answers code)) (Ev.binop (P := IsBL (answers code)) (R := fun x y h' => IsBL (answers code) x h' ∧ IsBL (answers code) y h')
    (Ev.call1 G₁ R (St.loc S rfl) (fun v h' k hv => by obtain rfl := hv; exact answers_ok (G₁.keeps k) (.int code t)) (G₁.at (i := 17) rfl))
    (fun x h' k hx => ((Ev.call1 (G₁.keeps k) R (Ev.call_builtin (Q := IsS ⟨#[code.toNat]⟩) (Ev.name_bi (G₁.keeps k) (by decide) boot_chr (by decide)) (Ev.args1 ((St.loc S rfl).mono k)) ?_)
      (fun v h' k' hv => ?_) ((G₁.keeps k).at (i := 17) rfl))).weak fun y h'' k2 hy => ⟨IsBL.up hx k2, hy⟩) ?_) ?_)
  · intro a' h₁ k₁ ha
    obtain ⟨v, rfl, rfl⟩ := ha
    exact Ev.mk fun s _ => chr_of_range (by omega) (by omega) ⟨⟨_, rfl⟩, keeps_tok s _⟩
  · obtain ⟨t', rfl⟩ := hv
    have := answers_ok (prog := prog) (w := w) ((G₁.keeps k).keeps k') (CodeV.str code.toNat t')
    rw [Int.toNat_of_nonneg hc.1] at this
    exact this
  · intro x y h' k hxy
    obtain ⟨⟨b, rfl, hb⟩, c, rfl, hc'⟩ := hxy
    refine Ev.add_lists hb hc' (by simp [answers]; decide) fun d h₂ _ _ hd => ⟨d, rfl, ?_⟩
    rw [List.map_append]
    exact hd
  intro v s₂ hv k₂ g₂ s₃ gk tr S₃
  have G₃ : Gd mg mb s₃.heap := G.keeps (stays_trans hs (keeps_stays S₃.done))
  have tr' : Seqs s₂.heap g₂ := fun a o e ⟨xs, n, hd⟩ => tr a o e ((S.keeps k₂).not_own_seq e hd)
  have hans : IsBL (answers code ++ answers code) v s₃.heap := IsBL.up (IsBL.seqs hv tr') S₃.imm
  refine wpAny_execs_cons (St.assignC S₃ (P := IsBL (answers code ++ answers code)) rfl ?_ ?_)
  · refine (Ev.comp_bb (f := fun b => b == true) (cl := []) hh rfl (Ev.val (St.loc S₃ rfl) fun h' k => IsBL.up hans k) (fun b h' C m' k hn hm => ?_) (by simp [answers]; decide)).weak fun v h' _ e => by simpa using e
    exact Ev.is_bool (Ev.val (Ev.name_local hn hm) fun _ _ => rfl)
  intro v' s₄ hv' k₄ g₅ s₅ gk' trr S₅
  have tr'' : Seqs s₄.heap g₅ := fun a o e ⟨xs, n, hd⟩ => trr a o e ((S₃.keeps k₄).not_own_seq e hd)
  have hheld : IsBL (answers code ++ answers code) v' s₅.heap := IsBL.up (IsBL.seqs hv' tr'') S₅.imm
  have hans₅ : IsBL (answers code ++ answers code) v s₅.heap := IsBL.up (IsBL.up (IsBL.seqs hv tr') gk') S₅.imm
  have G₅ : Gd mg mb s₅.heap := G.keeps (stays_trans hs (keeps_stays S₅.done))
  have hu : A.units + 64 < cLine := by have := R.2.1; omega
  have h30 : (answers code ++ answers code).length ≤ sizeLine := by simp [answers]; decide
  refine wpAny_execs_cons (exec_if (b := false) ?_ (fun e => nomatch e) fun _ s₆ k₆ => wpAny_execs_nil ?_)
  · refine Ev.test_bool (Ev.any_cons (a := false) (b := false) ?_ fun _ h₁ k₁ => Ev.any_cons (a := false) (b := false) ?_ fun _ _ _ => Ev.any_nil)
    · refine (Ev.test_ne_bools (bs := answers code ++ answers code) (cs := answers code ++ answers code) (Ev.val (St.cel S₅ rfl rfl) fun h' k => IsBL.up hheld k) ?_ hu).weak fun v _ _ e => by simpa using e
      refine (Ev.comp_bb (f := fun b => b != false) (cl := []) hh rfl (Ev.val (St.loc S₅ rfl) fun h' k => IsBL.up hans₅ k) (fun b h' C m' k hn hm => ?_) h30).weak fun v h' _ e => by simpa using e
      exact Ev.isnot_bool (Ev.val (Ev.name_local hn hm) fun _ _ => rfl)
    · refine (Ev.test_ne_bools (bs := answers code) (cs := answers code) (Ev.slice_bools (Ev.val ((St.cel S₅ rfl rfl).mono k₁) fun h' k => IsBL.up hheld (stays_trans k₁ k)) (Ev.slice Ev.part_none (Ev.part_some Ev.int) Ev.part_none) h30 ?_)
        (Ev.slice_bools (Ev.val ((St.cel S₅ rfl rfl).mono k₁) fun h' k => IsBL.up hheld (stays_trans k₁ k)) (Ev.slice (Ev.part_some Ev.int) Ev.part_none Ev.part_none) h30 ?_) hu).weak fun v _ _ e => by simpa using e
      · exact (slicePick_upto' _ 15).trans (by simp [answers])
      · exact (slicePick_from' _ 15).trans (by simp [answers])
  have S₆ := S₅.keeps k₆
  have hheld₆ := IsBL.up hheld (keeps_stays k₆)
  have G₆ := G₅.keeps (keeps_stays k₆)
  refine wpAny_execs_cons (St.ret S₆ (P := IsI (told code mask)) ?_ fun v s₇ p k => ⟨p, k⟩)
  have e15 : ((((List.range 15).filter fun k => (answers code).getD k false && bit mask k).map fun k : Nat => (k : Int))).length = told code mask := by rw [List.length_map]; rfl
  rw [← e15]
  refine Ev.len_ints G₆ (Ev.comp_range (n := 15) (ok := fun k => (answers code).getD k false && bit mask k) (f := fun k => (k : Int)) (cl := [("mask", L + 1), ("held", L + 2)]) hh rfl (Ev.range1 G₆ Ev.int) (fun i t' h' C m' hi k hn hm => ?_) (fun i t' h' C m' hi _ k hn hm => ?_) (by decide)) ?_
  · refine Ev.tests_one (Ev.test_bool (Ev.all_cons (a := (answers code).getD i false) (b := bit mask i) ?_ fun _ h₂ k₂ => (Ev.all_cons (a := bit mask i) (b := true) ?_ fun _ _ _ => Ev.all_nil).weak fun _ _ _ e => by simpa using e))
    · refine Ev.testB (Ev.item_bool (ns := answers code ++ answers code) (k := i) (Ev.val (Ev.name_cell (c := L + 2) rfl ((S₆.cell "held" (L + 2) rfl).keeps k)) fun h₂ k₂ => IsBL.up hheld₆ (stays_trans k k₂)) (Ev.val (Ev.name_local hn hm) fun _ _ => ⟨_, rfl⟩) (by omega) ?_)
      have : i < (answers code).length := hi
      rw [List.getElem?_append_left this, List.getD_eq_getElem?_getD, List.getElem?_eq_getElem this]
      rfl
    · exact Ev.testI (bshr (Ev.val (Ev.name_cell (c := L + 1) rfl ((S₆.cell "mask" (L + 1) rfl).keeps (stays_trans k k₂))) fun _ _ => ⟨_, rfl⟩) (Ev.val (Ev.name_local (hn.keeps k₂) hm) fun _ _ => ⟨_, rfl⟩))
  · exact Ev.val (Ev.name_local hn hm) fun _ _ => ⟨_, rfl⟩
  · rw [List.length_map]
    exact Nat.le_trans (List.length_filter_le _ _) (by simp; decide)
end
end Mine
end

section
open PySem PySem.W PyProof.Rows
namespace Mine

abbrev IsILL (rows : List (List Int)) : Value → Heap → Prop := fun v h => ∃ a vs, v = .ref a ∧ h.IsList a vs.toArray ∧ All2 (fun r v => IsIL r v h) rows vs
theorem All2.seqs {h h' : Heap} (k : Seqs h h') {rows : List (List Int)} {vs : List Value} (x : All2 (fun r v => IsIL r v h) rows vs) : All2 (fun r v => IsIL r v h') rows vs := x.mono fun _ _ y => IsIL.seqs y k
theorem IsILL.up {h h' : Heap} {v : Value} {rows : List (List Int)} (x : IsILL rows v h) (k : h.StaysIn h') : IsILL rows v h' :=
  let ⟨a, vs, e, l, i⟩ := x; ⟨a, vs, e, isList_up l k, i.mono fun _ _ y => IsIL.up y k⟩
theorem IsILL.seqs {h h' : Heap} {v : Value} {rows : List (List Int)} (x : IsILL rows v h) (k : Seqs h h') : IsILL rows v h' :=
  let ⟨a, vs, e, l, i⟩ := x; ⟨a, vs, e, isList_seqs l k, i.seqs k⟩
theorem All2.get {α β : Type} {R : α → β → Prop} : ∀ {l₁ : List α} {l₂ : List β}, All2 R l₁ l₂ → ∀ {k : Nat} {a : α}, l₁[k]? = some a → ∃ b, l₂[k]? = some b ∧ R a b
  | _, _, .nil, k, a, e => by simp at e
  | _, _, .cons x r, 0, a, e => by simp at e; subst e; exact ⟨_, by simp, x⟩
  | _, _, .cons x r, k + 1, a, e => by simpa using r.get (by simpa using e)

section
variable {prog : Program} {w : World} {mg mb : Str → Option Value} {A : Around} {h : Heap} {env : Env}

theorem Ev.ell_nil {pos : Pos} : Ev prog w A h (spliced (backTo pos (starEach [] env))) (fun vs h' => All2 (fun r v => IsIL r v h') [] vs) := Ev.spl_nil.weak fun _ _ _ e => e ▸ .nil
theorem Ev.ell {pos : Pos} {e : Expr} {es : List Expr} {n : List Int} {ns : List (List Int)} (he : Ev prog w A h (eval e env) (IsIL n)) (hr : Ev prog w A h (spliced (backTo pos (starEach es env))) (fun vs h' => All2 (fun r v => IsIL r v h') ns vs))
    (hs : starEach (e :: es) env = (false, eval e env) :: starEach es env := by rfl) : Ev prog w A h (spliced (backTo pos (starEach (e :: es) env))) (fun vs h' => All2 (fun r v => IsIL r v h') (n :: ns) vs) := by
  rw [hs]
  exact (Ev.spl_cons (R := fun v vs h' => IsIL n v h' ∧ All2 (fun r v => IsIL r v h') ns vs) he fun v h' k hv => (hr.mono k).weak fun _ _ k2 e => ⟨IsIL.up hv k2, e⟩).weak fun vs _ _ e => by
    obtain ⟨v, vs', rfl, x, y⟩ := e
    exact .cons x y
theorem Ev.list_lists {elts : List Expr} {pos : Pos} {ns : List (List Int)} (hl : ns.length ≤ 100) (hs : Ev prog w A h (spliced (backTo pos (starEach elts env))) (fun vs h' => All2 (fun r v => IsIL r v h') ns vs)) :
    Ev prog w A h (eval (.List elts pos) env) (IsILL ns) := by
  show Ev prog w A h (standAt pos >>= fun _ => spliced (backTo pos (starEach elts env)) >>= fun vs => newList vs) _
  exact Ev.at (Ev.bind hs fun vs h' k i => Ev.newL (by rw [← i.length]; exact Nat.le_trans hl (by decide)) fun a h₂ k₂ l => ⟨a, vs, rfl, l, i.mono fun _ _ y => IsIL.up y k₂⟩)
theorem Ev.item_list {value slice : Expr} {pos : Pos} {rows : List (List Int)} {k : Nat} {row : List Int} (hv : Ev prog w A h (eval value env) (IsILL rows)) (hi : Ev prog w A h (eval slice env) (IsI k)) (hk : k < 2 ^ 62) (hn : rows[k]? = some row)
    (hs : ∀ l u, subscripted slice false (.ref l) (.int k u) = PySem.operate [.ref l, .int k u] (getItem (.ref l) (.int k u)) := by intro _ _; with_unfolding_all rfl) : Ev prog w A h (eval (.Subscript value slice pos) env) (IsIL row) :=
  Ev.subscript hv (R := fun o i h' => IsILL rows o h' ∧ ∃ t, i = .int k t) (fun o h' kk p => ((hi.mono kk)).weak fun i h'' k2 q => ⟨IsILL.up p k2, q⟩) fun o i h' kk r => by
    obtain ⟨⟨l, vs, rfl, hl, is⟩, t, rfl⟩ := r
    obtain ⟨u, hu, hx⟩ := is.get hn
    exact (Ev.tail_list hl (by omega) (by omega) (by simpa using hu) (hs l t)).weak fun v h₂ k₂ e => by rw [e]; exact IsIL.up hx k₂
/-- a comprehension over a list of ints that gives ints -/
theorem Ev.comp_ints {elt iter : Expr} {x : Str} {px : Pos} {ifs : List Expr} {scope : Scope} {cl : List (Str × Addr)} {pos : Pos} {ns : List Int} {ok : Int → Bool} {f : Int → Int} (hh : A.handled = none) (hclos : closureFor scope env = Pure.pure cl)
    (hit : Ev prog w A h (eval iter env) (IsIL ns))
    (htest : ∀ n t h' C m', n ∈ ns → h.StaysIn h' → h'.Ns C m' → m' x = some (.int n t) → Ev prog w A h' (tests ifs (compEnvC scope cl C env)) (IsTrue (ok n)))
    (helt : ∀ n t h' C m', n ∈ ns → ok n = true → h.StaysIn h' → h'.Ns C m' → m' x = some (.int n t) → Ev prog w A h' (eval elt (compEnvC scope cl C env)) (IsI (f n))) (hn : ns.length ≤ 1000)
    (hcell : ∀ y ∈ scope.names, y.2 ≠ .cell := by decide) (hkind : scope.kind = .function := by rfl) (hnames : ∀ y ∈ scope.names, y.2 = .local → scope.names.lookup y.1 = some .local := by decide) (hx : scope.names.lookup x = some .local := by rfl)
    (hs : ∀ x, foldedSetIterable iter env x = Pure.pure x := by intro _; rfl) : Ev prog w A h (eval (.ListComp elt [⟨.Name x px, iter, ifs, 0⟩] scope pos) env) (IsIL ((ns.filter ok).map f)) := by
  have key : ∀ i, i < ns.length → ns[i]? = some (ns.getD i 0) := fun i hi => by simp [List.getD_eq_getElem?_getD, List.getElem?_eq_getElem hi]
  refine (Ev.listcomp (n := ns.length) (P := fun i v => ∃ t, v = .int (ns.getD i 0) t) (ok := fun i => ok (ns.getD i 0)) (Y := fun _ i y _ => ∃ t, y = .int (f (ns.getD i 0)) t) hclos hit (fun v h' k hv => ?_) (fun _ _ _ _ _ q _ => q) (fun i v h' C m' hi hp k hns hm => ?_) (fun fb i v h' C m' hi hoi hp k hns hm _ => ?_) (Nat.le_trans hn (by decide)) hcell hkind hnames hx hs).weak fun v h' k hv => ?_
  · obtain ⟨a, vs, rfl, hl, is⟩ := hv
    have W := ItOk.list (prog := prog) (w := w) hh hl
    rw [List.size_toArray, is.length] at W
    refine fun s Q E hs k => W s Q E hs fun I fp St s₂ hI W' hst hfp hIo hfv k₂ => k I fp St s₂ hI ⟨W'.sub, W'.frame, fun i s Q E hi st hQ => W'.item i s Q E hi st fun v h' tk hP => hQ v h' tk ?_, W'.done, W'.self⟩ hst hfp hIo hfv k₂
    obtain ⟨t, ht⟩ := ints_get is (key i hi)
    exact ⟨t, by simpa [ht] using hP.symm⟩
  · obtain ⟨t, rfl⟩ := hp
    exact htest _ t h' C m' (List.mem_of_getElem? (key i hi)) k hns hm
  · obtain ⟨t, rfl⟩ := hp
    exact helt _ t h' C m' (List.mem_of_getElem? (key i hi)) hoi k hns hm
  · obtain ⟨D, ys, fb, rfl, _, hl, hall⟩ := hv
    refine ⟨D, ys, rfl, hl, ?_⟩
    have := All2.ints (f := fun i => f (ns.getD i 0)) hall
    have e : ((List.range ns.length).filter fun i => ok (ns.getD i 0)).map (fun i => f (ns.getD i 0)) = (ns.filter ok).map f := by
      have e0 : ns = (List.range ns.length).map fun i => ns.getD i 0 := by
        apply List.ext_getElem <;> simp
        intro i h1
        simp [List.getElem?_eq_getElem h1]
      conv => rhs; rw [e0]
      rw [List.filter_map, List.map_map]
      rfl
    rw [e] at this
    exact this
end

def bnd : List (List Int) := [[48, 58, 65, 91, 97, 123], [65, 91, 97, 123], [0, 128], [9, 10, 32, 33], [0, 32, 127, 128], [48, 58], [33, 127], [97, 123], [32, 127], [33, 48, 58, 65, 91, 97, 123, 127], [9, 14, 32, 33], [65, 91], [48, 58, 65, 71, 97, 103], [0, 32], [128]]
def cnt (code : Int) (k : Nat) : Nat := ((bnd.getD k []).filter fun b => decide (b ≤ code)).length
def height (code mask : Int) : Nat := ((((List.range 15).filter (bit mask)).map fun k => (cnt code k : Int)).filter fun c => c.fmod 2 == 1).length

section
variable {prog : Program} {w : World} {mg mb : Str → Option Value} {A : Around} {h : Heap} {env : Env}
theorem height_ok {code mask : Int} {t u : Tok} (G : Gd mg mb h) : Fn prog w mg "_law_height" [.int code t, .int mask u] h 1 (IsI (height code mask)) := by
  refine Fn.of_bodyC (i := 19) (binds := [("code", .int code t), ("mask", .int mask u)]) (k := 0) G rfl (fun s s₁ A L a cd R hs S => ?_) (fun _ _ _ => rfl) rfl (by decide)
  have G₁ : Gd mg mb s₁.heap := G.keeps (stays_trans hs (keeps_stays S.done))
  have hh := R.2.2
  refine wpAny_execs_cons ?_
  refine @St.assignC prog w A _ _ _ _ _ _ "bounds" _ _ _ (L + 3) (IsILL bnd) _ _ S rfl ?_ ?_ rfl rfl rfl
  · refine Ev.list_lists (ns := bnd) (by decide) ?_
    unfold bnd
    repeat' (first | exact Ev.ell_nil | refine Ev.ell ?_ ?_ | exact Ev.ei_nil | refine Ev.ei Ev.int ?_ | refine Ev.list_ints (Nat.le_of_ble_eq_true rfl) ?_)
  intro v s₂ hv k₂ g₂ s₃ gk tr S₃
  have G₃ : Gd mg mb s₃.heap := G.keeps (stays_trans hs (keeps_stays S₃.done))
  have tr' : Seqs s₂.heap g₂ := fun a o e ⟨xs, n, hd⟩ => tr a o e ((S.keeps k₂).not_own_seq e hd)
  have hb : IsILL bnd v s₃.heap := IsILL.up (IsILL.seqs hv tr') S₃.imm
  refine wpAny_execs_cons (St.assignL S₃ (n := 15) (P := fun i v => ∃ t, v = .int i t) (ok := bit mask) (Y := fun _ i y _ => ∃ t, y = .int (cnt code i) t) (cl := [("mask", L + 2), ("code", L + 1), ("bounds", L + 3)]) rfl (Ev.range1 G₃ Ev.int) (fun v h' k hv => itRange hh (by decide) hv) (fun _ _ _ _ _ q _ => q)
    (fun i v' h' C m' hi hp k hn hm => ?_) (fun fb i v' h' C m' hi hoi hp k hn hm _ => ?_) ?_)
  · obtain ⟨t', rfl⟩ := hp
    exact Ev.tests_one (Ev.testI (bshr (Ev.val (Ev.name_cell (c := L + 2) rfl ((S₃.cell "mask" (L + 2) rfl).keeps k)) fun _ _ => ⟨_, rfl⟩) (Ev.val (Ev.name_local hn hm) fun _ _ => ⟨_, rfl⟩)))
  · obtain ⟨t', rfl⟩ := hp
    have e15 : (((bnd.getD i []).filter fun b => decide (b ≤ code)).map fun b => b).length = cnt code i := by rw [List.length_map]; rfl
    rw [← e15]
    have len : (bnd.getD i []).length ≤ 8 := by
      have : ∀ i : Fin 15, (bnd.getD i []).length ≤ 8 := by decide
      exact this ⟨i, hi⟩
    refine Ev.len_ints (G₃.keeps k) (Ev.comp_ints (ns := bnd.getD i []) (ok := fun b => decide (b ≤ code)) (f := fun b => b) (cl := [("code", L + 1)]) hh rfl (Ev.item_list (rows := bnd) (k := i) (Ev.val (Ev.name_cell (c := L + 3) rfl ((S₃.cell "bounds" (L + 3) rfl).keeps k)) fun h₂ k₂ => IsILL.up hb (stays_trans k k₂)) (Ev.val (Ev.name_local hn hm) fun _ _ => ⟨_, rfl⟩) (by omega) ?_)
      (fun b tb h₂ C₂ m₂ _ k₂ hn₂ hm₂ => ?_) (fun b tb h₂ C₂ m₂ _ _ k₂ hn₂ hm₂ => Ev.val (Ev.name_local hn₂ hm₂) fun _ _ => ⟨_, rfl⟩) (by omega)) ?_
    · have : i < bnd.length := hi
      simp [List.getD_eq_getElem?_getD, List.getElem?_eq_getElem this]
    · exact Ev.tests_one (Ev.test_cmpI (Ev.val (Ev.name_local hn₂ hm₂) fun _ _ => ⟨_, rfl⟩) (Ev.val (Ev.name_cell (c := L + 1) rfl ((S₃.cell "code" (L + 1) rfl).keeps (stays_trans k k₂))) fun _ _ => ⟨_, rfl⟩) fun _ _ _ => Ev.opLe)
    · rw [List.length_map]
      exact Nat.le_trans (List.length_filter_le _ _) (Nat.le_trans len (by decide))
  · intro D ys fb s₄ hD hl hall k₄ g₅ s₅ gk₅ tr₅ S₅
    have hl₅ : s₅.heap.IsList D ys.toArray := by
      obtain ⟨o, ho, hc, n, hd⟩ := hl
      exact ⟨o, S₅.imm _ _ (tr₅ D o ho ((S₃.keeps k₄).not_own_seq ho hd) (.inr rfl)), hc, n, hd⟩
    have hpassed : IsIL (((List.range 15).filter (bit mask)).map fun k => (cnt code k : Int)) (.ref D) s₅.heap := ⟨D, ys, rfl, hl₅, All2.ints hall⟩
    have G₅ : Gd mg mb s₅.heap := G.keeps (stays_trans hs (keeps_stays S₅.done))
    have e15 : ((((((List.range 15).filter (bit mask)).map fun k => (cnt code k : Int)).filter fun c => c.fmod 2 == 1)).map fun c => c).length = height code mask := by rw [List.length_map]; rfl
    have len : (((List.range 15).filter (bit mask)).map fun k => (cnt code k : Int)).length ≤ 15 := by rw [List.length_map]; exact Nat.le_trans (List.length_filter_le _ _) (by simp)
    refine wpAny_execs_cons (St.ret S₅ (P := IsI (height code mask)) ?_ fun v s₇ p k => ⟨p, k⟩)
    rw [← e15]
    refine Ev.len_ints G₅ (Ev.comp_ints (ok := fun c => c.fmod 2 == 1) (f := fun c => c) (cl := []) hh rfl (Ev.val (St.loc S₅ rfl) fun h' k => IsIL.up hpassed k) (fun b tb h₂ C₂ m₂ _ k₂ hn₂ hm₂ => ?_) (fun b tb h₂ C₂ m₂ _ _ k₂ hn₂ hm₂ => Ev.val (Ev.name_local hn₂ hm₂) fun _ _ => ⟨_, rfl⟩) (by omega)) ?_
    · exact Ev.tests_one (Ev.test_cmpI (Ev.fmod (by decide) (Ev.val (Ev.name_local hn₂ hm₂) fun _ _ => ⟨_, rfl⟩) Ev.int) Ev.int fun _ _ _ => Ev.opEq)
    · rw [List.length_map]
      exact Nat.le_trans (List.length_filter_le _ _) (Nat.le_trans len (by decide))
end
end Mine
end

section
open PySem PySem.W PyProof.Rows
namespace Mine

section
variable {prog : Program} {w : World} {A : Around} {s : Shared} {R : Result → Shared → Prop}

theorem newEnv_comp {scope : Scope} {globals : Addr} {closure : List (Str × Addr)} {qual : Str} {env : Env} {Q : Env → Shared → Prop} {E : Value → Shared → Prop}
    (h : Q (newEnv scope s.heap.objs.size globals (cellsFrom (s.heap.objs.size + 1) scope.names closure) qual none .none (some env) builtinsNs) { s with heap := pushCells (s.heap.push { cls := .type "dict", data := .dict #[] }) scope.names }) :
    wpAny (model prog w) A (newFunctionEnv scope globals closure [] qual none .none (some env)) Q E s := by
  simp only [newFunctionEnv, Option.isSome_some, if_true]
  refine wpAny_bind (wpAny_alloc ?_)
  refine wpAny_bind (wpAny_layCells _ (fun name kind cells => by cases hkc : kind == NameKind.cell <;> simp [hkc]) _ _ _ _ ?_)
  rw [show ({ s with heap := s.heap.push { cls := .type "dict", data := .dict #[] } } : Shared).heap.objs.size = s.heap.objs.size + 1 from Heap.size_push ..]
  refine wpAny_bind (wpAny_pure ?_)
  exact wpAny_pure h

/-- the block of a list comprehension behind its iterator: the loop's name is a cell -/
theorem comp_blockC {elt iter : Expr} {x : Str} {px : Pos} {ifs : List Expr} {scope : Scope} {cl : List (Str × Addr)} {pos : Pos} {I : Addr} {fp : List Addr} {n : Nat} {P : Nat → Value → Prop} {St : Nat → Heap → Prop} {env : Env} {h₀ : Heap}
    {ok : Nat → Bool} {Y : (Addr → Prop) → Nat → Value → Heap → Prop} {E : Value → Shared → Prop} {RR : Value → Addr → Result → Shared → Prop}
    (W : Walks prog w A I fp [I] n P St) (hsz : n ≤ sizeLine) (hI : ∀ i h, St i h → ∃ o, h.get? I = some o)
    (hc1 : ∀ n cl, cellsFrom n scope.names cl = (x, n) :: cl) (hp1 : ∀ h, pushCells h scope.names = h.push { cls := .type "cell", data := .cell none }) (hkind : scope.kind = .function) (hx : (relabel scope env).names.lookup x = some .cell)
    (hst : St 0 s.heap) (hfp : ∀ b ∈ fp, b < s.heap.objs.size) (hI₀ : h₀.get? I = none) (k0 : h₀.StaysIn s.heap)
    (hY : ∀ fb i y h h', Y fb i y h → (∀ b o, ¬ fb b → h.get? b = some o → h'.get? b = some o) → Y fb i y h')
    (htest : ∀ i v h' C c, i < n → P i v → h₀.StaysIn h' → h'.IsCell c (some v) → Ev prog w A h' (tests ifs (compEnvC scope ((x, c) :: cl) C env)) (IsTrue (ok i)))
    (helt : ∀ fb i v h' C c, i < n → ok i = true → P i v → h₀.StaysIn h' → h'.IsCell c (some v) → (∀ b, fb b → ∃ o, h'.get? b = some o) → Ev prog w A h' (eval elt (compEnvC scope ((x, c) :: cl) C env)) (Y fb i))
    (hRR : ∀ D C h' tk m' ys fb, s.heap.get? D = none → s.heap.get? C = none → D ≠ C → h'.Ns C m' → h'.IsList D ys.toArray → fb D → (∀ b, fb b → b = I ∨ s.heap.get? b = none) → All2 (fun i y => Y fb i y h') ((List.range n).filter ok) ys →
      (∀ b o, b ≠ I → s.heap.get? b = some o → h'.get? b = some o) → RR (.ref D) C (.ok .next) { s with heap := h', toks := tk }) :
    wpAny (model prog w) A (newList []) (fun acc s₃ => wpAny (model prog w) A (newFunctionEnv scope env.globals cl [] env.qual none .none (some env)) (fun cenv s₄ =>
      codeAny (model prog w) A (.compStart (.ListComp elt [⟨.Name x px, iter, ifs, 0⟩] scope pos) 0 (.ref I) acc { cenv with scope := relabel scope env }) (RR acc cenv.locals) s₄) E s₃) E s := by
  refine wpAny_newObj_type (newEnv_comp ?_)
  rw [hc1, hp1]
  dsimp only
  generalize hH2 : s.heap.push { cls := .type "list", dict := none, data := .seq ([] : List Value).toArray } = H2
  generalize hH3 : H2.push { cls := .type "dict", data := .dict #[] } = H3
  generalize hh₁ : H3.push { cls := .type "cell", data := .cell none } = h₁
  have sD : H2.objs.size = s.heap.objs.size + 1 := by rw [← hH2, Heap.size_push]
  have sC : H3.objs.size = H2.objs.size + 1 := by rw [← hH3, Heap.size_push]
  have up₂ : s.heap.StaysIn H2 := fun b o e => hH2 ▸ Heap.get?_push_of_some _ e
  have up₃ : H2.StaysIn H3 := fun b o e => hH3 ▸ Heap.get?_push_of_some _ e
  have up₁ : H3.StaysIn h₁ := fun b o e => hh₁ ▸ Heap.get?_push_of_some _ e
  have old : s.heap.StaysIn h₁ := stays_trans up₂ (stays_trans up₃ up₁)
  have hIf : I ∈ fp := W.sub I (List.mem_singleton.mpr rfl)
  have hIlt : I < s.heap.objs.size := hfp I hIf
  have hacc : h₁.IsList s.heap.objs.size #[] := ⟨_, stays_trans up₃ up₁ _ _ (hH2 ▸ Heap.get?_push_size _ rfl), rfl, _, rfl⟩
  have hNs : h₁.Ns H2.objs.size (fun _ => none) := by
    have := Heap.Ns.new H2 (.type "dict")
    rw [hH3] at this
    exact this.keeps up₁
  have hcell : h₁.IsCell H3.objs.size none := ⟨_, hh₁ ▸ Heap.get?_push_size _ rfl, rfl⟩
  have hst₁ : St 0 h₁ := W.frame _ _ _ hst fun b _ o e => old b o e
  have fresh : ∀ a, s.heap.objs.size ≤ a → s.heap.get? a = none := fun a ha => by
    cases e : s.heap.get? a with
    | none => rfl
    | some o' => exact absurd (Heap.lt_size e) (Nat.not_lt.mpr ha)
  have ne : ∀ {a b : Nat}, a < b → a ≠ b := fun h => Nat.ne_of_lt h
  have hXe : H2.objs.size + 1 = H3.objs.size := sC.symm
  rw [hXe]
  have lD : s.heap.objs.size < H2.objs.size := by omega
  have lC : H2.objs.size < H3.objs.size := by omega
  have loop : ∀ s₃ : Shared, s₃ = { s with heap := h₁ } →
      codeAny (model prog w) A (.compLoop (.ListComp elt [⟨.Name x px, iter, ifs, 0⟩] scope pos) 0 (.ref I) (.ref s.heap.objs.size) (compEnvC scope ((x, H3.objs.size) :: cl) H2.objs.size env))
        (RR (.ref s.heap.objs.size) H2.objs.size) s₃ := by
    rintro s₃ rfl
    refine comp_loop (h₀ := h₀) (X := H3.objs.size) (Inv := fun h => ∃ v, h.IsCell H3.objs.size v) (B := fun v h => h.IsCell H3.objs.size (some v)) (ok := ok) (Y := Y) W hsz ?_ ?_ ?_ ?_ (Ne.symm (ne (Nat.lt_trans lD lC))) (Ne.symm (ne (Nat.lt_trans hIlt (Nat.lt_trans lD lC)))) (Ne.symm (ne hIlt))
      (fun hm => absurd (hfp _ hm) (Nat.not_lt.mpr (Nat.le_of_lt (Nat.lt_trans lD lC)))) (fun hm => Nat.lt_irrefl _ (hfp _ hm)) ?_ hI hst₁ hacc ⟨_, hcell⟩ ?_ hY ?_ ?_ ?_
    · rintro v s' Q E' ⟨v₀, hv₀⟩ k
      refine wpAny_assign_Name (wpAny_storeName_cell (c := H3.objs.size) hkind hx (by simp [compEnvC]) hv₀ fun h' hv hs => k h' _ hs hv)
    · rintro h h' ⟨v, o, ho, hd⟩ k
      exact ⟨v, o, k o ho, hd⟩
    · rintro v h h' hc k
      exact hc.keeps k
    · rintro v h hc
      exact ⟨_, hc⟩
    · rintro h ⟨v, o, ho, _⟩
      exact ⟨o, ho⟩
    · intro b o e
      have e' := k0 b o e
      have lt := Heap.lt_size e'
      refine ⟨old b o e', ne (Nat.lt_trans lt (Nat.lt_trans lD lC)), ?_, ne lt⟩
      rintro rfl
      rw [hI₀] at e; cases e
    · rintro i v h' hi hp k hc
      exact htest i v h' _ _ hi hp k hc
    · rintro fb i v h' hi hoi hp k hc hfb
      exact helt fb i v h' _ _ hi hoi hp k hc hfb
    · rintro h' tk ys _ hl hall kk
      refine hRR _ _ h' tk (fun _ => none) ys _ (fresh _ (Nat.le_refl _)) (fresh _ (by omega)) (ne lD) ?_ hl (.inr (.inr rfl)) ?_ hall fun b o hb e => kk b o (ne (Nat.lt_trans (Heap.lt_size e) (Nat.lt_trans lD lC))) hb (ne (Heap.lt_size e)) (old b o e)
      · exact hNs.at' fun o e => kk _ o (ne lC) (Ne.symm (ne (Nat.lt_trans hIlt lD))) (Ne.symm (ne lD)) e
      · rintro b (rfl | rfl | rfl)
        · exact .inr (fresh _ (by omega))
        · exact .inl rfl
        · exact .inr (fresh _ (Nat.le_refl _))
  exact codeAny_compStart_list (loop _ rfl) (W.self 0 _ _ _ hst₁ (loop _ rfl))

theorem Ev.listcompC {h : Heap} {env : Env} {elt iter : Expr} {x : Str} {px : Pos} {ifs : List Expr} {scope : Scope} {cl : List (Str × Addr)} {pos : Pos} {n : Nat} {Pv : Value → Heap → Prop} {P : Nat → Value → Prop} {ok : Nat → Bool} {Y : (Addr → Prop) → Nat → Value → Heap → Prop}
    (hclos : closureFor scope env = Pure.pure cl)
    (hit : Ev prog w A h (eval iter env) Pv) (hsrc : ∀ v h', h.StaysIn h' → Pv v h' → ItOk prog w A h' v n P)
    (hY : ∀ fb i y h h', Y fb i y h → (∀ b o, ¬ fb b → h.get? b = some o → h'.get? b = some o) → Y fb i y h')
    (htest : ∀ i v h' C c, i < n → P i v → h.StaysIn h' → h'.IsCell c (some v) → Ev prog w A h' (tests ifs (compEnvC scope ((x, c) :: cl) C env)) (IsTrue (ok i)))
    (helt : ∀ fb i v h' C c, i < n → ok i = true → P i v → h.StaysIn h' → h'.IsCell c (some v) → (∀ b, fb b → ∃ o, h'.get? b = some o) → Ev prog w A h' (eval elt (compEnvC scope ((x, c) :: cl) C env)) (Y fb i))
    (hYC : ∀ fb C i y h h', Y fb i y h → (∀ b o, b ≠ C → h.get? b = some o → h'.get? b = some o) → (∃ m, h.Ns C m) → Y fb i y h')
    (hsz : n ≤ sizeLine := by decide)
    (hc1 : ∀ n cl, cellsFrom n scope.names cl = (x, n) :: cl := by intro _ _; rfl) (hp1 : ∀ h, pushCells h scope.names = h.push { cls := .type "cell", data := .cell none } := by intro _; rfl) (hkind : scope.kind = .function := by rfl) (hx : (relabel scope env).names.lookup x = some .cell := by rfl)
    (hnames : ∀ y ∈ scope.names, y.2 = .local → scope.names.lookup y.1 = some .local := by decide)
    (hs : ∀ x, foldedSetIterable iter env x = Pure.pure x := by intro _; rfl) :
    Ev prog w A h (eval (.ListComp elt [⟨.Name x px, iter, ifs, 0⟩] scope pos) env) (fun v h' => ∃ D ys fb, v = .ref D ∧ h.get? D = none ∧ h'.IsList D ys.toArray ∧ All2 (fun i y => Y fb i y h') ((List.range n).filter ok) ys) := Ev.mk fun s hss => by
  rw [eval_ListComp]
  refine wpAny_comprehension_free (use := none) rfl hs hclos hkind hnames (Ev.run hit hss fun xv s₁ pv k₁ => ?_)
  refine hsrc xv s₁.heap (stays_trans hss (keeps_stays k₁)) pv s₁ _ _ (stays_refl _) fun I fp St s₂ hI W hst hfp hIo hfv k₂ => ?_
  have hI₀ : h.get? I = none := not_of_stays (stays_trans hss (keeps_stays k₁)) hI
  have kk : h.StaysIn s₂.heap := stays_trans hss (keeps_stays (keeps_trans k₁ k₂))
  refine comp_blockC (RR := fun acc C => compPost (model prog w) A (fun _ _ => False) none _ acc C) (h₀ := h) (ok := ok) (Y := Y) W hsz hIo hc1 hp1 hkind hx hst hfp hI₀ kk hY htest helt ?_
  · intro D C h' tk m' ys fb hD hC hDC hn hl hfb _ hall hk
    refine ⟨m', hn, fun h'' hs'' => ⟨⟨D, ys, fb, rfl, not_of_stays kk hD, ?_, ?_⟩, ?_⟩⟩
    · obtain ⟨o, ho, r⟩ := hl
      exact ⟨o, hs''.extBut D o hDC ho, r⟩
    · exact hall.mono fun i y q => hYC _ C _ _ _ _ q (fun b o nb e => hs''.extBut b o nb e) ⟨m', hn⟩
    · obtain ⟨H1, t1, rfl, q1⟩ := k₁
      obtain ⟨H2, t2, rfl, q2⟩ := k₂
      refine ⟨h'', _, rfl, fun b o e => hs''.extBut b o ?_ (hk b o ?_ (q2 b o (q1 b o e)))⟩
      · rintro rfl
        rw [q2 _ _ (q1 _ _ e)] at hC; cases hC
      · rintro rfl
        rw [q1 _ _ e] at hI; cases hI
end
end Mine
end

section
open PySem PySem.W PyProof.Rows
namespace Mine

def lmin : List Int → Int
  | [] => 0
  | a :: r => r.foldl min a
theorem foldl_min_le : ∀ (r : List Int) (a : Int), r.foldl min a ≤ a ∧ ∀ x ∈ r, r.foldl min a ≤ x
  | [], a => ⟨Int.le_refl _, fun _ h => (by cases h)⟩
  | b :: r, a => by
    obtain ⟨h1, h2⟩ := foldl_min_le r (min a b)
    simp only [List.foldl_cons]
    refine ⟨by omega, fun x hx => ?_⟩
    rcases List.mem_cons.mp hx with rfl | hx
    · omega
    · exact h2 x hx
theorem foldl_min_mem : ∀ (r : List Int) (a : Int), r.foldl min a = a ∨ r.foldl min a ∈ r
  | [], a => .inl rfl
  | b :: r, a => by
    simp only [List.foldl_cons]
    rcases foldl_min_mem r (min a b) with h | h
    · by_cases hab : a ≤ b
      · left; rw [h]; omega
      · right; rw [h, show min a b = b by omega]; exact List.mem_cons_self
    · exact .inr (List.mem_cons_of_mem _ h)
theorem lmin_le {ns : List Int} {x : Int} (h : x ∈ ns) : lmin ns ≤ x := by
  cases ns with
  | nil => cases h
  | cons a r =>
    obtain ⟨h1, h2⟩ := foldl_min_le r a
    rcases List.mem_cons.mp h with rfl | h
    · exact h1
    · exact h2 x h
theorem lmin_mem {ns : List Int} (h : ns ≠ []) : lmin ns ∈ ns := by
  cases ns with
  | nil => exact absurd rfl h
  | cons a r =>
    rcases foldl_min_mem r a with e | e
    · show r.foldl min a ∈ _; rw [e]; exact List.mem_cons_self
    · exact List.mem_cons_of_mem _ e
theorem lmin_eq {ns : List Int} {M : Int} (h1 : M ∈ ns) (h2 : ∀ a ∈ ns, M ≤ a) : M = lmin ns :=
  Int.le_antisymm (h2 _ (lmin_mem fun e => by rw [e] at h1; cases h1)) (lmin_le h1)

theorem All2.map_left {α β γ : Type} {R : γ → β → Prop} {f : α → γ} : ∀ {l : List α} {ys : List β}, All2 (fun i y => R (f i) y) l ys → All2 R (l.map f) ys
  | _, _, .nil => .nil
  | _, _, .cons x r => .cons x r.map_left
theorem ints_drop {vs : List Value} {ns : List Int} (i : IntsAre vs ns) : ∀ k : Nat, IntsAre (vs.drop k) (ns.drop k) := by
  induction i with
  | nil => intro k; simpa using IntsAre.nil
  | cons n t r ih =>
    intro k
    cases k with
    | zero => exact .cons n t r
    | succ k => exact ih k
theorem ints_take {vs : List Value} {ns : List Int} (i : IntsAre vs ns) : ∀ k : Nat, IntsAre (vs.take k) (ns.take k) := by
  induction i with
  | nil => intro k; simpa using IntsAre.nil
  | cons n t r ih =>
    intro k
    cases k with
    | zero => exact .nil
    | succ k => exact .cons n t (ih k)

section
variable {prog : Program} {w : World} {mg mb : Str → Option Value} {A : Around} {h : Heap} {env : Env}

theorem Ev.min_list {a : Addr} {vs : List Value} {ns : List Int} (hh : A.handled = none) (hl : h.IsList a vs.toArray) (hi : IntsAre vs ns) (hne : 0 < ns.length) : Ev prog w A h (call (.builtin "min") [.ref a]) (IsI (lmin ns)) := Ev.mk fun s hs => by
  have hl' := isList_up hl hs
  obtain ⟨xs, e⟩ := hi.allInts.items
  have hns : ns = xs.toList.map (·.1) := by
    rw [← hi.numsOf, ← nums_intItems, ← e]
  have hsz : 0 < xs.size := by
    have h3 := hne; rw [hns, List.length_map, Array.length_toList] at h3; exact h3
  rw [e] at hl'
  refine min_intList hh hl' hsz fun v h' tk hv hk => ⟨?_, ⟨h', tk, rfl, hk⟩⟩
  obtain ⟨t, rfl⟩ := intItems_at hv
  obtain ⟨h1, h2⟩ := argBest_lt (numAt xs) (xs.size - 1)
  refine ⟨t, congrArg (Value.int · t) (lmin_eq ?_ fun a ha => ?_)⟩
  · rw [hns, numAt_eq]; exact getD_mem (by rw [List.length_map, Array.length_toList]; omega)
  · rw [hns] at ha
    obtain ⟨j, hj, rfl⟩ := mem_getD ha
    rw [List.length_map, Array.length_toList] at hj
    rw [← numAt_eq]; exact h2 j (by omega)
theorem Ev.castI {e : Expr} {a b : Int} (x : Ev prog w A h (eval e env) (IsI a)) (q : a = b) : Ev prog w A h (eval e env) (IsI b) := q ▸ x
theorem Ev.bmin_list {e : Expr} {p pos : Pos} {ns : List Int} (G : Gd mg mb h) (hh : A.handled = none) (he : Ev prog w A h (eval e env) (IsIL ns)) (hne : 0 < ns.length)
    (hg : env.globals = mainGlobals := by rfl) (heb : env.builtins = builtinsNs := by rfl) (hk : env.scope.kind = .function := by rfl) (hn : env.kindOf "min" = some .globalImplicit := by rfl) (hs : backTo pos (starEach [e] env) = [(false, eval e env)] := by rfl) :
    Ev prog w A h (eval (.Call (.Name "min" p) [e] [] pos) env) (IsI (lmin ns)) :=
  Ev.call_builtin (Ev.name_bi G (by decide) boot_min (by decide) hg heb hk hn) (Ev.args1 he hs) (fun a h' k ha => by
    obtain ⟨v, rfl, b, vs, rfl, l, i⟩ := ha
    exact Ev.min_list hh l i hne) (by rw [hs]; rfl)
theorem Ev.bmin2 {e e' : Expr} {p pos : Pos} {a b : Int} (G : Gd mg mb h) (hh : A.handled = none) (he : Ev prog w A h (eval e env) (IsI a)) (he' : Ev prog w A h (eval e' env) (IsI b))
    (hg : env.globals = mainGlobals := by rfl) (heb : env.builtins = builtinsNs := by rfl) (hk : env.scope.kind = .function := by rfl) (hn : env.kindOf "min" = some .globalImplicit := by rfl) (hs : backTo pos (starEach [e, e'] env) = [(false, eval e env), (false, eval e' env)] := by rfl) :
    Ev prog w A h (eval (.Call (.Name "min" p) [e, e'] [] pos) env) (IsI (min a b)) :=
  Ev.call_builtin (Ev.name_bi G (by decide) boot_min (by decide) hg heb hk hn) (Ev.args2 (R := fun x y _ => (∃ t, x = .int a t) ∧ ∃ u, y = .int b u) he (fun v h' k hv => (he'.mono k).weak fun _ _ _ q => ⟨hv, q⟩) hs) (fun x h' k ha => by
    obtain ⟨v, u, rfl, ⟨t, rfl⟩, t', rfl⟩ := ha
    refine Ev.mk fun s _ => min_two_ints hh fun h'' tk kk => ⟨?_, ⟨h'', tk, rfl, kk⟩⟩
    by_cases q : b < a
    · rw [if_pos q]; exact ⟨t', by rw [show min a b = b by omega]⟩
    · rw [if_neg q]; exact ⟨t, by rw [show min a b = a by omega]⟩) (by rw [hs]; rfl)
theorem Ev.bmax2 {e e' : Expr} {p pos : Pos} {a b : Int} (G : Gd mg mb h) (hh : A.handled = none) (he : Ev prog w A h (eval e env) (IsI a)) (he' : Ev prog w A h (eval e' env) (IsI b))
    (hg : env.globals = mainGlobals := by rfl) (heb : env.builtins = builtinsNs := by rfl) (hk : env.scope.kind = .function := by rfl) (hn : env.kindOf "max" = some .globalImplicit := by rfl) (hs : backTo pos (starEach [e, e'] env) = [(false, eval e env), (false, eval e' env)] := by rfl) :
    Ev prog w A h (eval (.Call (.Name "max" p) [e, e'] [] pos) env) (IsI (max a b)) :=
  Ev.call_builtin (Ev.name_bi G (by decide) boot_max (by decide) hg heb hk hn) (Ev.args2 (R := fun x y _ => (∃ t, x = .int a t) ∧ ∃ u, y = .int b u) he (fun v h' k hv => (he'.mono k).weak fun _ _ _ q => ⟨hv, q⟩) hs) (fun x h' k ha => by
    obtain ⟨v, u, rfl, ⟨t, rfl⟩, t', rfl⟩ := ha
    refine Ev.mk fun s _ => max_two_ints hh fun h'' tk kk => ⟨?_, ⟨h'', tk, rfl, kk⟩⟩
    by_cases q : b > a
    · rw [if_pos q]; exact ⟨t', by rw [show max a b = b by omega]⟩
    · rw [if_neg q]; exact ⟨t, by rw [show max a b = a by omega]⟩) (by rw [hs]; rfl)
/-- ns[a:b], wherever its ends lie -/
theorem Ev.slice_intsG {value : Expr} {l u : Expr} {p pos : Pos} {a b : Nat} {ns : List Int} (hv : Ev prog w A h (eval value env) (IsIL ns)) (hl : Ev prog w A h (eval l env) (IsI a)) (hu : Ev prog w A h (eval u env) (IsI b)) (hn : ns.length ≤ sizeLine) :
    Ev prog w A h (eval (.Subscript value (.Slice (some l) (some u) none p) pos) env) (IsIL ((ns.drop a).take (b - a))) :=
  Ev.list_slice hv (Ev.slice (Ev.part_some hl) (Ev.part_some hu) Ev.part_none) (fun o h₁ h₂ k x => IsIL.up x k) fun o h' x => by
    obtain ⟨c, vs, rfl, hc, i⟩ := x
    refine ⟨c, vs, rfl, hc, by rw [i.length]; exact hn, fun d h₂ _ _ hd => ?_⟩
    have e : slicePick vs.toArray (some (a : Int)) (some (b : Int)) none = ((vs.drop a).take (b - a)).toArray := by
      rw [slicePick_plain]
      simp only [Option.elim, clipAt_nat, List.size_toArray]
      congr 1
      by_cases ha : a ≤ vs.length
      · rw [Nat.min_eq_left ha]
        by_cases hb : b ≤ vs.length
        · rw [Nat.min_eq_left hb]
        · rw [Nat.min_eq_right (by omega), List.take_of_length_le (by simp), List.take_of_length_le (by simp; omega)]
      · have h1 : min a vs.length = vs.length := by omega
        rw [h1]
        simp [List.drop_of_length_le (show vs.length ≤ a by omega)]
    rw [e] at hd
    exact ⟨d, _, rfl, hd, ints_take (ints_drop i a) _⟩

def least1 (hs : List Int) (i j : Nat) : Int := lmin ((hs.drop (min i j)).take (max i j + 1 - min i j))
def leastF (hs : List Int) : List (List Int) := (List.range hs.length).map fun i => (List.range hs.length).map fun j => least1 hs i j

theorem least_ok {v : Value} {ns : List Int} (G : Gd mg mb h) (hv : IsIL ns v h) (hn : ns.length ≤ 100) : Fn prog w mg "_law_least" [v] h 1 (IsILL (leastF ns)) := by
  refine Fn.of_bodyC (i := 23) (binds := [("heights", v)]) (k := 0) G rfl (fun s s₁ A L a cd R hs S => ?_) (fun _ _ _ => rfl) rfl (by decide)
  have G₁ : Gd mg mb s₁.heap := G.keeps (stays_trans hs (keeps_stays S.done))
  have hh := R.2.2
  have hv₁ : IsIL ns v s₁.heap := IsIL.up hv (stays_trans hs (keeps_stays S.done))
  have szl : (100 : Nat) ≤ sizeLine := by decide
  refine wpAny_execs_cons (St.assignC S (P := IsI ns.length) rfl (Ev.len_ints G₁ (Ev.val (St.cel S rfl rfl) fun h' k => IsIL.up hv₁ k) (by omega)) ?_)
  rintro v' s₂ ⟨t', rfl⟩ k₂ g₂ s₃ gk tr S₃
  have G₃ : Gd mg mb s₃.heap := G.keeps (stays_trans hs (keeps_stays S₃.done))
  have hv₃ : IsIL ns v s₃.heap := IsIL.up hv (stays_trans hs (keeps_stays S₃.done))
  refine wpAny_execs_cons (St.ret S₃ (P := IsILL (leastF ns)) ?_ fun v s₇ p k => ⟨p, k⟩)
  refine (Ev.listcompC (n := ns.length) (P := fun i v => ∃ t, v = .int i t) (ok := fun _ => true) (Y := fun fb i y h => ∃ T us, y = .ref T ∧ ¬ fb T ∧ h.IsList T us.toArray ∧ IntsAre us ((List.range ns.length).map fun j => least1 ns i j))
    (cl := [("size", L + 2), ("heights", L + 1)]) rfl (Ev.range1 G₃ (Ev.val (St.cel S₃ rfl rfl) fun _ _ => ⟨_, rfl⟩)) (fun v h' k hv => itRange hh (by omega) hv) ?_ (fun _ _ _ _ _ _ _ _ _ => Ev.tests_nil) (fun fb i v' h' C c hi _ hp k hc hfb => ?_) ?_ (by omega)).weak fun v h' k hv => ?_
  · rintro fb i y h h' ⟨T, us, rfl, nf, l, is⟩ kk
    obtain ⟨o, ho, r⟩ := l
    exact ⟨T, us, rfl, nf, ⟨o, kk T o nf ho, r⟩, is⟩
  · obtain ⟨t₁, rfl⟩ := hp
    have G' := G₃.keeps k
    refine (Ev.listcomp (n := ns.length) (P := fun i v => ∃ t, v = .int i t) (ok := fun _ => true) (Y := fun _ j y _ => ∃ t, y = .int (least1 ns i j) t) (cl := [("i", c), ("heights", L + 1)]) rfl
      (Ev.range1 G' (Ev.val (Ev.name_cell (c := L + 2) rfl ((S₃.cell "size" (L + 2) rfl).keeps k)) fun _ _ => ⟨_, rfl⟩)) (fun v h' k hv => itRange hh (by omega) hv) (fun _ _ _ _ _ q _ => q) (fun _ _ _ _ _ _ _ _ _ _ => Ev.tests_nil) (fun fb' j v' h₂ C₂ m₂ hj _ hp k₂ hn₂ hm₂ _ => ?_) (by omega)).weak fun v h₂ k₂ hv => ?_
    · obtain ⟨t₂, rfl⟩ := hp
      have G₂ := G'.keeps k₂
      refine Ev.bmin_list G₂ hh (Ev.slice_intsG (a := min i j) (b := max i j + 1) (Ev.val (Ev.name_cell (c := L + 1) rfl ((S₃.cell "heights" (L + 1) rfl).keeps (stays_trans k k₂))) fun h₃ k₃ => IsIL.up hv₃ (stays_trans k (stays_trans k₂ k₃)))
        (Ev.castI (Ev.bmin2 (a := i) (b := j) G₂ hh (Ev.val (Ev.name_cell (c := c) rfl (hc.keeps k₂)) fun _ _ => ⟨_, rfl⟩) (Ev.val (Ev.name_local hn₂ hm₂) fun _ _ => ⟨_, rfl⟩)) (by omega))
        (Ev.castI (Ev.add (Ev.bmax2 (a := i) (b := j) G₂ hh (Ev.val (Ev.name_cell (c := c) rfl (hc.keeps k₂)) fun _ _ => ⟨_, rfl⟩) (Ev.val (Ev.name_local hn₂ hm₂) fun _ _ => ⟨_, rfl⟩)) Ev.int) (by omega)) (by omega)) ?_
      rw [List.length_take, List.length_drop]
      omega
    · obtain ⟨D, ys, fb', rfl, hD, hl, hall⟩ := hv
      refine ⟨D, ys, rfl, fun q => ?_, hl, ?_⟩
      · obtain ⟨o, ho⟩ := hfb D q
        rw [hD] at ho; cases ho
      · have := All2.ints hall
        rwa [List.filter_eq_self.mpr (by simp)] at this
  · rintro fb C i y h h' ⟨T, us, rfl, nf, l, is⟩ kk ⟨m, hns⟩
    obtain ⟨o, ho, hc, n, hd⟩ := l
    refine ⟨T, us, rfl, nf, ⟨o, kk T o (fun q => ?_) ho, hc, n, hd⟩, is⟩
    obtain ⟨o', es, ep, ho', hd', _⟩ := hns
    rw [q, ho'] at ho
    cases ho
    rw [hd'] at hd; cases hd
  · obtain ⟨D, ys, fb, rfl, _, hl, hall⟩ := hv
    rw [List.filter_eq_self.mpr (by simp)] at hall
    refine ⟨D, ys, rfl, hl, All2.map_left (hall.mono fun i y q => ?_)⟩
    obtain ⟨T, us, rfl, _, l, is⟩ := q
    exact ⟨T, us, rfl, l, is⟩
end
end Mine
end

section
open PySem PySem.W PyProof.Rows
namespace Mine

section
variable {prog : Program} {w : World} {mg mb : Str → Option Value} {A : Around} {h : Heap} {env : Env}

theorem repl_fold (v : Value) : ∀ n : Nat, List.foldl (fun x1 x2 => x1 ++ x2) #[] (List.replicate n #[v]) = (List.replicate n v).toArray := by
  have aux : ∀ (n : Nat) (acc : Array Value), List.foldl (fun x1 x2 => x1 ++ x2) acc (List.replicate n #[v]) = acc ++ (List.replicate n v).toArray := by
    intro n
    induction n with
    | zero => intro acc; simp
    | succ n ih =>
      intro acc
      rw [List.replicate_succ, List.foldl_cons, ih, List.replicate_succ]
      apply Array.ext'
      simp
  intro n
  rw [aux]
  simp
set_option maxRecDepth 100000 in
theorem Ev.mul_list {l : Addr} {v : Value} {x : Nat} {u : Tok} {P : Value → Heap → Prop} (hl : h.IsList l #[v]) (hx : x ≤ 1000) (hp : ∀ c h', h.StaysIn h' → h.get? c = none → h'.IsList c (List.replicate x v).toArray → P (.ref c) h') : Ev prog w A h (binaryOp .Mult (.ref l) (.int x u)) P := Ev.mk fun s hs => by
  obtain ⟨⟨cls, dd, data, sl⟩, ho, hc, n, hd⟩ := isList_up hl hs
  simp only at hc hd
  subst hc hd
  have c1 : ¬(!Builtin.List.listFitsIndex (x : Int)) = true := by simp [Builtin.List.listFitsIndex]; omega
  have c2 : ¬ (#[v] : Array Value).size * (x : Int).toNat > (2 ^ 63 - 1) / 8 := by simp only [List.size_toArray, List.length_cons, List.length_nil, Int.toNat_natCast]; omega
  have c3 : ¬ Builtin.List.listTooLong ((#[v] : Array Value).size * (x : Int).toNat) = true := by simp only [Builtin.List.listTooLong, sizeLine, List.size_toArray, List.length_cons, List.length_nil, Int.toNat_natCast, decide_eq_true_eq]; omega
  have e : List.foldl (fun x1 x2 => x1 ++ x2) #[] (List.replicate (if (#[v] : Array Value).isEmpty = true then 0 else (x : Int).toNat) #[v]) = (List.replicate x v).toArray := by
    rw [if_neg (by simp), Int.toNat_natCast, repl_fold]
  generalize (x : Int) = z at c1 c2 c3 e ⊢
  refine wpAny_binaryOp_repeat_ref (T := "list") (U := "int") (by decide) ⟨_, ho, rfl⟩ (fun s' => typeIs_int s' z u) noFill_list_mul F.fills_int_mul F.slot_int_rmul repeat_list F.slot_int_index.lookup ?_
  refine call_meets F.slot_int_rmul (typeIs_int s z u) F.entry_int_rmul (F.args_int_rmul_2 _ _) (lm_int_rmul_list_any z u l #[v] n dd sl) ?_
  refine ⟨ho, rfl, ⟨_, ho, rfl⟩, call_meets F.slot_list_mul ⟨_, ho, rfl⟩ F.entry_list_mul (F.args_list_mul_2 _ _) (lm_list_mul_any l #[v] n dd sl z u c1 c2 c3) ⟨ho, ?_⟩⟩
  rw [e]
  exact ⟨hp _ _ (stays_trans hs (keeps_stays (keeps_push s _))) (not_of_stays hs (fresh_size _)) ⟨_, Heap.get?_push_size _ rfl, rfl, _, rfl⟩, keeps_push s _⟩

/-- a for loop over what can be walked, by an invariant -/
theorem for_loop {R : Result → Shared → Prop} {s : Shared} {target : Expr} {body : List Stmt} {I : Addr} {fp : List Addr} {n : Nat} {P : Nat → Value → Prop} {St' : Nat → Heap → Prop} (W : Walks prog w A I fp [I] n P St') (J : Nat → Shared → Prop)
    (hst : St' 0 s.heap) (h0 : J 0 s) (hIo : ∀ i h, St' i h → ∃ o, h.get? I = some o)
    (hJ : ∀ i (s' : Shared) h' tk, J i s' → (∀ b o, b ≠ I → s'.heap.get? b = some o → h'.get? b = some o) → J i { s' with heap := h', toks := tk })
    (step : ∀ i v (s₁ : Shared), i < n → P i v → J i s₁ → (∃ o, s₁.heap.get? I = some o) → wpAny (model prog w) A (assign target env v) (fun _ s₂ => wpAny (model prog w) A (execs body env)
      (fun f s₃ => match f with | .next | .cont => J (i + 1) s₃ ∧ (∀ b ∈ fp, ∀ o, s₁.heap.get? b = some o → s₃.heap.get? b = some o) | .brk => R (.ok .next) s₃ | .ret v => R (.ok (.ret v)) s₃) (fun _ _ => False) s₂) (fun _ _ => False) s₁)
    (done : ∀ s' : Shared, J n s' → R (.ok .next) s') (ht : ∀ v, letOwnedTupleGo target (.ref I) v = pure () := by intro _; rfl) :
    codeAny (model prog w) A (.forLoop target (.ref I) body [] env) R s := by
  refine codeAny_forLoop (fun k s' => ∃ i, i ≤ n ∧ k = n + 1 - i ∧ St' i s'.heap ∧ J i s') ?_ (n + 1) ⟨0, Nat.zero_le _, rfl, hst, h0⟩ ht
  rintro k s' ⟨i, hi, rfl, hst', hJ'⟩
  by_cases hlt : i < n
  · refine W.item i _ _ _ hlt hst' fun v h₁ tk₁ hPv hst₁ hk₁ => ?_
    have up₁ : ∀ b o, b ≠ I → s'.heap.get? b = some o → h₁.get? b = some o := fun b o hb e => hk₁ b o (by simpa using hb) e
    refine wpAny_mono (step i v _ hlt hPv (hJ i s' h₁ tk₁ hJ' up₁) (hIo _ _ hst₁)) (fun _ s₂ h₂ => wpAny_mono h₂ (fun f s₃ h₃ => ?_) fun _ _ e => e.elim) fun _ _ e => e.elim
    cases f with
    | next => exact ⟨n + 1 - (i + 1), by omega, i + 1, hlt, rfl, W.frame _ _ _ hst₁ h₃.2, h₃.1⟩
    | cont => exact ⟨n + 1 - (i + 1), by omega, i + 1, hlt, rfl, W.frame _ _ _ hst₁ h₃.2, h₃.1⟩
    | brk => exact h₃
    | ret v => exact h₃
  · obtain rfl : i = n := Nat.le_antisymm hi (Nat.not_lt.mp hlt)
    refine W.done _ _ _ hst' fun h₁ tk₁ hk₁ => wpAny_execs_nil (done _ (hJ _ s' h₁ tk₁ hJ' fun b o hb e => hk₁ b o (by simpa using hb) e))
/-- the statement: for target in iter: body -/
theorem exec_for {s : Shared} {target iter : Expr} {body : List Stmt} {pos : Pos} {n : Nat} {P : Nat → Value → Prop} {Pv : Value → Heap → Prop} {Q : Flow → Shared → Prop} {E : Value → Shared → Prop}
    (hit : Ev prog w A s.heap (eval iter env) Pv) (hsrc : ∀ v h', s.heap.StaysIn h' → Pv v h' → ItOk prog w A h' v n P)
    (k : ∀ xv I (fp : List Addr) (s₂ : Shared), Keeps s s₂ → s.heap.get? I = none → (∃ s₁, Keeps s s₁ ∧ Pv xv s₁.heap ∧ s₁.heap.StaysIn s₂.heap ∧ s₁.heap.get? I = none ∧ ∀ b ∈ fp, b = I ∨ (xv = .ref b ∧ ∃ o, s₁.heap.get? b = some o ∧ ∃ xs n, o.data = .seq xs n)) → ∃ J : Nat → Shared → Prop, J 0 s₂ ∧
      (∀ i (s' : Shared) h' tk, J i s' → (∀ b o, b ≠ I → s'.heap.get? b = some o → h'.get? b = some o) → J i { s' with heap := h', toks := tk }) ∧
      (∀ i v (s₁ : Shared), i < n → P i v → J i s₁ → (∃ o, s₁.heap.get? I = some o) → wpAny (model prog w) A (assign target env v) (fun _ s₂ => wpAny (model prog w) A (execs body env)
        (fun f s₃ => match f with | .next | .cont => J (i + 1) s₃ ∧ (∀ b ∈ fp, ∀ o, s₁.heap.get? b = some o → s₃.heap.get? b = some o) | .brk => Q .next s₃ | .ret v => Q (.ret v) s₃) (fun _ _ => False) s₂) (fun _ _ => False) s₁) ∧
      (∀ s' : Shared, J n s' → Q .next s'))
    (ht : ∀ I v, letOwnedTupleGo target (.ref I) v = pure () := by intro _ _; rfl) (hs : ∀ x, foldedSetIterable iter env x = pure x := by intro _; rfl) :
    wpAny (model prog w) A (exec (.For target iter body [] pos) env) Q E s := by
  refine wpAny_For (Ev.run hit (stays_refl _) fun xv s₁ pv k₁ => ?_) hs
  refine hsrc xv s₁.heap (keeps_stays k₁) pv s₁ _ _ (stays_refl _) fun I fp St' s₂ hI W hst hfp hIo hfv k₂ => ?_
  obtain ⟨J, j0, jI, st, dn⟩ := k xv I fp s₂ (keeps_trans k₁ k₂) (not_of_stays (keeps_stays k₁) hI) ⟨s₁, k₁, pv, keeps_stays k₂, hI, hfv⟩
  exact for_loop W J hst j0 hIo jI st dn (ht I)
end

theorem fp_range {s s₂ : Shared} {xv : Value} {I : Addr} {fp : List Addr} {a b c : Int}
    (h : ∃ s₁, Keeps s s₁ ∧ (∃ r t u x, xv = .ref r ∧ IsRange s₁.heap r a b c t u x) ∧ s₁.heap.StaysIn s₂.heap ∧ s₁.heap.get? I = none ∧ ∀ b ∈ fp, b = I ∨ (xv = .ref b ∧ ∃ o, s₁.heap.get? b = some o ∧ ∃ xs n, o.data = .seq xs n)) : ∀ b ∈ fp, b = I := by
  obtain ⟨s', _, ⟨r, t₁, t₂, t₃, rfl, hr⟩, _, _, hf⟩ := h
  intro b hb
  rcases hf b hb with q | ⟨q, o, ho, xs, n, hd⟩
  · exact q
  · cases q
    rw [hr] at ho
    cases ho
    cases hd

section
variable {s₀ s : Shared} {env : Env} {m cm : Str → Option Value} {g g₀ : Heap}
theorem St.hide1 (S : St s₀ env m cm g s) {d : Addr} (hd : s₀.heap.get? d = none) : St s₀ env m cm (g.hide d) s := by
  have no : ∀ a, g.get? a = none → (g.hide d).get? a = none := fun a e => by
    cases q : (g.hide d).get? a with
    | none => rfl
    | some o => have := Heap.of_hide q; rw [e] at this; cases this
  exact ⟨S.same, fun b o e => (Heap.hide_ne _ fun q => by rw [q, hd] at e; cases e).trans (S.base b o e), fun b o e => S.imm b o (Heap.of_hide e), S.ns, S.cell, no _ S.gl, fun n c hc => ⟨no _ (S.gc n c hc).1, (S.gc n c hc).2⟩, S.apart, S.live⟩
theorem St.shrink (S : St s₀ env m cm g s) (k : g₀.StaysIn g) (hb : s₀.heap.StaysIn g₀) : St s₀ env m cm g₀ s :=
  ⟨S.same, hb, stays_trans k S.imm, S.ns, S.cell, not_of_stays k S.gl, fun n c hc => ⟨not_of_stays k (S.gc n c hc).1, (S.gc n c hc).2⟩, S.apart, S.live⟩
/-- what an iterator turns -/
theorem St.turn (S : St s₀ env m cm g s) {I : Addr} {h' : Heap} {tk : Nat} (hI : g.get? I = none) (nI : ¬ Own env I) (k : ∀ b o, b ≠ I → s.heap.get? b = some o → h'.get? b = some o) : St s₀ env m cm g { s with heap := h', toks := tk } := by
  obtain ⟨h, t, rfl⟩ := S.same
  refine ⟨⟨h', tk, rfl⟩, S.base, fun b o e => k b o (fun q => by rw [q, hI] at e; cases e) (S.imm b o e), S.ns.at' fun o e => k _ o (fun q => nI (.inl q.symm)) e, fun n c e => ?_, S.gl, S.gc, S.apart, fun n c e => ?_⟩
  · obtain ⟨o, ho, hd⟩ := S.cell n c e
    exact ⟨o, k c o (fun q => nI (.inr ⟨n, q ▸ mem_of_lookup e⟩)) ho, hd⟩
  · obtain ⟨v, o, ho, hd⟩ := S.live n c e
    exact ⟨v, o, k c o (fun q => nI (.inr ⟨n, q ▸ e⟩)) ho, hd⟩
end
end Mine
end

section
open PySem PySem.W PyProof.Rows
namespace Mine

def oddF (levels : List Int) (h : Nat) : Bool := ((((levels.filter fun l => decide (l ≤ (h : Int))).map fun l => l).length : Int).fmod 2 == 1)
def aheadF (n : Nat) (levels : List Int) (le : Nat → Nat → Int) (i : Nat) : List Nat := (List.range n).filter fun j => ((j : Int) != (i : Int)) && (decide ((j : Int) < (i : Int)) != oddF levels (le i j).toNat)
def dueK (codes : List Int) (levels : List Int) (le : Nat → Nat → Int) (k : Nat) : List Int :=
  (List.range k).foldl (fun acc i => acc.set (aheadF codes.length levels le i).length (codes.getD i 0)) (List.replicate codes.length 0)
theorem dueK_succ (codes levels : List Int) (le : Nat → Nat → Int) (k : Nat) : dueK codes levels le (k + 1) = (dueK codes levels le k).set (aheadF codes.length levels le k).length (codes.getD k 0) := by
  unfold dueK
  rw [List.range_succ, List.foldl_append]
  rfl
theorem dueK_length (codes levels : List Int) (le : Nat → Nat → Int) : ∀ k, (dueK codes levels le k).length = codes.length
  | 0 => by simp [dueK]
  | k + 1 => by rw [dueK_succ, List.length_set, dueK_length codes levels le k]
theorem ahead_lt {n : Nat} {levels : List Int} {le : Nat → Nat → Int} {i : Nat} (hi : i < n) : (aheadF n levels le i).length < n := by
  have h1 : (aheadF n levels le i).length ≤ ((List.range n).filter fun j => decide (j ≠ i)).length := by
    unfold aheadF
    rw [show ((List.range n).filter fun j : Nat => ((j : Int) != (i : Int)) && (decide ((j : Int) < (i : Int)) != oddF levels (le i j).toNat)) = ((List.range n).filter fun j => decide (j ≠ i)).filter fun j : Nat => (decide ((j : Int) < (i : Int)) != oddF levels (le i j).toNat) from by
      rw [List.filter_filter]
      apply List.filter_congr
      intro j _
      rw [Bool.and_comm]
      congr 1
      by_cases h : j = i
      · subst h; simp
      · have : (j : Int) ≠ (i : Int) := by omega
        simp [h, this]]
    exact List.length_filter_le _ _
  have h2 : ((List.range n).filter fun j => decide (j ≠ i)).length < (List.range n).length := by
    apply List.length_filter_lt_length_iff_exists.mpr
    exact ⟨i, List.mem_range.mpr hi, by simp⟩
  rw [List.length_range] at h2
  omega
theorem ints_set {vs : List Value} {ns : List Int} (i : IntsAre vs ns) {n : Int} {t : Tok} : ∀ k : Nat, IntsAre (vs.set k (.int n t)) (ns.set k n) := by
  induction i with
  | nil => intro k; simpa using IntsAre.nil
  | cons m u r ih =>
    intro k
    cases k with
    | zero => exact .cons n t r
    | succ k => exact .cons m u (ih k)
theorem ints_repl {n : Int} {t : Tok} : ∀ k : Nat, IntsAre (List.replicate k (.int n t)) (List.replicate k n)
  | 0 => .nil
  | k + 1 => .cons n t (ints_repl k)

section
variable {prog : Program} {w : World} {mg mb : Str → Option Value} {A : Around} {h : Heap} {env : Env}

/-- the same state's shape with other names and another heap -/
abbrev StLike {s₀ s : Shared} {env : Env} {m cm : Str → Option Value} {g : Heap} (_ : St s₀ env m cm g s) (m' cm' : Str → Option Value) (g' : Heap) (s' : Shared) : Prop := St s₀ env m' cm' g' s'
theorem due_ok {vc vl vv : Value} {codes levels : List Int} {rows : List (List Int)} {le : Nat → Nat → Int} (G : Gd mg mb h) (hc : IsIL codes vc h) (hl : IsILL rows vl h) (hv : IsIL levels vv h) (hn : codes.length ≤ 100) (hn' : levels.length ≤ 100)
    (hrow : ∀ i j, i < codes.length → j < codes.length → ∃ row, rows[i]? = some row ∧ row[j]? = some (le i j) ∧ 0 ≤ le i j ∧ le i j < 8) :
    Fn prog w mg "_law_due" [vc, vl, vv] h 1 (IsIL (dueK codes levels le codes.length)) := by
  refine Fn.of_bodyC (i := 24) (binds := [("codes", vc), ("least", vl), ("levels", vv)]) (k := 0) G rfl (fun s s₁ A L a cd R hs S => ?_) (fun _ _ _ => rfl) rfl (by decide)
  have up : ∀ {env m cm g s'}, St s env m cm g s' → h.StaysIn s'.heap := fun S' => stays_trans hs (keeps_stays S'.done)
  have hh := R.2.2
  have szl : (100 : Nat) ≤ sizeLine := by decide
  have G₁ := G.keeps (up S)
  -- odd
  refine wpAny_execs_cons (St.assignC S (P := IsBL ((List.range 8).map (oddF levels))) rfl ?_ ?_)
  · refine (Ev.listcompC (n := 8) (P := fun i v => ∃ t, v = .int i t) (ok := fun _ => true) (Y := fun _ i y _ => y = .bool (oddF levels i)) (cl := [("levels", L + 2)]) rfl (Ev.range1 G₁ Ev.int) (fun v h' k hv => itRange hh (by decide) hv) (fun _ _ _ _ _ q _ => q)
      (fun _ _ _ _ _ _ _ _ _ => Ev.tests_nil) (fun fb i v' h' C c hi _ hp k hcl hfb => ?_) (fun _ _ _ _ _ _ q _ _ => q)).weak fun v h' k hv => ?_
    · obtain ⟨t₁, rfl⟩ := hp
      refine Ev.cmpI (Ev.fmod (by decide) (Ev.len_ints (G₁.keeps k) (Ev.comp_ints (ns := levels) (ok := fun l => decide (l ≤ (i : Int))) (f := fun l => l) (cl := [("height", c)]) hh rfl (Ev.val (Ev.name_cell (c := L + 2) rfl ((S.cell "levels" (L + 2) rfl).keeps k)) fun h₂ k₂ => IsIL.up hv (stays_trans (up S) (stays_trans k k₂)))
        (fun b tb h₂ C₂ m₂ _ k₂ hn₂ hm₂ => Ev.tests_one (Ev.test_cmpI (Ev.val (Ev.name_local hn₂ hm₂) fun _ _ => ⟨_, rfl⟩) (Ev.val (Ev.name_cell (c := c) rfl (hcl.keeps k₂)) fun _ _ => ⟨_, rfl⟩) fun _ _ _ => Ev.opLe))
        (fun b tb h₂ C₂ m₂ _ _ k₂ hn₂ hm₂ => Ev.val (Ev.name_local hn₂ hm₂) fun _ _ => ⟨_, rfl⟩) (by omega)) ?_) Ev.int) Ev.int fun _ _ _ => Ev.opEq
      rw [List.length_map]
      exact Nat.le_trans (List.length_filter_le _ _) (by omega)
    · obtain ⟨D, ys, fb, rfl, _, hl, hall⟩ := hv
      rw [List.filter_eq_self.mpr (by simp)] at hall
      exact ⟨D, rfl, (All2.bools hall) ▸ hl⟩
  intro vo s₂ hvo k₂ g₂ s₃ gk tr S₃
  have tr' : Seqs s₂.heap g₂ := fun a o e ⟨xs, n, hd⟩ => tr a o e ((S.keeps k₂).not_own_seq e hd)
  have ho₂ : IsBL ((List.range 8).map (oddF levels)) vo g₂ := IsBL.seqs hvo tr'
  have G₃ := G.keeps (up S₃)
  -- due
  refine wpAny_execs_cons (St.assign S₃ (P := fun v h' => ∃ d t, v = .ref d ∧ s₃.heap.get? d = none ∧ h'.IsList d (List.replicate codes.length (.int 0 t)).toArray) ?_ ?_)
  · refine Ev.binop (P := IsIL [0]) (R := fun x y h' => IsIL [0] x h' ∧ ∃ t, y = .int codes.length t) (Ev.list_ints (by decide) (Ev.ei Ev.int Ev.ei_nil)) (fun x h' k hx => (Ev.len_ints (G₃.keeps k) (Ev.val ((St.loc S₃ rfl).mono k) fun h₂ k₂ => IsIL.up hc (stays_trans (up S₃) (stays_trans k k₂))) (by omega)).weak fun y h₂ k₂ hy => ⟨IsIL.up hx k₂, hy⟩) fun x y h' k hxy => ?_
    obtain ⟨⟨l, vs, rfl, hl', i⟩, t, rfl⟩ := hxy
    cases i with
    | cons n t' r =>
      cases r
      exact Ev.mul_list hl' (by omega) fun c h₂ k₂ hcn hcl => ⟨c, t', rfl, not_of_stays k hcn, hcl⟩
  rintro _ s₄ ⟨d, t, rfl, hd, hld⟩ k₄ g₄ s₅ gk₄ tr₄ S₅
  have hdg : g₂.get? d = none := not_of_stays S₃.imm hd
  have hds : s.heap.get? d = none := not_of_stays S₃.base hdg
  have hld₅ : s₅.heap.IsList d (List.replicate codes.length (.int 0 t)).toArray := by
    obtain ⟨o, ho, hc', n, hdd⟩ := hld
    exact ⟨o, S₅.imm _ _ (tr₄ d o ho ((S₃.keeps k₄).not_own_seq ho hdd)), hc', n, hdd⟩
  have S₅' := S₅.shrink gk₄ S₃.base
  have G₅ := G.keeps (up S₅')
  -- the loop
  refine wpAny_execs_cons (exec_for (n := codes.length) (P := fun i v => ∃ t, v = .int i t) (Ev.range1 G₅ (Ev.len_ints G₅ (Ev.val (St.loc S₅' rfl) fun h₂ k₂ => IsIL.up hc (stays_trans (up S₅') k₂)) (by omega))) (fun v h' k hv => itRange hh (by omega) hv) ?_)
  intro xv I fp s₆ k₆ hI hsrc
  have hfp : ∀ b ∈ fp, b = I := fp_range hsrc
  have hIg : g₂.get? I = none := not_of_stays S₅'.imm hI
  have nI := S₅'.not_own_new hI
  have hId : I ≠ d := fun q => by obtain ⟨o, ho, _⟩ := hld₅; rw [← q, hI] at ho; cases ho
  refine ⟨fun k s' => ∃ m cm, StLike S m cm g₂ s' ∧ m "codes" = some vc ∧ cm "least" = some vl ∧ cm "odd" = some vo ∧ m "due" = some (.ref d) ∧ ∃ vs : List Value, s'.heap.IsList d vs.toArray ∧ IntsAre vs (dueK codes levels le k), ?_, ?_, ?_, ?_⟩
  · exact ⟨_, _, S₅'.keeps k₆, rfl, rfl, rfl, rfl, _, isList_up hld₅ (keeps_stays k₆), by simpa [dueK] using ints_repl (n := 0) (t := t) codes.length⟩
  · rintro i s' h' tk ⟨m, cm, S', e1, e2, e3, e4, vs, l, is⟩ kk
    refine ⟨m, cm, S'.turn hIg nI kk, e1, e2, e3, e4, vs, ?_, is⟩
    obtain ⟨o, ho, r⟩ := l
    exact ⟨o, kk d o (Ne.symm hId) ho, r⟩
  · rintro i v s₇ hi ⟨t₁, rfl⟩ ⟨m, cm, S₇, e1, e2, e3, e4, vs, l, is⟩ hIo
    obtain ⟨g₇, S₇g, gk₇, tr₇⟩ := S₇.grow
    obtain ⟨oI, hoI⟩ := hIo
    have ndo : ∀ o, s₇.heap.get? d = some o → g₇.get? d = some o := fun o ho => by
      obtain ⟨o', ho', _, n, hd'⟩ := l
      rw [ho] at ho'
      cases ho'
      exact tr₇ d o ho (S₇.not_own_seq ho hd')
    have lg : g₇.IsList d vs.toArray := by
      obtain ⟨o, ho, r⟩ := l
      exact ⟨o, ndo o ho, r⟩
    refine wpAny_assign_Name (S₇g.store_cell (c := L + 4) rfl rfl rfl fun s₈ S₈ _ => ?_)
    have G₈ := G.keeps (up S₈)
    refine wpAny_execs_cons (St.assignL S₈ (n := codes.length) (P := fun i v => ∃ t, v = .int i t) (ok := fun j : Nat => ((j : Int) != (i : Int)) && (decide ((j : Int) < (i : Int)) != oddF levels (le i j).toNat)) (Y := fun _ j y _ => ∃ t, y = .int (j : Int) t)
      (cl := [("odd", L + 3), ("least", L + 1), ("i", L + 4)]) rfl (Ev.range1 G₈ (Ev.len_ints G₈ (Ev.val (St.loc S₈ e1) fun h₂ k₂ => IsIL.up hc (stays_trans (up S₈) k₂)) (by omega))) (fun v h' k hv => itRange hh (by omega) hv) (fun _ _ _ _ _ q _ => q)
      (fun j v' h' C m' hj hp k hn₂ hm₂ => ?_) (fun fb j v' h' C m' hj hoj hp k hn₂ hm₂ _ => ?_) ?_ (by omega))
    · obtain ⟨t₂, rfl⟩ := hp
      obtain ⟨row, hr1, hr2, hr3, hr4⟩ := hrow i j hi hj
      have ci : ∀ {h₂}, h'.StaysIn h₂ → h₂.IsCell (L + 4) (some (.int i t₁)) := fun k₂ => (S₈.cell "i" (L + 4) rfl).keeps (stays_trans k k₂)
      have co : ∀ {h₂}, h'.StaysIn h₂ → h₂.IsCell (L + 3) (some vo) := fun k₂ => ((show upd cm "i" (.int i t₁) "odd" = some vo from e3) ▸ S₈.cell "odd" (L + 3) rfl).keeps (stays_trans k k₂)
      have cle : ∀ {h₂}, h'.StaysIn h₂ → h₂.IsCell (L + 1) (some vl) := fun k₂ => ((show upd cm "i" (.int i t₁) "least" = some vl from e2) ▸ S₈.cell "least" (L + 1) rfl).keeps (stays_trans k k₂)
      have hod : ∀ {h₂}, h'.StaysIn h₂ → IsBL ((List.range 8).map (oddF levels)) vo h₂ := fun k₂ => IsBL.up ho₂ (stays_trans gk₇ (stays_trans S₈.imm (stays_trans k k₂)))
      have hle : ∀ {h₂}, h'.StaysIn h₂ → IsILL rows vl h₂ := fun k₂ => IsILL.up hl (stays_trans (up S₈) (stays_trans k k₂))
      refine Ev.tests_one (Ev.test_bool (Ev.all_cons (a := ((j : Int) != (i : Int))) (b := (decide ((j : Int) < (i : Int)) != oddF levels (le i j).toNat)) (Ev.test_cmpI (Ev.val (Ev.name_local hn₂ hm₂) fun _ _ => ⟨_, rfl⟩) (Ev.val (Ev.name_cell (c := L + 4) rfl (ci (stays_refl _))) fun _ _ => ⟨_, rfl⟩) fun _ _ _ => Ev.opNe)
        fun _ h₂ k₂ => (Ev.all_cons (a := (decide ((j : Int) < (i : Int)) != oddF levels (le i j).toNat)) (b := true) ?_ fun _ _ _ => Ev.all_nil).weak fun _ _ _ e => by simpa using e))
      refine Ev.test_cmp1 (P := IsB (decide ((j : Int) < (i : Int)))) (R := fun x y _ => x = .bool (decide ((j : Int) < (i : Int))) ∧ y = .bool (oddF levels (le i j).toNat)) (Ev.cmpI (Ev.val (Ev.name_local (hn₂.keeps k₂) hm₂) fun _ _ => ⟨_, rfl⟩) (Ev.val (Ev.name_cell (c := L + 4) rfl (ci k₂)) fun _ _ => ⟨_, rfl⟩) fun _ _ _ => Ev.opLt)
        (fun x h₃ k₃ hx => (Ev.item_bool (ns := (List.range 8).map (oddF levels)) (k := (le i j).toNat) (n := oddF levels (le i j).toNat) (Ev.val (Ev.name_cell (c := L + 3) rfl (co (stays_trans k₂ k₃))) fun h₄ k₄ => hod (stays_trans k₂ (stays_trans k₃ k₄)))
          (Ev.castI (Ev.item_int (ns := row) (k := j) (Ev.item_list (rows := rows) (k := i) (Ev.val (Ev.name_cell (c := L + 1) rfl (cle (stays_trans k₂ k₃))) fun h₄ k₄ => hle (stays_trans k₂ (stays_trans k₃ k₄))) (Ev.val (Ev.name_cell (c := L + 4) rfl (ci (stays_trans k₂ k₃))) fun _ _ => ⟨_, rfl⟩) (by omega) hr1)
            (Ev.val (Ev.name_local (hn₂.keeps (stays_trans k₂ k₃)) hm₂) fun _ _ => ⟨_, rfl⟩) (by omega) hr2) (by omega)) (by omega) ?_).weak fun y _ _ hy => ⟨hx, hy⟩)
        (fun x y h₃ _ hxy => by obtain ⟨rfl, rfl⟩ := hxy; exact Ev.mk fun s _ => PyProof.Rows.ne_bool ⟨rfl, keeps_refl s⟩)
      have : (le i j).toNat < 8 := by omega
      simp [List.getElem?_map, List.getElem?_range, this]
    · obtain ⟨t₂, rfl⟩ := hp
      exact Ev.val (Ev.name_local hn₂ hm₂) fun _ _ => ⟨_, rfl⟩
    intro D ys fb s₉ hD hlD hall k₉ g₁₀ s₁₀ gk₁₀ tr₁₀ S₁₀
    have hlD' : IsIL ((aheadF codes.length levels le i).map fun j : Nat => (j : Int)) (.ref D) s₁₀.heap := by
      obtain ⟨o, ho, hc', n, hdd⟩ := hlD
      exact ⟨D, ys, rfl, ⟨o, S₁₀.imm _ _ (tr₁₀ D o ho ((S₈.keeps k₉).not_own_seq ho hdd) (.inr rfl)), hc', n, hdd⟩, All2.ints hall⟩
    have G₁₀ := G.keeps (up S₁₀)
    have lt := ahead_lt (levels := levels) (le := le) hi
    have cget : codes[i]? = some (codes.getD i 0) := by simp [List.getD_eq_getElem?_getD, List.getElem?_eq_getElem hi]
    refine wpAny_execs_cons (wpAny_Assign_Subscript ?_ rfl)
    refine Ev.run (h := s₁₀.heap) (P := IsI (codes.getD i 0)) (Ev.item_int (ns := codes) (k := i) (Ev.val (St.loc S₁₀ e1) fun h₂ k₂ => IsIL.up hc (stays_trans (up S₁₀) k₂)) (Ev.val (St.cel S₁₀ (c := L + 4) rfl rfl) fun _ _ => ⟨_, rfl⟩) (by omega) cget) (stays_refl _) ?_
    rintro _ s₁₁ ⟨t₅, rfl⟩ k₁₁
    refine Ev.run (h := s₁₀.heap) (P := IsV (.ref d)) (St.loc S₁₀ e4) (keeps_stays k₁₁) ?_
    rintro _ s₁₂ rfl k₁₂
    refine Ev.run (h := s₁₀.heap) (P := IsI (((aheadF codes.length levels le i).map fun j : Nat => (j : Int))).length) (Ev.len_ints G₁₀ (Ev.val (St.loc S₁₀ rfl) fun h₂ k₂ => IsIL.up hlD' k₂) (by rw [List.length_map]; omega)) (keeps_stays (keeps_trans k₁₁ k₁₂)) ?_
    rintro _ s₁₃ ⟨t₆, rfl⟩ k₁₃
    have K₁₃ := keeps_trans (keeps_trans k₁₁ k₁₂) k₁₃
    have S₁₃ := S₁₀.keeps K₁₃
    have l₁₃ : s₁₃.heap.IsList d vs.toArray := isList_up lg (stays_trans gk₁₀ S₁₃.imm)
    have len : vs.length = codes.length := by rw [is.length, dueK_length]
    rw [List.length_map]
    refine wpAny_setItem_list l₁₃ (by omega) (by omega) (by rw [List.size_toArray]; omega) fun h' hl' sb => wpAny_execs_nil ⟨⟨upd m "ahead" (.ref D), upd cm "i" (.int i t₁), ?_, e1, e2, e3, e4, vs.set (aheadF codes.length levels le i).length (.int (codes.getD i 0) t₅), ?_, ?_⟩, ?_⟩
    · obtain ⟨o₁₃, ho₁₃, _, n₁₃, hd₁₃⟩ := l₁₃
      have nd := S₁₃.not_own_seq ho₁₃ hd₁₃
      refine ((S₁₃.hide1 hds).change (Heap.hide_self _ _) nd sb).shrink (fun b o e => (Heap.hide_ne _ fun q => ?_).trans (gk₁₀ b o (gk₇ b o e))) S₃.base
      rw [q, hdg] at e; cases e
    · simpa using hl'
    · rw [dueK_succ]
      exact ints_set is _
    · intro b hb o ho
      rw [hfp b hb] at ho ⊢
      exact sb.extBut I o hId (S₁₃.imm _ _ (gk₁₀ _ _ (tr₇ I o ho nI)))
  · rintro s' ⟨m, cm, S', e1, e2, e3, e4, vs, l, is⟩
    exact wpAny_execs_cons (St.ret S' (P := IsIL (dueK codes levels le codes.length)) (Ev.val (St.loc S' e4) fun h' k => ⟨d, vs, rfl, isList_up l k, is⟩) fun v s₇ p k => ⟨p, k⟩)
end
end Mine
end

section
open PySem PySem.W PyProof.Rows
namespace Mine

section
variable {prog : Program} {w : World} {A : Around} {s : Shared} {R : Result → Shared → Prop}

/-! a list comprehension of two clauses, without tests -/
theorem compTurn_in (elt target iter : Expr) (g₀ : Comprehension) (scope : Scope) (pos : Pos) (it acc : Value) (env : Env) :
    compTurn (.ListComp elt [g₀, ⟨target, iter, [], 0⟩] scope pos) 1 it acc env = (standAt iter.pos >>= fun _ => pyNext it >>= fun r => match r with
      | none => pure (.done .next)
      | some v => letOwnedTupleGo target it v >>= fun _ => assign target env v >>= fun _ =>
        (eval elt env >>= fun x => call (.builtin "list.append") [acc, x] >>= fun _ => pure ()) >>= fun _ =>
          again (.compLoop (.ListComp elt [g₀, ⟨target, iter, [], 0⟩] scope pos) 1 it acc env)) := by rfl
theorem compTurn_out (elt target iter t₂ i₂ : Expr) (scope : Scope) (pos : Pos) (it acc : Value) (env : Env) :
    compTurn (.ListComp elt [⟨target, iter, [], 0⟩, ⟨t₂, i₂, [], 0⟩] scope pos) 0 it acc env = (standAt iter.pos >>= fun _ => pyNext it >>= fun r => match r with
      | none => pure (.done .next)
      | some v => letOwnedTupleGo target it v >>= fun _ => assign target env v >>= fun _ =>
        (eval i₂ env >>= fun x => standAt i₂.pos >>= fun _ => foldedSetIterable i₂ env x >>= fun x => holding [x] (pyIter x) >>= fun it' =>
          runOwn (.compStart (.ListComp elt [⟨target, iter, [], 0⟩, ⟨t₂, i₂, [], 0⟩] scope pos) 1 it' acc env) env >>= fun _ =>
          again (.compLoop (.ListComp elt [⟨target, iter, [], 0⟩, ⟨t₂, i₂, [], 0⟩] scope pos) 0 it acc env))) := by rfl
theorem compStart_in {elt t₁ i₁ t₂ i₂ : Expr} {scope pos it acc env}
    (h0 : codeAny (model prog w) A (.compLoop (.ListComp elt [⟨t₁, i₁, [], 0⟩, ⟨t₂, i₂, [], 0⟩] scope pos) 1 it acc env) R s)
    (h : wpAny (model prog w) A (pyIter it) (fun it' s' => codeAny (model prog w) A (.compLoop (.ListComp elt [⟨t₁, i₁, [], 0⟩, ⟨t₂, i₂, [], 0⟩] scope pos) 1 it' acc env) R s')
      (notedBy (model prog w) A env fun x s' => R (.error x) s') s) :
    codeAny (model prog w) A (.compStart (.ListComp elt [⟨t₁, i₁, [], 0⟩, ⟨t₂, i₂, [], 0⟩] scope pos) 1 it acc env) R s := by
  refine codeAny_of_tree ?_
  show wpAny _ _ ((compStart (.ListComp elt [⟨t₁, i₁, [], 0⟩, ⟨t₂, i₂, [], 0⟩] scope pos) 1 it acc env).onRaise (fun x => do noteFrame x env; standAt theWindowsPlace)) _ _ s
  refine wpAny_notedAt ?_
  unfold compStart
  show wpAny _ _ (ask >>= _) _ _ s
  refine wpAny_bind (wpAny_askSetting (wpAny_ite ?_))
  split
  · first
      | exact wpAny_bind (wpAny_pure (wpAny_pure (And.intro rfl h0)))
      | exact wpAny_pure (And.intro rfl h0)
  · first
      | exact wpAny_bind (wpAny_rule (wpAny_bind (wpAny_standAt (wpAny_bind (wpAny_mono h (fun it' s' h' => wpAny_pure (And.intro rfl h')) fun _ _ x => x)))))
      | (refine wpAny_bind (wpAny_rule ?_); show wpAny _ _ (standAt i₂.pos >>= _) _ _ s; exact wpAny_bind (wpAny_standAt (wpAny_bind (wpAny_mono h (fun it' s' h' => wpAny_pure (And.intro rfl h')) fun _ _ x => x))))

theorem ints_append {vs us : List Value} {ns ms : List Int} (i : IntsAre vs ns) (j : IntsAre us ms) : IntsAre (vs ++ us) (ns ++ ms) := by
  induction i with
  | nil => exact j
  | cons n t r ih => exact .cons n t ih
theorem ints_at {vs : List Value} {ns : List Int} (i : IntsAre vs ns) {k : Nat} {v : Value} (e : vs[k]? = some v) : ∃ n t, ns[k]? = some n ∧ v = .int n t := by
  induction i generalizing k with
  | nil => simp at e
  | cons m t r ih =>
    cases k with
    | zero => simp at e; exact ⟨m, t, by simp, e.symm⟩
    | succ k => simpa using ih (by simpa using e)

/-- the inner loop: what it walks is appended -/
theorem in_loop {i₁ i₂ : Expr} {t₁ : Expr} {y : Str} {py pe : Pos} {scope : Scope} {pos : Pos} {J D : Addr} {fp : List Addr} {ks : List Int} {us : List Value} {St : Nat → Heap → Prop} {cenv : Env} {m : Str → Option Value} {ys : List Value} {acc : List Int}
    (W : Walks prog w A J fp [J] us.length (fun i v => us[i]? = some v) St) (hks : IntsAre us ks)
    (hy : cenv.kindOf y = some .local) (hk : cenv.scope.kind = .function) (hyd : (y == ("__debug__" : Str)) = false)
    (hJD : J ≠ D) (hJC : J ≠ cenv.locals) (hDC : D ≠ cenv.locals) (hDf : D ∉ fp) (hCf : cenv.locals ∉ fp)
    (hst : St 0 s.heap) (hacc : s.heap.IsList D ys.toArray) (hys : IntsAre ys acc) (hn : s.heap.Ns cenv.locals m) (hsz : acc.length + ks.length ≤ sizeLine)
    (hR : ∀ h' tk m' ys', h'.Ns cenv.locals m' → h'.IsList D ys'.toArray → IntsAre ys' (acc ++ ks) → (∀ b o, b ≠ cenv.locals → b ≠ J → b ≠ D → s.heap.get? b = some o → h'.get? b = some o) → R (.ok .next) { s with heap := h', toks := tk }) :
    codeAny (model prog w) A (.compLoop (.ListComp (.Name y pe) [⟨t₁, i₁, [], 0⟩, ⟨.Name y py, i₂, [], 0⟩] scope pos) 1 (.ref J) (.ref D) cenv) R s := by
  refine codeAny_loop rfl (fun k s' => ∃ H tk i m' ys', s' = { s with heap := H, toks := tk } ∧ i ≤ us.length ∧ k = us.length + 1 - i ∧ St i H ∧ H.IsList D ys'.toArray ∧ IntsAre ys' (acc ++ ks.take i) ∧ H.Ns cenv.locals m' ∧
      (∀ b o, b ≠ cenv.locals → b ≠ J → b ≠ D → s.heap.get? b = some o → H.get? b = some o)) (fun k s' hI => ?_) (us.length + 1)
    ⟨s.heap, s.toks, 0, m, ys, rfl, Nat.zero_le _, rfl, hst, hacc, by simpa using hys, hn, fun _ _ _ _ _ e => e⟩
  obtain ⟨H, tk, i, m', ys', rfl, hi, rfl, hst', hacc', hys', hn', hk'⟩ := hI
  show wpAny _ _ ((compTurn (.ListComp (.Name y pe) [⟨t₁, i₁, [], 0⟩, ⟨.Name y py, i₂, [], 0⟩] scope pos) 1 (.ref J) (.ref D) cenv).onRaise (fun x => do noteFrame x cenv; theTreesLotGoes x)) _ _ _
  refine wpAny_noted ?_
  rw [compTurn_in]
  refine wpAny_bind (wpAny_standAt (wpAny_bind ?_))
  have hlen := hks.length
  by_cases hlt : i < us.length
  · refine W.item i _ _ _ hlt hst' fun v h₁ tk₁ hPv hst₁ hk₁ => ?_
    have up₁ : ∀ b o, b ≠ J → H.get? b = some o → h₁.get? b = some o := fun b o hb e => hk₁ b o (by simpa using hb) e
    obtain ⟨n, t, hnk, rfl⟩ := ints_at hks hPv
    refine wpAny_bind (wpAny_of_eq (show letOwnedTupleGo (.Name y py) (.ref J) (.int n t) = pure () from rfl) (wpAny_bind ?_))
    refine wpAny_assign_Name (wpAny_storeName_local hy (hn'.at' fun o e => up₁ _ o (Ne.symm hJC) e) (fun h₂ hn₂ hs₂ => ?_) (by rw [hk]; rfl))
    have up₂ : ∀ b o, b ≠ J → b ≠ cenv.locals → H.get? b = some o → h₂.get? b = some o := fun b o hbI hbX e => hs₂.extBut b o hbX (up₁ b o hbI e)
    have hst₂ : St (i + 1) h₂ := W.frame _ _ _ hst₁ fun b hb o e => hs₂.extBut b o (fun q => hCf (q ▸ hb)) e
    obtain ⟨m₂, hn₂, hm₂⟩ : ∃ m₂, h₂.Ns cenv.locals m₂ ∧ m₂ y = some (.int n t) := ⟨_, hn₂, by simp⟩
    refine wpAny_bind (wpAny_bind (Ev.run (h := h₂) (P := IsV (.int n t)) (Ev.name_local hn₂ hm₂ hk hy hyd) (stays_refl _) fun v s₃ hv k₃ => ?_))
    obtain rfl := hv
    obtain ⟨h₃, tk₃, rfl, k₃⟩ := k₃
    have acc₃ : h₃.IsList D ys'.toArray := by obtain ⟨o, ho, r⟩ := hacc'; exact ⟨o, k₃ _ _ (up₂ D o (Ne.symm hJD) hDC ho), r⟩
    refine wpAny_bind (wpAny_list_append acc₃ (fun h₅ hl₅ hs₅ => wpAny_pure (wpAny_pure ⟨rfl, us.length + 1 - (i + 1), by omega, h₅, _, i + 1, m₂, ys' ++ [.int n t], rfl, hlt, rfl, ?_, by simpa using hl₅, ?_, ?_, ?_⟩)) ?_)
    · exact W.frame _ _ _ hst₂ fun b hb o e => hs₅.extBut b o (fun q => hDf (q ▸ hb)) (k₃ b o e)
    · have e : ks.take (i + 1) = ks.take i ++ [n] := by rw [List.take_add_one, hnk]; rfl
      rw [e, ← List.append_assoc]
      exact ints_append hys' (.cons n t .nil)
    · exact (hn₂.keeps k₃).at' fun o e => hs₅.extBut _ o (Ne.symm hDC) e
    · exact fun b o b1 b2 b3 e => hs₅.extBut b o b3 (k₃ b o (up₂ b o b2 b1 (hk' b o b1 b2 b3 e)))
    · show ys'.toArray.size ≤ sizeLine
      rw [List.size_toArray, hys'.length, List.length_append, List.length_take]
      omega
  · obtain rfl : i = us.length := Nat.le_antisymm hi (Nat.not_lt.mp hlt)
    refine W.done _ _ _ hst' fun h₁ tk₁ hk₁ => wpAny_pure ?_
    have up₁ : ∀ b o, b ≠ J → H.get? b = some o → h₁.get? b = some o := fun b o hb e => hk₁ b o (by simpa using hb) e
    rw [hlen, List.take_length] at hys'
    exact hR h₁ tk₁ _ ys' (hn'.at' fun o e => up₁ _ o (Ne.symm hJC) e) (by obtain ⟨o, ho, r⟩ := hacc'; exact ⟨o, up₁ D o (Ne.symm hJD) ho, r⟩) hys' fun b o b1 b2 b3 e => up₁ b o b2 (hk' b o b1 b2 b3 e)

/-- the outer loop -/
theorem out_loop {i₁ i₂ : Expr} {x y : Str} {px py pe : Pos} {scope : Scope} {pos : Pos} {I D : Addr} {fp : List Addr} {ns : List Int} {vs : List Value} {St : Nat → Heap → Prop} {cenv : Env} {m : Str → Option Value} {f : Int → List Int} {h₀ : Heap}
    (hh : A.handled = none) (W : Walks prog w A I fp [I] vs.length (fun i v => vs[i]? = some v) St) (hns : IntsAre vs ns)
    (hx : cenv.kindOf x = some .local) (hy : cenv.kindOf y = some .local) (hk : cenv.scope.kind = .function) (hyd : (y == ("__debug__" : Str)) = false)
    (hID : I ≠ D) (hIC : I ≠ cenv.locals) (hDC : D ≠ cenv.locals) (hDf : D ∉ fp) (hCf : cenv.locals ∉ fp)
    (hst : St 0 s.heap) (hacc : s.heap.IsList D #[]) (hn : s.heap.Ns cenv.locals m) (k0 : ∀ b o, h₀.get? b = some o → s.heap.get? b = some o ∧ b ≠ cenv.locals ∧ b ≠ I ∧ b ≠ D)
    (hfl : ∀ n, (f n).length ≤ 100) (hsz : vs.length ≤ 100)
    (hin : ∀ n t h' m', h₀.StaysIn h' → h'.Ns cenv.locals m' → m' x = some (.int n t) → Ev prog w A h' (eval i₂ cenv) (IsIT (f n)))
    (hs₂ : ∀ z, foldedSetIterable i₂ cenv z = pure z)
    (hR : ∀ h' tk m' ys, h'.Ns cenv.locals m' → h'.IsList D ys.toArray → IntsAre ys (ns.flatMap f) → (∀ b o, b ≠ cenv.locals → b ≠ I → b ≠ D → s.heap.get? b = some o → h'.get? b = some o) → R (.ok .next) { s with heap := h', toks := tk }) :
    codeAny (model prog w) A (.compLoop (.ListComp (.Name y pe) [⟨.Name x px, i₁, [], 0⟩, ⟨.Name y py, i₂, [], 0⟩] scope pos) 0 (.ref I) (.ref D) cenv) R s := by
  have flen : ∀ l : List Int, (l.flatMap f).length ≤ 100 * l.length := by
    intro l
    induction l with
    | nil => simp
    | cons a r ih => rw [List.flatMap_cons, List.length_append, List.length_cons]; have := hfl a; omega
  refine codeAny_loop rfl (fun k s' => ∃ H tk i m' ys', s' = { s with heap := H, toks := tk } ∧ i ≤ vs.length ∧ k = vs.length + 1 - i ∧ St i H ∧ H.IsList D ys'.toArray ∧ IntsAre ys' ((ns.take i).flatMap f) ∧ H.Ns cenv.locals m' ∧
      (∀ b o, b ≠ cenv.locals → b ≠ I → b ≠ D → s.heap.get? b = some o → H.get? b = some o)) (fun k s' hI => ?_) (vs.length + 1)
    ⟨s.heap, s.toks, 0, m, [], rfl, Nat.zero_le _, rfl, hst, hacc, by simpa using IntsAre.nil, hn, fun _ _ _ _ _ e => e⟩
  obtain ⟨H, tk, i, m', ys', rfl, hi, rfl, hst', hacc', hys', hn', hk'⟩ := hI
  show wpAny _ _ ((compTurn (.ListComp (.Name y pe) [⟨.Name x px, i₁, [], 0⟩, ⟨.Name y py, i₂, [], 0⟩] scope pos) 0 (.ref I) (.ref D) cenv).onRaise (fun x => do noteFrame x cenv; theTreesLotGoes x)) _ _ _
  refine wpAny_noted ?_
  rw [compTurn_out]
  refine wpAny_bind (wpAny_standAt (wpAny_bind ?_))
  have hlen := hns.length
  by_cases hlt : i < vs.length
  · refine W.item i _ _ _ hlt hst' fun v h₁ tk₁ hPv hst₁ hk₁ => ?_
    have up₁ : ∀ b o, b ≠ I → H.get? b = some o → h₁.get? b = some o := fun b o hb e => hk₁ b o (by simpa using hb) e
    obtain ⟨n, t, hnk, rfl⟩ := ints_at hns hPv
    refine wpAny_bind (wpAny_of_eq (show letOwnedTupleGo (.Name x px) (.ref I) (.int n t) = pure () from rfl) (wpAny_bind ?_))
    refine wpAny_assign_Name (wpAny_storeName_local hx (hn'.at' fun o e => up₁ _ o (Ne.symm hIC) e) (fun h₂ hn₂ hs₂' => ?_) (by rw [hk]; rfl))
    have up₂ : ∀ b o, b ≠ I → b ≠ cenv.locals → H.get? b = some o → h₂.get? b = some o := fun b o hbI hbX e => hs₂'.extBut b o hbX (up₁ b o hbI e)
    have hst₂ : St (i + 1) h₂ := W.frame _ _ _ hst₁ fun b hb o e => hs₂'.extBut b o (fun q => hCf (q ▸ hb)) e
    obtain ⟨m₂, hn₂, hm₂⟩ : ∃ m₂, h₂.Ns cenv.locals m₂ ∧ m₂ x = some (.int n t) := ⟨_, hn₂, by simp⟩
    have kk : h₀.StaysIn h₂ := fun b o e => let ⟨e1, e2, e3, e4⟩ := k0 b o e; up₂ b o e3 e2 (hk' b o e2 e3 e4 e1)
    refine wpAny_bind (Ev.run (hin n t h₂ m₂ kk hn₂ hm₂) (stays_refl _) fun xv s₃ hxv k₃ => ?_)
    obtain ⟨h₃, tk₃, rfl, k₃⟩ := k₃
    obtain ⟨a, us, rfl, tp, ius⟩ := hxv
    refine wpAny_bind (wpAny_standAt (wpAny_bind (wpAny_of_eq (hs₂ _) (wpAny_bind (wpAny_holding ?_)))))
    have hlu : us.length = us.toArray.size := by simp
    refine ItOk.tuple (prog := prog) (w := w) hh tp _ _ _ (stays_refl _) fun J fpJ St' s₄ hJ W' hst₄ hfp₄ hJo hfv k₄ => ?_
    obtain ⟨h₄, tk₄, rfl, k₄⟩ := k₄
    have acc₄ : h₄.IsList D ys'.toArray := by obtain ⟨o, ho, r⟩ := hacc'; exact ⟨o, k₄ _ _ (k₃ _ _ (up₂ D o (Ne.symm hID) hDC ho)), r⟩
    have ha₃ : ∃ o, h₃.get? a = some o ∧ o.cls = .type "tuple" := by obtain ⟨o, ho, hc, _⟩ := tp; exact ⟨o, ho, hc⟩
    have D₃ : ∃ o, h₃.get? D = some o ∧ o.cls = .type "list" := by obtain ⟨o, ho, hc, r⟩ := hacc'; exact ⟨o, k₃ _ _ (up₂ D o (Ne.symm hID) hDC ho), hc⟩
    have C₃ := hn₂.keeps k₃
    obtain ⟨oC, es, ep, hoC, hdC, rC⟩ := C₃
    have hJD : J ≠ D := fun q => by obtain ⟨o, ho, _⟩ := D₃; rw [q] at hJ; rw [show h₃.get? D = none from hJ] at ho; cases ho
    have hJC : J ≠ cenv.locals := fun q => by rw [q] at hJ; rw [show h₃.get? cenv.locals = none from hJ] at hoC; cases hoC
    have naD : a ≠ D := fun q => by
      obtain ⟨o, ho, hc⟩ := ha₃
      obtain ⟨o', ho', hc'⟩ := D₃
      rw [q, ho'] at ho; cases ho; rw [hc] at hc'; exact absurd hc' (by decide)
    have naC : a ≠ cenv.locals := fun q => by
      obtain ⟨o, ho, hc, n, hd⟩ := tp
      rw [q, hoC] at ho; cases ho; rw [hdC] at hd; cases hd
    have hDf' : D ∉ fpJ := fun q => by
      rcases hfv D q with q | ⟨q, _⟩
      · exact hJD q.symm
      · exact naD (by injection q)
    have hCf' : cenv.locals ∉ fpJ := fun q => by
      rcases hfv _ q with q | ⟨q, _⟩
      · exact hJC q.symm
      · exact naC (by injection q)
    have isz : ((ns.take i).flatMap f).length ≤ 10000 := by
      have := flen (ns.take i)
      rw [List.length_take] at this
      omega
    have fin : ∀ (tk₅ : Nat), codeAny (model prog w) A (.compLoop (.ListComp (.Name y pe) [⟨.Name x px, i₁, [], 0⟩, ⟨.Name y py, i₂, [], 0⟩] scope pos) 1 (.ref J) (.ref D) cenv)
        (fun r s' => match r with
          | .ok _ => ∃ H tk m' ys', s' = { s with heap := H, toks := tk } ∧ St (i + 1) H ∧ H.IsList D ys'.toArray ∧ IntsAre ys' ((ns.take (i + 1)).flatMap f) ∧ H.Ns cenv.locals m' ∧
            (∀ b o, b ≠ cenv.locals → b ≠ I → b ≠ D → s.heap.get? b = some o → H.get? b = some o)
          | .error _ => False) { s with heap := h₄, toks := tk₅ } := fun tk₅ => by
      refine in_loop (ks := f n) (us := us) (ys := ys') (m := m₂) (hlu ▸ (by simpa using W')) ius hy hk hyd hJD hJC hDC hDf' hCf' hst₄ acc₄ hys' ((hn₂.keeps k₃).keeps k₄) ?_ fun h₅ tk₆ m₅ ys₅ hn₅ hl₅ hi₅ hk₅ => ?_
      · have := hfl n
        have : (20000 : Nat) ≤ sizeLine := by decide
        omega
      · refine ⟨h₅, tk₆, m₅, ys₅, rfl, ?_, hl₅, ?_, hn₅, fun b o b1 b2 b3 e => hk₅ b o b1 (fun q => ?_) b3 (k₄ _ _ (k₃ _ _ (up₂ b o b2 b1 (hk' b o b1 b2 b3 e))))⟩
        · refine W.frame _ _ _ hst₂ fun b hb o e => hk₅ b o (fun q => hCf (q ▸ hb)) (fun q => ?_) (fun q => hDf (q ▸ hb)) (k₄ _ _ (k₃ _ _ e))
          have := k₃ _ _ e
          rw [q] at this
          rw [show h₃.get? J = none from hJ] at this; cases this
        · have e : ns.take (i + 1) = ns.take i ++ [n] := by rw [List.take_add_one, hnk]; rfl
          rw [e, List.flatMap_append]
          simpa using hi₅
        · have := k₃ _ _ (up₂ b o b2 b1 (hk' b o b1 b2 b3 e))
          rw [q] at this
          rw [show h₃.get? J = none from hJ] at this; cases this
    refine wpAny_bind (wpAny_runOwn (codeAny_mono (R := fun r s' => match r with
          | .ok _ => ∃ H tk m' ys', s' = { s with heap := H, toks := tk } ∧ St (i + 1) H ∧ H.IsList D ys'.toArray ∧ IntsAre ys' ((ns.take (i + 1)).flatMap f) ∧ H.Ns cenv.locals m' ∧
            (∀ b o, b ≠ cenv.locals → b ≠ I → b ≠ D → s.heap.get? b = some o → H.get? b = some o)
          | .error _ => False) (compStart_in (fin _) (W'.self 0 _ _ _ hst₄ (fin _))) fun r s' hr => ?_))
    cases r with
    | error e => exact hr.elim
    | ok fl =>
      obtain ⟨H₆, tk₆, m₆, ys₆, rfl, a1, a2, a3, a4, a5⟩ := hr
      exact wpAny_pure ⟨rfl, vs.length + 1 - (i + 1), by omega, H₆, tk₆, i + 1, m₆, ys₆, rfl, hlt, rfl, a1, a2, a3, a4, a5⟩
  · obtain rfl : i = vs.length := Nat.le_antisymm hi (Nat.not_lt.mp hlt)
    refine W.done _ _ _ hst' fun h₁ tk₁ hk₁ => wpAny_pure ?_
    have up₁ : ∀ b o, b ≠ I → H.get? b = some o → h₁.get? b = some o := fun b o hb e => hk₁ b o (by simpa using hb) e
    rw [hlen, List.take_length] at hys'
    exact hR h₁ tk₁ _ ys' (hn'.at' fun o e => up₁ _ o (Ne.symm hIC) e) (by obtain ⟨o, ho, r⟩ := hacc'; exact ⟨o, up₁ D o (Ne.symm hID) ho, r⟩) hys' fun b o b1 b2 b3 e => up₁ b o b2 (hk' b o b1 b2 b3 e)
end
end Mine
end

section
open PySem PySem.W PyProof.Rows
namespace Mine

section
variable {prog : Program} {w : World} {mg mb : Str → Option Value} {A : Around} {h : Heap} {env : Env}

theorem Ev.listcomp2 {i₁ i₂ : Expr} {x y : Str} {px py pe : Pos} {scope : Scope} {cl : List (Str × Addr)} {pos : Pos} {ns : List Int} {f : Int → List Int} (hh : A.handled = none)
    (hclos : closureFor scope env = Pure.pure cl)
    (hit : Ev prog w A h (eval i₁ env) (IsIL ns))
    (hfl : ∀ n, (f n).length ≤ 100) (hsz : ns.length ≤ 100)
    (hin : ∀ n t h' C m', h.StaysIn h' → h'.Ns C m' → m' x = some (.int n t) → Ev prog w A h' (eval i₂ (compEnvC scope cl C env)) (IsIT (f n)))
    (hcell : ∀ y ∈ scope.names, y.2 ≠ .cell := by decide) (hkind : scope.kind = .function := by rfl) (hnames : ∀ y ∈ scope.names, y.2 = .local → scope.names.lookup y.1 = some .local := by decide)
    (hx : scope.names.lookup x = some .local := by rfl) (hy : scope.names.lookup y = some .local := by rfl) (hyd : (y == ("__debug__" : Str)) = false := by decide)
    (hs : ∀ x, foldedSetIterable i₁ env x = Pure.pure x := by intro _; rfl) (hs₂ : ∀ C x, foldedSetIterable i₂ (compEnvC scope cl C env) x = Pure.pure x := by intro _ _; rfl) :
    Ev prog w A h (eval (.ListComp (.Name y pe) [⟨.Name x px, i₁, [], 0⟩, ⟨.Name y py, i₂, [], 0⟩] scope pos) env) (IsIL (ns.flatMap f)) := Ev.mk fun s hss => by
  rw [eval_ListComp]
  refine wpAny_comprehension_free (use := none) rfl hs hclos hkind hnames (Ev.run hit hss fun xv s₁ pv k₁ => ?_)
  obtain ⟨a, vs, rfl, hl, is⟩ := pv
  refine ItOk.list (prog := prog) (w := w) hh hl s₁ _ _ (stays_refl _) fun I fp St s₂ hI W hst hfp hIo hfv k₂ => ?_
  have hI₀ : h.get? I = none := not_of_stays (stays_trans hss (keeps_stays k₁)) hI
  have k0 : h.StaysIn s₂.heap := stays_trans hss (keeps_stays (keeps_trans k₁ k₂))
  refine wpAny_newObj_type (wpAny_newFunctionEnv hcell (by intro y hy; simp at hy) (fun h₁ hns₁ hsb₁ => ?_) hkind)
  dsimp only at hns₁ hsb₁ ⊢
  generalize hH2 : s₂.heap.push { cls := .type "list", dict := none, data := .seq ([] : List Value).toArray } = H2 at hns₁ hsb₁ ⊢
  have hC : H2.objs.size = s₂.heap.objs.size + 1 := by rw [← hH2, Heap.size_push]
  have hDC : s₂.heap.objs.size ≠ H2.objs.size := by rw [hC]; exact Nat.ne_of_lt (Nat.lt_succ_self _)
  have below : ∀ b, b < s₂.heap.objs.size → b ≠ H2.objs.size ∧ b ≠ s₂.heap.objs.size := fun b hb => ⟨by rw [hC]; exact Nat.ne_of_lt (Nat.lt_succ_of_lt hb), Nat.ne_of_lt hb⟩
  have hIf : I ∈ fp := W.sub I (List.mem_singleton.mpr rfl)
  have hIlt : I < s₂.heap.objs.size := hfp I hIf
  have old : s₂.heap.StaysIn h₁ := fun b o e => hsb₁.extBut b o (below b (Heap.lt_size e)).1 (Heap.get?_push_of_some _ (hH2 ▸ Heap.get?_push_of_some _ e))
  have hacc : h₁.IsList s₂.heap.objs.size #[] := ⟨_, hsb₁.extBut _ _ hDC (Heap.get?_push_of_some _ (hH2 ▸ Heap.get?_push_size _ rfl)), rfl, _, rfl⟩
  have hst₁ : St 0 h₁ := W.frame _ _ _ hst fun b _ o e => old b o e
  have fin : ∀ s₃ : Shared, s₃ = { s₂ with heap := h₁, toks := s₂.toks + ([] : List (Str × Value)).length } →
      codeAny (model prog w) A (.compLoop (.ListComp (.Name y pe) [⟨.Name x px, i₁, [], 0⟩, ⟨.Name y py, i₂, [], 0⟩] scope pos) 0 (.ref I) (.ref s₂.heap.objs.size) (compEnvC scope cl H2.objs.size env))
        (compPost (model prog w) A (fun _ _ => False) none (fun v s' => IsIL (ns.flatMap f) v s'.heap ∧ Keeps s s') (.ref s₂.heap.objs.size) H2.objs.size) s₃ := by
    rintro s₃ rfl
    refine out_loop (h₀ := h) (f := f) (ns := ns) (vs := vs) hh (by simpa using W) is (lookup_relabel_local hx) (lookup_relabel_local hy) (by simp [compEnvC, relabel, hkind]) hyd (below I hIlt).2 (below I hIlt).1 hDC
      (fun hm => Nat.lt_irrefl _ (hfp _ hm)) (fun hm => Nat.lt_irrefl _ (Nat.lt_of_succ_lt (by have := hfp _ hm; rw [show (compEnvC scope cl H2.objs.size env).locals = _ from hC] at this; exact this))) hst₁ hacc hns₁ ?_ hfl (by rw [is.length]; exact hsz)
      (fun n t h' m' k hn hm => hin n t h' _ m' k hn hm) (hs₂ _) fun h' tk m' ys hn hl' hi hk => ?_
    · intro b o e
      have e' := k0 b o e
      have lt := Heap.lt_size e'
      refine ⟨old b o e', (below b lt).1, ?_, (below b lt).2⟩
      rintro rfl
      rw [hI₀] at e; cases e
    · refine ⟨m', hn, fun h'' hs'' => ⟨⟨_, ys, rfl, ?_, hi⟩, ?_⟩⟩
      · obtain ⟨o, ho, r⟩ := hl'
        exact ⟨o, hs''.extBut _ o hDC ho, r⟩
      · obtain ⟨H1, t1, rfl, q1⟩ := k₁
        obtain ⟨H2', t2, rfl, q2⟩ := k₂
        refine ⟨h'', _, rfl, fun b o e => ?_⟩
        have e₂ := q2 b o (q1 b o e)
        have lt := Heap.lt_size e₂
        refine hs''.extBut b o (below b lt).1 (hk b o (below b lt).1 ?_ (below b lt).2 (old b o e₂))
        rintro rfl
        rw [q1 _ _ e] at hI; cases hI
  exact codeAny_compStart_list (fin _ rfl) (W.self 0 _ _ _ hst₁ (fin _ rfl))

def octets (n : Int) : List Int := [n.fmod 256, n.fdiv 256]
def lineF (codes : List Int) : Array UInt8 := byteArr (codes.flatMap octets)
theorem line_ok {v : Value} {codes : List Int} (G : Gd mg mb h) (hv : IsIL codes v h) (hn : codes.length ≤ 100) (hc : ∀ c ∈ codes, 0 ≤ c ∧ c < 65536) : Fn prog w mg "_law_line" [v] h 1 (IsY (lineF codes)) := by
  refine Fn.of_return (i := 21) (binds := [("codes", v)]) (k := 0) G rfl (fun h' A L a cd R k G' N => ?_) (fun _ _ _ => rfl) (locs rfl)
  have hh := R.2.2
  refine Ev.call_type (id := "bytes") (Ev.name_bi G' (by decide) boot_bytes (by decide)) (Ev.args1 (Ev.listcomp2 (f := octets) (ns := codes) (cl := []) hh rfl (Ev.val (Ev.name_local N rfl) fun h₂ k₂ => IsIL.up hv (stays_trans k k₂)) (fun _ => by simp [octets]) hn ?_)) ?_
  · intro n t h₁ C m' k₁ hn₁ hm₁
    refine Ev.tuple_ints (ns := octets n) (by simp [octets]) (Ev.ei (Ev.fmod (by decide) (Ev.val (Ev.name_local hn₁ hm₁) fun _ _ => ⟨_, rfl⟩) Ev.int) (Ev.ei (Ev.fdiv (by decide) (by decide) (Ev.val (Ev.name_local hn₁ hm₁) fun _ _ => ⟨_, rfl⟩) Ev.int) Ev.ei_nil))
  · intro a' h₁ k₁ ha
    obtain ⟨_, rfl, l, vs, rfl, hl, is⟩ := ha
    have flen : ∀ l : List Int, (l.flatMap octets).length = 2 * l.length := by
      intro l
      induction l with
      | nil => simp
      | cons a r ih => rw [List.flatMap_cons, List.length_append, ih, List.length_cons]; simp [octets]; omega
    refine Ev.mk fun s hs => call_bytes_ints (isList_up hl hs) is ?_ ?_ hh fun h₂ t k₂ kk => ⟨⟨t, rfl⟩, ⟨h₂, k₂, rfl, kk⟩⟩
    · intro n hm
      obtain ⟨c, hcm, hnc⟩ := List.mem_flatMap.mp hm
      obtain ⟨h0, h1⟩ := hc c hcm
      have e1 : c.fmod 256 = c % 256 := by rw [Int.fmod_eq_emod_of_nonneg _ (by decide)]
      have e2 : c.fdiv 256 = c / 256 := by rw [Int.fdiv_eq_ediv_of_nonneg _ (by decide)]
      simp only [octets, List.mem_cons, List.not_mem_nil, or_false] at hnc
      rcases hnc with rfl | rfl
      · rw [e1]; omega
      · rw [e2]; omega
    · rw [is.length, flen]
      have : (200 : Nat) ≤ sizeLine := by decide
      omega
end
end Mine
end

section
open PySem PySem.W PyProof.Rows
open PySem.Sem (wp)
namespace Mine

/-! as wpAny, for the contexts whose stack holds no decoder -/
def isDec : Code → Bool
  | .builtin id _ => Builtin.Bytes.decodersThatHold.contains id
  | _ => false
def ClB (Γ : Ctx) : Prop := ∀ x ∈ Γ.below, isDec x.1 = false
def Cl (Γ : Ctx) : Prop := isDec Γ.code = false ∧ ClB Γ
def wpN {α : Type} (M : Model) (A : Around) (t : Sem α) (Q : α → Shared → Prop) (E : Value → Shared → Prop) (s : Shared) : Prop :=
  ∀ Γ p, Γ.In A → Cl Γ → wp M Γ t (fun a _ s' => Q a s') (fun e _ s' => E e s') p s
def codeN (M : Model) (A : Around) (c : Code) (R : Result → Shared → Prop) (s : Shared) : Prop :=
  ∀ Γ p, Γ.code = c → Γ.Below A → ClB Γ → wpCode M Γ R p s

section
variable {α β : Type} {M : Model} {A : Around} {E : Value → Shared → Prop} {s : Shared} {env : Env}

theorem wpN_of {t : Sem α} {Q : α → Shared → Prop} (h : wpAny M A t Q E s) : wpN M A t Q E s := fun Γ p hΓ _ => h Γ p hΓ
theorem codeN_of {c : Code} {R : Result → Shared → Prop} (h : codeAny M A c R s) : codeN M A c R s := fun Γ p hc hΓ _ => h Γ p hc hΓ
theorem wpN_mono {t : Sem α} {Q Q' : α → Shared → Prop} {E' : Value → Shared → Prop} (h : wpN M A t Q E s) (hQ : ∀ a s, Q a s → Q' a s) (hE : ∀ e s, E e s → E' e s) : wpN M A t Q' E' s :=
  fun Γ p hΓ hc => Sem.wp_mono M Γ t (fun a _ s => hQ a s) (fun e _ s => hE e s) p s (h Γ p hΓ hc)
theorem wpN_bind {m : Sem α} {f : α → Sem β} {Q : β → Shared → Prop} (h : wpN M A m (fun a s' => wpN M A (f a) Q E s') E s) : wpN M A (m >>= f) Q E s := fun Γ p hΓ hc => by
  rw [Sem.wp_bind']
  exact Sem.wp_mono M Γ m (fun a p' s' h' => h' Γ p' hΓ hc) (fun _ _ _ h' => h') p s (h Γ p hΓ hc)
/-- what never raises needs no handler -/
theorem wpN_onRaise {m : Sem α} {k : Value → Sem Unit} {Q : α → Shared → Prop} (h : wpN M A m Q (fun _ _ => False) s) : wpN M A (m.onRaise k) Q E s := fun Γ p hΓ hc => by
  rw [Sem.wp_onRaise]
  exact Sem.wp_mono M Γ m (fun _ _ _ h' => h') (fun e p' s' h' => h'.elim) p s (h Γ p hΓ hc)
theorem wpN_holding {vs : List Value} {m : Sem α} {Q : α → Shared → Prop} (h : wpN M A m Q E s) : wpN M A (holding vs m) Q E s := fun Γ p hΓ hc => by rw [Sem.wp_holding]; exact h Γ p hΓ hc
theorem wpN_keep {vs : List Value} {m : Sem α} {Q : α → Shared → Prop} (h : wpN M A m Q E s) : wpN M A (m.keep vs) Q E s := fun Γ p hΓ hc => by rw [Sem.wp_keep]; exact h Γ p hΓ hc
theorem wpN_pure {a : α} {Q : α → Shared → Prop} (h : Q a s) : wpN M A (Pure.pure a) Q E s := fun _ _ _ _ => h
theorem Cl.enter {Γ : Ctx} (h : Cl Γ) (c : Code) (hd : Option Value) (p : Pos) : ClB (Γ.enter c hd p) := fun x hx => by
  rcases List.mem_cons.mp hx with rfl | hx
  · exact h.1
  · exact h.2 x hx
theorem wpN_runValue {c : Code} {Q : Value → Shared → Prop} (hc : codeN M A c (fun r s' => match r with | .ok (.ret v) => Q v s' | .ok _ => False | .error e => E e s') s) : wpN M A (runValue c) Q E s :=
  fun Γ p hΓ hcl => by rw [Sem.wp_runValue]; exact hc _ p rfl (hΓ.enter c none p (by intro x; cases x)) (hcl.enter c none p)
theorem wpN_call {f : Value} {pos : List Value} {kw : List (Str × Value)} {Q : Value → Shared → Prop}
    (hc : codeN M A (.call f ⟨pos, kw⟩) (fun r s' => match r with | .ok (.ret v) => Q v s' | .ok _ => False | .error e => E e s') s) : wpN M A (call f pos kw) Q E s := wpN_runValue hc
theorem wpN_runOwn {c : Code} {Q : Flow → Shared → Prop} (hc : codeN M A c (fun r s' => match r with | .ok f => Q f s' | .error _ => False) s) : wpN M A (runOwn c env) Q E s := by
  unfold runOwn
  refine wpN_onRaise fun Γ p hΓ hcl => ?_
  rw [Sem.wp_run]
  exact wpCode_mono (fun r s' h => by cases r <;> exact h) (hc _ p rfl (hΓ.enter c none p (by intro x; cases x)) (hcl.enter c none p))
theorem codeN_of_tree {c : Code} {R : Result → Shared → Prop}
    (h : wpN M (A.under c) (M.den c) (fun fin s' => match fin with | .done f => R (.ok f) s' | .again c' => c'.quiet = true ∧ codeN M A c' R s') (fun e s' => R (.error e) s') s) (hd : isDec c = false := by rfl) : codeN M A c R s := fun Γ p hc hΓ hb => by
  rw [wpCode_iff_wp, hc]
  refine Sem.wp_mono M Γ _ (fun fin p' s' h' => ?_) (fun _ _ _ h' => h') p s (h Γ p (hc ▸ hΓ.in) ⟨hc ▸ hd, hb⟩)
  cases fin with
  | done f => exact h'
  | again c' => exact ⟨h'.1, h'.2 (Γ.goto c') p' rfl (hΓ.goto c') hb⟩
theorem codeN_loop {c : Code} {R : Result → Shared → Prop} (hq : c.quiet = true) (hd : isDec c = false) (I : Nat → Shared → Prop)
    (turn : ∀ n s, I n s → wpN M (A.under c) (M.den c) (fun fin s' => match fin with
        | .done f => R (.ok f) s'
        | .again c' => (c' = c ∧ ∃ m, m < n ∧ I m s') ∨ (c'.quiet = true ∧ codeN M A c' R s')) (fun e s' => R (.error e) s') s)
    (n : Nat) (h : I n s) : codeN M A c R s := by
  induction n using Nat.strongRecOn generalizing s with
  | ind n ih =>
    refine codeN_of_tree (wpN_mono (turn n s h) (fun fin s' hf => ?_) fun _ _ h' => h') hd
    cases fin with
    | done f => exact hf
    | again c' =>
      rcases hf with ⟨rfl, m, hm, hI⟩ | hf
      · exact ⟨hq, ih m hm hI⟩
      · exact hf

/-! statements -/
theorem wpN_execs_cons {st rest} {Q : Flow → Shared → Prop} (h : wpN M A (exec st env) (fun f s' => match f with | .next => wpN M A (execs rest env) Q E s' | f => Q f s') E s) :
    wpN M A (execs (st :: rest) env) Q E s := fun Γ p hΓ hc => by
  rw [execs_cons, Sem.wp_bind']
  refine Sem.wp_mono M Γ _ (fun f p' s' h' => ?_) (fun _ _ _ h' => h') _ _ (h Γ p hΓ hc)
  cases f <;> first | exact h' Γ p' hΓ hc | exact h'
theorem wpN_Assign_Name {x pos' value pos} {Q : Flow → Shared → Prop} (h : wpN M A (eval value env) (fun v s₁ => wpN M A (storeName env x v) (fun _ => Q .next) E s₁) E s)
    (hs : swapsWith value (some (.Name x pos')) pos.line env = Pure.pure false := by rfl) : wpN M A (exec (.Assign [.Name x pos'] value pos) env) Q E s := fun Γ p hΓ hc => by
  simp only [exec_Assign_Name env x pos' value pos hs, Sem.wp_bind', Sem.wp_cmd_standAt, Sem.wp_bindName, Sem.wp_pure']
  exact Sem.wp_mono M Γ _ (fun v _ s₁ h₁ => h₁ Γ _ hΓ hc) (fun _ _ _ h' => h') _ _ (h Γ _ hΓ hc)
theorem wpN_If {test body orelse pos} {Q : Flow → Shared → Prop}
    (h : wpN M A (isTrue test env (eval test env)) (fun b s₂ => if b then wpN M A (execs body env) Q E s₂ else wpN M A (execs orelse env) Q E s₂) E s) : wpN M A (exec (.If test body orelse pos) env) Q E s := fun Γ p hΓ hc => by
  simp only [exec_If, Sem.wp_bind', Sem.wp_cmd_standAt]
  refine Sem.wp_mono M Γ _ (fun b p₂ s₂ h₂ => ?_) (fun _ _ _ h' => h') _ _ (h Γ _ hΓ hc)
  cases b <;> exact h₂ Γ p₂ hΓ hc
theorem wpN_For {target iter body orelse pos} {Q : Flow → Shared → Prop}
    (h : wpAny M A (eval iter env) (fun x s₁ => wpAny M A (pyIter x) (fun it s₂ => codeN M A (.forLoop target it body orelse env) (fun r s' => match r with | .ok f => Q f s' | .error _ => False) s₂) E s₁) E s)
    (hs : ∀ x, foldedSetIterable iter env x = Pure.pure x := by intro _; rfl) : wpN M A (exec (.For target iter body orelse pos) env) Q E s := by
  rw [exec_For]
  refine wpN_bind (wpN_of (wpAny_standAt (wpN_bind (wpN_of (wpAny_mono h (fun x s₁ h₁ => ?_) fun _ _ h' => h')))))
  refine wpN_bind (wpN_of (wpAny_of_eq (hs x) ?_))
  refine wpN_bind (wpN_of (wpAny_standAt ?_))
  refine wpN_bind (wpN_of (wpAny_holding (wpAny_mono h₁ (fun it s₂ h₂ => ?_) fun _ _ h' => h')))
  exact wpN_runOwn h₂
theorem wpN_ite {c : Prop} [Decidable c] {a b : Sem α} {Q : α → Shared → Prop} (h : if c then wpN M A a Q E s else wpN M A b Q E s) : wpN M A (if c then a else b) Q E s := by split <;> simp_all
theorem callWithN_function {pos : Pos} {a : Addr} {o : Obj} {fd : FuncData} {args : List (Bool × Sem Value)} {Q : Value → Shared → Prop}
    (h : wpAny M A (evalArgs (.ref a) true args []) (fun x s₁ => (s₁.heap.get? a = some o ∧ o.data = .func fd) ∧ wpN M A (call (.ref a) ([] ++ x.pos) x.kw) Q E s₁) E s) : wpN M A (callWith pos (.ref a) [] args []) Q E s := by
  unfold callWith
  refine wpN_bind (wpN_holding (wpN_of (wpAny_mono h (fun x s₁ h₁ => wpN_bind (wpN_of (wpAny_standAt ?_))) fun _ _ x => x)))
  have tail : ∀ {t : Sem Value}, wpN M A t Q E s₁ → wpN M A (t >>= fun r => holding [r] point >>= fun _ => Pure.pure r) Q E s₁ :=
    fun ht => wpN_bind (wpN_mono ht (fun r s₂ hr => wpN_bind (wpN_of (wpAny_holding (wpAny_point (wpN_pure hr))))) fun _ _ x => x)
  cases hs : args.any (·.1) <;> simp only [List.any_nil, Bool.or_false] <;>
    refine wpN_bind (m := keeperOf (.ref a)) ?_ <;> unfold keeperOf <;>
    refine wpN_bind (wpN_of (wpAny_load h₁.1.1 ?_)) <;> rw [h₁.1.2] <;> refine wpN_pure ?_
  · first
      | refine wpN_ite ?_
      | skip
    split <;> first
      | exact tail h₁.2
      | exact tail (by unfold callMarked; exact wpN_keep h₁.2)
  · first
      | exact tail (by unfold callMarked; exact wpN_keep h₁.2)
      | exact tail h₁.2
theorem callWithN_type {pos : Pos} {T : String} {args : List (Bool × Sem Value)} {Q : Value → Shared → Prop} (hplain : args.any (·.1) = false)
    (h : wpAny M A (evalArgs (.type T) true args []) (fun a s₁ => wpN M A (call (.type T) ([] ++ a.pos) a.kw) Q E s₁) E s) : wpN M A (callWith pos (.type T) [] args []) Q E s := by
  unfold callWith
  refine wpN_bind (wpN_holding (wpN_of (wpAny_mono h (fun a s₁ h₁ => wpN_bind (wpN_of (wpAny_standAt ?_))) fun _ _ x => x)))
  simp only [hplain, List.any_nil, Bool.or_false]
  refine wpN_bind (wpN_pure ?_)
  exact wpN_bind (wpN_mono h₁ (fun r s₂ hr => wpN_bind (wpN_of (wpAny_holding (wpAny_point (wpN_pure hr))))) fun _ _ x => x)
end

section
variable {prog : Program} {w : World} {A : Around} {E : Value → Shared → Prop} {s : Shared} {env : Env} {R : Result → Shared → Prop}

theorem codeN_func {body} (h : wpN (model prog w) (A.deeper env) (execs body env) (fun f s' => R (.ok (.ret (match f with | .ret v => v | _ => .none))) s') (fun _ _ => False) s) :
    codeN (model prog w) A (.func body env) R s := by
  refine codeN_of_tree ?_
  show wpN _ (A.deeper env) (do point; match ← (execs body env).onRaise (leaving env) with | .ret v => ret v | _ => ret .none) _ _ s
  refine wpN_bind (wpN_of (wpAny_point (wpN_bind (wpN_onRaise (wpN_mono h (fun f s' h' => ?_) fun _ _ h' => h')))))
  cases f <;> exact wpN_pure h'
theorem codeN_call_function {a : Addr} {args : Args} {o : Obj} {fd : FuncData} {body : List Stmt} (hroom : A.depth < recursionLimit) (ho : s.heap.get? a = some o)
    (hd' : o.data = .func fd) (hco : fd.scope.isCoroutine = false) (hgen : fd.scope.isGenerator = false) (hbody : fd.body = .stmts body) (hcd : s.heap.CodeRec fd.code fd.qualname)
    (h : wpAny (model prog w) A.in1 (bindArgs fd args) (fun binds s₁ =>
      wpAny (model prog w) A.in1 (newFunctionEnv fd.scope fd.globals fd.closure binds (fd.qualname ++ ".<locals>.") (some a) fd.code none fd.builtins)
        (fun env s₂ => s₂.heap.NoLimit ∧ codeN (model prog w) A (.func body env) R s₂) (fun e s' => R (.error e) s') s₁) (fun e s' => R (.error e) s') s) :
    codeN (model prog w) A (.call (.ref a) args) R s := by
  refine codeN_of_tree (wpN_of ?_)
  show wpAny _ A.in1 (callAny (.ref a) args) _ _ s
  simp only [callAny]
  refine wpAny_bind (wpAny_load ho ?_)
  obtain ⟨c, oc, vs, tq, hc, hoc, hdc, hq⟩ := hcd
  simp only [hd', callFunction, hco, hgen, hbody, hc]
  rw [hc] at h
  refine wpAny_bind (m := field (.ref c) 1) (wpAny_field hoc hdc hq (wpAny_bind (wpAny_pure ?_)))
  exact wpAny_bind (wpAny_mono h (fun binds s₁ h₁ => wpAny_bind (wpAny_mono h₁ (fun env s₂ h₂ => wpAny_bind (wpAny_enterFrame h₂.1 hroom
    (wpAny_pure (And.intro rfl h₂.2)))) fun _ _ h' => h')) fun _ _ h' => h')
theorem codeN_forLoop {target it body} (I : Nat → Shared → Prop)
    (turn : ∀ n s, I n s → wpAny (model prog w) A (pyNext it) (fun r s₁ => match r with
      | none => R (.ok .next) s₁
      | some v => wpAny (model prog w) A (assign target env v) (fun _ s₂ => wpN (model prog w) A (execs body env) (fun f s₃ => match f with
          | .next | .cont => ∃ m, m < n ∧ I m s₃
          | .brk => R (.ok .next) s₃
          | .ret v => R (.ok (.ret v)) s₃) (fun _ _ => False) s₂) (fun _ _ => False) s₁) (fun _ _ => False) s)
    (n : Nat) (h : I n s) (ht : ∀ v, letOwnedTupleGo target it v = Pure.pure () := by intro _; rfl) : codeN (model prog w) A (.forLoop target it body [] env) R s := by
  refine codeN_loop rfl rfl I (fun n s hI => ?_) n h
  show wpN _ _ ((forTurn target it body [] env).onRaise (fun x => do noteFrame x env; theTreesLotGoes x)) _ _ s
  refine wpN_onRaise ?_
  simp only [forTurn]
  refine wpN_bind (wpN_of (wpAny_standAt (wpN_bind (wpN_onRaise (wpN_of (wpAny_mono (turn n s hI) (fun r s₁ h₁ => ?_) fun _ _ h' => h'))))))
  cases r with
  | none => exact wpN_pure (.inr ⟨rfl, codeN_of (codeAny_block (wpAny_execs_nil h₁))⟩)
  | some v =>
    refine wpN_bind (wpN_of (wpAny_of_eq (ht v) ?_))
    refine wpN_bind (wpN_of (wpAny_mono h₁ (fun _ s₂ h₂ => wpN_bind (wpN_mono h₂ (fun f s₃ h₃ => ?_) fun _ _ h' => h')) fun _ _ h' => h'))
    cases f with
    | next => exact wpN_pure (.inl ⟨rfl, h₃⟩)
    | cont => exact wpN_pure (.inl ⟨rfl, h₃⟩)
    | brk => exact wpN_pure h₃
    | ret v => exact wpN_pure h₃
end
end Mine
end

section
open PySem PySem.W PyProof.Rows
open PySem.Sem (wp)
set_option maxRecDepth 100000
namespace Mine
namespace Ba

theorem mro : mroOf (.type "bytearray") = pure [.type "bytearray", .type "object"] := by rw [mroOf_type]; kernel_rfl

theorem lookup_new : typeLookup (.type "bytearray") "__new__" = pure (some (.builtin "bytearray.__new__")) := by rw [typeLookup_type, builtinLookup_eq_fast]; kernel_rfl

theorem slot_init : Slot "bytearray" "__init__" "bytearray.__init__" :=
  .of (owner := "bytearray") (n := "__init__") (by rw [typeLookup_type, builtinLookup_eq_fast]; kernel_rfl) (by decide +kernel) (by decide +kernel) (by decide +kernel)
    (by first | exact .inl (by decide +kernel) | exact .inr (by decide +kernel)) (by rw [isSubtype_type]; kernel_rfl)

theorem called : TypeCalled "bytearray" "bytearray.__new__" "bytearray.__init__" :=
  ⟨by decide +kernel, by decide +kernel, ⟨_, _, mro⟩, madeBy_type mro lookup_new (by decide +kernel), by decide +kernel, by rw [isSubtype_type]; kernel_rfl, slot_init⟩
theorem typeCall (a : Value) : checkTypeCall "bytearray" ⟨[a], []⟩ = pure () := by kernel_rfl
theorem newCall (a : Value) : checkBuiltinCall "bytearray.__new__" ⟨[.type "bytearray", a], []⟩ = pure () := by kernel_rfl

theorem plain_new : plainId "bytearray.__new__" = true := by decide +kernel

theorem plain_init : plainId "bytearray.__init__" = true := by decide +kernel

theorem entry_new : entryFor table "bytearray.__new__" = some Builtin.«list.__new__» := entryFor_alias (id' := "list.__new__") (by rw [fastTable_eq_tree]; kernel_rfl) (by decide +kernel) (by decide +kernel) (by rw [fastTable_eq_tree]; kernel_rfl)

theorem entry_init : entryFor table "bytearray.__init__" = some Builtin.«bytearray.__init__» := entryFor_of_tree (by kernel_rfl)

theorem sub : isSubtype (.type "bytearray") (.type "bytearray") = pure true := by rw [isSubtype_type]; kernel_rfl

theorem bind (v : Value) : Builtin.Bytes.bindOptional "bytearray.__init__" "bytearray" ["source", "encoding", "errors"] [v] [] = pure [some v, none, none] := by kernel_rfl

theorem release : typeLookup (.type "bytearray") "__release_buffer__" = pure (some (.builtin "bytearray.__release_buffer__")) := by rw [typeLookup_type, builtinLookup_eq_fast]; kernel_rfl

theorem slot_set : Slot "bytearray" "__setitem__" "bytearray.__setitem__" :=
  .of (owner := "bytearray") (n := "__setitem__") (by rw [typeLookup_type, builtinLookup_eq_fast]; kernel_rfl) (by decide +kernel) (by decide +kernel) (by decide +kernel)
    (by first | exact .inl (by decide +kernel) | exact .inr (by decide +kernel)) (by rw [isSubtype_type]; kernel_rfl)

theorem entry_set : entryFor table "bytearray.__setitem__" = some Builtin.«bytearray.__setitem__» := entryFor_of_tree (by kernel_rfl)

theorem args_init (a b : Value) : argsOk "bytearray.__init__" ⟨[a, b], []⟩ := by unfold argsOk; kernel_rfl

theorem args_set (a b c : Value) : argsOk "bytearray.__setitem__" ⟨[a, b, c], []⟩ := by unfold argsOk; kernel_rfl

theorem no_bytes : typeLookup (.type "bytearray") "__bytes__" = pure none := by rw [typeLookup_type, builtinLookup_eq_fast]; kernel_rfl

theorem not_index : typeLookup (.type "bytearray") "__index__" = pure none := by rw [typeLookup_type, builtinLookup_eq_fast]; kernel_rfl

theorem buffer : typeLookup (.type "bytearray") "__buffer__" = pure (some (.builtin "bytearray.__buffer__")) := by rw [typeLookup_type, builtinLookup_eq_fast]; kernel_rfl
set_option maxRecDepth 1000000 in
set_option maxHeartbeats 4000000 in

theorem owner : ("bytearray.__new__".splitOn ".__new__").headD "" = "bytearray" := by simp +decide [String.splitOn, String.splitOnAux]
end Ba

section
variable {prog : Program} {w : World} {A : Around} {E : Value → Shared → Prop} {s : Shared}

theorem ba_new (a : Value) {Q₁ : Value → Shared → Prop}
    (h : Q₁ (.ref s.heap.objs.size) { s with heap := s.heap.push { cls := .type "bytearray", data := .bytearray #[] } }) :
    codeAny (model prog w) A (.call (.builtin "bytearray.__new__") ⟨[.type "bytearray", a], []⟩) (wants Q₁ E) s := by
  refine codeAny_of_tree ?_
  show wpAny _ A.in1 (do checkBuiltinCall "bytearray.__new__" ⟨[.type "bytearray", a], []⟩; again (.builtin "bytearray.__new__" ⟨[.type "bytearray", a], []⟩)) _ _ s
  refine wpAny_bind (wpAny_of_eq (Ba.newCall a) (wpAny_pure ⟨plainId_quiet Ba.plain_new _, codeAny_builtin_stack Ba.entry_new rfl fun p st => ?_⟩))
  rw [Around.under_plainId Ba.plain_new _]
  have hsub := Ba.sub
  have hown := Ba.owner
  obtain ⟨hp, g, d, tk, os⟩ := s
  simp only [hown]
  wp_walk
  exact h
end
end Mine
end

section
open PySem PySem.W PyProof.Rows
open PySem.Sem (wp)
set_option maxRecDepth 100000
namespace Mine

section
variable {prog : Program} {w : World} {A : Around} {E : Value → Shared → Prop} {s : Shared}
theorem no_guard {id : String} {a : Args} (h : guardIds.contains id = true) (hg : (Code.builtin id a).isGuard = false) : False := by
  have : guardIds.contains id = false := hg
  rw [h] at this; cases this
theorem exp_clean {self : Value} {c : Code} {p : Pos} (hg : c.isGuard = false) (hd : isDec c = false) : (fun x : Code × Pos => match x with
    | (.builtin "bytearray.__contains__" ⟨v :: _, _⟩, _) | (.builtin "bytearray.__mod__" ⟨v :: _, _⟩, _)
    | (.builtin "bytearray.__rmod__" ⟨_ :: v :: _, _⟩, _) | (.builtin "_struct.pack_into.held" ⟨v :: _, _⟩, _) => Builtin.Bytes.sameRef v self
    | (.builtin "bytearray.find.held" ⟨_ :: _ :: held, _⟩, _) => held.any (Builtin.Bytes.sameRef self)
    | (.builtin id ⟨v :: _, _⟩, _) => Builtin.Bytes.sameRef v self && Builtin.Bytes.decodersThatHold.contains id
    | _ => false) (c, p) = false := by
  dsimp only
  split
  · cases (by assumption : (_, _) = (_, _)); exact (no_guard (by decide +kernel) hg).elim
  · cases (by assumption : (_, _) = (_, _)); exact (no_guard (by decide +kernel) hg).elim
  · cases (by assumption : (_, _) = (_, _)); exact (no_guard (by decide +kernel) hg).elim
  · cases (by assumption : (_, _) = (_, _)); exact (no_guard (by decide +kernel) hg).elim
  · cases (by assumption : (_, _) = (_, _)); exact (no_guard (by decide +kernel) hg).elim
  · cases (by assumption : (_, _) = (_, _))
    have : Builtin.Bytes.decodersThatHold.contains _ = false := hd
    rw [this, Bool.and_false]
  · rfl
theorem wpN_exported {self : Value} {Q : Bool → Shared → Prop} (hA : A.guards = some []) (h : Q false s) : wpN (model prog w) A (Builtin.Bytes.exported self) Q E s := fun Γ p hΓ hc => by
  unfold Builtin.Bytes.exported
  rw [Sem.wp_bind']
  unfold stack
  rw [Sem.wp_stack]
  have e : ∀ x ∈ ((Γ.code, p) :: Γ.below), x.1.isGuard = false ∧ isDec x.1 = false := by
    have hg := hΓ.2.2.2.1 [] hA
    have hgs : guardsOf ((Γ.code, p) :: Γ.below) = [] := by rw [guardsOf_cons]; exact hg
    intro x hx
    refine ⟨?_, ?_⟩
    · cases hxg : x.1.isGuard with
      | false => rfl
      | true =>
        have : x.1 ∈ guardsOf ((Γ.code, p) :: Γ.below) := by
          unfold guardsOf
          rw [List.mem_filter]
          exact ⟨List.mem_map.mpr ⟨x, hx, rfl⟩, hxg⟩
        rw [hgs] at this; cases this
    · rcases List.mem_cons.mp hx with rfl | hx
      · exact hc.1
      · exact hc.2 x hx
  have e2 : ((Γ.code, p) :: Γ.below).any (fun x : Code × Pos => match x with
    | (.builtin "bytearray.__contains__" ⟨v :: _, _⟩, _) | (.builtin "bytearray.__mod__" ⟨v :: _, _⟩, _)
    | (.builtin "bytearray.__rmod__" ⟨_ :: v :: _, _⟩, _) | (.builtin "_struct.pack_into.held" ⟨v :: _, _⟩, _) => Builtin.Bytes.sameRef v self
    | (.builtin "bytearray.find.held" ⟨_ :: _ :: held, _⟩, _) => held.any (Builtin.Bytes.sameRef self)
    | (.builtin id ⟨v :: _, _⟩, _) => Builtin.Bytes.sameRef v self && Builtin.Bytes.decodersThatHold.contains id
    | _ => false) = false := by
    rw [List.any_eq_false]
    intro x hx
    obtain ⟨h1, h2⟩ := e x hx
    obtain ⟨c, q⟩ := x
    intro q'
    exact Bool.false_ne_true ((exp_clean (self := self) (p := q) h1 h2).symm.trans q')
  show Q (((Γ.code, p) :: Γ.below).any _) s
  exact cast (congrArg (fun b => Q b s) e2.symm) h

theorem ba_write {X : Addr} {b : Array UInt8} {f : Array UInt8 → Array UInt8} {Q : Unit → Shared → Prop} (hX : s.heap.get? X = some { cls := .type "bytearray", data := .bytearray b }) (hz : (f b).size ≤ sizeLine)
    (h : ∀ h', h'.get? X = some { cls := .type "bytearray", data := .bytearray (f b) } → Heap.SameBut X s.heap h' → Q () { s with heap := h' }) : wpAny (model prog w) A (Builtin.Bytes.write (.ref X) f) Q E s := by
  show wpAny _ _ (updateBytearray X f) _ _ _
  unfold updateBytearray
  refine wpAny_bind (wpAny_load hX ?_)
  show wpAny _ _ (update X (Obj.mapBytearray f) >>= fun _ => lookBehind X) _ _ _
  refine wpAny_bind (wpAny_update hX ?_)
  have hX₂ : (s.heap.update X (Obj.mapBytearray f)).get? X = some { cls := .type "bytearray", data := .bytearray (f b) } := Heap.get?_update_self (Obj.mapBytearray f) hX rfl
  refine wpAny_lookBehind hX₂ ?_ (h _ hX₂ (Heap.SameBut.update ..))
  show (if (f b).size > sizeLine then some "bytearray:memory" else none) = none
  rw [if_neg]
  omega
theorem drop_release : "bytearray.__release_buffer__".dropRight ("__release_buffer__".length + 1) = "bytearray" := by decide +kernel
theorem ba_release {X : Addr} {Q : Bool → Shared → Prop} (hT : s.TypeIs (.ref X) "bytearray") (h : Q false s) : wpAny (model prog w) A (Builtin.Bytes.ownRelease (.ref X)) Q E s := by
  unfold Builtin.Bytes.ownRelease Builtin.Bytes.slotIsOwn
  refine wpAny_bind (wpAny_bind (wpAny_specialOf hT Ba.release ?_))
  dsimp only
  refine bm_if_false (by decide +kernel) ?_
  rw [drop_release]
  exact wpAny_isInstance hT (T := "bytearray") (b := true) Ba.sub (wpAny_pure h)
theorem ba_init {X : Addr} {n : Nat} {t : Tok} {Q : Fin → Shared → Prop} (hA : A.guards = some []) (hX : s.heap.get? X = some { cls := .type "bytearray", data := .bytearray #[] }) (hn : n ≤ 1000)
    (h : ∀ h', h'.get? X = some { cls := .type "bytearray", data := .bytearray (Array.replicate n 0) } → Heap.SameBut X s.heap h' → Q (.done (.ret .none)) { s with heap := h' }) :
    wpN (model prog w) A (Builtin.«bytearray.__init__» ⟨[.ref X, .int n t], []⟩) Q E s := by
  have hT : s.TypeIs (.ref X) "bytearray" := ⟨_, hX, rfl⟩
  unfold Builtin.«bytearray.__init__»
  dsimp only
  refine wpN_bind (wpN_of (ba_release hT ?_))
  refine wpN_ite ?_
  rw [if_neg (by decide)]
  refine wpN_bind (wpN_of (wpAny_of_eq (Ba.bind _) ?_))
  refine wpN_bind (wpN_of (wpAny_of_eq (a := ()) rfl ?_))
  refine wpN_bind (wpN_of (wpAny_of_eq (a := ()) rfl ?_))
  refine wpN_bind (wpN_bind (wpN_exported hA ?_))
  show wpN _ _ (Builtin.Bytes.exportsOf (.ref X) >>= fun n => Pure.pure (decide (n > 0))) _ _ _
  refine wpN_of (wpAny_bind ?_)
  show wpAny _ _ (load X >>= _) _ _ _
  refine wpAny_bind (wpAny_load hX ?_)
  refine wpAny_pure (wpAny_pure (wpN_of ?_))
  refine bm_if_false (by decide) ?_
  refine wpAny_bind (ba_write hX (Nat.zero_le _) fun h₁ hX₁ sb₁ => ?_)
  dsimp only
  have e1 : ∀ z : Int, asStr? (.int z t) = Pure.pure none := fun _ => rfl
  have e2 : ∀ z : Int, asIndex (.int z t) = Pure.pure z := fun _ => rfl
  have e3 : ∀ z : Int, specialOf (.int z t) ("__index__" : Str) = Pure.pure (some (.builtin "int.__index__")) := fun z => by
    have : specialOf (.int z t) ("__index__" : Str) = typeLookup (.type "int") "__index__" := rfl
    rw [this]
    exact F.slot_int_index.lookup
  refine wpAny_bind ?_
  rw [e1]
  refine wpAny_pure ?_
  refine wpAny_ite ?_
  rw [if_neg (by decide)]
  refine wpAny_bind ?_
  refine wpAny_ite ?_
  rw [if_neg (by decide)]
  refine wpAny_ite ?_
  rw [if_neg (by decide)]
  refine wpAny_pure ?_
  refine wpAny_bind ?_
  rw [e3]
  refine wpAny_pure ?_
  refine wpAny_ite ?_
  rw [if_pos (by rfl)]
  refine wpAny_bind ?_
  refine wpAny_attempt ?_
  rw [e2]
  refine wpAny_pure ?_
  dsimp only
  have c1 : ¬ ((!Builtin.Bytes.fitsIndex (n : Int)) = true) := by simp [Builtin.Bytes.fitsIndex]; omega
  have c2 : ¬ ((n : Int) < 0) := by omega
  have c3 : ¬ (((n : Int) == 2 ^ 63 - 1) = true) := by simp; omega
  have c4 : ¬ (Builtin.Bytes.tooLong (n : Int).toNat = true) := by
    have : (1000 : Nat) ≤ sizeLine := by decide
    simp only [Builtin.Bytes.tooLong, Int.toNat_natCast, decide_eq_true_eq]
    omega
  refine wpAny_ite ?_
  rw [if_neg c1]
  refine wpAny_ite ?_
  rw [if_neg c2]
  refine wpAny_ite ?_
  rw [if_neg c3]
  refine wpAny_ite ?_
  rw [if_neg c4]
  refine wpAny_bind ?_
  refine wpAny_rule ?_
  have rt : ∀ s', Q (.done (.ret .none)) s' → wpAny (model prog w) A (ret Value.none) Q E s' := fun s' h' => wpAny_pure h'
  refine wpAny_ite ?_
  by_cases hpos : (n : Int) > 0
  · rw [if_pos hpos]
    refine wpAny_bind ?_
    have sz : (1000 : Nat) ≤ sizeLine := by decide
    refine ba_write (b := #[]) hX₁ (by show (Array.replicate (n : Int).toNat (0 : UInt8)).size ≤ sizeLine; rw [Array.size_replicate, Int.toNat_natCast]; omega) fun h₂ hX₂ sb₂ => ?_
    refine rt _ ?_
    exact h h₂ (by rw [Int.toNat_natCast] at hX₂; exact hX₂) ⟨sb₂.1.trans sb₁.1, fun b hb => (sb₂.2 b hb).trans (sb₁.2 b hb)⟩
  · rw [if_neg hpos]
    have hn0 : n = 0 := by omega
    subst hn0
    exact rt _ (h h₁ hX₁ sb₁)
end
end Mine
end

section
open PySem PySem.W PyProof.Rows
open PySem.Sem (wp)
set_option maxRecDepth 100000
namespace Mine

section
variable {prog : Program} {w : World} {A : Around} {E : Value → Shared → Prop} {s : Shared}
theorem isDec_of {id : String} {args : Args} (h : Builtin.Bytes.decodersThatHold.contains id = false) : isDec (.builtin id args) = false := h
theorem codeN_builtin {id : String} {args : Args} {b : Builtin} {R : Result → Shared → Prop} (hb : entryFor table id = some b) (hd : isDec (.builtin id args) = false)
    (h : wpN (model prog w) (A.under (.builtin id args)) (b args)
      (fun fin s' => match fin with | .done f => R (.ok f) s' | .again c' => c'.quiet = true ∧ codeN (model prog w) A c' R s') (fun e s' => R (.error e) s') s) :
    codeN (model prog w) A (.builtin id args) R s := by
  refine codeN_of_tree ?_ hd
  show wpN _ _ (match entryFor table id with | some b => b args | none => unsupported ((withoutEnding? id "#data").getD id)) _ _ s
  rw [hb]; exact h

/-- bytearray(n) -/
theorem ba_call {n : Nat} {t : Tok} {Q : Value → Shared → Prop} (hA : A.guards = some []) (hn : n ≤ 1000)
    (h : ∀ X h', s.heap.get? X = none → h'.get? X = some { cls := .type "bytearray", data := .bytearray (Array.replicate n 0) } → (∀ b o, s.heap.get? b = some o → h'.get? b = some o) → Q (.ref X) { s with heap := h' }) :
    wpN (model prog w) A (call (.type "bytearray") [.int n t]) Q E s := by
  refine wpN_call (codeN_of_tree ?_)
  show wpN _ _ (callAny (.type "bytearray") _) _ _ _
  refine wpN_pure ⟨Code.quiet_builtin _ (by decide +kernel), codeN_builtin F.entry_type_call (isDec_of (by decide +kernel)) ?_⟩
  rw [Around.under_plain (weight_type_call_type "bytearray" [.int n t] []) rfl]
  unfold Builtin.«type.__call__»
  dsimp only
  have h1 := Ba.called.notType
  have h2 := Ba.called.canCreate
  refine wpN_ite ?_
  rw [if_neg (by rw [h1]; decide)]
  refine wpN_ite ?_
  rw [if_neg (by rw [h2]; decide)]
  refine wpN_bind (wpN_of (wpAny_of_eq (Ba.typeCall _) ?_))
  refine wpN_bind (wpN_of (wpAny_of_eq Ba.mro ?_))
  refine wpN_ite ?_
  rw [if_neg (by decide)]
  refine wpN_bind (wpN_of (wpAny_of_eq Ba.called.made ?_))
  dsimp only
  refine wpN_bind (wpN_pure ?_)
  refine wpN_bind (wpN_holding (wpN_of (wpAny_call ?_)))
  refine codeAny_mono (ba_new (Q₁ := fun v s' => v = .ref s.heap.objs.size ∧ s' = { s with heap := s.heap.push { cls := .type "bytearray", data := .bytearray #[] } }) (E := fun _ _ => False) _ ⟨rfl, rfl⟩) fun r s₁ hr => ?_
  cases r with
  | error e => exact hr.elim
  | ok fl =>
    cases fl with
    | ret obj =>
      obtain ⟨rfl, rfl⟩ := hr
      have hX : (s.heap.push { cls := .type "bytearray", data := .bytearray #[] }).get? s.heap.objs.size = some { cls := .type "bytearray", data := .bytearray #[] } := Heap.get?_push_size _ rfl
      have hT : ({ s with heap := s.heap.push { cls := .type "bytearray", data := .bytearray #[] } } : Shared).TypeIs (.ref s.heap.objs.size) "bytearray" := ⟨_, hX, rfl⟩
      dsimp only
      refine wpN_bind (wpN_of (wpAny_isInstance hT Ba.sub ?_))
      refine wpN_ite ?_
      rw [if_neg (by decide)]
      refine wpN_bind (wpN_holding ?_)
      unfold callSpecial?
      refine wpN_bind (wpN_of (wpAny_specialOf hT Ba.slot_init.lookup ?_))
      dsimp only
      refine wpN_holding ?_
      refine wpN_bind (wpN_of (wpAny_of_eq (Ba.slot_init.bind _) ?_))
      dsimp only
      refine wpN_bind (wpN_call (codeN_of_tree ?_))
      show wpN _ A.in1.in1 (do checkBuiltinCall "bytearray.__init__" ⟨[.ref s.heap.objs.size, .int n t], []⟩; again (.builtin "bytearray.__init__" ⟨[.ref s.heap.objs.size, .int n t], []⟩)) _ _ _
      refine wpN_bind (wpN_of (Ba.slot_init.check _ _ _ _ _ _ _ _ hT (Ba.args_init _ _) ?_))
      refine wpN_pure ⟨plainId_quiet Ba.plain_init _, codeN_builtin Ba.entry_init (isDec_of (by decide +kernel)) ?_⟩
      rw [Around.under_plainId Ba.plain_init _]
      refine ba_init hA hX hn fun h' hX' sb => ?_
      refine wpN_pure ?_
      dsimp only
      refine wpN_ite ?_
      rw [if_neg (by decide)]
      exact wpN_pure (h _ h' (fresh_size _) hX' fun b o e => sb.extBut b o (Nat.ne_of_lt (Heap.lt_size e)) (Heap.get?_push_of_some _ e))
    | _ => exact hr.elim
end
end Mine
end

section
open PySem PySem.W PyProof.Rows
set_option maxRecDepth 100000
namespace Mine

abbrev IsBa (X : Addr) (b : Array UInt8) (h : Heap) : Prop := h.get? X = some { cls := .type "bytearray", data := .bytearray b }

section
variable {prog : Program} {w : World} {A : Around} {E : Value → Shared → Prop} {s : Shared}
/-- X[k] = v -/
theorem ba_set {X : Addr} {b : Array UInt8} {k v : Nat} {t u : Tok} {Q : Unit → Shared → Prop} (hX : IsBa X b s.heap) (hz : b.size ≤ 1000) (hk : k < b.size) (hv : v < 256)
    (h : ∀ h', IsBa X (b.setIfInBounds k v.toUInt8) h' → Heap.SameBut X s.heap h' → Q () { s with heap := h' }) :
    wpAny (model prog w) A (setItem (.ref X) (.int k t) (.int v u)) Q E s := by
  have hT : s.TypeIs (.ref X) "bytearray" := ⟨_, hX, rfl⟩
  unfold setItem
  refine wpAny_holding ?_
  refine wpAny_bind (wpAny_sequenceKey hT (by decide) ?_)
  refine wpAny_bind (wpAny_callSpecial?_slot (name := Str.ofString "__setitem__") hT Ba.slot_set (wpAny_call_entry Ba.slot_set hT Ba.entry_set ?_ (Ba.args_set _ _ _)))
  unfold Builtin.«bytearray.__setitem__»
  dsimp only
  refine wpAny_ite ?_
  rw [if_neg (by decide)]
  have e2 : ∀ (z : Int) (t : Tok), asIndex (.int z t) = Pure.pure z := fun _ _ => rfl
  have e3 : ∀ z : Int, specialOf (.int z t) ("__index__" : Str) = Pure.pure (some (.builtin "int.__index__")) := fun z => by
    have : specialOf (.int z t) ("__index__" : Str) = typeLookup (.type "int") "__index__" := rfl
    rw [this]
    exact F.slot_int_index.lookup
  refine wpAny_bind ?_
  unfold Builtin.Bytes.subscript?
  refine wpAny_bind ?_
  rw [e3]
  refine wpAny_pure ?_
  refine wpAny_ite ?_
  rw [if_neg (by decide)]
  refine wpAny_bind ?_
  rw [e2]
  refine wpAny_pure ?_
  refine wpAny_ite ?_
  rw [if_neg (by simp [Builtin.Bytes.fitsIndex]; omega)]
  refine wpAny_pure ?_
  dsimp only
  refine wpAny_bind ?_
  unfold Builtin.Bytes.byteValue
  refine wpAny_bind ?_
  rw [e2]
  refine wpAny_pure ?_
  refine wpAny_ite ?_
  rw [if_neg (by simp; omega)]
  refine wpAny_pure ?_
  refine wpAny_bind ?_
  unfold Builtin.Bytes.payload Builtin.Bytes.payload?
  refine wpAny_bind (wpAny_bind (wpAny_load hX ?_))
  refine wpAny_pure (wpAny_pure ?_)
  have e4 : seqIndex? (k : Int) b.size = some k := by
    have h0 : ¬ ((k : Int) < 0) := by omega
    have h1 : (k : Int) < b.size := by omega
    simp only [seqIndex?, h0, if_false, Int.toNat_natCast]
    rw [if_pos]
    simp
    omega
  rw [e4]
  dsimp only
  refine wpAny_bind (ba_write hX (by rw [Array.size_setIfInBounds]; have : (1000 : Nat) ≤ sizeLine := (by decide); omega) fun h' hX' sb => ?_)
  refine wpAny_bind (wpAny_pure (wpAny_pure ⟨.none, rfl, wpAny_pure (h h' ?_ sb)⟩))
  simpa using hX'

theorem drop_buffer : "bytearray.__buffer__".dropRight ("__buffer__".length + 1) = "bytearray" := by decide +kernel
theorem ba_own_buffer {X : Addr} {Q : Bool → Shared → Prop} (hT : s.TypeIs (.ref X) "bytearray") (h : Q true s) : wpAny (model prog w) A (Builtin.Bytes.slotIsOwn (.ref X) "__buffer__") Q E s := by
  unfold Builtin.Bytes.slotIsOwn
  refine wpAny_bind (wpAny_specialOf hT Ba.buffer ?_)
  dsimp only
  refine bm_if_false (by decide +kernel) ?_
  rw [drop_buffer]
  exact wpAny_isInstance hT (T := "bytearray") (b := true) Ba.sub h
theorem ba_buffer {X : Addr} {b : Array UInt8} {Q : Option (Array UInt8) → Shared → Prop} (hX : IsBa X b s.heap) (h : Q (some b) s) : wpAny (model prog w) A (Builtin.Bytes.buffer? "bytes.__new__" (.ref X) true) Q E s := by
  have hT : s.TypeIs (.ref X) "bytearray" := ⟨_, hX, rfl⟩
  unfold Builtin.Bytes.buffer?
  refine wpAny_bind (wpAny_specialOf hT Ba.buffer ?_)
  refine wpAny_bind (ba_own_buffer hT ?_)
  refine wpAny_ite ?_
  rw [if_neg (by decide)]
  refine wpAny_bind (wpAny_specialOf hT Ba.buffer ?_)
  dsimp only
  refine wpAny_bind (ba_release hT ?_)
  refine wpAny_ite ?_
  rw [if_neg (by decide)]
  refine wpAny_bind ?_
  unfold Builtin.Bytes.payload Builtin.Bytes.payload?
  refine wpAny_bind (wpAny_bind (wpAny_load hX ?_))
  exact wpAny_pure (wpAny_pure (wpAny_pure h))
/-- bytes(X) -/
theorem ba_bytes_new {X : Addr} {b : Array UInt8} {Q : Value → Shared → Prop} (hX : IsBa X b s.heap) (hz : b.size ≤ 1000)
    (hQ : ∀ t k, Q (.bytes b t) { s with toks := k }) : codeAny (model prog w) A (.call (.builtin "bytes.__new__") ⟨[.type "bytes", .ref X], []⟩) (wants Q E) s := by
  refine codeAny_of_tree ?_
  show wpAny _ A.in1 (do checkBuiltinCall "bytes.__new__" ⟨[.type "bytes", .ref X], []⟩; again (.builtin "bytes.__new__" ⟨[.type "bytes", .ref X], []⟩)) _ _ s
  refine wpAny_bind (wpAny_of_eq (F.bm_newCall _) (wpAny_pure ⟨plainId_quiet F.bm_plain _, codeAny_builtin F.bm_entry ?_⟩))
  rw [Around.under_plainId F.bm_plain _]
  have hT : s.TypeIs (.ref X) "bytearray" := ⟨_, hX, rfl⟩
  unfold Builtin.«bytes.__new__»
  refine wpAny_bind (wpAny_of_eq (a := true) rfl ?_)
  refine bm_if_false rfl ?_
  refine wpAny_bind (wpAny_of_eq F.bm_sub ?_)
  refine bm_if_false rfl ?_
  refine wpAny_bind (wpAny_of_eq (F.bm_bind _) ?_)
  refine wpAny_bind (wpAny_of_eq (a := ()) rfl ?_)
  refine wpAny_bind (wpAny_of_eq (a := ()) rfl ?_)
  refine bm_if_false rfl ?_
  refine wpAny_bind (wpAny_specialOf hT Ba.no_bytes ?_)
  refine wpAny_bind (wpAny_bind ?_)
  show wpAny _ _ (load X >>= _) _ _ _
  refine wpAny_bind (wpAny_load hX ?_)
  refine wpAny_pure (wpAny_pure ?_)
  refine bm_if_false rfl ?_
  refine wpAny_bind (wpAny_specialOf hT Ba.not_index ?_)
  refine bm_if_true rfl ?_
  first
    | show wpAny _ _ (Builtin.Bytes.buffer? "bytes.__new__" (.ref X) true >>= _) _ _ _
    | (refine wpAny_bind ?_; show wpAny _ _ (Builtin.Bytes.buffer? "bytes.__new__" (.ref X) true >>= _) _ _ _)
  refine wpAny_bind (ba_buffer hX ?_)
  dsimp only
  refine wpAny_bind (wpAny_rule ?_)
  refine wpAny_bind (wpAny_mkBytes ?_ (by have : (1000 : Nat) ≤ sizeLine := (by decide); omega))
  show wpAny _ _ (if (Value.type "bytes" == Value.type "bytes") = true then _ else _) _ _ _
  refine bm_if_true (by decide) ?_
  first
    | exact wpAny_pure (hQ _ _)
    | exact wpAny_bind (wpAny_pure (wpAny_pure (hQ _ _)))
    | exact wpAny_bind (wpAny_pure (wpAny_pure (wpAny_pure (hQ _ _))))
theorem ba_bytes {X : Addr} {b : Array UInt8} {Q : Value → Shared → Prop} (hX : IsBa X b s.heap) (hz : b.size ≤ 1000)
    (hQ : ∀ t k, Q (.bytes b t) { s with toks := k }) : wpAny (model prog w) A (call (.type "bytes") [.ref X]) Q E s := by
  refine callType_codes (Q₁ := fun obj s₁ => s₁.TypeIs obj "bytes" ∧ Q obj s₁) F.bm_called (F.bm_typeCall _) F.entry_object_init
    (ba_bytes_new hX hz fun t k => ⟨PySem.W.typeIs_bytes _ _ _, hQ t k⟩) fun obj s₁ h₁ => ?_
  exact ⟨h₁.1, F.args_object_init_2 obj _, object_init_meets F.bm_called.init.lookup F.bm_called.made (by decide) prog w A.in1 _ s₁ ⟨h₁.1, rfl, h₁.2⟩⟩
end
end Mine
end

section
open PySem PySem.W PyProof.Rows
set_option maxRecDepth 100000
namespace Mine

abbrev IsYL (x : List UInt8) : Value → Heap → Prop := fun v _ => ∃ t, v = .bytes x.toArray t

/-- as Ev, for clean contexts -/
structure EvN (prog : Program) (w : World) {α : Type} (A : Around) (h : Heap) (t : Sem α) (P : α → Heap → Prop) : Prop where
  go : ∀ s : Shared, h.StaysIn s.heap → wpN (model prog w) A t (fun a s' => P a s'.heap ∧ Keeps s s') (fun _ _ => False) s
def FnN (prog : Program) (w : World) (mg : Str → Option Value) (x : Str) (vs : List Value) (h : Heap) (k : Nat) (P : Value → Heap → Prop) : Prop :=
  ∃ a o fd, mg x = some (.ref a) ∧ h.get? a = some o ∧ o.data = .func fd ∧ ∀ A, Room k A → A.guards = some [] → EvN prog w A h (call (.ref a) vs) P

section
variable {prog : Program} {w : World} {mg mb : Str → Option Value} {A : Around} {h : Heap} {env : Env}

theorem EvN.run {α : Type} {t : Sem α} {P : α → Heap → Prop} {s : Shared} {Q : α → Shared → Prop} {E : Value → Shared → Prop} (x : EvN prog w A h t P) (hs : h.StaysIn s.heap)
    (k : ∀ a s', P a s'.heap → Keeps s s' → Q a s') : wpN (model prog w) A t Q E s :=
  wpN_mono (x.go s hs) (fun a s' y => k a s' y.1 y.2) fun _ _ e => e.elim

theorem FnN.of_bodyS {name : Str} {params : Arguments} {body : List Stmt} {scope : Scope} {pos : Pos} {i : Nat} {vs : List Value} {binds : List (Str × Value)} {k : Nat} {P : Value → Heap → Prop}
    (G : Gd mg mb h) (hd : (recsOf pw)[i]? = some ⟨name, params, body, scope, pos⟩)
    (hx : ∀ (s s₁ : Shared) (A : Around) (L a : Addr) (cd : Value), Room k A → A.guards = some [] → h.StaysIn s.heap → St s (envOf name scope L a cd) (fun x => binds.reverse.lookup x) (fun _ => none) s.heap s₁ →
      wpN (model prog w) A (execs body (envOf name scope L a cd)) (fun f s' => P (match f with | .ret v => v | _ => .none) s'.heap ∧ Keeps s s') (fun _ _ => False) s₁)
    (hbind : ∀ pm cd doc, bindArgs (Calls.docDef name params body scope pm cd doc) ⟨vs, []⟩ = pure binds)
    (hloc : ∀ x ∈ binds, scope.names.lookup x.1 = some .local)
    (hco : scope.isCoroutine = false := by rfl) (hgen : scope.isGenerator = false := by rfl) (hk : scope.kind = .function := by rfl)
    (hcell : ∀ x ∈ scope.names, x.2 ≠ .cell := by decide) : FnN prog w mg name vs h (k + 1) P := by
  obtain ⟨a, o, pm, cd, doc, h1, h2, h3, h4⟩ := G.fn _ (List.mem_of_getElem? hd)
  refine ⟨a, o, _, h1, h2, h3, fun A R hg => EvN.mk fun s hs => wpN_call ?_⟩
  refine codeN_call_function (by have := R.1; omega) (hs _ _ h2) h3 hco hgen rfl (h4.keeps hs) ?_
  rw [hbind pm cd doc]
  refine wpAny_pure (wpAny_newFunctionEnv hcell hloc (fun h₁ hns hsb => ⟨((G.nolimit).keeps hs).fresh _ hsb, ?_⟩) hk)
  show codeN _ _ (.func body (envOf name scope s.heap.objs.size a cd)) _ _
  have F : Fr s.heap s.heap.objs.size h₁ (fun x => binds.reverse.lookup x) := ⟨hns, fun b o e => hsb.extBut b o (Nat.ne_of_lt (Heap.lt_size e)) (Heap.get?_push_of_some _ e), Nat.le_refl _⟩
  exact codeN_func (hx s _ _ _ a cd (R.deeper _) hg hs ⟨⟨_, _, rfl⟩, stays_refl _, F.keep, F.ns, fun n c e => (by cases e), fresh_size _, fun n c e => (by cases e), List.Pairwise.nil, fun n c e => (by cases e)⟩)
theorem FnN.of_bodyC {name : Str} {params : Arguments} {body : List Stmt} {scope : Scope} {pos : Pos} {i : Nat} {vs : List Value} {binds : List (Str × Value)} {k : Nat} {P : Value → Heap → Prop}
    (G : Gd mg mb h) (hd : (recsOf pw)[i]? = some ⟨name, params, body, scope, pos⟩)
    (hx : ∀ (s s₁ : Shared) (A : Around) (L a : Addr) (cd : Value), Room k A → A.guards = some [] → h.StaysIn s.heap →
      St s (envOfC name scope L a cd) (bindL (envOfC name scope L a cd).kindOf binds fun _ => none) (bindC (envOfC name scope L a cd).kindOf binds fun _ => none) s.heap s₁ →
      wpN (model prog w) A (execs body (envOfC name scope L a cd)) (fun f s' => P (match f with | .ret v => v | _ => .none) s'.heap ∧ Keeps s s') (fun _ _ => False) s₁)
    (hbind : ∀ pm cd doc, bindArgs (Calls.docDef name params body scope pm cd doc) ⟨vs, []⟩ = pure binds)
    (hkind : (binds.all fun y => scope.names.lookup y.1 == some .local || scope.names.lookup y.1 == some .cell) = true) (hnd : ((cellsFrom 0 scope.names []).map (·.1)).Nodup)
    (hco : scope.isCoroutine = false := by rfl) (hgen : scope.isGenerator = false := by rfl) (hk : scope.kind = .function := by rfl) : FnN prog w mg name vs h (k + 1) P := by
  obtain ⟨a, o, pm, cd, doc, h1, h2, h3, h4⟩ := G.fn _ (List.mem_of_getElem? hd)
  refine ⟨a, o, _, h1, h2, h3, fun A R hg => EvN.mk fun s hs => wpN_call ?_⟩
  refine codeN_call_function (by have := R.1; omega) (hs _ _ h2) h3 hco hgen rfl (h4.keeps hs) ?_
  rw [hbind pm cd doc]
  refine wpAny_pure (wpAny_newFunctionEnv_cells hk (kindsX hkind _) fun env he s₁ x => ?_)
  subst he
  have up := x.toInCall.keep
  refine ⟨(G.nolimit.keeps hs).keeps up, codeN_func ?_⟩
  have S : St s (envOfC name scope s.heap.objs.size a cd) (bindL (envOfC name scope s.heap.objs.size a cd).kindOf binds fun _ => none) (bindC (envOfC name scope s.heap.objs.size a cd).kindOf binds fun _ => none) s.heap s₁ := by
    have above : ∀ n c, (n, c) ∈ (envOfC name scope s.heap.objs.size a cd).cells → s.heap.objs.size < c := fun n c hm => x.above n c hm
    refine ⟨x.toInCall.same, stays_refl _, up, x.toInCall.ns, x.cell, fresh_size _, fun n c hm => ⟨?_, Nat.ne_of_gt (above n c hm)⟩, x.apart, fun n c hm => ⟨_, x.cell n c (lookup_of_mem_nodup (cellsFrom_names scope.names 0 (s.heap.objs.size + 1) [] [] rfl ▸ hnd) hm)⟩⟩
    cases q : s.heap.get? c with
    | none => rfl
    | some o => exact absurd (Heap.lt_size q) (Nat.not_lt.mpr (Nat.le_of_lt (above n c hm)))
  exact hx s s₁ _ _ a cd (R.deeper _) hg hs S

/-! bytes -/
theorem Ev.len_bytes {e : Expr} {p pos : Pos} {x : List UInt8} (G : Gd mg mb h) (he : Ev prog w A h (eval e env) (IsYL x)) (hl : x.length ≤ 1000)
    (hg : env.globals = mainGlobals := by rfl) (heb : env.builtins = builtinsNs := by rfl) (hk : env.scope.kind = .function := by rfl) (hn : env.kindOf "len" = some .globalImplicit := by rfl) (hs : backTo pos (starEach [e] env) = [(false, eval e env)] := by rfl) :
    Ev prog w A h (eval (.Call (.Name "len" p) [e] [] pos) env) (IsI x.length) :=
  Ev.call_builtin (Ev.name_bi G (by decide) boot_len (by decide) hg heb hk hn) (Ev.args1 he hs) (fun a h' k ha => by
    obtain ⟨v, rfl, t, rfl⟩ := ha
    exact Ev.mk fun s _ => W.len_bytes (by rw [List.size_toArray]; omega) ⟨⟨_, by rw [List.size_toArray]⟩, ⟨s.heap, _, rfl, fun _ _ e => e⟩⟩) (by rw [hs]; rfl)
theorem Ev.item_byte {value slice : Expr} {pos : Pos} {x : List UInt8} {k : Nat} (hv : Ev prog w A h (eval value env) (IsYL x)) (hi : Ev prog w A h (eval slice env) (IsI k)) (hl : x.length ≤ 1000) (hk : k < x.length)
    (hs : ∀ t u, subscripted slice false (.bytes x.toArray t) (.int k u) = PySem.operate [.bytes x.toArray t, .int k u] (getItem (.bytes x.toArray t) (.int k u)) := by intro _ _; with_unfolding_all rfl)
    (ht : ∀ t r, letTemporaryGo value (.bytes x.toArray t) r = Pure.pure () := by intro _ _; with_unfolding_all rfl) :
    Ev prog w A h (eval (.Subscript value slice pos) env) (IsI ((x.getD k 0).toNat : Nat)) :=
  Ev.subscript hv (R := fun o i h' => (∃ t, o = .bytes x.toArray t) ∧ ∃ t, i = .int k t) (fun o h' kk p => (hi.mono kk).weak fun i h'' k2 q => ⟨p, q⟩) fun o i h' kk r => by
    obtain ⟨⟨t, rfl⟩, u, rfl⟩ := r
    exact Ev.mk fun s _ => KBy.item_N (by omega) (by omega) (by omega) ⟨⟨_, rfl⟩, keeps_tok s _⟩ (hs t u) (ht t)
theorem Ev.range3 {e1 e2 e3 : Expr} {p pos : Pos} {a b c : Int} (G : Gd mg mb h) (h1 : Ev prog w A h (eval e1 env) (IsI a)) (h2 : Ev prog w A h (eval e2 env) (IsI b)) (h3 : Ev prog w A h (eval e3 env) (IsI c)) (hc : c ≠ 0) (hc' : c.natAbs < 1073741824)
    (hg : env.globals = mainGlobals := by rfl) (heb : env.builtins = builtinsNs := by rfl) (hk : env.scope.kind = .function := by rfl) (hn : env.kindOf "range" = some .globalImplicit := by rfl)
    (hs : backTo pos (starEach [e1, e2, e3] env) = [(false, eval e1 env), (false, eval e2 env), (false, eval e3 env)] := by rfl) :
    Ev prog w A h (eval (.Call (.Name "range" p) [e1, e2, e3] [] pos) env) (fun v h' => ∃ r t u x, v = .ref r ∧ IsRange h' r a b c t u x) :=
  Ev.call_type (Ev.name_bi G (by decide) boot_range (by decide) hg heb hk hn) (Ev.args3 (R := fun x y _ => (∃ t, x = .int a t) ∧ ∃ t, y = .int b t) (T := fun x y z _ => (∃ t, x = .int a t) ∧ (∃ t, y = .int b t) ∧ ∃ t, z = .int c t) h1
      (fun v h' k hv => (h2.mono k).weak fun _ _ _ q => ⟨hv, q⟩) (fun v u h' k hv => (h3.mono k).weak fun _ _ _ q => ⟨hv.1, hv.2, q⟩) hs) (fun x h' k ha => by
    obtain ⟨v, u, z, rfl, ⟨t1, rfl⟩, ⟨t2, rfl⟩, t3, rfl⟩ := ha
    exact Ev.mk fun s hs => call_range_3 hc ⟨⟨_, _, _, _, rfl, Heap.get?_push_size _ rfl⟩, ⟨_, _, rfl, fun _ _ e => Heap.get?_push_of_some _ e⟩⟩ (Or.inl (PyProof.noPylong_small hc'))) (by rw [hs]; rfl)
end
end Mine
end

section
open PySem PySem.W PyProof.Rows
set_option maxRecDepth 100000
namespace Mine

def sw (x : List UInt8) (wd k : Nat) : UInt8 := x.getD ((k / wd) * wd + (wd - 1 - k % wd)) 0
def swapL (x : List UInt8) (wd : Nat) : List UInt8 := (List.range x.length).map (sw x wd)
def Filled (x : List UInt8) (wd i j : Nat) (c : Array UInt8) : Prop := c.size = x.length ∧ ∀ k, k < x.length → (k < i * wd ∨ (i * wd + wd - j ≤ k ∧ k < i * wd + wd)) → c[k]? = some (sw x wd k)
theorem filled_zero (x : List UInt8) (wd : Nat) : Filled x wd 0 0 (Array.replicate x.length 0) := by
  refine ⟨by simp, fun k hk h => ?_⟩
  exfalso
  rcases h with h | h
  · simp at h
  · omega
theorem filled_next {x : List UInt8} {wd i : Nat} {c : Array UInt8} (h : Filled x wd i wd c) : Filled x wd (i + 1) 0 c := by
  refine ⟨h.1, fun k hk q => h.2 k hk ?_⟩
  rw [Nat.succ_mul] at q
  omega
theorem filled_set {x : List UInt8} {wd i j : Nat} {c : Array UInt8} (h : Filled x wd i j c) (hj : j < wd) (hi : i * wd + wd ≤ x.length) : Filled x wd i (j + 1) (c.setIfInBounds (i * wd + wd - 1 - j) (x.getD (i * wd + j) 0)) := by
  refine ⟨by rw [Array.size_setIfInBounds]; exact h.1, fun k hk q => ?_⟩
  by_cases e : k = i * wd + wd - 1 - j
  · subst e
    have h1 : (i * wd + wd - 1 - j) / wd = i := by
      have : i * wd + wd - 1 - j = (wd - 1 - j) + wd * i := by rw [Nat.mul_comm wd i]; omega
      rw [this, Nat.add_mul_div_left _ _ (by omega), Nat.div_eq_of_lt (by omega), Nat.zero_add]
    have h2 : (i * wd + wd - 1 - j) % wd = wd - 1 - j := by
      have : i * wd + wd - 1 - j = (wd - 1 - j) + wd * i := by rw [Nat.mul_comm wd i]; omega
      rw [this, Nat.add_mul_mod_self_left, Nat.mod_eq_of_lt (by omega)]
    rw [Array.getElem?_setIfInBounds_self_of_lt (by rw [h.1]; exact hk)]
    unfold sw
    rw [h1, h2, show wd - 1 - (wd - 1 - j) = j by omega]
  · rw [Array.getElem?_setIfInBounds_ne (Ne.symm e)]
    exact h.2 k hk (by omega)
theorem filled_end {x : List UInt8} {wd m : Nat} {c : Array UInt8} (h : Filled x wd m 0 c) (hm : x.length ≤ m * wd) : c = (swapL x wd).toArray := by
  apply Array.ext'
  apply List.ext_getElem?
  intro k
  by_cases hk : k < x.length
  · have := h.2 k hk (.inl (by omega))
    rw [Array.getElem?_toList, this]
    simp [swapL, hk]
  · rw [List.getElem?_eq_none (by simp [h.1]; omega), List.getElem?_eq_none (by simp [swapL]; omega)]

section
variable {prog : Program} {w : World} {mg mb : Str → Option Value} {h : Heap}
theorem boot_ba : bootBuiltins ("bytearray" : Str) = some (.type "bytearray") := by kernel_rfl
theorem range_size {n wd m : Nat} (hw : 1 ≤ wd) (e : n = m * wd) : Builtin.Range.rangeSize 0 (n : Int) (wd : Int) = (m : Int) := by
  rw [rangeSize_pos (by omega) (by omega)]
  subst e
  have : ((m * wd : Nat) : Int) + wd - 1 = (wd - 1) + wd * m := by rw [Int.natCast_mul, Int.mul_comm]; omega
  rw [this, Int.add_mul_ediv_left _ _ (by omega), Int.ediv_eq_zero_of_lt (by omega) (by omega), Int.zero_add]
theorem byteswap_ok {x : List UInt8} {wd m : Nat} {td tw : Tok} (G : Gd mg mb h) (hx : x.length ≤ 1000) (hw : 2 ≤ wd ∧ wd ≤ 1000) (e : x.length = m * wd) :
    FnN prog w mg "_byteswap" [.bytes x.toArray td, .int wd tw] h 1 (IsYL (swapL x wd)) := by
  refine FnN.of_bodyS (i := 16) (binds := [("data", .bytes x.toArray td), ("width", .int wd tw)]) (k := 0) G rfl (fun s s₁ A L a cd R hgd hs S => ?_) (fun _ _ _ => rfl) (locs rfl)
  have up : ∀ {env m cm g s'}, St s env m cm g s' → h.StaysIn s'.heap := fun S' => stays_trans hs (keeps_stays S'.done)
  have hh := R.2.2
  have G₁ := G.keeps (up S)
  -- swapped_data
  refine wpN_execs_cons (wpN_Assign_Name ?_)
  show wpN _ A (do callWith _ (← eval (.Name "bytearray" _) _) [] (backTo _ (starEach _ _)) (backToKw _ (keywordEach [] _))) _ _ s₁
  refine wpN_bind (wpN_of (Ev.run (h := s₁.heap) (P := IsV (.type "bytearray")) (Ev.name_bi G₁ (by decide) boot_ba (by decide)) (stays_refl _) fun f s₂ hf k₂ => ?_))
  obtain rfl := hf
  refine callWithN_type rfl (Ev.run (h := s₁.heap) (Ev.args1 (Ev.len_bytes (x := x) G₁ (Ev.val (St.loc S rfl) fun _ _ => ⟨_, rfl⟩) hx)) (keeps_stays k₂) fun a' s₃ ha k₃ => ?_)
  obtain ⟨v, rfl, t₁, rfl⟩ := ha
  have S₃ := S.keeps (keeps_trans k₂ k₃)
  refine ba_call hgd (by omega) fun X h₄ hX0 hX hk₄ => ?_
  have S₄ : St s (envOf _ _ L a cd) _ _ s.heap { s₃ with heap := h₄ } := S₃.keeps ⟨h₄, _, rfl, hk₄⟩
  have nX := S₃.not_own_new hX0
  have gX : s.heap.get? X = none := not_of_stays S₃.imm hX0
  refine wpN_of (S₄.store_local rfl rfl fun s₅ S₅ sb₅ => wpN_of ?_)
  have hX₅ : IsBa X (Array.replicate x.length 0) s₅.heap := sb₅.extBut X _ (fun q => nX (.inl q)) hX
  have G₅ := G.keeps (up S₅)
  have szw : Builtin.Range.small 0 (x.length : Int) (wd : Int) = true := by
    have hm : m ≤ 1000 := by
      have : m * 2 ≤ m * wd := Nat.mul_le_mul_left _ hw.1
      omega
    unfold Builtin.Range.small
    rw [range_size (m := m) (by omega) e]
    simp only [Builtin.Range.rangeFitsLong, Bool.and_eq_true, Bool.or_eq_true, decide_eq_true_eq, beq_iff_eq, show (wd : Int) > 0 by omega, if_true]
    omega
  refine wpAny_execs_cons (exec_for (n := m) (P := fun i v => ∃ t, v = .int (0 + i * (wd : Int)) t) (Ev.range3 (a := 0) (b := x.length) (c := wd) G₅ Ev.int (Ev.len_bytes (x := x) G₅ (Ev.val (St.loc S₅ rfl) fun _ _ => ⟨_, rfl⟩) hx) (Ev.val (St.loc S₅ rfl) fun _ _ => ⟨_, rfl⟩) (by omega) (by omega))
    (fun v h' k hv => by obtain ⟨r, t, u, y, rfl, hr⟩ := hv; exact ItOk.range hh hr szw (range_size (by omega) e)) ?_)
  intro xv I fp s₆ k₆ hI hsrc
  have hfp : ∀ b ∈ fp, b = I := fp_range hsrc
  have hIg : s.heap.get? I = none := not_of_stays S₅.imm hI
  have nI := S₅.not_own_new hI
  have hIX : I ≠ X := fun q => by rw [q, hX₅] at hI; cases hI
  refine ⟨fun k s' => ∃ mm cm, StLike S mm cm s.heap s' ∧ mm "data" = some (.bytes x.toArray td) ∧ mm "width" = some (.int wd tw) ∧ mm "swapped_data" = some (.ref X) ∧ ∃ c, IsBa X c s'.heap ∧ Filled x wd k 0 c, ?_, ?_, ?_, ?_⟩
  · exact ⟨_, _, S₅.keeps k₆, rfl, rfl, rfl, _, keeps_stays k₆ _ _ hX₅, filled_zero x wd⟩
  · rintro i s' h' tk ⟨mm, cm, S', e1, e2, e3, c, hc, hf⟩ kk
    exact ⟨mm, cm, S'.turn hIg nI kk, e1, e2, e3, c, kk X _ (Ne.symm hIX) hc, hf⟩
  · rintro i v s₇ hi ⟨t₁, rfl⟩ ⟨mm, cm, S₇, e1, e2, e3, c, hc, hf⟩ ⟨oI, hoI⟩
    have hiw : i * wd + wd ≤ x.length := by
      rw [e, ← Nat.succ_mul]; exact Nat.mul_le_mul_right _ hi
    obtain ⟨g₇, S₇g, gk₇, tr₇⟩ := S₇.grow
    have S₇h := S₇g.hide1 gX
    refine wpAny_assign_Name (S₇h.store_local rfl rfl fun s₈ S₈ sb₈ => ?_)
    have hc₈ : IsBa X c s₈.heap := sb₈.extBut X _ (fun q => nX (.inl q)) hc
    have gI₈ : (g₇.hide X).get? I = some oI := (Heap.hide_ne _ hIX).trans (tr₇ I oI hoI nI)
    have G₈ := G.keeps (up S₈)
    refine wpAny_execs_cons (exec_for (n := wd) (P := fun i v => ∃ t, v = .int i t) (Ev.range1 G₈ (Ev.val (St.loc S₈ e2) fun _ _ => ⟨_, rfl⟩)) (fun v h' k hv => itRange hh (by omega) hv) ?_)
    intro xv₂ J fp₂ s₉ k₉ hJ hsrc₂
    have hfp₂ : ∀ b ∈ fp₂, b = J := fp_range hsrc₂
    have hJg : (g₇.hide X).get? J = none := not_of_stays S₈.imm hJ
    have nJ := S₈.not_own_new hJ
    have hJX : J ≠ X := fun q => by rw [q, hc₈] at hJ; cases hJ
    refine ⟨fun k s' => ∃ mm cm, StLike S mm cm (g₇.hide X) s' ∧ mm "data" = some (.bytes x.toArray td) ∧ mm "width" = some (.int wd tw) ∧ mm "swapped_data" = some (.ref X) ∧ mm "i" = some (.int (0 + i * (wd : Int)) t₁) ∧ ∃ c, IsBa X c s'.heap ∧ Filled x wd i k c, ?_, ?_, ?_, ?_⟩
    · exact ⟨_, _, S₈.keeps k₉, e1, e2, e3, rfl, _, keeps_stays k₉ _ _ hc₈, hf⟩
    · rintro j s' h' tk ⟨mm, cm, S', e1, e2, e3, e4, c, hc, hf⟩ kk
      exact ⟨mm, cm, S'.turn hJg nJ kk, e1, e2, e3, e4, c, kk X _ (Ne.symm hJX) hc, hf⟩
    · rintro j v s₁₀ hj ⟨t₂, rfl⟩ ⟨mm, cm, S₁₀, e1, e2, e3, e4, c, hc, hf⟩ ⟨oJ, hoJ⟩
      refine wpAny_assign_Name (S₁₀.store_local rfl rfl fun s₁₁ S₁₁ sb₁₁ => ?_)
      have hc₁₁ : IsBa X c s₁₁.heap := sb₁₁.extBut X _ (fun q => nX (.inl q)) hc
      refine wpAny_execs_cons (wpAny_Assign_Subscript ?_ rfl)
      refine Ev.run (h := s₁₁.heap) (P := IsI ((x.getD (i * wd + j) 0).toNat : Nat)) (Ev.item_byte (x := x) (k := i * wd + j) (Ev.val (St.loc S₁₁ e1) fun _ _ => ⟨_, rfl⟩)
        (Ev.castI (Ev.add (a := 0 + i * (wd : Int)) (b := j) (Ev.val (St.loc S₁₁ e4) fun _ _ => ⟨_, rfl⟩) (Ev.val (St.loc S₁₁ rfl) fun _ _ => ⟨_, rfl⟩)) (by simp)) hx (by omega)) (stays_refl _) ?_
      rintro _ s₁₂ ⟨t₃, rfl⟩ k₁₂
      refine Ev.run (h := s₁₁.heap) (P := IsV (.ref X)) (St.loc S₁₁ e3) (keeps_stays k₁₂) ?_
      rintro _ s₁₃ rfl k₁₃
      refine Ev.run (h := s₁₁.heap) (P := IsI ((i * wd + wd - 1 - j : Nat))) (Ev.castI (Ev.sub (a := 0 + i * (wd : Int) + wd - 1) (b := j) (Ev.sub (a := 0 + i * (wd : Int) + wd) (Ev.add (a := 0 + i * (wd : Int)) (b := wd) (Ev.val (St.loc S₁₁ e4) fun _ _ => ⟨_, rfl⟩) (Ev.val (St.loc S₁₁ e2) fun _ _ => ⟨_, rfl⟩)) Ev.int)
        (Ev.val (St.loc S₁₁ rfl) fun _ _ => ⟨_, rfl⟩)) (by rw [← Int.natCast_mul]; omega)) (keeps_stays (keeps_trans k₁₂ k₁₃)) ?_
      rintro _ s₁₄ ⟨t₄, rfl⟩ k₁₄
      have K := keeps_trans (keeps_trans k₁₂ k₁₃) k₁₄
      have S₁₄ := S₁₁.keeps K
      have csz := hf.1
      refine ba_set (b := c) (keeps_stays K _ _ hc₁₁) (by omega) (by rw [csz]; omega) (UInt8.toNat_lt _) fun h' hc' sb => wpAny_execs_nil ⟨⟨_, _, S₁₄.change (Heap.hide_self _ _) nX sb, e1, e2, e3, e4, _, hc', ?_⟩, ?_⟩
      · have := filled_set hf hj hiw
        rwa [show (x.getD (i * wd + j) 0).toNat.toUInt8 = x.getD (i * wd + j) 0 from UInt8.ofNat_toNat]
      · intro b hb o ho
        rw [hfp₂ b hb] at ho ⊢
        exact sb.extBut J o hJX (keeps_stays K _ _ (sb₁₁.extBut J o (fun q => nJ (.inl q)) ho))
    · rintro s' ⟨mm, cm, S', e1, e2, e3, e4, c, hc, hf⟩
      refine wpAny_execs_nil ⟨⟨mm, cm, S'.shrink (fun b o eb => (Heap.hide_ne _ fun q => ?_).trans (gk₇ b o eb)) (stays_refl _), e1, e2, e3, c, hc, filled_next hf⟩, ?_⟩
      · rw [q, gX] at eb; cases eb
      · intro b hb o ho
        rw [hfp b hb] at ho ⊢
        rw [hoI] at ho
        cases ho
        exact S'.imm _ _ gI₈
  · rintro s' ⟨mm, cm, S', e1, e2, e3, c, hc, hf⟩
    have hce := filled_end hf (by omega)
    subst hce
    refine wpAny_execs_cons (St.ret S' (P := IsYL (swapL x wd)) (Ev.call_type (id := "bytes") (Ev.name_bi (G.keeps (up S')) (by decide) boot_bytes (by decide)) (Ev.args1 (St.loc S' e3)) fun a' h₁ k₁ ha => ?_) fun v s₇ p k => ⟨p, k⟩)
    obtain ⟨_, rfl, rfl⟩ := ha
    exact Ev.mk fun s₂ hs₂ => ba_bytes (b := (swapL x wd).toArray) (hs₂ _ _ (k₁ _ _ hc)) (by simp [swapL]; omega) fun t k => ⟨⟨t, rfl⟩, ⟨s₂.heap, k, rfl, fun _ _ e => e⟩⟩
end
end Mine
end

section
open PySem PySem.W PyProof.Rows
namespace Mine

/-! a line of signs as octets -/
def oct (c : Int) : List UInt8 := [(c.fmod 256).toNat.toUInt8, (c.fdiv 256).toNat.toUInt8]
def lineL (codes : List Int) : List UInt8 := codes.flatMap oct
theorem lineF_eq (codes : List Int) : lineF codes = (lineL codes).toArray := by
  unfold lineF byteArr lineL
  congr 1
  induction codes with
  | nil => rfl
  | cons c r ih => rw [List.flatMap_cons, List.map_append, List.flatMap_cons, ih]; rfl
theorem lineL_length (codes : List Int) : (lineL codes).length = 2 * codes.length := by
  unfold lineL
  induction codes with
  | nil => rfl
  | cons c r ih => rw [List.flatMap_cons, List.length_append, ih, List.length_cons]; simp [oct]; omega
theorem lineL_append (a b : List Int) : lineL (a ++ b) = lineL a ++ lineL b := by simp [lineL]
theorem lineL_drop (codes : List Int) (k : Nat) : (lineL codes).drop (2 * k) = lineL (codes.drop k) := by
  induction codes generalizing k with
  | nil => simp [lineL]
  | cons c r ih =>
    cases k with
    | zero => rfl
    | succ k => rw [List.drop_succ_cons, ← ih k]; rfl
theorem lineL_take (codes : List Int) (k : Nat) : (lineL codes).take (2 * k) = lineL (codes.take k) := by
  induction codes generalizing k with
  | nil => simp [lineL]
  | cons c r ih =>
    cases k with
    | zero => simp [lineL]
    | succ k =>
      have := ih k
      rw [List.take_succ_cons]
      show (oct c ++ lineL r).take (2 * (k + 1)) = oct c ++ lineL (r.take k)
      rw [← this, List.take_append]
      simp [oct, Nat.mul_add]
theorem lineL_at {codes : List Int} {p : Nat} {c : Int} (e : codes[p]? = some c) (h : 0 ≤ c ∧ c < 65536) :
    (((lineL codes).getD (2 * p) 0).toNat : Int) + 256 * (((lineL codes).getD (2 * p + 1) 0).toNat : Int) = c := by
  induction codes generalizing p with
  | nil => simp at e
  | cons d r ih =>
    cases p with
    | zero =>
      simp at e
      subst e
      have e1 : d.fmod 256 = d % 256 := by rw [Int.fmod_eq_emod_of_nonneg _ (by decide)]
      have e2 : d.fdiv 256 = d / 256 := by rw [Int.fdiv_eq_ediv_of_nonneg _ (by decide)]
      show ((d.fmod 256).toNat.toUInt8.toNat : Int) + 256 * ((d.fdiv 256).toNat.toUInt8.toNat : Int) = d
      rw [e1, e2]
      have t1 : (d % 256).toNat.toUInt8.toNat = (d % 256).toNat := by
        show (UInt8.ofNat _).toNat = _
        rw [UInt8.toNat_ofNat', Nat.mod_eq_of_lt]
        show _ < 256
        omega
      have t2 : (d / 256).toNat.toUInt8.toNat = (d / 256).toNat := by
        show (UInt8.ofNat _).toNat = _
        rw [UInt8.toNat_ofNat', Nat.mod_eq_of_lt]
        show _ < 256
        omega
      rw [t1, t2]
      omega
    | succ p =>
      have := ih (p := p) (by simpa using e)
      exact this
theorem lineL_rev (codes : List Int) : (lineL codes).reverse = codes.reverse.flatMap fun c => (oct c).reverse := by
  induction codes with
  | nil => rfl
  | cons c r ih =>
    show (oct c ++ lineL r).reverse = _
    rw [List.reverse_append, ih, List.reverse_cons, List.flatMap_append]
    simp

/-! reversal by swapL -/
theorem swap_all (x : List UInt8) (wd : Nat) (h : x.length ≤ wd) (hw : x ≠ [] → wd = x.length) : swapL x wd = x.reverse := by
  apply List.ext_getElem?
  intro k
  by_cases hk : k < x.length
  · have hx : x ≠ [] := by intro q; subst q; simp at hk
    have e := hw hx
    subst e
    have h1 : k / x.length = 0 := Nat.div_eq_of_lt hk
    have h2 : k % x.length = k := Nat.mod_eq_of_lt hk
    rw [List.getElem?_reverse hk]
    simp only [swapL, List.getElem?_map, List.getElem?_range hk, Option.map_some, sw, h1, h2, Nat.zero_mul, Nat.zero_add]
    rw [List.getElem?_eq_getElem (by omega), List.getD_eq_getElem?_getD, List.getElem?_eq_getElem (by omega)]
    rfl
  · rw [List.getElem?_eq_none (by simp [swapL]; omega), List.getElem?_eq_none (by simp; omega)]
theorem swap_step (a b : UInt8) (r : List UInt8) : swapL (a :: b :: r) 2 = b :: a :: swapL r 2 := by
  have e : ∀ k, sw (a :: b :: r) 2 (k + 1 + 1) = sw r 2 k := fun k => by
    unfold sw
    rw [show (k + 1 + 1) / 2 * 2 + (2 - 1 - (k + 1 + 1) % 2) = k / 2 * 2 + (2 - 1 - k % 2) + 1 + 1 by omega]
    rfl
  unfold swapL
  rw [List.length_cons, List.length_cons, List.range_succ_eq_map, List.range_succ_eq_map, List.map_cons, List.map_cons, List.map_map, List.map_cons, List.map_map]
  exact congrArg (fun l => b :: a :: l) (List.map_congr_left fun k _ => e k)
theorem swap_two : ∀ ps : List (UInt8 × UInt8), swapL (ps.flatMap fun p => [p.1, p.2]) 2 = ps.flatMap fun p => [p.2, p.1]
  | [] => rfl
  | a :: r => by
    rw [List.flatMap_cons, List.flatMap_cons, ← swap_two r]
    exact swap_step a.1 a.2 _
theorem swap_line (codes : List Int) : swapL (lineL codes).reverse 2 = lineL codes.reverse := by
  rw [lineL_rev]
  have e1 : ∀ l : List Int, (l.flatMap fun c => (oct c).reverse) = (l.map fun c => (((c.fdiv 256).toNat.toUInt8 : UInt8), ((c.fmod 256).toNat.toUInt8 : UInt8))).flatMap fun p => [p.1, p.2] := by
    intro l
    induction l with
    | nil => rfl
    | cons a r ih => rw [List.flatMap_cons, ih]; rfl
  have e2 : ∀ l : List Int, lineL l = (l.map fun c => (((c.fdiv 256).toNat.toUInt8 : UInt8), ((c.fmod 256).toNat.toUInt8 : UInt8))).flatMap fun p => [p.2, p.1] := by
    intro l
    induction l with
    | nil => rfl
    | cons a r ih => show oct a ++ lineL r = _; rw [ih]; rfl
  rw [e1, swap_two, ← e2]

/-! one deed -/
def turnK {α : Type} (hi : α → Bool) (d : α) (cs : List α) : Nat → List α × Nat
  | 0 => ([], 0)
  | p + 1 => if p == cs.length || !hi (cs.getD p d) then ((turnK hi d cs p).1 ++ ((cs.drop (turnK hi d cs p).2).take (p - (turnK hi d cs p).2)).reverse ++ (cs.drop p).take 1, p + 1) else turnK hi d cs p
def turnC {α : Type} (hi : α → Bool) (d : α) (cs : List α) : List α := (turnK hi d cs (cs.length + 1)).1
theorem turnK_start {α : Type} (hi : α → Bool) (d : α) (cs : List α) : ∀ p, (turnK hi d cs p).2 ≤ p
  | 0 => Nat.le_refl _
  | p + 1 => by
    unfold turnK
    split
    · exact Nat.le_refl _
    · exact Nat.le_succ_of_le (turnK_start hi d cs p)
theorem turnK_length {α : Type} (hi : α → Bool) (d : α) (cs : List α) : ∀ p, p ≤ cs.length + 1 → (turnK hi d cs p).1.length ≤ (turnK hi d cs p).2 ∧ (turnK hi d cs p).1.length ≤ cs.length
  | 0, _ => ⟨Nat.le_refl _, Nat.zero_le _⟩
  | p + 1, h => by
    have ih := turnK_length hi d cs p (by omega)
    have := turnK_start hi d cs p
    unfold turnK
    split
    · simp only [List.length_append, List.length_reverse, List.length_take, List.length_drop]
      omega
    · exact ⟨by omega, ih.2⟩
theorem turnC_length {α : Type} (hi : α → Bool) (d : α) (cs : List α) : (turnC hi d cs).length ≤ cs.length := (turnK_length hi d cs _ (Nat.le_refl _)).2
theorem turnK_map {α β : Type} (f : α → β) (hi : β → Bool) (d : α) (cs : List α) : ∀ p, turnK hi (f d) (cs.map f) p = ((turnK (fun a => hi (f a)) d cs p).1.map f, (turnK (fun a => hi (f a)) d cs p).2)
  | 0 => rfl
  | p + 1 => by
    unfold turnK
    rw [turnK_map f hi d cs p]
    have e : (cs.map f).getD p (f d) = f (cs.getD p d) := by
      rw [List.getD_eq_getElem?_getD, List.getD_eq_getElem?_getD, List.getElem?_map]
      cases cs[p]? <;> rfl
    rw [e, List.length_map]
    split
    · simp [List.map_append, List.map_reverse, List.map_take, List.map_drop]
    · rfl
theorem turnC_map {α β : Type} (f : α → β) (hi : β → Bool) (d : α) (cs : List α) : turnC hi (f d) (cs.map f) = (turnC (fun a => hi (f a)) d cs).map f := by
  unfold turnC
  rw [turnK_map, List.length_map]
end Mine
end

section
open PySem PySem.W PyProof.Rows PySem.Spec PySem.Calls PyProof.V PySem.SeqAt
set_option maxRecDepth 100000
namespace Mine

theorem meets_rev (b : Array UInt8) (t u : Tok) (a : Addr) :
    Meets (Builtin.«bytes.__getitem__» ⟨[.bytes b t, .ref a], []⟩) (fun _ R s => s.heap.IsSliceOf a .none .none (.int (-1) u) ∧ b.size ≤ 1000 ∧ ∀ t' k, R (.ok (.ret (.bytes b.toList.reverse.toArray t'))) { s with toks := k }) := by
  refine .of_wp fun prog w A R s hS => ?_
  obtain ⟨⟨o, ho, hc, hd⟩, hsz, h⟩ := hS
  have hT : s.TypeIs (.ref a) "slice" := ⟨o, ho, hc⟩
  have hsz' : (1000 : Nat) ≤ sizeLine := by decide
  show wpAny _ _ (Builtin.Bytes.payload (.bytes b t) >>= fun r => _) _ _ s
  refine wpAny_bind (wpAny_of_eq (a := b) rfl ?_)
  show wpAny _ _ (Builtin.Bytes.subscript? (.ref a) >>= fun r => _) _ _ s
  refine wpAny_bind ?_
  unfold Builtin.Bytes.subscript?
  refine wpAny_bind (wpAny_specialOf hT slice_no_index (wpAny_pure ?_))
  refine wpAny_bind (wpAny_typeOf hT ?_)
  show wpAny _ _ (Builtin.Bytes.sliceParts (.ref a) >>= fun r => _) _ _ s
  refine wpAny_bind ?_
  unfold Builtin.Bytes.sliceParts
  refine wpAny_bind (wpAny_field (x := .int (-1) u) ho hd rfl ?_)
  kby_int
  refine wpAny_ite (KBy.ite_no (show ¬ ((rawInt (-1) == rawInt 0) = true) by decide) ?_)
  refine wpAny_bind (wpAny_field (x := .none) ho hd rfl ?_)
  kby_none
  refine wpAny_bind (wpAny_field (x := .none) ho hd rfl ?_)
  kby_none
  refine wpAny_pure ?_
  have go : wpAny (model prog w) A.in1 (sliceIndices (rawPart none) (rawPart none) (rawPart (some (-1))) b.size) (fun r s' => r = sliceBounds none none (some (-1)) b.size ∧ s' = s) (fun _ _ => False) s :=
    wpAny_of_eq (sliceIndices_raw none none (some (-1)) b.size (fun e => by cases e)) ⟨rfl, rfl⟩
  refine wpAny_bind (wpAny_mono go (fun r s' hr => ?_) fun _ _ e => e.elim)
  obtain ⟨hr1, hr2⟩ := hr
  subst hr1 hr2
  rw [krv_bounds]
  refine wpAny_ite (KBy.ite_no ?_ ?_)
  · simp
  have e : Builtin.Bytes.sliced b ((b.size : Int) - 1) (-1) (-1) = b.toList.reverse.toArray := by
    unfold Builtin.Bytes.sliced
    rw [krv_sliceRange, krv_range, List.filterMap_reverse, krv_all]
  show wpAny _ _ (mkBytes (Builtin.Bytes.sliced b ((b.size : Int) - 1) (-1) (-1)) >>= _) _ _ _
  rw [e]
  exact wpAny_bind (wpAny_mkBytes (wpAny_pure ⟨_, rfl, h _ _⟩) (by simp; omega))

section
variable {prog : Program} {w : World} {mg mb : Str → Option Value} {A : Around} {h : Heap} {env : Env}

theorem Ev.neg {e : Expr} {pos : Pos} {a : Int} (he : Ev prog w A h (eval e env) (IsI a)) : Ev prog w A h (eval (.UnaryOp .USub e pos) env) (IsI (-a)) := by
  show Ev prog w A h (eval e env >>= fun v => standAt pos >>= fun _ => PySem.holding [v] (unaryOp .USub v)) _
  refine Ev.bind he fun v h' k hv => Ev.at (Ev.holding (Ev.mk fun s hs => ?_))
  obtain ⟨t, rfl⟩ := hv
  exact PyProof.Rows.neg_int ⟨⟨_, rfl⟩, keeps_tok s _⟩
/-- x[a:b] -/
theorem Ev.slice_bytes {value : Expr} {l u : Expr} {p pos : Pos} {a b : Nat} {x : List UInt8} (hv : Ev prog w A h (eval value env) (IsYL x)) (hl : Ev prog w A h (eval l env) (IsI a)) (hu : Ev prog w A h (eval u env) (IsI b)) (hx : x.length ≤ 1000)
    (hs : ∀ t s, subscripted (.Slice (some l) (some u) none p) false (.bytes x.toArray t) (.ref s) = PySem.operate [.ref s, .bytes x.toArray t] (getItem (.bytes x.toArray t) (.ref s)) := by intro _ _; with_unfolding_all rfl)
    (ht : ∀ t r, letTemporaryGo value (.bytes x.toArray t) r = Pure.pure () := by intro _ _; with_unfolding_all rfl) :
    Ev prog w A h (eval (.Subscript value (.Slice (some l) (some u) none p) pos) env) (IsYL ((x.drop a).take (b - a))) :=
  Ev.subscript hv (R := fun o i h' => (∃ t, o = .bytes x.toArray t) ∧ IsSl (some a) (some b) none i h') (fun o h' kk q => ((Ev.slice (Ev.part_some hl) (Ev.part_some hu) Ev.part_none).mono kk).weak fun i h'' k2 r => ⟨q, r⟩) fun o i h' kk r => Ev.mk fun s hss => by
    obtain ⟨⟨t, rfl⟩, sl, vl, vu, vs, rfl, hsl, pl, pu, ps⟩ := r
    cases ps
    have hz : (KBy.picked x.toArray (some (a : Int)) (some (b : Int))).size ≤ sizeLine := by
      have h1 := KBc.size_picked_le x.toArray (some (a : Int)) (some (b : Int))
      have h2 : (1000 : Nat) ≤ sizeLine := by decide
      have h3 : x.toArray.size = x.length := List.size_toArray
      omega
    have e : KBy.picked x.toArray (some (a : Int)) (some (b : Int)) = ((x.drop a).take (b - a)).toArray := by
      rw [KBc.picked_eq]
      simp only [Option.elim_some, clipAt_nat, List.size_toArray]
      congr 1
      by_cases ha : a ≤ x.length
      · rw [Nat.min_eq_left ha]
        by_cases hb : b ≤ x.length
        · rw [Nat.min_eq_left hb]
        · rw [Nat.min_eq_right (by omega), List.take_of_length_le (by simp), List.take_of_length_le (by simp; omega)]
      · have h1 : min a x.length = x.length := by omega
        rw [h1]
        simp [List.drop_of_length_le (show x.length ≤ a by omega)]
    refine tail_of_ItemOn (M := model prog w) ⟨"bytes", _, FB.slot_bytes_getitem.lookup, typeIs_bytes _ _ _, getItem_meets (typeIs_bytes _ _ _) (by decide) FB.slot_bytes_getitem FB.entry_bytes_getitem (FB.args_bytes_getitem_2 _ _) (KBc.meets_slice2 x.toArray t sl pl pu)
      ⟨(let ⟨o, ho, r⟩ := hsl; ⟨o, hss _ _ ho, r⟩), hz, fun t' k => ?_⟩⟩ (hs t sl) (ht t)
    rw [e]
    exact ⟨⟨t', rfl⟩, ⟨s.heap, k, rfl, fun _ _ e => e⟩⟩
/-- x[::-1] -/
theorem Ev.rev_bytes {value : Expr} {e₁ : Expr} {p pos : Pos} {x : List UInt8} (hv : Ev prog w A h (eval value env) (IsYL x)) (h1 : Ev prog w A h (eval e₁ env) (IsI (-1))) (hx : x.length ≤ 1000)
    (hs : ∀ t s, subscripted (.Slice none none (some e₁) p) false (.bytes x.toArray t) (.ref s) = PySem.operate [.ref s, .bytes x.toArray t] (getItem (.bytes x.toArray t) (.ref s)) := by intro _ _; with_unfolding_all rfl)
    (ht : ∀ t r, letTemporaryGo value (.bytes x.toArray t) r = Pure.pure () := by intro _ _; with_unfolding_all rfl) :
    Ev prog w A h (eval (.Subscript value (.Slice none none (some e₁) p) pos) env) (IsYL x.reverse) :=
  Ev.subscript hv (R := fun o i h' => (∃ t, o = .bytes x.toArray t) ∧ IsSl none none (some (-1)) i h') (fun o h' kk q => ((Ev.slice Ev.part_none Ev.part_none (Ev.part_some h1)).mono kk).weak fun i h'' k2 r => ⟨q, r⟩) fun o i h' kk r => Ev.mk fun s hss => by
    obtain ⟨⟨t, rfl⟩, sl, vl, vu, vs, rfl, hsl, pl, pu, ps⟩ := r
    cases ps
    cases pl
    cases pu
    rename_i tk
    refine tail_of_ItemOn (M := model prog w) ⟨"bytes", _, FB.slot_bytes_getitem.lookup, typeIs_bytes _ _ _, getItem_meets (typeIs_bytes _ _ _) (by decide) FB.slot_bytes_getitem FB.entry_bytes_getitem (FB.args_bytes_getitem_2 _ _) (meets_rev x.toArray t _ sl)
      ⟨(let ⟨o, ho, r⟩ := hsl; ⟨o, hss _ _ ho, r⟩), by rw [List.size_toArray]; exact hx, fun t' k => ?_⟩⟩ (hs t sl) (ht t)
    exact ⟨⟨t', rfl⟩, ⟨s.heap, k, rfl, fun _ _ e => e⟩⟩
theorem Ev.addB {l r : Expr} {pos : Pos} {x y : List UInt8} (hl : Ev prog w A h (eval l env) (IsYL x)) (hr : Ev prog w A h (eval r env) (IsYL y)) (hx : x.length + y.length ≤ 1000) : Ev prog w A h (eval (.BinOp l .Add r pos) env) (IsYL (x ++ y)) :=
  Ev.binop hl (R := fun a b _ => (∃ t, a = .bytes x.toArray t) ∧ ∃ u, b = .bytes y.toArray u) (fun _ h' k ha => (hr.mono k).weak fun _ _ _ hb => ⟨ha, hb⟩) fun a b h' k hab => by
    obtain ⟨⟨t, rfl⟩, u, rfl⟩ := hab
    exact Ev.mk fun s _ => KBy.add_bytes (by simp; omega) fun t' k => ⟨⟨t', by simp⟩, ⟨s.heap, k, rfl, fun _ _ e => e⟩⟩
theorem Ev.test_neB {l r : Expr} {pos : Pos} {whole : Sem Value} {x y : List UInt8} (hl : Ev prog w A h (eval l env) (IsYL x)) (hr : Ev prog w A h (eval r env) (IsYL y)) (hm : behindInMarks .NotEq r = false := by rfl) :
    Ev prog w A h (isTrue (.Compare l [.NotEq] [r] pos) env whole) (IsTrue (x != y)) :=
  Ev.test_cmp1 hl (R := fun a b _ => (∃ t, a = .bytes x.toArray t) ∧ ∃ u, b = .bytes y.toArray u) (fun _ h' k ha => (hr.mono k).weak fun _ _ _ hb => ⟨ha, hb⟩)
    (fun a b h' k hab => by obtain ⟨⟨t, rfl⟩, u, rfl⟩ := hab; exact Ev.mk fun s _ => W.ne_bytes ⟨rfl, keeps_refl s⟩) hm
theorem Ev.isi_bytes {e : Expr} {p q pos : Pos} {x : List UInt8} (G : Gd mg mb h) (he : Ev prog w A h (eval e env) (IsYL x))
    (hg : env.globals = mainGlobals := by rfl) (heb : env.builtins = builtinsNs := by rfl) (hk : env.scope.kind = .function := by rfl) (hn : env.kindOf "isinstance" = some .globalImplicit := by rfl) (hn' : env.kindOf "bytes" = some .globalImplicit := by rfl)
    (hs : backTo pos (starEach [e, .Name "bytes" q] env) = [(false, eval e env), (false, eval (.Name "bytes" q) env)] := by rfl) :
    Ev prog w A h (eval (.Call (.Name "isinstance" p) [e, .Name "bytes" q] [] pos) env) (IsB true) :=
  Ev.call_builtin (Ev.name_bi G (by decide) boot_isinstance (by decide) hg heb hk hn) (Ev.args2 (R := fun a b _ => (∃ t, a = .bytes x.toArray t) ∧ b = .type "bytes") he (fun v h' k hv => (Ev.name_bi (G.keeps k) (by decide) boot_bytes (by decide) hg heb hk hn').weak fun _ _ _ q => ⟨hv, q⟩) hs) (fun a h' k ha => by
    obtain ⟨_, _, rfl, ⟨t, rfl⟩, rfl⟩ := ha
    exact Ev.mk fun s _ => call_isinstance (isinstance_true (Tx := "bytes") F.isi_meta_bytes F.isi_self_bytes) ⟨rfl, rfl, keeps_refl s⟩) (by rw [hs]; rfl)
end
end Mine
end

section
open PySem PySem.W PyProof.Rows
namespace Mine

section
variable {prog : Program} {w : World} {mg mb : Str → Option Value} {A : Around} {h : Heap} {env : Env}

theorem for_loopN {R : Result → Shared → Prop} {s : Shared} {target : Expr} {body : List Stmt} {I : Addr} {fp : List Addr} {n : Nat} {P : Nat → Value → Prop} {St' : Nat → Heap → Prop} (W : Walks prog w A I fp [I] n P St') (J : Nat → Shared → Prop)
    (hst : St' 0 s.heap) (h0 : J 0 s) (hIo : ∀ i h, St' i h → ∃ o, h.get? I = some o)
    (hJ : ∀ i (s' : Shared) h' tk, J i s' → (∀ b o, b ≠ I → s'.heap.get? b = some o → h'.get? b = some o) → J i { s' with heap := h', toks := tk })
    (step : ∀ i v (s₁ : Shared), i < n → P i v → J i s₁ → (∃ o, s₁.heap.get? I = some o) → wpAny (model prog w) A (assign target env v) (fun _ s₂ => wpN (model prog w) A (execs body env)
      (fun f s₃ => match f with | .next | .cont => J (i + 1) s₃ ∧ (∀ b ∈ fp, ∀ o, s₁.heap.get? b = some o → s₃.heap.get? b = some o) | .brk => R (.ok .next) s₃ | .ret v => R (.ok (.ret v)) s₃) (fun _ _ => False) s₂) (fun _ _ => False) s₁)
    (done : ∀ s' : Shared, J n s' → R (.ok .next) s') (ht : ∀ v, letOwnedTupleGo target (.ref I) v = pure () := by intro _; rfl) :
    codeN (model prog w) A (.forLoop target (.ref I) body [] env) R s := by
  refine codeN_forLoop (fun k s' => ∃ i, i ≤ n ∧ k = n + 1 - i ∧ St' i s'.heap ∧ J i s') ?_ (n + 1) ⟨0, Nat.zero_le _, rfl, hst, h0⟩ ht
  rintro k s' ⟨i, hi, rfl, hst', hJ'⟩
  by_cases hlt : i < n
  · refine W.item i _ _ _ hlt hst' fun v h₁ tk₁ hPv hst₁ hk₁ => ?_
    have up₁ : ∀ b o, b ≠ I → s'.heap.get? b = some o → h₁.get? b = some o := fun b o hb e => hk₁ b o (by simpa using hb) e
    refine wpAny_mono (step i v _ hlt hPv (hJ i s' h₁ tk₁ hJ' up₁) (hIo _ _ hst₁)) (fun _ s₂ h₂ => wpN_mono h₂ (fun f s₃ h₃ => ?_) fun _ _ e => e.elim) fun _ _ e => e.elim
    cases f with
    | next => exact ⟨n + 1 - (i + 1), by omega, i + 1, hlt, rfl, W.frame _ _ _ hst₁ h₃.2, h₃.1⟩
    | cont => exact ⟨n + 1 - (i + 1), by omega, i + 1, hlt, rfl, W.frame _ _ _ hst₁ h₃.2, h₃.1⟩
    | brk => exact h₃
    | ret v => exact h₃
  · obtain rfl : i = n := Nat.le_antisymm hi (Nat.not_lt.mp hlt)
    refine W.done _ _ _ hst' fun h₁ tk₁ hk₁ => done _ (hJ _ s' h₁ tk₁ hJ' fun b o hb e => hk₁ b o (by simpa using hb) e)
theorem exec_forN {s : Shared} {target iter : Expr} {body : List Stmt} {pos : Pos} {n : Nat} {P : Nat → Value → Prop} {Pv : Value → Heap → Prop} {Q : Flow → Shared → Prop} {E : Value → Shared → Prop}
    (hit : Ev prog w A s.heap (eval iter env) Pv) (hsrc : ∀ v h', s.heap.StaysIn h' → Pv v h' → ItOk prog w A h' v n P)
    (k : ∀ xv I (fp : List Addr) (s₂ : Shared), Keeps s s₂ → s.heap.get? I = none → (∃ s₁, Keeps s s₁ ∧ Pv xv s₁.heap ∧ s₁.heap.StaysIn s₂.heap ∧ s₁.heap.get? I = none ∧ ∀ b ∈ fp, b = I ∨ (xv = .ref b ∧ ∃ o, s₁.heap.get? b = some o ∧ ∃ xs n, o.data = .seq xs n)) → ∃ J : Nat → Shared → Prop, J 0 s₂ ∧
      (∀ i (s' : Shared) h' tk, J i s' → (∀ b o, b ≠ I → s'.heap.get? b = some o → h'.get? b = some o) → J i { s' with heap := h', toks := tk }) ∧
      (∀ i v (s₁ : Shared), i < n → P i v → J i s₁ → (∃ o, s₁.heap.get? I = some o) → wpAny (model prog w) A (assign target env v) (fun _ s₂ => wpN (model prog w) A (execs body env)
        (fun f s₃ => match f with | .next | .cont => J (i + 1) s₃ ∧ (∀ b ∈ fp, ∀ o, s₁.heap.get? b = some o → s₃.heap.get? b = some o) | .brk => Q .next s₃ | .ret v => Q (.ret v) s₃) (fun _ _ => False) s₂) (fun _ _ => False) s₁) ∧
      (∀ s' : Shared, J n s' → Q .next s'))
    (ht : ∀ I v, letOwnedTupleGo target (.ref I) v = pure () := by intro _ _; rfl) (hs : ∀ x, foldedSetIterable iter env x = pure x := by intro _; rfl) :
    wpN (model prog w) A (exec (.For target iter body [] pos) env) Q E s := by
  refine wpN_For (Ev.run hit (stays_refl _) fun xv s₁ pv k₁ => ?_) hs
  refine hsrc xv s₁.heap (keeps_stays k₁) pv s₁ _ _ (stays_refl _) fun I fp St' s₂ hI W hst hfp hIo hfv k₂ => ?_
  obtain ⟨J, j0, jI, st, dn⟩ := k xv I fp s₂ (keeps_trans k₁ k₂) (not_of_stays (keeps_stays k₁) hI) ⟨s₁, k₁, pv, keeps_stays k₂, hI, hfv⟩
  exact for_loopN W J hst j0 hIo jI st dn (ht I)
theorem exec_ifN {s : Shared} {test : Expr} {body orelse : List Stmt} {pos : Pos} {b : Bool} {Q : Flow → Shared → Prop} {E : Value → Shared → Prop} (ht : Ev prog w A s.heap (isTrue test env (eval test env)) (IsTrue b))
    (k1 : b = true → ∀ s', Keeps s s' → wpN (model prog w) A (execs body env) Q E s') (k2 : b = false → ∀ s', Keeps s s' → wpN (model prog w) A (execs orelse env) Q E s') : wpN (model prog w) A (exec (.If test body orelse pos) env) Q E s :=
  wpN_If (wpN_of (Ev.run ht (stays_refl _) fun v s' e k => by
    obtain rfl : v = b := e
    cases v with
    | true => exact k1 rfl s' k
    | false => exact k2 rfl s' k))
theorem EvN.call2 {x : Str} {p pos : Pos} {e e' : Expr} {k : Nat} {P Q : Value → Heap → Prop} {T : Value → Value → Heap → Prop} (G : Gd mg mb h) (R : Room k A) (hgd : A.guards = some []) (he : Ev prog w A h (eval e env) P)
    (he' : ∀ v h', h.StaysIn h' → P v h' → Ev prog w A h' (eval e' env) (T v)) (hf : ∀ v u h', h.StaysIn h' → T v u h' → FnN prog w mg x [v, u] h' k Q)
    (hx : ∃ a o fd, mg x = some (.ref a) ∧ h.get? a = some o ∧ o.data = .func fd)
    (hg : env.globals = mainGlobals := by rfl)
    (hk : env.scope.kind = .function := by rfl) (hl : env.kindOf x = some .globalImplicit := by rfl) (hd : (x == ("__debug__" : Str)) = false := by decide)
    (hs : backTo pos (starEach [e, e'] env) = [(false, eval e env), (false, eval e' env)] := by rfl) : EvN prog w A h (eval (.Call (.Name x p) [e, e'] [] pos) env) Q := EvN.mk fun s hss => by
  obtain ⟨a, o, fd, h1, h2, h3⟩ := hx
  show wpN _ _ (do callWith pos (← eval (.Name x p) env) [] (backTo pos (starEach [e, e'] env)) (backToKw pos (keywordEach [] env))) _ _ s
  refine wpN_bind (wpN_of (Ev.run (Ev.name_global (h := h) G.g h1 hg hk hl hd) hss fun f s₁ hf' k₁ => ?_))
  obtain rfl := hf'
  refine callWithN_function (o := o) (fd := fd) (Ev.run (Ev.args2 he he' hs) (stays_trans hss (keeps_stays k₁)) fun a' s₂ pa k₂ => ⟨⟨(stays_trans hss (keeps_stays (keeps_trans k₁ k₂))) _ _ h2, h3⟩, ?_⟩)
  obtain ⟨v, u, rfl, hT⟩ := pa
  obtain ⟨a₂, o₂, fd₂, g1, g2, g3, g4⟩ := hf v u s₂.heap (stays_trans hss (keeps_stays (keeps_trans k₁ k₂))) hT
  rw [h1] at g1
  cases g1
  exact EvN.run (g4 A R hgd) (stays_refl _) fun v s₃ q k₃ => ⟨q, keeps_trans (keeps_trans k₁ k₂) k₃⟩
theorem EvN.call3 {x : Str} {p pos : Pos} {e e' e'' : Expr} {k : Nat} {P Q : Value → Heap → Prop} {T : Value → Value → Heap → Prop} {U : Value → Value → Value → Heap → Prop} (G : Gd mg mb h) (R : Room k A) (hgd : A.guards = some []) (he : Ev prog w A h (eval e env) P)
    (he' : ∀ v h', h.StaysIn h' → P v h' → Ev prog w A h' (eval e' env) (T v)) (he'' : ∀ v u h', h.StaysIn h' → T v u h' → Ev prog w A h' (eval e'' env) (U v u)) (hf : ∀ v u z h', h.StaysIn h' → U v u z h' → FnN prog w mg x [v, u, z] h' k Q)
    (hx : ∃ a o fd, mg x = some (.ref a) ∧ h.get? a = some o ∧ o.data = .func fd)
    (hg : env.globals = mainGlobals := by rfl)
    (hk : env.scope.kind = .function := by rfl) (hl : env.kindOf x = some .globalImplicit := by rfl) (hd : (x == ("__debug__" : Str)) = false := by decide)
    (hs : backTo pos (starEach [e, e', e''] env) = [(false, eval e env), (false, eval e' env), (false, eval e'' env)] := by rfl) : EvN prog w A h (eval (.Call (.Name x p) [e, e', e''] [] pos) env) Q := EvN.mk fun s hss => by
  obtain ⟨a, o, fd, h1, h2, h3⟩ := hx
  show wpN _ _ (do callWith pos (← eval (.Name x p) env) [] (backTo pos (starEach [e, e', e''] env)) (backToKw pos (keywordEach [] env))) _ _ s
  refine wpN_bind (wpN_of (Ev.run (Ev.name_global (h := h) G.g h1 hg hk hl hd) hss fun f s₁ hf' k₁ => ?_))
  obtain rfl := hf'
  refine callWithN_function (o := o) (fd := fd) (Ev.run (Ev.args3 he he' he'' hs) (stays_trans hss (keeps_stays k₁)) fun a' s₂ pa k₂ => ⟨⟨(stays_trans hss (keeps_stays (keeps_trans k₁ k₂))) _ _ h2, h3⟩, ?_⟩)
  obtain ⟨v, u, z, rfl, hT⟩ := pa
  obtain ⟨a₂, o₂, fd₂, g1, g2, g3, g4⟩ := hf v u z s₂.heap (stays_trans hss (keeps_stays (keeps_trans k₁ k₂))) hT
  rw [h1] at g1
  cases g1
  exact EvN.run (g4 A R hgd) (stays_refl _) fun v s₃ q k₃ => ⟨q, keeps_trans (keeps_trans k₁ k₂) k₃⟩

/-! a dict with keys that are ints -/
theorem mapOf_up {h h' : Heap} {d : Addr} {f : Int → Option Value} (x : h.MapOf (intKind prog w) d f) (k : h.StaysIn h') : h'.MapOf (intKind prog w) d f :=
  let ⟨o, es, ep, ho, r⟩ := x; ⟨o, es, ep, k _ _ ho, r⟩
theorem Ev.item_map {value slice : Expr} {pos : Pos} {d : Addr} {f : Int → Option Value} {k n : Int} {t : Tok} (hd : h.MapOf (intKind prog w) d f) (hv : Ev prog w A h (eval value env) (IsV (.ref d))) (hi : Ev prog w A h (eval slice env) (IsI k)) (hf : f k = some (.int n t))
    (hs : ∀ u, subscripted slice false (.ref d) (.int k u) = PySem.operate [.ref d, .int k u] (getItem (.ref d) (.int k u)) := by intro _; with_unfolding_all rfl) :
    Ev prog w A h (eval (.Subscript value slice pos) env) (IsI n) :=
  Ev.subscript hv (R := fun o i h' => o = .ref d ∧ ∃ t, i = .int k t) (fun o h' kk p => (hi.mono kk).weak fun i h'' k2 q => ⟨p, q⟩) fun o i h' kk r => Ev.mk fun s hss => by
    obtain ⟨rfl, u, rfl⟩ := r
    have hm := mapOf_up (prog := prog) (w := w) hd (stays_trans kk hss)
    exact tail_any hm.typeIs slot_dict_getitem.lookup (wpAny_getItem_of (intKind_is prog w k u) hm hf ⟨⟨t, rfl⟩, keeps_tok s _⟩) (hs u)
end

section
variable {prog : Program} {w : World} {A : Around} {s₀ s s' : Shared} {env : Env} {m cm : Str → Option Value} {g : Heap}
/-- x = e in a clean context -/
theorem St.assignN {x : Str} {p pos : Pos} {e : Expr} {P : Value → Heap → Prop} {Q : Flow → Shared → Prop} {E : Value → Shared → Prop} (S : St s₀ env m cm g s) (he : EvN prog w A s.heap (eval e env) P)
    (k : ∀ v s₁, P v s₁.heap → Keeps s s₁ → ∀ g' s₂, g.StaysIn g' → (∀ a o, s₁.heap.get? a = some o → ¬ Own env a → g'.get? a = some o) → St s₀ env (upd m x v) cm g' s₂ → Q .next s₂)
    (hk : env.scope.kind = .function := by rfl) (hl : env.kindOf x = some .local := by rfl) (hs : swapsWith e (some (.Name x p)) pos.line env = pure false := by rfl) :
    wpN (model prog w) A (exec (.Assign [.Name x p] e pos) env) Q E s := by
  refine wpN_Assign_Name (EvN.run he (stays_refl _) fun v s₁ hp k₁ => ?_) hs
  obtain ⟨g', S', gk, tr⟩ := (S.keeps k₁).grow
  exact wpN_of (S'.store_local hl hk fun s₂ S₂ _ => k v s₁ hp k₁ g' s₂ gk tr S₂)
/-- x, y = e, the names stored from the left -/
theorem St.assign2 {x y : Str} {p q tp pos : Pos} {kk : Nat} {e : Expr} {P : Value → Value → Heap → Prop} {Q : Flow → Shared → Prop} {E : Value → Shared → Prop} (hh : A.handled = none) (S : St s₀ env m cm g s)
    (he : Ev prog w A s.heap (eval e env) (fun v h' => ∃ t a b, v = .ref t ∧ IsTup h' t #[a, b] ∧ P a b h'))
    (k : ∀ a b s₁, P a b s₁.heap → Keeps s s₁ → ∀ g' s₂, g.StaysIn g' → (∀ a o, s₁.heap.get? a = some o → ¬ Own env a → g'.get? a = some o) → St s₀ env (upd (upd m x a) y b) cm g' s₂ → Q .next s₂)
    (hk : env.scope.kind = .function := by rfl) (hl : env.kindOf x = some .local := by rfl) (hl' : env.kindOf y = some .local := by rfl)
    (hs : swapsWithSole [.Tuple [.Name x p, .Name y q] kk tp] e pos.line env = pure false := by rfl) (hw : swappedStores [.Tuple [.Name x p, .Name y q] kk tp] e env = pure none := by rfl) :
    wpAny (model prog w) A (exec (.Assign [.Tuple [.Name x p, .Name y q] kk tp] e pos) env) Q E s := by
  refine Assign_Tuple (Ev.run he (stays_refl _) fun v s₁ hp k₁ => ?_) hs hw
  obtain ⟨t, a, b, rfl, tp', hP⟩ := hp
  refine assign_Tuple_tuple hh tp' rfl rfl fun h' ext => ?_
  have k₂ : Keeps s₁ { s₁ with heap := h' } := ⟨h', _, rfl, fun b o e => ext b o (Nat.ne_of_lt (Heap.lt_size e)) e⟩
  obtain ⟨g', S', gk, tr⟩ := ((S.keeps k₁).keeps k₂).grow
  have e1 : assignInOrder ((assignEach [.Name x p, .Name y q] env).map (·.2)) [a, b] = (PySem.holding [b] (PySem.assign (.Name x p) env a) >>= fun _ => PySem.holding [] (PySem.assign (.Name y q) env b) >>= fun _ => Pure.pure ()) := rfl
  show wpAny (model prog w) A (assignInOrder ((assignEach [.Name x p, .Name y q] env).map (·.2)) [a, b]) (fun _ => Q .next) E { s₁ with heap := h' }
  rw [e1]
  refine wpAny_bind (wpAny_holding (wpAny_assign_Name (S'.store_local hl hk fun s₂ S₂ _ => ?_)))
  refine wpAny_bind (wpAny_holding (wpAny_assign_Name (S₂.store_local hl' hk fun s₃ S₃ _ => ?_)))
  exact wpAny_pure (k a b s₁ hP k₁ g' s₃ gk (fun a o e na => tr a o (keeps_stays k₂ _ _ e) na) S₃)
/-- x, y = e, the names stored from the right -/
theorem St.assign2s {x y : Str} {p q tp pos : Pos} {kk : Nat} {e : Expr} {P : Value → Value → Heap → Prop} {Q : Flow → Shared → Prop} {E : Value → Shared → Prop} (hh : A.handled = none) (S : St s₀ env m cm g s)
    (he : Ev prog w A s.heap (eval e env) (fun v h' => ∃ t a b, v = .ref t ∧ IsTup h' t #[a, b] ∧ P a b h'))
    (k : ∀ a b s₁, P a b s₁.heap → Keeps s s₁ → ∀ g' s₂, g.StaysIn g' → (∀ a o, s₁.heap.get? a = some o → ¬ Own env a → g'.get? a = some o) → St s₀ env (upd (upd m y b) x a) cm g' s₂ → Q .next s₂)
    (hk : env.scope.kind = .function := by rfl) (hl : env.kindOf x = some .local := by rfl) (hl' : env.kindOf y = some .local := by rfl)
    (hs : swapsWithSole [.Tuple [.Name x p, .Name y q] kk tp] e pos.line env = pure false := by rfl) (hw : swappedStores [.Tuple [.Name x p, .Name y q] kk tp] e env = pure (some [x, y]) := by rfl) :
    wpAny (model prog w) A (exec (.Assign [.Tuple [.Name x p, .Name y q] kk tp] e pos) env) Q E s := by
  have hr : ∀ v (s₁ : Shared), (∃ t a b, v = .ref t ∧ IsTup s₁.heap t #[a, b] ∧ P a b s₁.heap) → Keeps s s₁ →
      wpAny (model prog w) A (unpackItems v 2 none) (fun items s₂ => wpAny (model prog w) A (assignInOrder ([y, x].map fun n => bindName env n) items.reverse) (fun _ => Q .next) E s₂) E s₁ := by
    rintro v s₁ ⟨t, a, b, rfl, tp', hP⟩ k₁
    have hu := unpackItems_tuple (prog := prog) (w := w) (A := A) (E := E) (items := #[a, b]) (Q := fun items s₂ => wpAny (model prog w) A (assignInOrder ([y, x].map fun n => bindName env n) items.reverse) (fun _ => Q .next) E s₂) hh tp'
    refine hu fun h' ext => ?_
    have k₂ : Keeps s₁ { s₁ with heap := h' } := ⟨h', _, rfl, fun b o e => ext b o (Nat.ne_of_lt (Heap.lt_size e)) e⟩
    obtain ⟨g', S', gk, tr⟩ := ((S.keeps k₁).keeps k₂).grow
    have e1 : assignInOrder ([y, x].map fun n => bindName env n) [b, a] = (PySem.holding [a] (bindName env y b) >>= fun _ => PySem.holding [] (bindName env x a) >>= fun _ => Pure.pure ()) := rfl
    show wpAny (model prog w) A (assignInOrder ([y, x].map fun n => bindName env n) [b, a]) (fun _ => Q .next) E { s₁ with heap := h' }
    rw [e1]
    refine wpAny_bind (wpAny_holding (wpAny_bindName (S'.store_local hl' hk fun s₂ S₂ _ => ?_)))
    refine wpAny_bind (wpAny_holding (wpAny_bindName (S₂.store_local hl hk fun s₃ S₃ _ => ?_)))
    exact wpAny_pure (k a b s₁ hP k₁ g' s₃ gk (fun a o e na => tr a o (keeps_stays k₂ _ _ e) na) S₃)
  exact @Assign_Tuple_swapped (model prog w) A E s env _ kk tp e pos [x, y] Q (Ev.run he (stays_refl _) hr) hs hw
end
end Mine
end

section
open PySem PySem.W PyProof.Rows
set_option maxRecDepth 100000
namespace Mine

section
variable {prog : Program} {w : World} {mg mb : Str → Option Value} {A : Around} {h : Heap} {env : Env}

theorem Ev.bytes0 {k pos} : Ev prog w A h (eval (.Constant (.bytes []) k pos) env) (IsYL []) :=
  Ev.mk fun s _ => W.Constant_bytes ⟨⟨_, rfl⟩, keeps_tok s _⟩
/-- a pair of values as a tuple -/
theorem Ev.pair {e e' : Expr} {kk : Nat} {pos : Pos} {P : Value → Heap → Prop} {T : Value → Value → Heap → Prop} (he : Ev prog w A h (eval e env) P) (he' : ∀ v h', h.StaysIn h' → P v h' → Ev prog w A h' (eval e' env) (T v))
    (hT : ∀ a b h₁ h₂, h₁.StaysIn h₂ → T a b h₁ → T a b h₂)
    (hs : backTo pos (starEach [e, e'] env) = [(false, eval e env), (false, eval e' env)] := by rfl) : Ev prog w A h (eval (.Tuple [e, e'] kk pos) env) (fun v h' => ∃ t a b, v = .ref t ∧ IsTup h' t #[a, b] ∧ T a b h') := by
  show Ev prog w A h (standAt pos >>= fun _ => spliced (backTo pos (starEach [e, e'] env)) >>= fun vs => newTuple vs) _
  rw [hs]
  refine Ev.at (Ev.bind (Ev.spl_cons he fun v h' k hv => Ev.spl_cons (R := fun u vs h'' => T v u h'' ∧ vs = []) (he' v h' k hv) fun u h'' k2 hu => Ev.spl_nil.weak fun vs h₃ k₃ e => ⟨hT _ _ _ _ k₃ hu, e⟩) fun vs h' k q => ?_)
  obtain ⟨v, vs', rfl, u, vs'', rfl, hT', rfl⟩ := q
  exact Ev.newT (by simp; decide) fun t h₂ k₂ tp => ⟨t, v, u, rfl, tp, hT _ _ _ _ k₂ hT'⟩
theorem mul2 (b : Int) : IntMulOk 2 b := IntMulOk.of_left (by decide)
theorem mul256 (b : Int) : IntMulOk 256 b := IntMulOk.of_left (by decide)

theorem turned_ok {codes : List Int} {ht : Int → Int} {f : Int → Option Value} {d : Addr} {tl tv : Tok} {lv : Int} (G : Gd mg mb h) (hn : codes.length ≤ 100) (hc : ∀ c ∈ codes, 0 ≤ c ∧ c < 65536)
    (hd : h.MapOf (intKind prog w) d f) (hf : ∀ c ∈ codes, ∃ t, f c = some (.int (ht c) t)) :
    FnN prog w mg "_law_turned" [.bytes (lineL codes).toArray tl, .ref d, .int lv tv] h 2 (IsYL (lineL (turnC (fun c => decide (lv ≤ ht c)) 0 codes))) := by
  refine FnN.of_bodyC (i := 22) (binds := [("line", .bytes (lineL codes).toArray tl), ("heights", .ref d), ("level", .int lv tv)]) (k := 1) G rfl (fun s s₁ A L a cd R hgd hs S => ?_) (fun _ _ _ => rfl) rfl (by decide)
  have up : ∀ {env m cm g s'}, St s env m cm g s' → h.StaysIn s'.heap := fun S' => stays_trans hs (keeps_stays S'.done)
  have hh := R.2.2
  have G₁ := G.keeps (up S)
  have len := lineL_length codes
  have hx : (lineL codes).length ≤ 1000 := by omega
  -- size
  refine wpN_execs_cons (wpN_of (St.assign S (P := IsI codes.length) (Ev.castI (Ev.fdiv (b := 2) (by decide) (by decide) (Ev.len_bytes (x := lineL codes) G₁ (Ev.val (St.cel S rfl rfl) fun _ _ => ⟨_, rfl⟩) hx) Ev.int) ?_) ?_))
  · rw [Int.fdiv_eq_ediv_of_nonneg _ (by decide), len]; omega
  rintro _ s₂ ⟨t₂, rfl⟩ k₂ g₂ s₃ gk₂ tr₂ S₃
  have G₃ := G.keeps (up S₃)
  -- high
  refine wpN_execs_cons (wpN_of (St.assignL S₃ (n := codes.length) (P := fun i v => ∃ t, v = .int i t) (ok := fun _ => true) (Y := fun _ i y _ => y = .bool (decide (lv ≤ ht (codes.getD i 0)))) (cl := [("line", L + 1), ("level", L + 3), ("heights", L + 2)]) rfl
    (Ev.range1 G₃ (Ev.val (St.loc S₃ rfl) fun _ _ => ⟨_, rfl⟩)) (fun v h' k hv => itRange hh (by omega) hv) (fun _ _ _ _ _ q _ => q) (fun _ _ _ _ _ _ _ _ _ _ => Ev.tests_nil) (fun fb i v' h' C m' hi _ hp k hn₂ hm₂ _ => ?_) ?_ (by have : (100 : Nat) ≤ sizeLine := (by decide); omega)))
  · obtain ⟨t, rfl⟩ := hp
    have ec : codes[i]? = some (codes.getD i 0) := by simp [List.getD_eq_getElem?_getD, List.getElem?_eq_getElem hi]
    have hm : codes.getD i 0 ∈ codes := List.mem_of_getElem? ec
    obtain ⟨th, hth⟩ := hf _ hm
    have line : ∀ {h₂}, h'.StaysIn h₂ → h₂.IsCell (L + 1) (some (.bytes (lineL codes).toArray tl)) := fun k₂ => (S₃.cell "line" (L + 1) rfl).keeps (stays_trans k k₂)
    refine Ev.cmpI (Ev.item_map (mapOf_up hd (stays_trans (up S₃) k)) (Ev.name_cell (c := L + 2) rfl ((S₃.cell "heights" (L + 2) rfl).keeps k)) (Ev.castI (Ev.add (a := (((lineL codes).getD (2 * i) 0).toNat : Nat)) (b := 256 * (((lineL codes).getD (2 * i + 1) 0).toNat : Nat))
      (Ev.item_byte (x := lineL codes) (k := 2 * i) (Ev.val (Ev.name_cell (c := L + 1) rfl (line (stays_refl _))) fun _ _ => ⟨_, rfl⟩) (Ev.castI (Ev.mul (a := 2) (b := i) (mul2 _) Ev.int (Ev.val (Ev.name_local hn₂ hm₂) fun _ _ => ⟨_, rfl⟩)) (by simp)) hx (by omega))
      (Ev.mul (a := 256) (b := (((lineL codes).getD (2 * i + 1) 0).toNat : Nat)) (mul256 _) Ev.int
        (Ev.item_byte (x := lineL codes) (k := 2 * i + 1) (Ev.val (Ev.name_cell (c := L + 1) rfl (line (stays_refl _))) fun _ _ => ⟨_, rfl⟩) (Ev.castI (Ev.add (a := 2 * i) (b := 1) (Ev.mul (a := 2) (b := i) (mul2 _) Ev.int (Ev.val (Ev.name_local hn₂ hm₂) fun _ _ => ⟨_, rfl⟩)) Ev.int) (by simp)) hx (by omega))))
      (lineL_at ec (hc _ hm))) hth) (Ev.val (Ev.name_cell (c := L + 3) rfl ((S₃.cell "level" (L + 3) rfl).keeps k)) fun _ _ => ⟨_, rfl⟩) fun _ _ _ => Ev.opGe
  intro D ys fb s₄ hD hl hall k₄ g₅ s₅ gk₅ tr₅ S₅
  have hhigh : IsBL (codes.map fun c => decide (lv ≤ ht c)) (.ref D) g₅ := by
    obtain ⟨o, ho, hc', n, hdd⟩ := hl
    rw [List.filter_eq_self.mpr (by simp)] at hall
    have e1 := All2.bools (f := fun i => decide (lv ≤ ht (codes.getD i 0))) hall
    have e2 : (List.range codes.length).map (fun i => decide (lv ≤ ht (codes.getD i 0))) = codes.map fun c => decide (lv ≤ ht c) := by
      apply List.ext_getElem <;> simp
      intro i h1 h2
      simp [List.getElem?_eq_getElem h2]
    rw [e2] at e1
    subst e1
    exact ⟨D, rfl, o, tr₅ D o ho ((S₃.keeps k₄).not_own_seq ho hdd) (.inr rfl), hc', n, hdd⟩
  -- made, start
  refine wpN_execs_cons (wpN_of (St.assign2 hh S₅ (P := fun a b _ => (∃ t, a = .bytes ([] : List UInt8).toArray t) ∧ ∃ t, b = .int 0 t) (Ev.pair Ev.bytes0 (fun v h' k hv => Ev.int.weak fun _ _ _ q => ⟨hv, q⟩) fun _ _ _ _ _ q => q) ?_))
  rintro _ _ s₆ ⟨⟨t₆, rfl⟩, t₇, rfl⟩ k₆ g₇ s₇ gk₇ tr₇ S₇
  have G₇ := G.keeps (up S₇)
  generalize hhi : (fun c : Int => decide (lv ≤ ht c)) = hi at hhigh ⊢
  have hhigh₇ : IsBL (codes.map hi) (.ref D) g₇ := IsBL.up hhigh gk₇
  -- the loop
  refine wpN_execs_cons (exec_forN (n := codes.length + 1) (P := fun i v => ∃ t, v = .int i t) (Ev.range1 (n := ((codes.length + 1 : Nat) : Int)) G₇ (Ev.castI (Ev.add (Ev.val (St.loc S₇ rfl) fun _ _ => ⟨_, rfl⟩) Ev.int) (by omega))) (fun v h' k hv => itRange hh (by omega) hv) ?_)
  intro xv I fp s₈ k₈ hI hsrc
  have hfp : ∀ b ∈ fp, b = I := fp_range hsrc
  have hIg : g₇.get? I = none := not_of_stays S₇.imm hI
  have nI := S₇.not_own_new hI
  refine ⟨fun k s' => ∃ mm cm, StLike S mm cm g₇ s' ∧ cm "line" = some (.bytes (lineL codes).toArray tl) ∧ (∃ t, mm "size" = some (.int codes.length t)) ∧ mm "high" = some (.ref D) ∧ (∃ t, mm "made" = some (.bytes (lineL (turnK hi 0 codes k).1).toArray t)) ∧
    ∃ t, mm "start" = some (.int ((turnK hi 0 codes k).2 : Nat) t), ?_, ?_, ?_, ?_⟩
  · exact ⟨_, _, S₇.keeps k₈, rfl, ⟨_, rfl⟩, rfl, ⟨_, rfl⟩, _, rfl⟩
  · rintro i s' h' tk ⟨mm, cm, S', e⟩ kk
    exact ⟨mm, cm, S'.turn hIg nI kk, e⟩
  · rintro p v s₉ hp ⟨t₉, rfl⟩ ⟨mm, cm, S₉, e1, ⟨te2, e2⟩, e3, ⟨te4, e4⟩, te5, e5⟩ ⟨oI, hoI⟩
    obtain ⟨g₉, S₉g, gk₉, tr₉⟩ := S₉.grow
    have gI : g₉.get? I = some oI := tr₉ I oI hoI nI
    have keepI : ∀ {g' s'} {mm cm}, StLike S mm cm g' s' → g₉.StaysIn g' → ∀ b ∈ fp, ∀ o, s₉.heap.get? b = some o → s'.heap.get? b = some o := by
      intro g' s' mm cm S' k b hb o ho
      rw [hfp b hb] at ho ⊢
      rw [hoI] at ho
      cases ho
      exact S'.imm _ _ (k _ _ gI)
    have shr : ∀ {g' s'} {mm cm}, StLike S mm cm g' s' → g₉.StaysIn g' → StLike S mm cm g₇ s' := fun S' k => S'.shrink (stays_trans gk₉ k) S₇.base
    generalize hmade : (turnK hi 0 codes p).1 = made at e4
    generalize hstart : (turnK hi 0 codes p).2 = start at e5
    have hst : start ≤ p := hstart ▸ turnK_start hi 0 codes p
    have hml : made.length ≤ codes.length := hmade ▸ (turnK_length hi 0 codes p (by omega)).2
    refine wpAny_assign_Name (S₉g.store_local rfl rfl fun s₁₀ S₁₀ sb₁₀ => ?_)
    have G₁₀ := G.keeps (up S₁₀)
    have turn : turnK hi 0 codes (p + 1) = if p == codes.length || !hi (codes.getD p 0) then (made ++ ((codes.drop start).take (p - start)).reverse ++ (codes.drop p).take 1, p + 1) else turnK hi 0 codes p := by
      rw [← hmade, ← hstart]; rfl
    refine wpN_execs_cons (exec_ifN (b := p == codes.length || !hi (codes.getD p 0)) ?_ (fun hb s₁₁ k₁₁ => ?_) fun hb s₁₁ k₁₁ => ?_)
    · refine Ev.test_bool (Ev.any_cons (a := p == codes.length) (b := !hi (codes.getD p 0)) ((Ev.test_cmpI (a := p) (b := codes.length) (Ev.val (St.loc S₁₀ rfl) fun _ _ => ⟨_, rfl⟩) (Ev.val (St.loc (x := "size") S₁₀ e2) fun _ _ => ⟨_, rfl⟩) fun _ _ _ => Ev.opEq).weak fun _ _ _ q => ?_)
        fun hne h₂ k₂ => (Ev.any_cons (a := !hi (codes.getD p 0)) (b := false) (Ev.test_not (Ev.testB (Ev.item_bool (ns := codes.map hi) (k := p) (n := hi (codes.getD p 0)) (Ev.val ((St.loc (x := "high") S₁₀ e3).mono k₂) fun h₃ k₃ => IsBL.up hhigh₇ (stays_trans gk₉ (stays_trans S₁₀.imm (stays_trans k₂ k₃)))) (Ev.val ((St.loc S₁₀ rfl).mono k₂) fun _ _ => ⟨_, rfl⟩) (by omega) ?_))) fun _ _ _ => Ev.any_nil).weak fun _ _ _ q => by simpa using q)
      · rw [q]
        show ((p : Int) == (codes.length : Int)) = (p == codes.length)
        rw [Bool.eq_iff_iff]
        simp only [beq_iff_eq]
        omega
      · have : p < codes.length := by
          have : p ≠ codes.length := by simpa using hne
          omega
        simp [List.getElem?_eq_getElem this]
    · -- the run ends here
      have S₁₁ := S₁₀.keeps k₁₁
      have G₁₁ := G.keeps (up S₁₁)
      generalize hpart : (codes.drop start).take (p - start) = part
      have pl : part.length ≤ codes.length := by rw [← hpart, List.length_take, List.length_drop]; omega
      have plen := lineL_length part
      have eslice : ((lineL codes).drop (2 * start)).take (2 * p - 2 * start) = lineL part := by
        rw [lineL_drop, show 2 * p - 2 * start = 2 * (p - start) by omega, lineL_take, hpart]
      refine wpN_execs_cons (wpN_of (St.assign S₁₁ (P := IsYL (lineL part)) ?_ ?_))
      · rw [← eslice]
        exact Ev.slice_bytes (a := 2 * start) (b := 2 * p) (Ev.val (St.cel S₁₁ (c := L + 1) rfl e1) fun _ _ => ⟨_, rfl⟩) (Ev.castI (Ev.mul (a := 2) (b := start) (mul2 _) Ev.int (Ev.val (St.loc S₁₁ e5) fun _ _ => ⟨_, rfl⟩)) (by simp))
          (Ev.castI (Ev.mul (a := 2) (b := p) (mul2 _) Ev.int (Ev.val (St.loc S₁₁ rfl) fun _ _ => ⟨_, rfl⟩)) (by simp)) hx
      rintro _ s₁₂ ⟨t₁₂, rfl⟩ k₁₂ g₁₃ s₁₃ gk₁₃ tr₁₃ S₁₃
      have G₁₃ := G.keeps (up S₁₃)
      -- whole
      refine wpN_execs_cons (St.assignN S₁₃ (P := IsYL (lineL part).reverse) ?_ ?_)
      · refine EvN.call2 G₁₃ R hgd (T := fun v u _ => v = .bytes (lineL part).toArray t₁₂ ∧ ∃ t, u = .int (max 2 (2 * part.length) : Nat) t) (St.loc S₁₃ rfl)
          (fun v h' k hv => (Ev.castI (Ev.bmax2 (a := 2) (b := (lineL part).length) (G₁₃.keeps k) hh Ev.int (Ev.len_bytes (x := lineL part) (G₁₃.keeps k) (Ev.val ((St.loc S₁₃ rfl).mono k) fun _ _ => ⟨_, rfl⟩) (by omega))) (by omega)).weak fun _ _ _ q => ⟨hv, q⟩) (fun v u h' k hvu => ?_) (G₁₃.at (i := 16) rfl)
        obtain ⟨rfl, t, rfl⟩ := hvu
        have key : FnN prog w mg "_byteswap" [.bytes (lineL part).toArray t₁₂, .int (max 2 (2 * part.length) : Nat) t] h' 1 (IsYL (swapL (lineL part) (max 2 (2 * part.length)))) :=
          byteswap_ok (m := if part = [] then 0 else 1) (G₁₃.keeps k) (by omega) (by omega) (by
            split
            · rename_i q; subst q; simp [lineL]
            · rename_i q
              have : part.length ≠ 0 := fun z => q (List.length_eq_zero_iff.mp z)
              omega)
        rwa [swap_all _ _ (by omega) (fun q => by
          have : (lineL part).length ≠ 0 := fun z => q (List.length_eq_zero_iff.mp z)
          omega)] at key
      rintro _ s₁₄ ⟨t₁₄, rfl⟩ k₁₄ g₁₅ s₁₅ gk₁₅ tr₁₅ S₁₅
      have G₁₅ := G.keeps (up S₁₅)
      -- twos
      refine wpN_execs_cons (St.assignN S₁₅ (P := IsYL (lineL part.reverse)) ?_ ?_)
      · refine EvN.call2 G₁₅ R hgd (T := fun v u _ => v = .bytes (lineL part).reverse.toArray t₁₄ ∧ ∃ t, u = .int (2 : Nat) t) (St.loc S₁₅ rfl)
          (fun v h' k hv => Ev.int.weak fun _ _ _ q => ⟨hv, q⟩) (fun v u h' k hvu => ?_) (G₁₅.at (i := 16) rfl)
        obtain ⟨rfl, t, rfl⟩ := hvu
        have key : FnN prog w mg "_byteswap" [.bytes (lineL part).reverse.toArray t₁₄, .int (2 : Nat) t] h' 1 (IsYL (swapL (lineL part).reverse 2)) :=
          byteswap_ok (m := part.length) (G₁₅.keeps k) (by rw [List.length_reverse]; omega) (by omega) (by rw [List.length_reverse]; omega)
        rwa [swap_line] at key
      rintro _ s₁₆ ⟨t₁₆, rfl⟩ k₁₆ g₁₇ s₁₇ gk₁₇ tr₁₇ S₁₇
      have G₁₇ := G.keeps (up S₁₇)
      -- the test
      refine wpN_execs_cons (wpN_of (exec_if (b := false) ?_ (fun e => nomatch e) fun _ s₁₈ k₁₈ => wpAny_execs_nil ?_))
      · refine Ev.test_bool (Ev.any_cons (a := false) (b := false) ((Ev.test_not (Ev.testB (Ev.isi_bytes (x := (lineL part).reverse) G₁₇ (Ev.val (St.loc S₁₇ rfl) fun _ _ => ⟨_, rfl⟩)))).weak fun _ _ _ q => by simpa using q) fun _ h₂ k₂ =>
          Ev.any_cons (a := false) (b := false) ((Ev.test_not (Ev.testB (Ev.isi_bytes (x := lineL part.reverse) (G₁₇.keeps k₂) (Ev.val ((St.loc S₁₇ rfl).mono k₂) fun _ _ => ⟨_, rfl⟩)))).weak fun _ _ _ q => by simpa using q) fun _ h₃ k₃ =>
          Ev.any_cons (a := false) (b := false) ((Ev.test_neB (x := (lineL part).reverse) (y := (lineL part).reverse) (Ev.val ((St.loc S₁₇ rfl).mono (stays_trans k₂ k₃)) fun _ _ => ⟨_, rfl⟩)
            (Ev.rev_bytes (x := lineL part) (Ev.val ((St.loc S₁₇ rfl).mono (stays_trans k₂ k₃)) fun _ _ => ⟨_, rfl⟩) (Ev.neg Ev.int) (by omega))).weak fun _ _ _ q => by simpa using q) fun _ _ _ => Ev.any_nil)
      have S₁₈ := S₁₇.keeps k₁₈
      have eone : ((lineL codes).drop (2 * p)).take (2 * p + 2 - 2 * p) = lineL ((codes.drop p).take 1) := by
        rw [lineL_drop, show 2 * p + 2 - 2 * p = 2 * 1 by omega, lineL_take]
      have lrev := lineL_length part.reverse
      rw [List.length_reverse] at lrev
      have lmade := lineL_length made
      -- made
      refine wpN_execs_cons (wpN_of (St.assign S₁₈ (P := IsYL (lineL (made ++ part.reverse ++ (codes.drop p).take 1))) ?_ ?_))
      · rw [lineL_append, lineL_append, ← eone]
        exact Ev.addB (Ev.addB (Ev.val (St.loc S₁₈ e4) fun _ _ => ⟨_, rfl⟩) (Ev.val (St.loc S₁₈ rfl) fun _ _ => ⟨_, rfl⟩) (by omega)) (Ev.slice_bytes (a := 2 * p) (b := 2 * p + 2) (Ev.val (St.cel S₁₈ (c := L + 1) rfl e1) fun _ _ => ⟨_, rfl⟩)
          (Ev.castI (Ev.mul (a := 2) (b := p) (mul2 _) Ev.int (Ev.val (St.loc S₁₈ rfl) fun _ _ => ⟨_, rfl⟩)) (by simp)) (Ev.castI (Ev.add (a := 2 * p) (b := 2) (Ev.mul (a := 2) (b := p) (mul2 _) Ev.int (Ev.val (St.loc S₁₈ rfl) fun _ _ => ⟨_, rfl⟩)) Ev.int) (by simp)) hx)
          (by rw [List.length_append, List.length_take, List.length_drop]; omega)
      rintro _ s₁₉ ⟨t₁₉, rfl⟩ k₁₉ g₂₀ s₂₀ gk₂₀ tr₂₀ S₂₀
      -- start
      refine wpN_execs_cons (wpN_of (St.assign S₂₀ (P := IsI ((p + 1 : Nat))) (Ev.castI (Ev.add (a := p) (b := 1) (Ev.val (St.loc S₂₀ rfl) fun _ _ => ⟨_, rfl⟩) Ev.int) (by simp)) ?_))
      rintro _ s₂₁ ⟨t₂₁, rfl⟩ k₂₁ g₂₂ s₂₂ gk₂₂ tr₂₂ S₂₂
      have gg := stays_trans gk₁₃ (stays_trans gk₁₅ (stays_trans gk₁₇ (stays_trans gk₂₀ gk₂₂)))
      refine wpN_of (wpAny_execs_nil ?_)
      refine wpN_of (wpAny_execs_nil ⟨⟨_, _, shr S₂₂ gg, e1, ⟨te2, e2⟩, e3, ⟨t₁₉, ?_⟩, t₂₁, ?_⟩, keepI S₂₂ gg⟩)
      · rw [turn, if_pos hb, hpart]; rfl
      · rw [turn, if_pos hb]; rfl
    · have S₁₁ := S₁₀.keeps k₁₁
      refine wpN_of (wpAny_execs_nil ?_)
      refine wpN_of (wpAny_execs_nil ⟨⟨_, _, shr S₁₁ (stays_refl _), e1, ⟨te2, e2⟩, e3, ⟨te4, ?_⟩, te5, ?_⟩, keepI S₁₁ (stays_refl _)⟩)
      · rw [turn, if_neg (by rw [hb]; exact Bool.false_ne_true), hmade]; exact e4
      · rw [turn, if_neg (by rw [hb]; exact Bool.false_ne_true), hstart]; exact e5
  · rintro s' ⟨mm, cm, S', e1, e2, e3, ⟨t, e4⟩, e5⟩
    exact wpN_execs_cons (wpN_of (St.ret S' (P := IsYL (lineL (turnC hi 0 codes))) (Ev.val (St.loc S' e4) fun _ _ => ⟨t, rfl⟩) fun v s₇ p k => ⟨p, k⟩))
end
end Mine
end

section
open PySem PySem.W PyProof.Rows
set_option maxRecDepth 100000
namespace Mine

/-! calls that raise a TypeError -/
/-- the state behind a raise: the exception has passed a frame, what stood in base stands still, all else is as it was but for frames' slots -/
def Thrown (base : Heap) (l : List Env) (s : Shared) (e : Value) (s' : Shared) : Prop :=
  ∃ ea a0 h' tk, e = .ref ea ∧ s' = { s with heap := h', toks := tk } ∧ Heap.FlyingW base l ea (.type "TypeError") a0 h' ∧ s.heap.UpToSlots h'
structure Rz (prog : Program) (w : World) {α : Type} (A : Around) (base h : Heap) (t : Sem α) : Prop where
  go : ∀ (l : List Env) (s : Shared), A.frames = some l → h.StaysIn s.heap → base.StaysIn s.heap → s.heap.FunFrames base l →
    wpAny (model prog w) A t (fun _ _ => False) (fun e s' => Thrown base l s e s') s

theorem frames_keeps {h h' base : Heap} {l : List Env} (k : h.StaysIn h') (x : h.FunFrames base l) : h'.FunFrames base l := x.of_keeps fun b o e _ => ⟨o, k b o e, rfl⟩
theorem Thrown.before {base : Heap} {l : List Env} {s s₁ s' : Shared} {e : Value} (k : Keeps s s₁) (x : Thrown base l s₁ e s') : Thrown base l s e s' := by
  obtain ⟨h₁, t₁, rfl, k⟩ := k
  obtain ⟨ea, a0, h', tk, rfl, rfl, fl, up⟩ := x
  exact ⟨ea, a0, h', tk, rfl, rfl, fl, (Heap.UpToSlots.of_keeps k).trans up⟩

section
variable {prog : Program} {w : World} {mg mb : Str → Option Value} {A : Around} {base h : Heap} {env : Env}

theorem Rz.mono {α : Type} {t : Sem α} {h' : Heap} (x : Rz prog w A base h t) (k : h.StaysIn h') : Rz prog w A base h' t :=
  Rz.mk fun l s hf hs hb hl => x.go l s hf (stays_trans k hs) hb hl
theorem Rz.first {α β : Type} {t : Sem α} {f : α → Sem β} (x : Rz prog w A base h t) : Rz prog w A base h (t >>= f) :=
  Rz.mk fun l s hf hs hb hl => wpAny_bind (wpAny_mono (x.go l s hf hs hb hl) (fun _ _ q => q.elim) fun _ _ q => q)
theorem Rz.bind {α β : Type} {t : Sem α} {f : α → Sem β} {P : α → Heap → Prop} (x : Ev prog w A h t P) (k : ∀ a h', h.StaysIn h' → P a h' → Rz prog w A base h' (f a)) : Rz prog w A base h (t >>= f) :=
  Rz.mk fun l s hf hs hb hl => wpAny_bind (Ev.run x hs fun a s₁ p k₁ => wpAny_mono ((k a s₁.heap (stays_trans hs (keeps_stays k₁)) p).go l s₁ hf (stays_refl _) (stays_trans hb (keeps_stays k₁)) (frames_keeps (keeps_stays k₁) hl))
    (fun _ _ q => q) fun _ _ q => q.before k₁)
theorem Rz.holding {α : Type} {vs : List Value} {t : Sem α} (x : Rz prog w A base h t) : Rz prog w A base h (holding vs t) :=
  Rz.mk fun l s hf hs hb hl => wpAny_holding (x.go l s hf hs hb hl)
theorem Rz.cmp_left {e r : Expr} {op : CmpOp} {rs : List Expr} {ops : List CmpOp} {pos : Pos} (x : Rz prog w A base h (eval e env)) : Rz prog w A base h (eval (.Compare e (op :: ops) (r :: rs) pos) env) := by
  show Rz prog w A base h (eval e env >>= fun v => compareChain pos v (op :: ops) (markedEach (op :: ops) (r :: rs) (evalEach (r :: rs) env)))
  exact x.first
theorem Rz.cmp_next {l r r' : Expr} {op op' : CmpOp} {pos : Pos} {P : Value → Heap → Prop} (hl : Ev prog w A h (eval l env) P) (x : Rz prog w A base h (eval r env))
    (hm : markedEach [op, op'] [r, r'] (evalEach [r, r'] env) = [eval r env, eval r' env] := by rfl) : Rz prog w A base h (eval (.Compare l [op, op'] [r, r'] pos) env) := by
  show Rz prog w A base h (eval l env >>= fun v => compareChain pos v [op, op'] (markedEach [op, op'] [r, r'] (evalEach [r, r'] env)))
  rw [hm]
  refine Rz.bind hl fun v h₁ k₁ _ => ?_
  show Rz prog w A base h₁ (PySem.holding [_] (eval r env) >>= fun rv => standAt pos >>= fun _ => PySem.holding [_, rv] (compareOp op _ rv) >>= fun c => release [_, rv] [c] >>= fun _ => PySem.holding [c, rv] (truthy c) >>= fun tt => if tt = true then compareChain pos rv [op'] [eval r' env] else Pure.pure c)
  exact (Rz.holding (x.mono k₁)).first
theorem Rz.or_first {x y : Expr} {ys : List Expr} {pos : Pos} (hx : Rz prog w A base h (eval x env)) : Rz prog w A base h (eval (.BoolOp .Or (x :: y :: ys) pos) env) := by
  show Rz prog w A base h (boolOp pos .Or (eval x env :: eval y env :: evalEach ys env))
  show Rz prog w A base h (eval x env >>= fun v => standAt pos >>= fun _ => PySem.holding [v] (truthy v) >>= fun t => match BoolOp.Or, t with | .And, false | .Or, true => Pure.pure v | _, _ => boolOp pos .Or (eval y env :: evalEach ys env))
  exact hx.first
theorem Rz.and_first {x y : Expr} {ys : List Expr} {pos : Pos} (hx : Rz prog w A base h (eval x env)) : Rz prog w A base h (eval (.BoolOp .And (x :: y :: ys) pos) env) := by
  show Rz prog w A base h (boolOp pos .And (eval x env :: eval y env :: evalEach ys env))
  show Rz prog w A base h (eval x env >>= fun v => standAt pos >>= fun _ => PySem.holding [v] (truthy v) >>= fun t => match BoolOp.And, t with | .And, false | .Or, true => Pure.pure v | _, _ => boolOp pos .And (eval y env :: evalEach ys env))
  exact hx.first

/-- the def of the name x raises a TypeError when called with vs -/
def RzFn (prog : Program) (w : World) (mg : Str → Option Value) (x : Str) (vs : List Value) (base : Heap) (k : Nat) : Prop :=
  ∃ a o fd, mg x = some (.ref a) ∧ base.get? a = some o ∧ o.data = .func fd ∧ ∀ A, Room k A → Rz prog w A base base (call (.ref a) vs)

theorem Rz.call1 {e : Expr} {p pos : Pos} {x y : Str} {k : Nat} {v : Value} (R : Room k A) (hn : ∀ a, mg x = some (.ref a) → Ev prog w A h (eval (.Name y p) env) (IsV (.ref a))) (he : Ev prog w A h (eval e env) (IsV v)) (hf : RzFn prog w mg x [v] base k)
    (kb : base.StaysIn h) (hs : backTo pos (starEach [e] env) = [(false, eval e env)] := by rfl) : Rz prog w A base h (eval (.Call (.Name y p) [e] [] pos) env) := Rz.mk fun l s hfr hss hb hl => by
  obtain ⟨a, o, fd, h1, h2, h3, h4⟩ := hf
  show wpAny _ _ (do callWith pos (← eval (.Name y p) env) [] (backTo pos (starEach [e] env)) (backToKw pos (keywordEach [] env))) _ _ s
  refine wpAny_bind (Ev.run (hn a h1) hss fun f s₁ hf' k₁ => ?_)
  obtain rfl := hf'
  refine Calls.callWith_function (o := o) (fd := fd) (Ev.run (Ev.args1 he hs) (stays_trans hss (keeps_stays k₁)) fun a' s₂ pa k₂ => ⟨⟨keeps_stays (keeps_trans k₁ k₂) _ _ (hb _ _ h2), h3⟩, ?_⟩)
  obtain ⟨u, rfl, rfl⟩ := pa
  have K := keeps_trans k₁ k₂
  exact wpAny_mono ((h4 A R).go l s₂ hfr (stays_trans hb (keeps_stays K)) (stays_trans hb (keeps_stays K)) (frames_keeps (keeps_stays K) hl)) (fun _ _ q => q.elim) fun _ _ q => q.before K

theorem RzFn.of_body {name : Str} {params : Arguments} {body : List Stmt} {scope : Scope} {pos : Pos} {i : Nat} {vs : List Value} {binds : List (Str × Value)} {k : Nat}
    (G : Gd mg mb base) (hd : (recsOf pw)[i]? = some ⟨name, params, body, scope, pos⟩)
    (hx : ∀ (s : Shared) (A : Around) (L a : Addr) (cd : Value) (l : List Env), Room k A → A.frames = some (envOf name scope L a cd :: l) → Gd mg mb s.heap → s.heap.Ns L (fun x => binds.reverse.lookup x) → base.StaysIn s.heap → s.heap.FunFrames base (envOf name scope L a cd :: l) →
      wpAny (model prog w) A (execs body (envOf name scope L a cd)) (fun _ _ => False) (fun e s' => wpAny (model prog w) A (leaving (envOf name scope L a cd) e) (fun _ s'' => Thrown base l s e s'') (fun _ _ => False) s') s)
    (hbind : ∀ pm cd doc, bindArgs (Calls.docDef name params body scope pm cd doc) ⟨vs, []⟩ = pure binds)
    (hloc : ∀ x ∈ binds, scope.names.lookup x.1 = some .local)
    (hco : scope.isCoroutine = false := by rfl) (hgen : scope.isGenerator = false := by rfl) (hk : scope.kind = .function := by rfl)
    (hcell : ∀ x ∈ scope.names, x.2 ≠ .cell := by decide) : RzFn prog w mg name vs base (k + 1) := by
  obtain ⟨a, o, pm, cd, doc, h1, h2, h3, h4⟩ := G.fn _ (List.mem_of_getElem? hd)
  refine ⟨a, o, _, h1, h2, h3, fun A R => Rz.mk fun l s hfr hs hb hl => wpAny_call ?_⟩
  refine call_plain (by have := R.1; omega) (hs _ _ h2) h3 ((G.nolimit).keeps hs) (h4.keeps hs) (hbind pm cd doc) hloc (fun h₁ F => ?_) hco hgen hk hcell
  have k₁ : s.heap.StaysIn h₁ := F.keep
  have hn : base.get? s.heap.objs.size = none := hb.fresh
  refine wpAny_mono (hx { s with heap := h₁, toks := s.toks + binds.length } _ _ a cd l (R.deeper _) (Around.frames_deeper hfr) (G.keeps (stays_trans hb k₁)) F.ns (stays_trans hb k₁)
    (Heap.FunFrames.cons (by show scope.kind ≠ .module; rw [hk]; decide) rfl F.ns hn (frames_keeps k₁ hl))) (fun _ _ q => q.elim) fun e s' q => ?_
  exact wpAny_mono q (fun _ s'' t => Thrown.before ⟨h₁, _, rfl, k₁⟩ t) fun _ _ q => q.elim
theorem RzFn.of_return {name : Str} {params : Arguments} {e : Expr} {scope : Scope} {rp pos : Pos} {i : Nat} {vs : List Value} {binds : List (Str × Value)} {k : Nat}
    (G : Gd mg mb base) (hd : (recsOf pw)[i]? = some ⟨name, params, [.Return (some e) rp], scope, pos⟩)
    (hx : ∀ (h' : Heap) (A : Around) (L a : Addr) (cd : Value), Room k A → base.StaysIn h' → Gd mg mb h' → h'.Ns L (fun x => binds.reverse.lookup x) → Rz prog w A base h' (eval e (envOf name scope L a cd)))
    (hbind : ∀ pm cd doc, bindArgs (Calls.docDef name params [.Return (some e) rp] scope pm cd doc) ⟨vs, []⟩ = pure binds)
    (hloc : ∀ x ∈ binds, scope.names.lookup x.1 = some .local)
    (hco : scope.isCoroutine = false := by rfl) (hgen : scope.isGenerator = false := by rfl) (hk : scope.kind = .function := by rfl)
    (hcell : ∀ x ∈ scope.names, x.2 ≠ .cell := by decide) : RzFn prog w mg name vs base (k + 1) := by
  refine RzFn.of_body G hd (fun s A L a cd l R hfr G' N hb hl => ?_) hbind hloc hco hgen hk hcell
  refine wpAny_execs_cons (wpAny_Return_some (wpAny_mono ((hx s.heap A L a cd R hb G' N).go _ s hfr (stays_refl _) hb hl) (fun _ _ q => q.elim) fun e' s' t => ?_))
  obtain ⟨ea, a0, h', tk, rfl, rfl, fl, up⟩ := t
  exact wpAny_leaves_onW hfr rfl fl fun h'' fl'' up'' => ⟨ea, a0, h'', tk, rfl, rfl, fl'', up.trans up''⟩
end

/-- a text that is not of one sign -/
inductive BadV : Value → Prop
  | zero (t : Tok) : BadV (.str ⟨#[]⟩ t)
  | two (a b : Nat) (t : Tok) : BadV (.str ⟨#[a, b]⟩ t)
  | six (a b c d e f : Nat) (t : Tok) : BadV (.str ⟨#[a, b, c, d, e, f]⟩ t)
theorem BadV.text {v : Value} (h : BadV v) : ∃ x t, v = .str x t := by cases h <;> exact ⟨_, _, rfl⟩

section
variable {prog : Program} {w : World} {mg mb : Str → Option Value} {A : Around} {base h : Heap} {env : Env}
theorem meets_ord_bad {v : Value} (hv : BadV v) : Meets (Builtin.«ord» ⟨[v], []⟩) (raisesNew "TypeError") := by
  cases hv with
  | zero t => exact Meets.rule (tag := "ord.length") (Meets.raisesMade (msg := s!"ord() expected a character, but string of length {([] : List Nat).length} found") rfl plainExc_TypeError (by decide))
  | two a b t => exact Meets.rule (tag := "ord.length") (Meets.raisesMade (msg := s!"ord() expected a character, but string of length {[a, b].length} found") rfl plainExc_TypeError (by show (Str.ofString s!"ord() expected a character, but string of length {2} found").length ≤ _; decide))
  | six a b c d e f t => exact Meets.rule (tag := "ord.length") (Meets.raisesMade (msg := s!"ord() expected a character, but string of length {[a, b, c, d, e, f].length} found") rfl plainExc_TypeError (by show (Str.ofString s!"ord() expected a character, but string of length {6} found").length ≤ _; decide))
theorem ord_raises {v : Value} {s : Shared} {E : Value → Shared → Prop} {Q : Value → Shared → Prop} (hv : BadV v) (hh : A.handled = none) (h : ∀ h' tk e, Heap.NewExc s.heap h' e "TypeError" → E (.ref e) { s with heap := h', toks := tk }) :
    wpAny (model prog w) A (call (.builtin "ord") [v]) Q E s :=
  call_function_meets F.kind_ord F.plain_ord F.entry_ord (F.args_ord1 _) (meets_ord_bad hv) ⟨hh, h⟩

theorem ctoi_raises {v : Value} (G : Gd mg mb base) (hv : BadV v) : RzFn prog w mg "_ctoi" [v] base 1 := by
  obtain ⟨x, t, e⟩ := hv.text
  refine RzFn.of_body (i := 0) (binds := [("c", v)]) (k := 0) G rfl (fun s A L a cd l R hfr G' N hb hl => ?_) (fun _ _ _ => rfl) (locs rfl)
  refine wpAny_execs_cons (wpAny_If (Ev.run (h := s.heap) (P := IsTrue true) (Ev.testB (Ev.call_builtin (Ev.name_bi G' (by decide) (by boot_fast) (by decide))
      (Ev.args2 (Ev.name_local N rfl) fun _ _ k e => (Ev.name_bi (G'.keeps k) (by decide) (by boot_fast) (by decide)).weak fun _ _ _ e' => And.intro e e') fun a h' k ha => ?_)) (stays_refl _) fun b s' hb' k => ?_))
  · obtain ⟨_, _, rfl, rfl, rfl⟩ := ha
    subst e
    exact Ev.mk fun s _ => IsiPair.str_str ⟨rfl, keeps_refl s⟩
  · obtain rfl := hb'
    refine wpAny_execs_cons (wpAny_Return_some ?_)
    show wpAny _ _ (do callWith _ (← eval (.Name "ord" _) _) [] (backTo _ (starEach [_] _)) (backToKw _ (keywordEach [] _))) _ _ s'
    refine wpAny_bind (Ev.run (h := s.heap) (P := IsV (.builtin "ord")) (Ev.name_bi G' (by decide) (by boot_fast) (by decide)) (keeps_stays k) fun f s₁ hf k₁ => ?_)
    obtain rfl := hf
    refine Calls.callWith_builtin rfl (Ev.run (h := s.heap) (Ev.args1 (P := IsV v) (Ev.name_local N rfl)) (keeps_stays (keeps_trans k k₁)) fun a' s₂ pa k₂ => ?_)
    obtain ⟨u, rfl, rfl⟩ := pa
    refine ord_raises hv R.2.2 fun h' tk e hx => ?_
    have K := keeps_trans (keeps_trans k k₁) k₂
    obtain ⟨H, T, rfl, kk⟩ := K
    obtain ⟨ob, tp, he, hcls, hdat⟩ := hx.there
    have hen : base.get? e = none := by
      cases hq : base.get? e with
      | none => rfl
      | some o' => have := kk e o' (hb e o' hq); rw [hx.new] at this; cases this
    refine wpAny_leaving_firstW hfr ((frames_keeps kk hl).of_keeps fun b o hb _ => ⟨o, hx.keeps b o hb, rfl⟩) rfl he (fun b o hbb => hx.keeps b o (kk b o (hb b o hbb))) hen hdat rfl rfl fun h'' hL => ?_
    obtain ⟨k1, ⟨_, _, k2⟩, k3, k4⟩ := hL
    exact ⟨e, tp, h'', tk, rfl, rfl, ⟨k1, hen, k2, by rw [← hcls]; exact k3⟩, (Heap.UpToSlots.of_keeps kk).trans ((Heap.UpToSlots.of_keeps hx.keeps).trans k4)⟩
end
end Mine
end

section
open PySem PySem.W PyProof.Rows
set_option maxRecDepth 100000
namespace Mine

section
variable {prog : Program} {w : World} {mg mb : Str → Option Value} {A : Around} {base h : Heap} {env : Env} {v : Value}
theorem Rz.ctoi {p q pos : Pos} {m : Str → Option Value} (G : Gd mg mb h) (Gb : Gd mg mb base) (R : Room 1 A) (kb : base.StaysIn h) (hv : BadV v) (hn : h.Ns env.locals m) (hm : m "c" = some v) (hg : env.globals = mainGlobals := by rfl)
    (hk : env.scope.kind = .function := by rfl) (hl : env.kindOf "_ctoi" = some .globalImplicit := by rfl) (hl' : env.kindOf "c" = some .local := by rfl) :
    Rz prog w A base h (eval (.Call (.Name "_ctoi" p) [.Name "c" q] [] pos) env) :=
  Rz.call1 R (fun _ e => Ev.name_global G.g e hg hk hl) (Ev.name_local hn hm hk hl') (ctoi_raises Gb hv) kb
theorem Rz.judge {x : Str} {k : Nat} {p q pos : Pos} {m : Str → Option Value} (G : Gd mg mb h) (R : Room k A) (kb : base.StaysIn h) (hf : RzFn prog w mg x [v] base k) (hn : h.Ns env.locals m) (hm : m "c" = some v) (hg : env.globals = mainGlobals := by rfl)
    (hk : env.scope.kind = .function := by rfl) (hl : env.kindOf x = some .globalImplicit := by rfl) (hl' : env.kindOf "c" = some .local := by rfl) (hd : (x == ("__debug__" : Str)) = false := by decide) :
    Rz prog w A base h (eval (.Call (.Name x p) [.Name "c" q] [] pos) env) :=
  Rz.call1 R (fun _ e => Ev.name_global G.g e hg hk hl hd) (Ev.name_local hn hm hk hl') hf kb

theorem rdigit (G : Gd mg mb base) (hv : BadV v) : RzFn prog w mg "isdigit" [v] base 2 :=
  RzFn.of_return (i := 6) (binds := [("c", v)]) (k := 1) G rfl (fun _ _ _ _ _ R kb G' N => Rz.cmp_next Ev.int (Rz.ctoi G' G R kb hv N rfl)) (fun _ _ _ => rfl) (locs rfl)
theorem rascii (G : Gd mg mb base) (hv : BadV v) : RzFn prog w mg "isascii" [v] base 2 :=
  RzFn.of_return (i := 3) (binds := [("c", v)]) (k := 1) G rfl (fun _ _ _ _ _ R kb G' N => Rz.cmp_next Ev.int (Rz.ctoi G' G R kb hv N rfl)) (fun _ _ _ => rfl) (locs rfl)
theorem rgraph (G : Gd mg mb base) (hv : BadV v) : RzFn prog w mg "isgraph" [v] base 2 :=
  RzFn.of_return (i := 7) (binds := [("c", v)]) (k := 1) G rfl (fun _ _ _ _ _ R kb G' N => Rz.cmp_next Ev.int (Rz.ctoi G' G R kb hv N rfl)) (fun _ _ _ => rfl) (locs rfl)
theorem rlower (G : Gd mg mb base) (hv : BadV v) : RzFn prog w mg "islower" [v] base 2 :=
  RzFn.of_return (i := 8) (binds := [("c", v)]) (k := 1) G rfl (fun _ _ _ _ _ R kb G' N => Rz.cmp_next Ev.int (Rz.ctoi G' G R kb hv N rfl)) (fun _ _ _ => rfl) (locs rfl)
theorem rprint (G : Gd mg mb base) (hv : BadV v) : RzFn prog w mg "isprint" [v] base 2 :=
  RzFn.of_return (i := 9) (binds := [("c", v)]) (k := 1) G rfl (fun _ _ _ _ _ R kb G' N => Rz.cmp_next Ev.int (Rz.ctoi G' G R kb hv N rfl)) (fun _ _ _ => rfl) (locs rfl)
theorem rupper (G : Gd mg mb base) (hv : BadV v) : RzFn prog w mg "isupper" [v] base 2 :=
  RzFn.of_return (i := 12) (binds := [("c", v)]) (k := 1) G rfl (fun _ _ _ _ _ R kb G' N => Rz.cmp_next Ev.int (Rz.ctoi G' G R kb hv N rfl)) (fun _ _ _ => rfl) (locs rfl)
theorem rctrl (G : Gd mg mb base) (hv : BadV v) : RzFn prog w mg "isctrl" [v] base 2 :=
  RzFn.of_return (i := 14) (binds := [("c", v)]) (k := 1) G rfl (fun _ _ _ _ _ R kb G' N => Rz.cmp_next Ev.int (Rz.ctoi G' G R kb hv N rfl)) (fun _ _ _ => rfl) (locs rfl)
theorem rmeta (G : Gd mg mb base) (hv : BadV v) : RzFn prog w mg "ismeta" [v] base 2 :=
  RzFn.of_return (i := 15) (binds := [("c", v)]) (k := 1) G rfl (fun _ _ _ _ _ R kb G' N => Rz.cmp_left (Rz.ctoi G' G R kb hv N rfl)) (fun _ _ _ => rfl) (locs rfl)
theorem rblank (G : Gd mg mb base) (hv : BadV v) : RzFn prog w mg "isblank" [v] base 2 :=
  RzFn.of_return (i := 4) (binds := [("c", v)]) (k := 1) G rfl (fun _ _ _ _ _ R kb G' N => Rz.cmp_left (Rz.ctoi G' G R kb hv N rfl)) (fun _ _ _ => rfl) (locs rfl)
theorem rspace (G : Gd mg mb base) (hv : BadV v) : RzFn prog w mg "isspace" [v] base 2 :=
  RzFn.of_return (i := 11) (binds := [("c", v)]) (k := 1) G rfl (fun _ _ _ _ _ R kb G' N => Rz.cmp_left (Rz.ctoi G' G R kb hv N rfl)) (fun _ _ _ => rfl) (locs rfl)
theorem rcntrl (G : Gd mg mb base) (hv : BadV v) : RzFn prog w mg "iscntrl" [v] base 2 :=
  RzFn.of_return (i := 5) (binds := [("c", v)]) (k := 1) G rfl (fun _ _ _ _ _ R kb G' N => Rz.or_first (Rz.cmp_next Ev.int (Rz.ctoi G' G R kb hv N rfl))) (fun _ _ _ => rfl) (locs rfl)
theorem ralpha (G : Gd mg mb base) (hv : BadV v) : RzFn prog w mg "isalpha" [v] base 3 :=
  RzFn.of_return (i := 2) (binds := [("c", v)]) (k := 2) G rfl (fun _ _ _ _ _ R kb G' N => Rz.or_first (Rz.judge G' R kb (rupper G hv) N rfl)) (fun _ _ _ => rfl) (locs rfl)
theorem ralnum (G : Gd mg mb base) (hv : BadV v) : RzFn prog w mg "isalnum" [v] base 4 :=
  RzFn.of_return (i := 1) (binds := [("c", v)]) (k := 3) G rfl (fun _ _ _ _ _ R kb G' N => Rz.or_first (Rz.judge G' R kb (ralpha G hv) N rfl)) (fun _ _ _ => rfl) (locs rfl)
theorem rpunct (G : Gd mg mb base) (hv : BadV v) : RzFn prog w mg "ispunct" [v] base 3 :=
  RzFn.of_return (i := 10) (binds := [("c", v)]) (k := 2) G rfl (fun _ _ _ _ _ R kb G' N => Rz.and_first (Rz.judge G' R kb (rgraph G hv) N rfl)) (fun _ _ _ => rfl) (locs rfl)
theorem rxdigit (G : Gd mg mb base) (hv : BadV v) : RzFn prog w mg "isxdigit" [v] base 3 :=
  RzFn.of_return (i := 13) (binds := [("c", v)]) (k := 2) G rfl (fun _ _ _ _ _ R kb G' N => Rz.or_first (Rz.judge G' R kb (rdigit G hv) N rfl)) (fun _ _ _ => rfl) (locs rfl)
theorem RzFn.le {x : Str} {vs : List Value} {k k' : Nat} (h : RzFn prog w mg x vs base k) (hk : k ≤ k') : RzFn prog w mg x vs base k' :=
  let ⟨a, o, fd, h1, h2, h3, h4⟩ := h; ⟨a, o, fd, h1, h2, h3, fun A R => h4 A (R.le hk)⟩
def judges : List Str := ["isalnum", "isalpha", "isascii", "isblank", "iscntrl", "isdigit", "isgraph", "islower", "isprint", "ispunct", "isspace", "isupper", "isxdigit", "isctrl", "ismeta"]
theorem judges_raise (G : Gd mg mb base) (hv : BadV v) : ∀ x ∈ judges, RzFn prog w mg x [v] base 4 := by
  intro x hx
  simp only [judges, List.mem_cons, List.not_mem_nil, or_false] at hx
  rcases hx with rfl | rfl | rfl | rfl | rfl | rfl | rfl | rfl | rfl | rfl | rfl | rfl | rfl | rfl | rfl
  · exact ralnum G hv
  · exact (ralpha G hv).le (by decide)
  · exact (rascii G hv).le (by decide)
  · exact (rblank G hv).le (by decide)
  · exact (rcntrl G hv).le (by decide)
  · exact (rdigit G hv).le (by decide)
  · exact (rgraph G hv).le (by decide)
  · exact (rlower G hv).le (by decide)
  · exact (rprint G hv).le (by decide)
  · exact (rpunct G hv).le (by decide)
  · exact (rspace G hv).le (by decide)
  · exact (rupper G hv).le (by decide)
  · exact (rxdigit G hv).le (by decide)
  · exact (rctrl G hv).le (by decide)
  · exact (rmeta G hv).le (by decide)
end
end Mine
end

section
open PySem PySem.W PyProof.Rows
set_option maxRecDepth 100000
namespace Mine

theorem boot_te : bootBuiltins ("TypeError" : Str) = some (.type "TypeError") := by kernel_rfl

theorem upto_step {h₀ g' : Heap} {sx s₁ s₂ : Shared} {env : Env} (hU : h₀.UpToSlots sx.heap) (k : Keeps sx s₁) (tr : ∀ a o, s₁.heap.get? a = some o → ¬ Own env a → g'.get? a = some o) (imm : g'.StaysIn s₂.heap)
    (hO : ∀ a, Own env a → h₀.get? a = none) : h₀.UpToSlots s₂.heap := fun b o e hn => by
  obtain ⟨sl, e1⟩ := hU b o e hn
  exact ⟨sl, imm _ _ (tr b _ (keeps_stays k _ _ e1) fun q => by rw [hO b q] at e; cases e)⟩
theorem upto_but {h₀ h₁ h₂ : Heap} {L : Addr} (hU : h₀.UpToSlots h₁) (sb : Heap.SameBut L h₁ h₂) (hO : h₀.get? L = none) : h₀.UpToSlots h₂ := fun b o e hn => by
  obtain ⟨sl, e1⟩ := hU b o e hn
  exact ⟨sl, sb.extBut b _ (fun q => by rw [q, hO] at e; cases e) e1⟩
theorem frames_upto {h h' base : Heap} {l : List Env} (k : h.UpToSlots h') (x : h.FunFrames base l) : h'.FunFrames base l := x.of_keeps fun b o e hn => by
  obtain ⟨sl, e1⟩ := k b o e hn
  exact ⟨_, e1, rfl⟩
/-- the state behind a call whose callees raised: as it was but for frames' slots -/
def Slotted (base : Heap) (s s' : Shared) : Prop := ∃ h' tk, s' = { s with heap := h', toks := tk } ∧ base.StaysIn h' ∧ s.heap.UpToSlots h'

section
variable {prog : Program} {w : World} {mg mb : Str → Option Value} {A : Around} {base h : Heap} {env : Env} {v : Value}

theorem Ev.newLF {vs : List Value} {P : Value → Heap → Prop} (hl : vs.length ≤ sizeLine) (hp : ∀ a h', h.StaysIn h' → h.get? a = none → h'.IsList a vs.toArray → P (.ref a) h') : Ev prog w A h (newList vs) P := Ev.mk fun s hs =>
  wpAny_newObj_type ⟨hp _ _ (stays_trans hs (keeps_stays (keeps_push s _))) (not_of_stays hs (fresh_size _)) ⟨_, Heap.get?_push_size _ rfl, rfl, _, rfl⟩, keeps_push s _⟩ (by show vs.toArray.size ≤ sizeLine; rw [List.size_toArray]; exact hl)
abbrev IsFn (mg : Str → Option Value) (x : Str) (v : Value) : Prop := ∃ a, v = .ref a ∧ mg x = some (.ref a)
theorem Ev.fs_nil {pos : Pos} : Ev prog w A h (spliced (backTo pos (starEach [] env))) (fun vs _ => All2 (IsFn mg) [] vs) := Ev.spl_nil.weak fun _ _ _ e => e ▸ .nil
theorem Ev.fs {pos p : Pos} {x : Str} {es : List Expr} {xs : List Str} (G : Gd mg mb h) (hx : ∃ a, mg x = some (.ref a)) (hr : Ev prog w A h (spliced (backTo pos (starEach es env))) (fun vs _ => All2 (IsFn mg) xs vs))
    (hg : env.globals = mainGlobals := by rfl) (hk : env.scope.kind = .function := by rfl) (hl : env.kindOf x = some .globalImplicit := by rfl) (hd : (x == ("__debug__" : Str)) = false := by decide)
    (hs : starEach (.Name x p :: es) env = (false, eval (.Name x p) env) :: starEach es env := by rfl) : Ev prog w A h (spliced (backTo pos (starEach (.Name x p :: es) env))) (fun vs _ => All2 (IsFn mg) (x :: xs) vs) := by
  rw [hs]
  obtain ⟨a, ha⟩ := hx
  exact (Ev.spl_cons (R := fun v vs _ => v = .ref a ∧ All2 (IsFn mg) xs vs) (Ev.name_global G.g ha hg hk hl hd) fun v h' k hv => (hr.mono k).weak fun _ _ _ e => ⟨hv, e⟩).weak fun vs _ _ e => by
    obtain ⟨v, vs', rfl, rfl, y⟩ := e
    exact .cons ⟨a, rfl, ha⟩ y
theorem Gd.ref {name : Str} {params : Arguments} {body : List Stmt} {scope : Scope} {pos : Pos} (i : Nat) (G : Gd mg mb h) (hd : (recsOf pw)[i]? = some ⟨name, params, body, scope, pos⟩) : ∃ a, mg name = some (.ref a) := by
  obtain ⟨a, _, _, e, _⟩ := G.at hd
  exact ⟨a, e⟩

theorem hide_frames {A' : Around} {env' : Env} {l : List Env} {H : Heap} {L : Addr} {m : Str → Option Value} (hfr : A'.frames = some (env' :: l)) (hf : env'.frame = some L) (hk : env'.scope.kind ≠ .module) (hn : H.Ns L m) (hLb : base.get? L = none) (hl : H.FunFrames base l) (hb : base.StaysIn H) :
    ∃ B, base.StaysIn B ∧ B.StaysIn H ∧ H.FunFrames B (env' :: l) ∧ ∀ b o, H.get? b = some o → b ≠ L → b ∉ l.filterMap (·.frame) → B.get? b = some o := by
  have hFF : H.FunFrames base (env' :: l) := Heap.FunFrames.cons hk hf hn hLb hl
  refine ⟨hideAll H ((env' :: l).filterMap (·.frame)), fun b o e => hideAll_get _ (hb b o e) fun hm => ?_, fun b o e => of_hideAll _ e, funFrames_hide hFF fun env he b hb => List.mem_filterMap.mpr ⟨env, he, hb⟩, fun b o e n1 n2 => hideAll_get _ e fun hm => ?_⟩
  · rw [(hFF.mem hm).1] at e; cases e
  · rw [List.filterMap_cons, hf] at hm
    exact (List.mem_cons.mp hm).elim n1 n2
/-- the def of the name x, called with vs, ends in P; its callees may raise: base stands still, all else stays but for frames' slots -/
def FnS (prog : Program) (w : World) (mg : Str → Option Value) (x : Str) (vs : List Value) (base : Heap) (k : Nat) (P : Value → Prop) : Prop :=
  ∃ a o fd, mg x = some (.ref a) ∧ base.get? a = some o ∧ o.data = .func fd ∧ ∀ (A : Around) (l : List Env) (s : Shared), Room k A → A.frames = some l → base.StaysIn s.heap → s.heap.FunFrames base l →
      wpAny (model prog w) A (call (.ref a) vs) (fun r s' => P r ∧ Slotted base s s') (fun _ _ => False) s
theorem FnS.of_body {name : Str} {params : Arguments} {body : List Stmt} {scope : Scope} {pos : Pos} {i : Nat} {vs : List Value} {binds : List (Str × Value)} {k : Nat} {P : Value → Prop}
    (G : Gd mg mb base) (hd : (recsOf pw)[i]? = some ⟨name, params, body, scope, pos⟩)
    (hx : ∀ (s s₁ : Shared) (A : Around) (L a : Addr) (cd : Value) (l : List Env), Room k A → A.frames = some (envOf name scope L a cd :: l) → s.heap.get? L = none → base.get? L = none → base.StaysIn s.heap → s.heap.FunFrames base l →
      St { s with heap := base } (envOf name scope L a cd) (fun x => binds.reverse.lookup x) (fun _ => none) base s₁ → s.heap.UpToSlots s₁.heap →
      wpAny (model prog w) A (execs body (envOf name scope L a cd)) (fun f s' => P (match f with | .ret v => v | _ => .none) ∧ Slotted base s s') (fun _ _ => False) s₁)
    (hbind : ∀ pm cd doc, bindArgs (Calls.docDef name params body scope pm cd doc) ⟨vs, []⟩ = pure binds)
    (hloc : ∀ x ∈ binds, scope.names.lookup x.1 = some .local)
    (hco : scope.isCoroutine = false := by rfl) (hgen : scope.isGenerator = false := by rfl) (hk : scope.kind = .function := by rfl)
    (hcell : ∀ x ∈ scope.names, x.2 ≠ .cell := by decide) : FnS prog w mg name vs base (k + 1) P := by
  obtain ⟨a, o, pm, cd, doc, h1, h2, h3, h4⟩ := G.fn _ (List.mem_of_getElem? hd)
  refine ⟨a, o, _, h1, h2, h3, fun A l s R hfr hb hl => wpAny_call ?_⟩
  refine call_plain_ret (by have := R.1; omega) (hb _ _ h2) h3 ((G.nolimit).keeps hb) (h4.keeps hb) (hbind pm cd doc) hloc (fun h₁ F => ?_) hco hgen hk hcell
  exact hx s _ _ _ a cd l (R.deeper _) (Around.frames_deeper hfr) (fresh_size _) hb.fresh hb hl
    ⟨⟨h₁, _, rfl⟩, stays_refl _, stays_trans hb F.keep, F.ns, fun n c e => (by cases e), hb.fresh, fun n c e => (by cases e), List.Pairwise.nil, fun n c e => (by cases e)⟩ (Heap.UpToSlots.of_keeps F.keep)

theorem refusals_ok (G : Gd mg mb base) (hv : BadV v) : FnS prog w mg "_law_refusals" [v] base 5 (fun r => ∃ t, r = .int 15 t) := by
  refine FnS.of_body (i := 20) (binds := [("text", v)]) (k := 4) G rfl (fun s s₁ A' L a cd l R' hfr' hLs hLb hb hl S hU => ?_) (fun _ _ _ => rfl) (locs rfl)
  have hown : ∀ {scope : Scope} {b : Addr}, Own (envOf "_law_refusals" scope L a cd) b → b = L := fun q => by
    rcases q with q | ⟨n, q⟩
    · exact q
    · cases q
  have hfrm : ∀ b, b ∈ l.filterMap (·.frame) → base.get? b = none ∧ ∃ o, s.heap.get? b = some o ∧ ∀ vs, o.data ≠ .fields vs := fun b hm => hl.mem hm
  -- count
  refine wpAny_execs_cons (St.assign S (P := IsI 0) Ev.int ?_)
  rintro _ s₂ ⟨t₂, rfl⟩ k₂ g₃ s₃ gk₃ tr₃ S₃
  have hU₃ : s.heap.UpToSlots s₃.heap := upto_step hU k₂ tr₃ S₃.imm fun b q => (hown q) ▸ hLs
  have S₃' := S₃.shrink gk₃ (stays_refl base)
  have up : ∀ {m cm g s'} {scope : Scope}, St { s with heap := base } (envOf "_law_refusals" scope L a cd) m cm g s' → base.StaysIn s'.heap := fun S' => stays_trans S'.base S'.imm
  have G₃ := G.keeps (up S₃')
  -- the loop
  refine wpAny_execs_cons (exec_for (n := 15) (P := fun i v => ∃ x vs, judges[i]? = some x ∧ IsFn mg x vs ∧ v = vs)
    (Pv := fun v h' => ∃ D vs, v = .ref D ∧ s₃.heap.get? D = none ∧ h'.IsList D vs.toArray ∧ All2 (IsFn mg) judges vs) ?_ (fun v h' k hv => ?_) ?_)
  · show Ev prog w A' s₃.heap (standAt _ >>= fun _ => spliced (backTo _ (starEach _ _)) >>= fun vs => newList vs) _
    refine Ev.at (Ev.bind (P := fun vs _ => All2 (IsFn mg) judges vs) ?_ fun vs h' k i => Ev.newLF ?_ fun D h₂ k₂ nw l => ⟨D, vs, rfl, not_of_stays k nw, l, i⟩)
    · refine Ev.fs G₃ (G₃.ref 1 rfl) (Ev.fs G₃ (G₃.ref 2 rfl) (Ev.fs G₃ (G₃.ref 3 rfl) (Ev.fs G₃ (G₃.ref 4 rfl) (Ev.fs G₃ (G₃.ref 5 rfl) (Ev.fs G₃ (G₃.ref 6 rfl) (Ev.fs G₃ (G₃.ref 7 rfl) (Ev.fs G₃ (G₃.ref 8 rfl) (Ev.fs G₃ (G₃.ref 9 rfl) (Ev.fs G₃ (G₃.ref 10 rfl)
        (Ev.fs G₃ (G₃.ref 11 rfl) (Ev.fs G₃ (G₃.ref 12 rfl) (Ev.fs G₃ (G₃.ref 13 rfl) (Ev.fs G₃ (G₃.ref 14 rfl) (Ev.fs G₃ (G₃.ref 15 rfl) Ev.fs_nil))))))))))))))
    · rw [← i.length]; exact Nat.le_of_ble_eq_true rfl
  · obtain ⟨D, vs, rfl, nw, hD, hall⟩ := hv
    have W := ItOk.list (prog := prog) (w := w) R'.2.2 hD
    rw [List.size_toArray, ← hall.length] at W
    refine fun s Q E hs k => W s Q E hs fun I fp St s₂ hI W' hst hfp hIo hfv k₂ => k I fp St s₂ hI ⟨W'.sub, W'.frame, fun i s Q E hi st hQ => W'.item i s Q E hi st fun v h' tk hP => hQ v h' tk ?_, W'.done, W'.self⟩ hst hfp hIo hfv k₂
    have hx : judges[i]? = some (judges[i]'hi) := List.getElem?_eq_getElem hi
    obtain ⟨u, hu, hf⟩ := hall.get hx
    refine ⟨_, u, hx, hf, ?_⟩
    rw [List.getElem?_toArray, hu] at hP
    exact (Option.some.inj hP).symm
  intro xv I fp s₄ k₄ hI hsrc
  have S₄ := S₃'.keeps k₄
  have hU₄ : s.heap.UpToSlots s₄.heap := hU₃.trans (Heap.UpToSlots.of_keeps (keeps_stays k₄))
  have hL₃ : ∃ o, s₃.heap.get? L = some o := by obtain ⟨o, _, _, ho, _⟩ := S₃'.ns; exact ⟨o, ho⟩
  have hfp : ∀ b ∈ fp, b ≠ L ∧ b ∉ l.filterMap (·.frame) := by
    obtain ⟨s', _, ⟨D, vs, rfl, nw, _⟩, _, _, hf⟩ := hsrc
    have key : ∀ b, s₃.heap.get? b = none → b ≠ L ∧ b ∉ l.filterMap (·.frame) := fun b nb => by
      refine ⟨fun q => ?_, fun hm => ?_⟩
      · obtain ⟨o, ho⟩ := hL₃
        rw [q, ho] at nb; cases nb
      · obtain ⟨_, o, ho, hn⟩ := hfrm b hm
        obtain ⟨sl, e1⟩ := hU₃ b o ho hn
        rw [nb] at e1; cases e1
    intro b hb
    rcases hf b hb with rfl | ⟨q, _⟩
    · exact key _ hI
    · cases q
      exact key _ nw
  have nI : I ≠ L := fun q => by obtain ⟨o, ho⟩ := hL₃; rw [← q, hI] at ho; cases ho
  refine ⟨fun i s' => ∃ m, StLike S m (fun _ => none) base s' ∧ m "text" = some v ∧ (∃ t, m "count" = some (.int (i : Nat) t)) ∧ s.heap.UpToSlots s'.heap, ?_, ?_, ?_, ?_⟩
  · exact ⟨_, S₄, rfl, ⟨_, rfl⟩, hU₄⟩
  · rintro i s' h' tk ⟨m, S', e1, e2, hU'⟩ kk
    refine ⟨m, S'.turn (not_of_stays S₃'.imm hI) (fun q => nI (hown q)) kk, e1, e2, fun b o e hn => ?_⟩
    obtain ⟨sl, e'⟩ := hU' b o e hn
    refine ⟨sl, kk b _ (fun q => ?_) e'⟩
    obtain ⟨sl', e3⟩ := hU₃ b o e hn
    rw [q, hI] at e3; cases e3
  · rintro i jv s₅ hi ⟨x, _, hx, ⟨aj, rfl, hmx⟩, rfl⟩ ⟨m, S₅, e1, ⟨te, e2⟩, hU₅⟩ _
    refine wpAny_assign_Name (S₅.store_local rfl rfl fun s₆ S₆ sb => ?_)
    have hU₆ : s.heap.UpToSlots s₆.heap := upto_but hU₅ sb hLs
    obtain ⟨B, bB, Bs, hFB, inB⟩ := hide_frames hfr' rfl (by intro q; cases q) S₆.ns hLb (frames_upto hU₆ hl) (up S₆)
    have GB := G.keeps bB
    refine wpAny_execs_cons (wpAny_Try_except (wpAny_execs_cons (wpAny_Expr_any (wpAny_mono ((Rz.call1 (mg := mg) (x := x) (k := 4) (v := v) R' ?_ (St.loc (x := "text") S₆ e1) ?_ Bs).go _ s₆ hfr' (stays_refl _) Bs hFB) (fun _ _ q => q.elim) fun e s₇ t => ?_))))
    · intro aj' e'
      rw [hmx] at e'
      cases e'
      exact St.loc (x := "judge") S₆ rfl
    · exact judges_raise GB hv x (List.mem_of_getElem? hx)
    obtain ⟨ea, a0, h', tk, rfl, rfl, fl, up₇⟩ := t
    refine wpAny_looks_onW hfr' rfl fl fun h₄ held up₄ => wpAny_landsW held fun h₅ fl₅ up₅ => ?_
    obtain ⟨ob, hob, hobc⟩ := fl₅.there
    have G₅ := GB.keeps fl₅.1
    refine wpAny_handleBy_builtin (X := "TypeError") (T := "TypeError") (b := true) F.isExc_TypeError F.notTuple_TypeError F.self_TypeError
      (Calls.Name_function_global rfl rfl (Calls.loadGlobal_builtin G₅.g (G₅.free _ (by decide)) G₅.b ((G₅.bi _ (by decide)).trans boot_te) ⟨rfl, ⟨ob, hob, hobc⟩, ?_⟩))
    rw [if_pos rfl]
    refine wpAny_setFlight_noneW fl₅.1 fl₅.2.2.1 fl₅.2.2.2 fun h₆ k1 k2 k3 k4 => ?_
    have upA : s₆.heap.UpToSlots h₆ := up₇.trans (up₄.trans (up₅.trans fun b o e hn => ⟨o.slots, k4 b o e hn⟩))
    have S₇ : StLike S (upd m "judge" (.ref aj)) (fun _ => none) base { s₆ with heap := h₆, toks := tk } := by
      obtain ⟨H, T, q⟩ := S₆.same
      exact ⟨⟨h₆, tk, by rw [q]⟩, S₆.base, stays_trans bB k1, upA.ns S₆.ns, fun n c e => (by cases e), hLb, fun n c e => (by cases e), List.Pairwise.nil, fun n c e => (by cases e)⟩
    refine wpAny_execs_cons (St.assign S₇ (P := IsI ((i + 1 : Nat))) (Ev.castI (Ev.add (a := i) (b := 1) (Ev.val (St.loc S₇ e2) fun _ _ => ⟨_, rfl⟩) Ev.int) (by simp)) ?_)
    rintro _ s₈ ⟨t₈, rfl⟩ k₈ g₉ s₉ gk₉ tr₉ S₉
    refine wpAny_execs_nil (wpAny_execs_nil ⟨⟨_, S₉.shrink gk₉ (stays_refl base), e1, ⟨t₈, rfl⟩, upto_step (hU₆.trans upA) k₈ tr₉ S₉.imm fun b q => (hown q) ▸ hLs⟩, ?_⟩)
    intro b hb o ho
    obtain ⟨n1, n2⟩ := hfp b hb
    exact S₉.imm _ _ (tr₉ b o (keeps_stays k₈ b o (k1 b o (inB b o (sb.extBut b o n1 ho) n1 n2))) fun q => n1 (hown q))
  · rintro s' ⟨m, S', e1, ⟨t, e2⟩, hU'⟩
    refine wpAny_execs_cons (wpAny_Return_some (Ev.run (P := IsI 15) (Ev.val (St.loc S' e2) fun _ _ => ⟨t, rfl⟩) (stays_refl _) fun r s'' hr k => ⟨hr, ?_⟩))
    obtain ⟨H, T, rfl⟩ := S'.same
    obtain ⟨H', T', rfl, kk⟩ := k
    exact ⟨H', T', rfl, stays_trans (up S') kk, hU'.trans (Heap.UpToSlots.of_keeps kk)⟩
end
end Mine
end

section
open PySem PySem.W PyProof.Rows PySem.Spec PySem.Calls PyProof.V PySem.SeqAt
set_option maxRecDepth 100000
namespace Mine

theorem boot_sum' : bootBuiltins ("sum" : Str) = some (.builtin "sum") := by kernel_rfl
theorem boot_chr' : bootBuiltins ("chr" : Str) = some (.builtin "chr") := by kernel_rfl

section
variable {prog : Program} {w : World} {mg mb : Str → Option Value} {A : Around} {h : Heap} {env : Env}

/-! sums of ints -/
theorem Ev.sum_list {a : Addr} {vs : List Value} {ns : List Int} (hh : A.handled = none) (hl : h.IsList a vs.toArray) (hi : IntsAre vs ns) (hx : ∀ x ∈ ns, -(2 ^ 40) ≤ x ∧ x ≤ 2 ^ 40) (hn : ns.length ≤ 100) :
    Ev prog w A h (call (.builtin "sum") [.ref a]) (IsI ns.sum) := Ev.mk fun s hs => by
  have hl' := isList_up hl hs
  obtain ⟨xs, e⟩ := hi.allInts.items
  have hns : ns = xs.toList.map (·.1) := by rw [← hi.numsOf, ← nums_intItems, ← e]
  have hfit : PyProof.Rows.SumFits ns := PyProof.Rows.sumFits_small hx (by omega)
  have hlen : ns.length = xs.size := by rw [hns, List.length_map, Array.length_toList]
  have hnum : numAt xs = fun i => ns.getD i 0 := by funext i; rw [numAt_eq, ← hns]
  rw [e] at hl'
  refine sum_intList hh hl' (fun j hj => ?_) fun h' tk t' hk => ⟨⟨t', ?_⟩, ⟨h', tk, rfl, hk⟩⟩
  · have := hfit j (by omega)
    rw [hnum, PyProof.Rows.preSum_getD]
    exact this
  · rw [hnum, PyProof.Rows.preSum_getD, ← hlen, List.take_length]
theorem Ev.bsum {e : Expr} {p pos : Pos} {ns : List Int} (G : Gd mg mb h) (hh : A.handled = none) (he : Ev prog w A h (eval e env) (IsIL ns)) (hx : ∀ x ∈ ns, -(2 ^ 40) ≤ x ∧ x ≤ 2 ^ 40) (hn : ns.length ≤ 100)
    (hg : env.globals = mainGlobals := by rfl) (heb : env.builtins = builtinsNs := by rfl) (hk : env.scope.kind = .function := by rfl) (hn' : env.kindOf "sum" = some .globalImplicit := by rfl) (hs : backTo pos (starEach [e] env) = [(false, eval e env)] := by rfl) :
    Ev prog w A h (eval (.Call (.Name "sum" p) [e] [] pos) env) (IsI ns.sum) :=
  Ev.call_builtin (Ev.name_bi G (by decide) boot_sum' (by decide) hg heb hk hn') (Ev.args1 he hs) (fun a h' k ha => by
    obtain ⟨v, rfl, b, vs, rfl, l, i⟩ := ha
    exact Ev.sum_list hh l i hx hn) (by rw [hs]; rfl)

/-! slices of lists of ints, wherever their ends lie -/
theorem Ev.slice_intsU {value : Expr} {u : Expr} {p pos : Pos} {b : Nat} {ns : List Int} (hv : Ev prog w A h (eval value env) (IsIL ns)) (hu : Ev prog w A h (eval u env) (IsI b)) (hn : ns.length ≤ sizeLine) :
    Ev prog w A h (eval (.Subscript value (.Slice none (some u) none p) pos) env) (IsIL (ns.take b)) :=
  Ev.list_slice hv (Ev.slice Ev.part_none (Ev.part_some hu) Ev.part_none) (fun o h₁ h₂ k x => IsIL.up x k) fun o h' x => by
    obtain ⟨c, vs, rfl, hc, i⟩ := x
    refine ⟨c, vs, rfl, hc, by rw [i.length]; exact hn, fun d h₂ _ _ hd => ?_⟩
    rw [slicePick_upto'] at hd
    exact ⟨d, _, rfl, hd, ints_take i _⟩
/-- ns[-1] -/
theorem Ev.item_last {value slice : Expr} {pos : Pos} {ns : List Int} {n : Int} (hv : Ev prog w A h (eval value env) (IsIL (ns ++ [n]))) (hi : Ev prog w A h (eval slice env) (IsI (-1)))
    (hs : ∀ l u, subscripted slice false (.ref l) (.int (-1) u) = PySem.operate [.ref l, .int (-1) u] (getItem (.ref l) (.int (-1) u)) := by intro _ _; with_unfolding_all rfl) : Ev prog w A h (eval (.Subscript value slice pos) env) (IsI n) :=
  Ev.subscript hv (R := fun o i h' => IsIL (ns ++ [n]) o h' ∧ ∃ t, i = .int (-1) t) (fun o h' kk p => ((hi.mono kk)).weak fun i h'' k2 q => ⟨IsIL.up p k2, q⟩) fun o i h' kk r => Ev.mk fun s hss => by
    obtain ⟨⟨l, vs, rfl, hl, is⟩, t, rfl⟩ := r
    have len : vs.length = ns.length + 1 := by rw [is.length, List.length_append, List.length_singleton]
    obtain ⟨u, hu⟩ := ints_get is (k := ns.length) (n := n) (by simp)
    have hl' := isList_up hl hss
    refine tail_any hl'.typeIs slot_list_getitem.lookup (wpAny_getItem_list_neg hl' (by decide) (by rw [List.size_toArray]; omega) (by decide) (x := .int n u) ?_ ⟨⟨u, rfl⟩, keeps_refl s⟩) (hs l t)
    rw [List.size_toArray, len, List.getElem?_toArray, show ((-1 : Int) + ((ns.length + 1 : Nat) : Int)).toNat = ns.length by omega]
    exact hu
/-! two lists of ints compared -/
theorem readsAll_ints {h : Heap} {vs : List Value} {ns : List Int} (i : IntsAre vs ns) : ReadsAll h vs (ns.map PyData.int) [] := by
  induction i with
  | nil => exact .nil
  | cons n t r ih => simpa using ReadsAll.cons (.int n t) ih
theorem canLay_ints : ∀ ns : List Int, PyData.canLayAll0 (ns.map PyData.int) = true
  | [] => by simp [PyData.canLayAll0]
  | n :: r => by simp [PyData.canLayAll0, PyData.canLay0, canLay_ints r]
theorem depth_ints : ∀ ns : List Int, PyData.depthAll (ns.map PyData.int) ≤ 1
  | [] => by simp [PyData.depthAll]
  | n :: r => by have := depth_ints r; simp only [List.map_cons, PyData.depthAll, PyData.depth]; omega
theorem shaped_ints (ns : List Int) : shaped (.list (ns.map PyData.int)) = true := by
  have h1 := depth_ints ns
  have h2 : PyData.depth (.list (ns.map PyData.int)) ≤ 64 := by simp only [PyData.depth]; omega
  show (PyData.canLay0 (.list (ns.map PyData.int)) && decide (PyData.depth (.list (ns.map PyData.int)) ≤ 64)) = true
  rw [Bool.and_eq_true]
  exact ⟨by simp only [PyData.canLay0]; exact canLay_ints ns, decide_eq_true h2⟩
theorem noMix_ints : ∀ ns ms : List Int, noMixAll (ns.map PyData.int) (ms.map PyData.int) = true
  | [], [] => by simp [noMixAll]
  | [], _ :: _ => by simp [noMixAll]
  | _ :: _, [] => by simp [noMixAll]
  | _ :: r, _ :: q => by simp [noMixAll, noMix, noMix_ints r q]
theorem same_ints : ∀ ns ms : List Int, PySem.Spec.sameAll (ns.map PyData.int) (ms.map PyData.int) = decide (ns = ms)
  | [], [] => by simp [PySem.Spec.sameAll]
  | [], _ :: _ => by simp [PySem.Spec.sameAll]
  | _ :: _, [] => by simp [PySem.Spec.sameAll]
  | n :: r, k :: q => by
    simp only [List.map_cons, PySem.Spec.sameAll, PySem.Spec.same, same_ints r q]
    by_cases h : n = k <;> simp [h]
theorem reads_ints {h : Heap} {a : Addr} {vs : List Value} {ns : List Int} (hl : h.IsList a vs.toArray) (i : IntsAre vs ns) : Reads h (.ref a) (.list (ns.map PyData.int)) [a] := by
  obtain ⟨o, ho, hc, n, hd⟩ := hl
  exact Reads.list ho hc hd (by simpa using readsAll_ints i)
theorem Ev.eq_ints {a b : Addr} {vs us : List Value} {ns ms : List Int} (ha : h.IsList a vs.toArray) (hb : h.IsList b us.toArray) (i : IntsAre vs ns) (j : IntsAre us ms) (hu : A.units + 64 < cLine) : Ev prog w A h (compareOp .Eq (.ref a) (.ref b)) (IsB (decide (ns = ms))) := Ev.mk fun s hs =>
  eq_dataH_same (reads_ints (isList_up ha hs) i) (reads_ints (isList_up hb hs) j) (shaped_ints ns) (shaped_ints ms) hu (by simp only [noMix]; exact noMix_ints ns ms) (by simp only [PySem.Spec.same]; rw [same_ints]; exact ⟨rfl, keeps_refl s⟩)

/-! texts -/
theorem strs_at {vs : List Value} {ys : List Str} : All2 (fun x v => ∃ t, v = Value.str x t) ys vs → StrsAre vs ys
  | .nil => .nil
  | .cons ⟨t, e⟩ r => by subst e; exact .cons _ t (strs_at r)
theorem base_const {c : Const} {k : Nat} {cp : Pos} {name : Str} {env : Env} (x : Sem Value) : attributeBase (.Constant c k cp) name env x = x := rfl
/-- ''.join([..]) -/
theorem Ev.join {e : Expr} {k : Nat} {cp apos pos : Pos} {ys : List Str} (he : Ev prog w A h (eval e env) (fun v h' => ∃ a vs, v = .ref a ∧ h'.IsList a vs.toArray ∧ StrsAre vs ys)) (hw : (ys.map (·.length)).sum + ys.length ≤ 1000)
    (hline : (apos.endLine == pos.line) = true) (hs : backTo pos (starEach [e] env) = [(false, eval e env)]) :
    Ev prog w A h (eval (.Call (.Attribute (.Constant (.str "") k cp) "join" apos) [e] [] pos) env) (IsS (Txt.join "" ys)) := Ev.mk fun s hss => by
  refine wpAny_Call_method_lateS (base_const _) (by rw [hs]; rfl) hline (Ev.run (h := h) (P := IsS "") Ev.str hss fun ov s₁ ho k₁ => ?_)
  obtain ⟨t, rfl⟩ := ho
  refine ⟨"str", "str.join", F.plainAttrs_str, F.slot_str_join, F.type_str_join, typeIs_str _ _ _, fun a q => (by cases q), ?_⟩
  rw [hs]
  refine Calls.callWith_builtin rfl (Ev.run (h := h) (P := fun a h' => ∃ b vs, a = ⟨[.ref b], []⟩ ∧ h'.IsList b vs.toArray ∧ StrsAre vs ys) ?_ (stays_trans hss (keeps_stays k₁)) fun a s₂ ha k₂ => ?_)
  · have := Ev.args1 (f := .builtin "str.join") (pos := pos) he hs
    rw [hs] at this
    exact this.weak fun a h' _ q => by obtain ⟨v, rfl, b, vs, rfl, l, i⟩ := q; exact ⟨b, vs, rfl, l, i⟩
  · obtain ⟨b, vs, rfl, hl, is⟩ := ha
    exact join_listW hl is (by decide) (by omega) fun t' kk => ⟨⟨t', rfl⟩, keeps_trans (keeps_trans k₁ k₂) ⟨s₂.heap, kk, rfl, fun _ _ e => e⟩⟩
/-- x[:b] -/
theorem Ev.slice_text {value : Expr} {u : Expr} {p pos : Pos} {b : Int} {x : Str} (hv : Ev prog w A h (eval value env) (IsS x)) (hu : Ev prog w A h (eval u env) (IsI b)) (hx : x.length ≤ 1000)
    (hs : ∀ t s, subscripted (.Slice none (some u) none p) false (.str x t) (.ref s) = PySem.operate [.ref s, .str x t] (getItem (.str x t) (.ref s)) := by intro _ _; with_unfolding_all rfl)
    (ht : ∀ t r, letTemporaryGo value (.str x t) r = Pure.pure () := by intro _ _; with_unfolding_all rfl) :
    Ev prog w A h (eval (.Subscript value (.Slice none (some u) none p) pos) env) (IsS (Txt.slice x none (some b))) :=
  Ev.subscript hv (R := fun o i h' => (∃ t, o = .str x t) ∧ ∃ a tk, i = .ref a ∧ h'.IsSlice a none (some (b, tk)) none) (fun o h' kk q => by
      show Ev prog w A h' (valueOrNone (evalOpt none env) >>= fun vl => PySem.holding [vl] (valueOrNone (evalOpt (some u) env)) >>= fun vu => PySem.holding [vl, vu] (valueOrNone (evalOpt none env)) >>= fun vs => newFields "slice" [vl, vu, vs]) _
      refine Ev.bind (P := fun v _ => v = .none) (Ev.mk fun s _ => wpAny_pure ⟨rfl, keeps_refl s⟩) fun vl h₁ k₁ p₁ => Ev.bind (P := IsI b) (Ev.holding (hu.mono (stays_trans kk k₁))) fun vu h₂ k₂ p₂ => Ev.bind (P := fun v _ => v = .none) (Ev.holding (Ev.mk fun s _ => wpAny_pure ⟨rfl, keeps_refl s⟩)) fun vs h₃ k₃ p₃ => Ev.mk fun s hs => ?_
      subst p₁ p₃
      obtain ⟨tk, rfl⟩ := p₂
      exact wpAny_newObj_type ⟨⟨q, _, tk, rfl, ⟨_, Heap.get?_push_size _ rfl, rfl, rfl⟩⟩, keeps_push s _⟩)
    fun o i h' kk r => Ev.mk fun s hss => by
    obtain ⟨⟨t, rfl⟩, a, tk, rfl, hsl⟩ := r
    have hz : (1000 : Nat) ≤ sizeLine := by decide
    refine tail_of_ItemOn (M := model prog w) ⟨"str", _, F.slot_str_getitem.lookup, typeIs_str _ _ _, wpAny_getItem_str_slice (l := none) (u := some (b, tk)) (st := none) (let ⟨o, ho, r⟩ := hsl; ⟨o, hss _ _ ho, r⟩) rfl
      (post_val_or_str ⟨Nat.le_trans (Txt.slice_le x _ _) (by omega), fun t' k => ⟨⟨t', rfl⟩, ⟨s.heap, k, rfl, fun _ _ e => e⟩⟩⟩)⟩ (hs t a) (ht t)
end
end Mine
end

section
open PySem PySem.W PyProof.Rows
set_option maxRecDepth 100000
namespace Mine

/-! a dict comprehension over a list of ints -/
theorem mem_stored {K : Type} [DecidableEq K] {kvs : List (K × Value)} {k : K} {y : Value} {kv : K × Value} (h : kv ∈ stored kvs k y) : kv = (k, y) ∨ kv ∈ kvs := by
  unfold stored at h
  split at h
  · obtain ⟨a, ha, e⟩ := List.mem_map.mp h
    split at e
    · rename_i q; subst e; exact .inl (by rw [q])
    · subst e; exact .inr ha
  · rcases List.mem_append.mp h with h | h
    · exact .inr h
    · exact .inl (List.mem_singleton.mp h)
theorem key_stored {K : Type} [DecidableEq K] {kvs : List (K × Value)} {k : K} {y : Value} : ∃ kv ∈ stored kvs k y, kv.1 = k := by
  unfold stored
  split
  · rename_i h
    obtain ⟨a, ha, e⟩ := List.any_eq_true.mp h
    have e : a.1 = k := by simpa using e
    exact ⟨_, List.mem_map.mpr ⟨a, ha, rfl⟩, by rw [if_pos e]; exact e⟩
  · exact ⟨(k, y), by simp, rfl⟩
theorem key_kept {K : Type} [DecidableEq K] {kvs : List (K × Value)} {k c : K} {y : Value} (h : ∃ kv ∈ kvs, kv.1 = c) : ∃ kv ∈ stored kvs k y, kv.1 = c := by
  obtain ⟨kv, hm, e⟩ := h
  unfold stored
  split
  · refine ⟨_, List.mem_map.mpr ⟨kv, hm, rfl⟩, ?_⟩
    split <;> exact e
  · exact ⟨kv, List.mem_append.mpr (.inl hm), e⟩
abbrev KeyI : Value → Int → Prop := fun v k => ∃ t, v = .int k t
abbrev ValI (f : Int → Int) : Value → Value → Prop := fun v y => ∃ c t t', v = .int c t ∧ y = .int (f c) t'
theorem stored_all {f : Int → Int} {l : List Value} {kvs : List (Int × Value)} (h : StoredAll KeyI (ValI f) l kvs) : (∀ kv ∈ kvs, ∃ t, kv.2 = .int (f kv.1) t) ∧ ∀ c t, Value.int c t ∈ l → ∃ kv ∈ kvs, kv.1 = c := by
  induction h with
  | nil => exact ⟨fun _ h => (by cases h), fun _ _ h => (by cases h)⟩
  | @snoc l kvs v k y _ hk hv ih =>
    obtain ⟨t, rfl⟩ := hk
    obtain ⟨c, t1, t2, e, rfl⟩ := hv
    cases e
    refine ⟨fun kv hm => ?_, fun c t hm => ?_⟩
    · rcases mem_stored hm with rfl | hm
      · exact ⟨t2, rfl⟩
      · exact ih.1 kv hm
    · rcases List.mem_append.mp hm with hm | hm
      · exact key_kept (ih.2 c t hm)
      · have := List.mem_singleton.mp hm
        cases this
        exact key_stored
theorem value_all {f : Int → Int} {l : List Value} {kvs : List (Int × Value)} (h : StoredAll KeyI (ValI f) l kvs) {c : Int} {t : Tok} (hm : Value.int c t ∈ l) : ∃ t, valueAt kvs c = some (.int (f c) t) := by
  obtain ⟨h1, h2⟩ := stored_all h
  obtain ⟨kv, hkv, e⟩ := h2 c t hm
  unfold valueAt
  cases q : kvs.find? fun kv => kv.1 = c with
  | none =>
    have := List.find?_eq_none.mp q kv hkv
    simp [e] at this
  | some kv' =>
    have e' : kv'.1 = c := by simpa using List.find?_some q
    obtain ⟨t, ht⟩ := h1 kv' (List.mem_of_find?_eq_some q)
    exact ⟨t, by rw [Option.map_some, ht, e']⟩

section
variable {prog : Program} {w : World} {mg mb : Str → Option Value} {A : Around} {h : Heap} {env : Env}

theorem itInts {ns : List Int} {a : Addr} {vs : List Value} (hh : A.handled = none) (hl : h.IsList a vs.toArray) (is : IntsAre vs ns) : ItOk prog w A h (.ref a) ns.length (fun i v => ∃ t, v = .int (ns.getD i 0) t) := by
  have W := ItOk.list (prog := prog) (w := w) hh hl
  rw [List.size_toArray, is.length] at W
  refine fun s Q E hs k => W s Q E hs fun I fp St s₂ hI W' hst hfp hIo hfv k₂ => k I fp St s₂ hI ⟨W'.sub, W'.frame, fun i s Q E hi st hQ => W'.item i s Q E hi st fun v h' tk hP => hQ v h' tk ?_, W'.done, W'.self⟩ hst hfp hIo hfv k₂
  have key : ns[i]? = some (ns.getD i 0) := by simp [List.getD_eq_getElem?_getD, List.getElem?_eq_getElem hi]
  obtain ⟨t, ht⟩ := ints_get is key
  exact ⟨t, by simpa [ht] using hP.symm⟩

theorem Ev.dictcomp {kx vx iter : Expr} {x : Str} {px : Pos} {scope : Scope} {cl : List (Str × Addr)} {pos : Pos} {ns : List Int} {f : Int → Int} (hh : A.handled = none) (hclos : closureFor scope env = Pure.pure cl)
    (hit : Ev prog w A h (eval iter env) (IsIL ns))
    (hkey : ∀ n t h' C m', n ∈ ns → h.StaysIn h' → h'.Ns C m' → m' x = some (.int n t) → Ev prog w A h' (eval kx (compEnvC scope cl C env)) (IsI n))
    (hval : ∀ n t h' C m', n ∈ ns → h.StaysIn h' → h'.Ns C m' → m' x = some (.int n t) → Ev prog w A h' (eval vx (compEnvC scope cl C env)) (IsI (f n))) (hn : ns.length ≤ 1000)
    (hcell : ∀ y ∈ scope.names, y.2 ≠ .cell := by decide) (hkind : scope.kind = .function := by rfl) (hnames : ∀ y ∈ scope.names, y.2 = .local → scope.names.lookup y.1 = some .local := by decide) (hx : scope.names.lookup x = some .local := by rfl)
    (hs : ∀ x, foldedSetIterable iter env x = Pure.pure x := by intro _; rfl) :
    Ev prog w A h (eval (.DictComp kx vx [⟨.Name x px, iter, [], 0⟩] scope pos) env) (fun v h' => ∃ D g, v = .ref D ∧ h.get? D = none ∧ h'.MapOf (intKind prog w) D g ∧ ∀ c ∈ ns, ∃ t, g c = some (.int (f c) t)) := Ev.mk fun s hss => by
  refine wpAny_DictComp_free (knd := intKind prog w) (fun _ => true) KeyI (ValI f) hclos hcell hkind hnames hx (Ev.run hit hss fun xv s₁ pv k₁ => ?_) hs
  obtain ⟨a, vs, rfl, hl, is⟩ := pv
  refine itInts (prog := prog) (w := w) hh hl is s₁ _ _ (stays_refl _) fun I fp St s₂ hI W hst hfp hIo hfv k₂ => ?_
  have hI₀ : h.get? I = none := not_of_stays (stays_trans hss (keeps_stays k₁)) hI
  have kk : h.StaysIn s₂.heap := stays_trans hss (keeps_stays (keeps_trans k₁ k₂))
  have mem : ∀ i, i < ns.length → ns.getD i 0 ∈ ns := fun i hi => by
    rw [List.getD_eq_getElem?_getD, List.getElem?_eq_getElem hi]; exact List.getElem_mem hi
  have up : ∀ {s₃ : Shared}, (∀ b o, b ∉ [I] → s₂.heap.get? b = some o → s₃.heap.get? b = some o) → h.StaysIn s₃.heap := fun k b o e => k b o (fun q => by rw [List.mem_singleton.mp q, hI₀] at e; cases e) (kk b o e)
  refine ⟨I, fp, [I], ns.length, fun i v => i < ns.length ∧ ∃ t, v = .int (ns.getD i 0) t, St, rfl, ⟨W.sub, W.frame, fun i s Q E hi st hQ => W.item i s Q E hi st fun v h' tk hP => hQ v h' tk ⟨hi, hP⟩, W.done, W.self⟩, Nat.le_trans hn (by decide), hst, hfp, ⟨?_, ?_, ?_⟩, ?_⟩
  · intro C i v s₃ m₃ E' _ _ _ _
    exact wpAny_tests_nil ⟨rfl, keeps_refl _⟩
  · rintro C i v s₃ m₃ E' ⟨hi, t, rfl⟩ _ hns hm k
    refine Ev.run (hkey _ t s₃.heap C m₃ (mem i hi) (up k) hns hm) (stays_refl _) fun y s₄ hy k₄ => ⟨⟨ns.getD i 0, ?_, t, rfl⟩, k₄⟩
    obtain ⟨t', rfl⟩ := hy
    exact intKind_is prog w _ t'
  · rintro C i v s₃ m₃ E' ⟨hi, t, rfl⟩ _ hns hm k
    refine Ev.run (hval _ t s₃.heap C m₃ (mem i hi) (up k) hns hm) (stays_refl _) fun y s₄ hy k₄ => ⟨?_, k₄⟩
    obtain ⟨t', rfl⟩ := hy
    exact ⟨_, t, t', rfl, rfl⟩
  · intro D h' tk kvs us hD hd hlen hP hF hk
    rw [List.filter_eq_self.mpr (by simp)] at hF
    refine ⟨⟨D, _, rfl, not_of_stays kk hD, hd.mapOf, fun c hc => ?_⟩, ?_⟩
    · obtain ⟨i, hi, e⟩ := List.mem_iff_getElem.mp hc
      have hu : us[i]? = some (us[i]'(by omega)) := List.getElem?_eq_getElem (by omega)
      obtain ⟨_, t, e2⟩ := hP i _ hu
      have e3 : ns.getD i 0 = c := by rw [List.getD_eq_getElem?_getD, List.getElem?_eq_getElem hi, Option.getD_some, e]
      rw [e3] at e2
      refine value_all hF (t := t) ?_
      rw [← e2]
      exact List.getElem_mem _
    · obtain ⟨H1, t1, rfl, q1⟩ := k₁
      obtain ⟨H2, t2, rfl, q2⟩ := k₂
      refine ⟨h', _, rfl, fun b o e => hk b o (fun q => ?_) (q2 b o (q1 b o e))⟩
      have := q1 b o e
      rw [List.mem_singleton.mp q, hI] at this; cases this

/-- a comprehension over a list of ints, no test -/
theorem Ev.comp_any {elt iter : Expr} {x : Str} {px : Pos} {scope : Scope} {cl : List (Str × Addr)} {pos : Pos} {ns : List Int} {Y : Int → Value → Prop} (hh : A.handled = none) (hclos : closureFor scope env = Pure.pure cl)
    (hit : Ev prog w A h (eval iter env) (IsIL ns))
    (helt : ∀ n t h' C m', n ∈ ns → h.StaysIn h' → h'.Ns C m' → m' x = some (.int n t) → Ev prog w A h' (eval elt (compEnvC scope cl C env)) (fun y _ => Y n y)) (hn : ns.length ≤ 1000)
    (hcell : ∀ y ∈ scope.names, y.2 ≠ .cell := by decide) (hkind : scope.kind = .function := by rfl) (hnames : ∀ y ∈ scope.names, y.2 = .local → scope.names.lookup y.1 = some .local := by decide) (hx : scope.names.lookup x = some .local := by rfl)
    (hs : ∀ x, foldedSetIterable iter env x = Pure.pure x := by intro _; rfl) : Ev prog w A h (eval (.ListComp elt [⟨.Name x px, iter, [], 0⟩] scope pos) env) (fun v h' => ∃ D ys, v = .ref D ∧ h.get? D = none ∧ h'.IsList D ys.toArray ∧ All2 Y ns ys) := by
  have mem : ∀ i, i < ns.length → ns.getD i 0 ∈ ns := fun i hi => by
    rw [List.getD_eq_getElem?_getD, List.getElem?_eq_getElem hi]; exact List.getElem_mem hi
  refine (Ev.listcomp (n := ns.length) (P := fun i v => ∃ t, v = .int (ns.getD i 0) t) (ok := fun _ => true) (Y := fun _ i y _ => Y (ns.getD i 0) y) hclos hit (fun v h' k hv => ?_) (fun _ _ _ _ _ q _ => q) (fun _ _ _ _ _ _ _ _ _ _ => Ev.tests_nil) (fun fb i v h' C m' hi _ hp k hns hm _ => ?_) (Nat.le_trans hn (by decide)) hcell hkind hnames hx hs).weak fun v h' k hv => ?_
  · obtain ⟨a, vs, rfl, hl, is⟩ := hv
    exact itInts hh hl is
  · obtain ⟨t, rfl⟩ := hp
    exact helt _ t h' C m' (mem i hi) k hns hm
  · obtain ⟨D, ys, fb, rfl, nw, hl, hall⟩ := hv
    rw [List.filter_eq_self.mpr (by simp)] at hall
    refine ⟨D, ys, rfl, nw, hl, ?_⟩
    have e0 : ns = (List.range ns.length).map fun i => ns.getD i 0 := by
      apply List.ext_getElem <;> simp
      intro i h1
      simp [List.getElem?_eq_getElem h1]
    have := All2.map_left (f := fun i => ns.getD i 0) (R := Y) hall
    rwa [← e0] at this
end
end Mine
end

section
open PySem PySem.W PyProof.Rows
set_option maxRecDepth 100000
namespace Mine

/-- all stays, but F's slots may turn -/
def Loose (F : Addr) (s s' : Shared) : Prop := ∃ h' tk, s' = { s with heap := h', toks := tk } ∧ (∀ b o, b ≠ F → s.heap.get? b = some o → h'.get? b = some o) ∧ ∀ o, s.heap.get? F = some o → ∃ sl, h'.get? F = some { o with slots := sl }

section
variable {prog : Program} {w : World} {mg mb : Str → Option Value} {A : Around} {s : Shared} {R : Result → Shared → Prop}

theorem comp_loopS {elt iter : Expr} {x : Str} {px : Pos} {scope : Scope} {pos : Pos} {I D F : Addr} {oF : Obj} {fp : List Addr} {n : Nat} {P : Nat → Value → Prop} {St : Nat → Heap → Prop} {cenv : Env} {m : Str → Option Value} {Y : Nat → Value → Prop}
    (W : Walks prog w A I fp [I] n P St) (hsz : n ≤ sizeLine) (hx : cenv.kindOf x = some .local) (hp : (cenv.scope.kind == .class || (cenv.scope.kind == .module && cenv.locals != cenv.globals)) = false)
    (hXD : cenv.locals ≠ D) (hXI : cenv.locals ≠ I) (hDI : D ≠ I) (hXf : cenv.locals ∉ fp) (hDf : D ∉ fp) (hFX : F ≠ cenv.locals) (hFD : F ≠ D) (hFf : F ∉ fp)
    (hst : St 0 s.heap) (hacc : s.heap.IsList D #[]) (hn : s.heap.Ns cenv.locals m) (hF : s.heap.get? F = some oF)
    (helt : ∀ i v (s' : Shared) m', i < n → P i v → s'.heap.Ns cenv.locals m' → m' x = some v → (∀ b o, b ≠ cenv.locals → b ≠ I → b ≠ D → b ≠ F → s.heap.get? b = some o → s'.heap.get? b = some o) → (∃ sl, s'.heap.get? F = some { oF with slots := sl }) →
      wpAny (model prog w) A (eval elt cenv) (fun y s'' => Y i y ∧ Loose F s' s'') (fun _ _ => False) s')
    (hR : ∀ h' tk ys m', h'.Ns cenv.locals m' → h'.IsList D ys.toArray → All2 Y (List.range n) ys → (∀ b o, b ≠ cenv.locals → b ≠ I → b ≠ D → b ≠ F → s.heap.get? b = some o → h'.get? b = some o) → (∃ sl, h'.get? F = some { oF with slots := sl }) → R (.ok .next) { s with heap := h', toks := tk }) :
    codeAny (model prog w) A (.compLoop (.ListComp elt [⟨.Name x px, iter, [], 0⟩] scope pos) 0 (.ref I) (.ref D) cenv) R s := by
  have hFI : F ≠ I := fun q => hFf (q ▸ W.sub I (List.mem_singleton.mpr rfl))
  refine codeAny_compLoop_tests
    (fun k s' => ∃ H tk i ys m', s' = { s with heap := H, toks := tk } ∧ i ≤ n ∧ k = n + 1 - i ∧ St i H ∧ H.IsList D ys.toArray ∧ H.Ns cenv.locals m' ∧ All2 Y (List.range i) ys ∧
      (∀ b o, b ≠ cenv.locals → b ≠ I → b ≠ D → b ≠ F → s.heap.get? b = some o → H.get? b = some o) ∧ ∃ sl, H.get? F = some { oF with slots := sl }) ?_ (n + 1)
    ⟨s.heap, s.toks, 0, [], m, rfl, Nat.zero_le _, rfl, hst, hacc, hn, .nil, fun _ _ _ _ _ _ e => e, oF.slots, hF⟩
  rintro k s' ⟨H, tk, i, ys, m', rfl, hi, rfl, hst', hacc', hn', hall, hk, slF, hF'⟩
  by_cases hlt : i < n
  · refine W.item i _ _ _ hlt hst' fun v h₁ tk₁ hPv hst₁ hk₁ => ?_
    have up₁ : ∀ b o, b ≠ I → H.get? b = some o → h₁.get? b = some o := fun b o hb e => hk₁ b o (by simpa using hb) e
    refine wpAny_assign_Name (wpAny_storeName_local hx (hn'.at' fun o e => up₁ _ o hXI e) (fun h₂ hn₂ hs₂ => ?_) hp)
    have up₂ : ∀ b o, b ≠ I → b ≠ cenv.locals → H.get? b = some o → h₂.get? b = some o := fun b o hbI hbX e => hs₂.extBut b o hbX (up₁ b o hbI e)
    have hst₂ : St (i + 1) h₂ := W.frame _ _ _ hst₁ fun b hb o e => hs₂.extBut b o (fun q => hXf (q ▸ hb)) e
    refine wpAny_tests_nil ?_
    rw [if_pos rfl]
    have hF₂ := up₂ F _ hFI hFX hF'
    refine wpAny_mono (helt i v _ _ hlt hPv hn₂ (by simp) (fun b o b1 b2 b3 b4 e => up₂ b o b2 b1 (hk b o b1 b2 b3 b4 e)) ⟨slF, hF₂⟩) (fun y s₃ hy => ?_) fun _ _ e => e.elim
    obtain ⟨hy, h₃, tk₃, rfl, k₃, f₃⟩ := hy
    have hst₃ : St (i + 1) h₃ := W.frame _ _ _ hst₂ fun b hb o e => k₃ b o (fun q => hFf (q ▸ hb)) e
    have acc₃ : h₃.IsList D ys.toArray := by obtain ⟨o, ho, r⟩ := hacc'; exact ⟨o, k₃ D o (Ne.symm hFD) (up₂ D o hDI (Ne.symm hXD) ho), r⟩
    have ns₃ := Heap.Ns.at' hn₂ (h' := h₃) fun o e => k₃ _ o (Ne.symm hFX) e
    obtain ⟨sl₃, f₃⟩ := f₃ _ hF₂
    refine wpAny_list_append acc₃ (fun h₅ hl₅ hs₅ => ?_) ?_
    · have up₅ : ∀ b o, b ≠ D → h₃.get? b = some o → h₅.get? b = some o := fun b o hb e => hs₅.extBut b o hb e
      refine ⟨n + 1 - (i + 1), by omega, h₅, tk₃, i + 1, ys ++ [y], _, rfl, hlt, rfl, W.frame _ _ _ hst₃ fun b hb o e => up₅ b o (fun q => hDf (q ▸ hb)) e, by simpa using hl₅, ns₃.at' fun o e => up₅ _ o hXD e, ?_,
        fun b o b1 b2 b3 b4 e => up₅ b o b3 (k₃ b o b4 (up₂ b o b2 b1 (hk b o b1 b2 b3 b4 e))), sl₃, up₅ F _ hFD f₃⟩
      rw [List.range_succ]
      exact All2.snoc hy hall
    · show ys.toArray.size ≤ sizeLine
      rw [List.size_toArray, ← hall.length, List.length_range]; omega
  · obtain rfl : i = n := Nat.le_antisymm hi (Nat.not_lt.mp hlt)
    refine W.done _ _ _ hst' fun h₁ tk₁ hk₁ => ?_
    have up₁ : ∀ b o, b ≠ I → H.get? b = some o → h₁.get? b = some o := fun b o hb e => hk₁ b o (by simpa using hb) e
    exact hR h₁ tk₁ ys m' (hn'.at' fun o e => up₁ _ o hXI e) (by obtain ⟨o, ho, r⟩ := hacc'; exact ⟨o, up₁ D o hDI ho, r⟩) hall (fun b o b1 b2 b3 b4 e => up₁ b o b2 (hk b o b1 b2 b3 b4 e)) ⟨slF, up₁ F _ hFI hF'⟩

theorem listcompS {env : Env} {elt iter : Expr} {x : Str} {px : Pos} {scope : Scope} {cl : List (Str × Addr)} {pos : Pos} {n : Nat} {Pv : Value → Heap → Prop} {P : Nat → Value → Prop} {Y : Nat → Value → Prop} {F : Addr} {mF : Str → Option Value}
    (hF : s.heap.Ns F mF) (hclos : closureFor scope env = Pure.pure cl)
    (hit : Ev prog w A s.heap (eval iter env) Pv) (hsrc : ∀ v h', s.heap.StaysIn h' → Pv v h' → ItOk prog w A h' v n P)
    (helt : ∀ i v (s' : Shared) C m', i < n → P i v → s'.heap.Ns C m' → m' x = some v → (∀ b o, b ≠ F → s.heap.get? b = some o → s'.heap.get? b = some o) → s'.heap.Ns F mF →
      wpAny (model prog w) A (eval elt (compEnvC scope cl C env)) (fun y s'' => Y i y ∧ Loose F s' s'') (fun _ _ => False) s')
    (hsz : n ≤ sizeLine)
    (hcell : ∀ y ∈ scope.names, y.2 ≠ .cell := by decide) (hkind : scope.kind = .function := by rfl) (hnames : ∀ y ∈ scope.names, y.2 = .local → scope.names.lookup y.1 = some .local := by decide) (hx : scope.names.lookup x = some .local := by rfl)
    (hs : ∀ x, foldedSetIterable iter env x = Pure.pure x := by intro _; rfl) :
    wpAny (model prog w) A (eval (.ListComp elt [⟨.Name x px, iter, [], 0⟩] scope pos) env) (fun v s' => (∃ D ys, v = .ref D ∧ s'.heap.IsList D ys.toArray ∧ All2 Y (List.range n) ys) ∧ ∃ h' tk, s' = { s with heap := h', toks := tk } ∧ ∀ b o, b ≠ F → s.heap.get? b = some o → h'.get? b = some o) (fun _ _ => False) s := by
  rw [eval_ListComp]
  refine wpAny_comprehension_free (use := none) rfl hs hclos hkind hnames (Ev.run hit (stays_refl _) fun xv s₁ pv k₁ => ?_)
  refine hsrc xv s₁.heap (keeps_stays k₁) pv s₁ _ _ (stays_refl _) fun I fp St s₂ hI W hst hfp hIo hfv k₂ => ?_
  have hI₀ : s.heap.get? I = none := not_of_stays (keeps_stays k₁) hI
  have k0 : s.heap.StaysIn s₂.heap := keeps_stays (keeps_trans k₁ k₂)
  have hF₂ := hF.keeps k0
  obtain ⟨oF, esF, epF, hoF, hdF, hkF, hfF⟩ := hF₂
  have hFf : F ∉ fp := fun hm => by
    rcases hfv F hm with q | ⟨_, o, ho, xs, nn, hd⟩
    · obtain ⟨o', _, _, ho', _⟩ := hF
      rw [q, hI₀] at ho'; cases ho'
    · have := keeps_stays k₂ _ _ ho
      rw [hoF] at this
      cases this
      rw [hdF] at hd; cases hd
  refine wpAny_newObj_type (wpAny_newFunctionEnv hcell (by intro y hy; simp at hy) (fun h₁ hns₁ hsb₁ => ?_) hkind)
  dsimp only at hns₁ hsb₁ ⊢
  generalize hH2 : s₂.heap.push { cls := .type "list", dict := none, data := .seq ([] : List Value).toArray } = H2 at hns₁ hsb₁ ⊢
  have hC : H2.objs.size = s₂.heap.objs.size + 1 := by rw [← hH2, Heap.size_push]
  have hDC : s₂.heap.objs.size ≠ H2.objs.size := by rw [hC]; exact Nat.ne_of_lt (Nat.lt_succ_self _)
  have below : ∀ b, b < s₂.heap.objs.size → b ≠ H2.objs.size ∧ b ≠ s₂.heap.objs.size := fun b hb => ⟨by rw [hC]; exact Nat.ne_of_lt (Nat.lt_succ_of_lt hb), Nat.ne_of_lt hb⟩
  have hIf : I ∈ fp := W.sub I (List.mem_singleton.mpr rfl)
  have hIlt : I < s₂.heap.objs.size := hfp I hIf
  have hFlt : F < s₂.heap.objs.size := Heap.lt_size hoF
  have old : s₂.heap.StaysIn h₁ := fun b o e => hsb₁.extBut b o (below b (Heap.lt_size e)).1 (Heap.get?_push_of_some _ (hH2 ▸ Heap.get?_push_of_some _ e))
  have hacc : h₁.IsList s₂.heap.objs.size #[] := ⟨_, hsb₁.extBut _ _ hDC (Heap.get?_push_of_some _ (hH2 ▸ Heap.get?_push_size _ rfl)), rfl, _, rfl⟩
  have hst₁ : St 0 h₁ := W.frame _ _ _ hst fun b _ o e => old b o e
  have sF : ∀ {h : Heap}, (∃ sl, h.get? F = some { oF with slots := sl }) → h.Ns F mF := fun ⟨sl, e⟩ => ⟨_, esF, epF, e, hdF, hkF, hfF⟩
  have fin : ∀ s₃ : Shared, s₃ = { s₂ with heap := h₁, toks := s₂.toks + ([] : List (Str × Value)).length } →
      codeAny (model prog w) A (.compLoop (.ListComp elt [⟨.Name x px, iter, [], 0⟩] scope pos) 0 (.ref I) (.ref s₂.heap.objs.size) (compEnvC scope cl H2.objs.size env))
        (compPost (model prog w) A (fun _ _ => False) none (fun v s' => (∃ D ys, v = .ref D ∧ s'.heap.IsList D ys.toArray ∧ All2 Y (List.range n) ys) ∧ ∃ h' tk, s' = { s with heap := h', toks := tk } ∧ ∀ b o, b ≠ F → s.heap.get? b = some o → h'.get? b = some o)
          (.ref s₂.heap.objs.size) H2.objs.size) s₃ := by
    rintro s₃ rfl
    have kk : ∀ {h : Heap}, (∀ b o, b ≠ H2.objs.size → b ≠ I → b ≠ s₂.heap.objs.size → b ≠ F → h₁.get? b = some o → h.get? b = some o) → ∀ b o, b ≠ F → s.heap.get? b = some o → h.get? b = some o := fun k b o nF e => by
      have e' := k0 b o e
      have lt := Heap.lt_size e'
      exact k b o (below b lt).1 (fun q => by rw [q, hI₀] at e; cases e) (below b lt).2 nF (old b o e')
    refine comp_loopS (F := F) (oF := oF) (Y := Y) (P := P) W hsz (lookup_relabel_local hx) (by simp [compEnvC, relabel, hkind]) (Ne.symm hDC) (Ne.symm (below I hIlt).1) (Ne.symm (below I hIlt).2)
      (fun hm => Nat.lt_irrefl _ (Nat.lt_of_succ_lt (by have := hfp _ hm; rw [show (compEnvC scope cl H2.objs.size env).locals = _ from hC] at this; exact this))) (fun hm => Nat.lt_irrefl _ (hfp _ hm)) (below F hFlt).1 (below F hFlt).2 hFf
      hst₁ hacc hns₁ (old _ _ hoF) (fun i v s' m' hi hp hns hm hk hsl => helt i v s' _ m' hi hp hns hm (kk hk) (sF hsl)) fun h' tk ys m' hns hl hall hk hsl => ?_
    refine ⟨m', hns, fun h'' hs'' => ⟨⟨_, ys, rfl, ?_, hall⟩, ?_⟩⟩
    · obtain ⟨o, ho, r⟩ := hl
      exact ⟨o, hs''.extBut _ o hDC ho, r⟩
    · obtain ⟨H1, t1, rfl, q1⟩ := k₁
      obtain ⟨H2', t2, rfl, q2⟩ := k₂
      refine ⟨h'', _, rfl, fun b o nF e => hs''.extBut b o ?_ (kk hk b o nF e)⟩
      exact (below b (Heap.lt_size (k0 b o e))).1
  exact codeAny_compStart_list (fin _ rfl) (W.self 0 _ _ _ hst₁ (fin _ rfl))

/-- the call _law_refusals(e) from a frame at L -/
theorem refusals_call {e : Expr} {p pos : Pos} {env env₀ : Env} {L : Addr} {h₀ : Heap} {m : Str → Option Value} (G : Gd mg mb h₀) (R : Room 5 A) (hfr : A.frames = some [env₀]) (hf : env₀.frame = some L) (hk₀ : env₀.scope.kind ≠ .module)
    (hL₀ : h₀.get? L = none) (hs : h₀.StaysIn s.heap) (hn : s.heap.Ns L m) (he : Ev prog w A s.heap (eval e env) (fun v _ => BadV v)) (hg : env.globals = mainGlobals := by rfl) (hk : env.scope.kind = .function := by rfl) (hl : env.kindOf "_law_refusals" = some .globalImplicit := by rfl)
    (hse : backTo pos (starEach [e] env) = [(false, eval e env)] := by rfl) : wpAny (model prog w) A (eval (.Call (.Name "_law_refusals" p) [e] [] pos) env) (fun y s' => (∃ t, y = .int 15 t) ∧ Loose L s s') (fun _ _ => False) s := by
  obtain ⟨a, o, fd, h1, h2, h3⟩ := G.at (i := 20) rfl
  show wpAny _ _ (do callWith pos (← eval (.Name "_law_refusals" p) env) [] (backTo pos (starEach [e] env)) (backToKw pos (keywordEach [] env))) _ _ s
  refine wpAny_bind (Ev.run (Ev.name_global (h := h₀) G.g h1 hg hk hl (by decide)) hs fun f s₁ hf' k₁ => ?_)
  obtain rfl := hf'
  refine Calls.callWith_function (o := o) (fd := fd) (Ev.run (Ev.args1 he hse) (keeps_stays k₁) fun a' s₂ pa k₂ => ⟨⟨keeps_stays (keeps_trans k₁ k₂) _ _ (hs _ _ h2), h3⟩, ?_⟩)
  obtain ⟨v, rfl, hv⟩ := pa
  have K := keeps_trans k₁ k₂
  have hn₂ := hn.keeps (keeps_stays K)
  obtain ⟨B, bB, Bs, hFB, inB⟩ := hide_frames (base := h₀) hfr hf hk₀ hn₂ hL₀ trivial (stays_trans hs (keeps_stays K))
  obtain ⟨a₂, o₂, fd₂, g1, g2, g3, g4⟩ := refusals_ok (prog := prog) (w := w) (G.keeps bB) hv
  rw [h1] at g1
  cases g1
  refine wpAny_mono (g4 A [env₀] s₂ R hfr Bs hFB) (fun r s₃ hr => ⟨hr.1, ?_⟩) fun _ _ q => q
  obtain ⟨h', tk, rfl, kB, up⟩ := hr.2
  obtain ⟨H, T, rfl, kk⟩ := K
  refine ⟨h', tk, rfl, fun b o nb e => kB b o (inB b o (kk b o e) nb (by simp)), fun o e => ?_⟩
  refine up L o (kk L o e) fun vs q => ?_
  obtain ⟨o', _, _, ho', hd', _⟩ := hn
  rw [e] at ho'
  cases ho'
  rw [hd'] at q; cases q
end
end Mine
end

section
open PySem PySem.W PyProof.Rows
set_option maxRecDepth 100000
namespace Mine

/-! what the law reckons, in plain Lean -/
def ownL : List Int := [2569, 5683, 1850, 261, 2400, 3519]
def givenL (ns : List Int) : List Int := (ns.take 6).map fun x => x.fmod 1000003
def numsL (ns : List Int) : List Int := (List.range 6).map fun k => ownL.getD k 0 + (((givenL ns).drop k).take 1).sum
def maskL (ns : List Int) : Int := 1 + (23399 + (numsL ns).sum).fmod 32767
def codeOf (x : Int) : Int := (x.fdiv 8).fmod (if x.fmod 8 != 0 then 128 else 55296)
def codesL (ns : List Int) : List Int := (numsL ns).map codeOf
def lvOf (x : Int) : Int := (x.fdiv 1024).fmod 7
def stepL (ht : Int → Int) (cs : List Int) (x : Int) : List Int := turnC (fun c => decide (lvOf x ≤ ht c)) 0 cs
def lineK (ht : Int → Int) (codes nums : List Int) (k : Nat) : List Int := (nums.take k).foldl (stepL ht) codes
def levelsK (nums : List Int) (k : Nat) : List Int := (nums.take k).map lvOf

theorem given_bounds {ns : List Int} : ∀ x ∈ givenL ns, 0 ≤ x ∧ x < 1000003 := fun x hx => by
  obtain ⟨y, _, rfl⟩ := List.mem_map.mp hx
  rw [Int.fmod_eq_emod_of_nonneg _ (by decide)]
  omega
theorem sum_one {l : List Int} {k : Nat} {B : Int} (h : ∀ x ∈ l, 0 ≤ x ∧ x < B) (hB : 0 < B) : 0 ≤ ((l.drop k).take 1).sum ∧ ((l.drop k).take 1).sum < B := by
  cases e : l.drop k with
  | nil => simpa using hB
  | cons a r =>
    have : a ∈ l := List.mem_of_mem_drop (i := k) (by rw [e]; exact List.mem_cons_self)
    have := h a this
    simpa using this
theorem nums_length (ns : List Int) : (numsL ns).length = 6 := by simp [numsL]
theorem nums_bounds {ns : List Int} : ∀ x ∈ numsL ns, 0 ≤ x ∧ x < 1010000 := fun x hx => by
  obtain ⟨k, hk, rfl⟩ := List.mem_map.mp hx
  have h1 := sum_one (k := k) (given_bounds (ns := ns)) (by decide)
  have h2 : 0 ≤ ownL.getD k 0 ∧ ownL.getD k 0 < 6000 := by
    have : ∀ k : Fin 6, 0 ≤ ownL.getD k 0 ∧ ownL.getD k 0 < 6000 := by decide
    exact this ⟨k, List.mem_range.mp hk⟩
  omega
theorem codes_length (ns : List Int) : (codesL ns).length = 6 := by simp [codesL, nums_length]
theorem code_bounds (x : Int) : 0 ≤ codeOf x ∧ codeOf x < 55296 := by
  unfold codeOf
  split
  · rw [Int.fmod_eq_emod_of_nonneg _ (by decide)]; omega
  · rw [Int.fmod_eq_emod_of_nonneg _ (by decide)]; omega
theorem codes_bounds {ns : List Int} : ∀ c ∈ codesL ns, 0 ≤ c ∧ c < 55296 := fun c hc => by
  obtain ⟨x, _, rfl⟩ := List.mem_map.mp hc
  exact code_bounds x
/-! turning keeps the signs -/
theorem turnK_mem {α : Type} {hi : α → Bool} {d : α} {cs : List α} {x : α} : ∀ p, x ∈ (turnK hi d cs p).1 → x ∈ cs
  | 0, h => by cases h
  | p + 1, h => by
    unfold turnK at h
    split at h
    · simp only [List.mem_append, List.mem_reverse] at h
      rcases h with (h | h) | h
      · exact turnK_mem p h
      · exact List.mem_of_mem_drop (List.mem_of_mem_take h)
      · exact List.mem_of_mem_drop (List.mem_of_mem_take h)
    · exact turnK_mem p h
theorem turnC_mem {α : Type} {hi : α → Bool} {d : α} {cs : List α} {x : α} (h : x ∈ turnC hi d cs) : x ∈ cs := turnK_mem _ h
theorem take_succ_getD {nums : List Int} {k : Nat} (hk : k < nums.length) : nums.take (k + 1) = nums.take k ++ [nums.getD k 0] := by
  rw [List.take_succ, List.getElem?_eq_getElem hk, List.getD_eq_getElem?_getD, List.getElem?_eq_getElem hk]; rfl
theorem lineK_succ {ht : Int → Int} {codes nums : List Int} {k : Nat} (hk : k < nums.length) : lineK ht codes nums (k + 1) = turnC (fun c => decide (lvOf (nums.getD k 0) ≤ ht c)) 0 (lineK ht codes nums k) := by
  unfold lineK
  rw [take_succ_getD hk, List.foldl_append]
  rfl
theorem levelsK_succ {nums : List Int} {k : Nat} (hk : k < nums.length) : levelsK nums (k + 1) = levelsK nums k ++ [lvOf (nums.getD k 0)] := by
  unfold levelsK
  rw [take_succ_getD hk, List.map_append]
  rfl
theorem lineK_mem {ht : Int → Int} {codes nums : List Int} {x : Int} : ∀ {k : Nat}, k ≤ nums.length → x ∈ lineK ht codes nums k → x ∈ codes
  | 0, _, h => h
  | k + 1, hk, h => lineK_mem (k := k) (by omega) (turnC_mem ((lineK_succ (by omega : k < nums.length)) ▸ h))
theorem lineK_length {ht : Int → Int} {codes nums : List Int} : ∀ {k : Nat}, k ≤ nums.length → (lineK ht codes nums k).length ≤ codes.length
  | 0, _ => Nat.le_refl _
  | k + 1, hk => by
    rw [lineK_succ (by omega : k < nums.length)]
    exact Nat.le_trans (turnC_length _ _ _) (lineK_length (k := k) (by omega))
theorem levelsK_length (nums : List Int) (k : Nat) : (levelsK nums k).length ≤ nums.length := by
  unfold levelsK
  rw [List.length_map, List.length_take]; omega

/-! the heights due are the heights told -/
theorem told_small : ∀ n : Fin 128, (∀ k : Fin 15, (answers (n.val : Int)).getD k.val false = ((cnt (n.val : Int) k.val : Int).fmod 2 == 1)) ∧ ((List.range 15).filter fun k => (answers (n.val : Int)).getD k false).length ≤ 7 := by decide +kernel
theorem answers_big {c : Int} (h : 128 ≤ c) : answers c = [false, false, false, false, false, false, false, false, false, false, false, false, false, false, true] := by
  have le : ∀ {n : Int}, n ≤ c → decide (n ≤ c) = true := fun h => decide_eq_true h
  have gt : ∀ {n : Int}, n < c → decide (c ≤ n) = false := fun h => decide_eq_false (by omega)
  have ne : ∀ {n : Int}, n < c → (n == c) = false := fun h => by simpa using (by omega : ¬ _ = c)
  have ne' : ∀ {n : Int}, n < c → (c == n) = false := fun h => by simpa using (by omega : ¬ c = _)
  have lt : ∀ {n : Int}, n < c → decide (c < n) = false := fun h => decide_eq_false (by omega)
  have big : decide (127 < c) = true := decide_eq_true (by omega)
  simp only [answers, jalnum, jalpha, jascii, jblank, jcntrl, jdigit, jgraph, jlower, jprint, jpunct, jspace, jupper, jxdigit, jctrl, jmeta, big,
    gt (show (90 : Int) < c by omega), gt (show (122 : Int) < c by omega), gt (show (57 : Int) < c by omega), gt (show (127 : Int) < c by omega), gt (show (31 : Int) < c by omega), gt (show (126 : Int) < c by omega), gt (show (70 : Int) < c by omega), gt (show (102 : Int) < c by omega),
    lt (show (32 : Int) < c by omega), ne' (show (127 : Int) < c by omega), List.any_cons, List.any_nil, ne (show (9 : Int) < c by omega), ne (show (32 : Int) < c by omega), ne (show (10 : Int) < c by omega), ne (show (11 : Int) < c by omega), ne (show (12 : Int) < c by omega), ne (show (13 : Int) < c by omega),
    Bool.and_false, Bool.or_false, Bool.false_and, Bool.not_false]
theorem cnt_big {c : Int} (h : 128 ≤ c) {k : Nat} (hk : k < 15) : cnt c k = (bnd.getD k []).length := by
  unfold cnt
  rw [List.filter_eq_self.mpr fun b hb => ?_]
  have : ∀ k : Fin 15, ∀ b ∈ bnd.getD k.val [], b ≤ 128 := by decide
  have := this ⟨k, hk⟩ b hb
  exact decide_eq_true (by omega)
theorem told_odd {c : Int} (h : 0 ≤ c) {k : Nat} (hk : k < 15) : (answers c).getD k false = ((cnt c k : Int).fmod 2 == 1) := by
  by_cases hc : c < 128
  · have := (told_small ⟨c.toNat, by omega⟩).1 ⟨k, hk⟩
    have e : ((c.toNat : Nat) : Int) = c := by omega
    rw [e] at this
    exact this
  · rw [answers_big (by omega), cnt_big (by omega) hk]
    have : ∀ k : Fin 15, [false, false, false, false, false, false, false, false, false, false, false, false, false, false, true].getD k.val false = (((bnd.getD k.val []).length : Int).fmod 2 == 1) := by decide
    exact this ⟨k, hk⟩
theorem told_height {c : Int} (h : 0 ≤ c) (mask : Int) : told c mask = height c mask := by
  unfold told height
  rw [List.filter_map, List.length_map, List.filter_filter]
  congr 1
  apply List.filter_congr
  intro k hk
  rw [told_odd h (List.mem_range.mp hk)]
  rfl
theorem told_lt {c : Int} (h : 0 ≤ c) (mask : Int) : told c mask < 8 := by
  have h1 : told c mask ≤ ((List.range 15).filter fun k => (answers c).getD k false).length := by
    unfold told
    rw [show ((List.range 15).filter fun k => (answers c).getD k false && bit mask k) = ((List.range 15).filter fun k => (answers c).getD k false).filter fun k => bit mask k from by
      rw [List.filter_filter]; apply List.filter_congr; intro k _; rw [Bool.and_comm]]
    exact List.length_filter_le _ _
  have h2 : ((List.range 15).filter fun k => (answers c).getD k false).length ≤ 7 := by
    by_cases hc : c < 128
    · have := (told_small ⟨c.toNat, by omega⟩).2
      have e : ((c.toNat : Nat) : Int) = c := by omega
      rw [e] at this
      exact this
    · rw [answers_big (by omega)]; decide
  omega
end Mine
end

section
set_option maxRecDepth 100000
namespace Mine

/-! a deed on six slots, by its pattern -/
def allBool (f : Bool → Bool) : Bool := f false && f true
theorem allBool_spec {f : Bool → Bool} (h : allBool f = true) : ∀ b, f b = true := fun b => by
  have := Bool.and_eq_true_iff.mp h
  cases b
  · exact this.1
  · exact this.2
def all6 (f : List Bool → Bool) : Bool := allBool fun a => allBool fun b => allBool fun c => allBool fun d => allBool fun e => allBool fun g => f [a, b, c, d, e, g]
theorem all6_spec {f : List Bool → Bool} (h : all6 f = true) : ∀ l : List Bool, l.length = 6 → f l = true := fun l hl => by
  match l, hl with
  | [a, b, c, d, e, g], _ => exact allBool_spec (allBool_spec (allBool_spec (allBool_spec (allBool_spec (allBool_spec h a) b) c) d) e) g
def seg {α : Type} (l : List α) (p q : Nat) : List α := (l.drop p).take (q + 1 - p)
def sigma (bs : List Bool) : List Nat := turnC (fun s => bs.getD s false) 0 (List.range 6)
def pairs6 : List (Nat × Nat) := (List.range 6).flatMap fun p => (List.range 6).filterMap fun q => if p ≤ q then some (p, q) else none
def sub (b : Nat → Bool) (l r : List Nat) : Bool := l.all fun x => r.contains x || b x
def chkP (b : Nat → Bool) (s : List Nat) (p q : Nat) : Bool :=
  (p == q || (decide (s.getD q 0 < s.getD p 0) == (seg (List.range 6) (min (s.getD p 0) (s.getD q 0)) (max (s.getD p 0) (s.getD q 0))).all b)) &&
  ((sub (fun _ => false) (seg s p q) (seg (List.range 6) (min (s.getD p 0) (s.getD q 0)) (max (s.getD p 0) (s.getD q 0))) && sub (fun _ => false) (seg (List.range 6) (min (s.getD p 0) (s.getD q 0)) (max (s.getD p 0) (s.getD q 0))) (seg s p q)) ||
   (sub b (seg s p q) (seg (List.range 6) (min (s.getD p 0) (s.getD q 0)) (max (s.getD p 0) (s.getD q 0))) && sub b (seg (List.range 6) (min (s.getD p 0) (s.getD q 0)) (max (s.getD p 0) (s.getD q 0))) (seg s p q) &&
     (seg s p q).any (fun x => !b x) && (seg (List.range 6) (min (s.getD p 0) (s.getD q 0)) (max (s.getD p 0) (s.getD q 0))).any fun x => !b x))
def chkS (bs : List Bool) (s : List Nat) : Bool := s.isPerm (List.range 6) && s.length == 6 && decide s.Nodup && s.all (fun x => decide (x < 6)) && pairs6.all fun pq => chkP (fun s => bs.getD s false) s pq.1 pq.2
theorem chk_all : all6 (fun bs => chkS bs (sigma bs)) = true := by decide +kernel

theorem mem_pairs6 {p q : Nat} (h : p ≤ q) (hq : q < 6) : (p, q) ∈ pairs6 := by
  unfold pairs6
  rw [List.mem_flatMap]
  refine ⟨p, List.mem_range.mpr (by omega), ?_⟩
  rw [List.mem_filterMap]
  exact ⟨q, List.mem_range.mpr hq, by rw [if_pos h]⟩

/-- what the pattern's table says of one deed -/
structure Deed (b : Nat → Bool) (s : List Nat) : Prop where
  perm : s.Perm (List.range 6)
  len : s.length = 6
  nodup : s.Nodup
  lt : ∀ x ∈ s, x < 6
  flip : ∀ p q, p < q → q < 6 → decide (s.getD q 0 < s.getD p 0) = (seg (List.range 6) (min (s.getD p 0) (s.getD q 0)) (max (s.getD p 0) (s.getD q 0))).all b
  same : ∀ p q, p ≤ q → q < 6 → ∀ c : Nat → Prop, (∀ x, b x = true → c x) ∨ (∀ x, c x → b x = true) →
    ((∀ x ∈ seg s p q, c x) ↔ ∀ x ∈ seg (List.range 6) (min (s.getD p 0) (s.getD q 0)) (max (s.getD p 0) (s.getD q 0)), c x)
theorem sub_spec {b : Nat → Bool} {l r : List Nat} (h : sub b l r = true) : ∀ x ∈ l, x ∈ r ∨ b x = true := fun x hx => by
  have := List.all_eq_true.mp h x hx
  simpa using this
theorem deed_of (bs : List Bool) (h : bs.length = 6) : Deed (fun s => bs.getD s false) (sigma bs) := by
  have := all6_spec chk_all bs h
  unfold chkS at this
  simp only [Bool.and_eq_true, beq_iff_eq, decide_eq_true_eq, List.all_eq_true] at this
  obtain ⟨⟨⟨⟨h0, h1⟩, h2⟩, h3⟩, h4⟩ := this
  have key : ∀ p q, p ≤ q → q < 6 → chkP (fun s => bs.getD s false) (sigma bs) p q = true := fun p q hp hq => h4 (p, q) (mem_pairs6 hp hq)
  refine ⟨List.isPerm_iff.mp h0, h1, h2, h3, fun p q hp hq => ?_, fun p q hp hq c hc => ?_⟩
  · have := key p q (by omega) hq
    unfold chkP at this
    have := (Bool.and_eq_true_iff.mp this).1
    rw [Bool.or_eq_true] at this
    rcases this with e | e
    · have : p = q := by simpa using e
      omega
    · simpa using e
  · have := key p q hp hq
    unfold chkP at this
    have := (Bool.and_eq_true_iff.mp this).2
    rw [Bool.or_eq_true] at this
    generalize seg (List.range 6) (min ((sigma bs).getD p 0) ((sigma bs).getD q 0)) (max ((sigma bs).getD p 0) ((sigma bs).getD q 0)) = S2 at this ⊢
    generalize seg (sigma bs) p q = S1 at this ⊢
    rcases this with e | e
    · obtain ⟨e1, e2⟩ := Bool.and_eq_true_iff.mp e
      have e1 := sub_spec e1
      have e2 := sub_spec e2
      exact ⟨fun k x hx => (e2 x hx).elim (k x) (fun q => by cases q), fun k x hx => (e1 x hx).elim (k x) (fun q => by cases q)⟩
    · obtain ⟨e, e4⟩ := Bool.and_eq_true_iff.mp e
      obtain ⟨e, e3⟩ := Bool.and_eq_true_iff.mp e
      obtain ⟨e1, e2⟩ := Bool.and_eq_true_iff.mp e
      have e1 := sub_spec e1
      have e2 := sub_spec e2
      rcases hc with hc | hc
      · exact ⟨fun k x hx => (e2 x hx).elim (k x) (hc x), fun k x hx => (e1 x hx).elim (k x) (hc x)⟩
      · obtain ⟨x3, m3, n3⟩ := List.any_eq_true.mp e3
        obtain ⟨x4, m4, n4⟩ := List.any_eq_true.mp e4
        have n3 : bs.getD x3 false = false := by simpa only [Bool.not_eq_true'] using n3
        have n4 : bs.getD x4 false = false := by simpa only [Bool.not_eq_true'] using n4
        exact ⟨fun k => (by have := hc x3 (k x3 m3); rw [n3] at this; cases this), fun k => (by have := hc x4 (k x4 m4); rw [n4] at this; cases this)⟩

/-! naturality -/
theorem turnK_congr {α : Type} {hi hi' : α → Bool} {d d' : α} {cs : List α} (h : ∀ x ∈ cs, hi x = hi' x) : ∀ p, p ≤ cs.length + 1 → turnK hi d cs p = turnK hi' d' cs p
  | 0, _ => rfl
  | p + 1, hp => by
    unfold turnK
    rw [turnK_congr h p (by omega)]
    have e : (p == cs.length || !hi (cs.getD p d)) = (p == cs.length || !hi' (cs.getD p d')) := by
      by_cases q : p = cs.length
      · simp [q]
      · have hp' : p < cs.length := by omega
        have e1 : cs.getD p d = cs[p] := by rw [List.getD_eq_getElem?_getD, List.getElem?_eq_getElem hp', Option.getD_some]
        have e2 : cs.getD p d' = cs[p] := by rw [List.getD_eq_getElem?_getD, List.getElem?_eq_getElem hp', Option.getD_some]
        rw [e1, e2, h _ (List.getElem_mem hp')]
    rw [e]
theorem turnC_congr {α : Type} {hi hi' : α → Bool} {d d' : α} {cs : List α} (h : ∀ x ∈ cs, hi x = hi' x) : turnC hi d cs = turnC hi' d' cs := by
  unfold turnC
  rw [turnK_congr h _ (Nat.le_refl _)]
theorem self_map {α : Type} {ps : List α} {d : α} {n : Nat} (h : ps.length = n) : ps = (List.range n).map fun s => ps.getD s d := by
  subst h
  apply List.ext_getElem <;> simp
  intro i h1
  simp [List.getElem?_eq_getElem h1]
theorem turn_six {hi : Nat → Bool} {d : Nat} {ps : List Nat} (h : ps.length = 6) : turnC hi d ps = (sigma ((List.range 6).map fun s => hi (ps.getD s 0))).map fun s => ps.getD s 0 := by
  conv => lhs; rw [self_map (d := 0) h]
  have e := turnC_map (fun s => ps.getD s 0) hi 0 (List.range 6)
  rw [turnC_congr (d := d) (d' := ps.getD 0 0) (fun _ _ => rfl), e]
  refine congrArg (List.map _) (turnC_congr fun s hs => ?_)
  have : s < 6 := List.mem_range.mp hs
  simp [List.getD_eq_getElem?_getD, this]
end Mine
end

section
set_option maxRecDepth 100000
namespace Mine

/-! the order that the deeds leave -/
structure PInv (H : Nat → Int) (le : Nat → Nat → Int) (odd : Nat → Nat → Bool) (ps : List Nat) : Prop where
  perm : ps.Perm (List.range 6)
  len : ps.length = 6
  nodup : ps.Nodup
  lt : ∀ x ∈ ps, x < 6
  ord : ∀ p q, p < q → q < 6 → (decide (ps.getD p 0 < ps.getD q 0) != odd (ps.getD p 0) (ps.getD q 0)) = true
  least : ∀ p q, p ≤ q → q < 6 → ∀ v, v ≤ le (ps.getD p 0) (ps.getD q 0) ↔ ∀ x ∈ seg ps p q, v ≤ H x

theorem seg_map {α β : Type} (f : α → β) (l : List α) (p q : Nat) : seg (l.map f) p q = (seg l p q).map f := by
  unfold seg; rw [List.map_take, List.map_drop]
theorem getD_map_six {ps s : List Nat} (hs : s.length = 6) {p : Nat} (hp : p < 6) : (s.map fun r => ps.getD r 0).getD p 0 = ps.getD (s.getD p 0) 0 := by
  have : p < s.length := by omega
  simp [List.getD_eq_getElem?_getD, List.getElem?_eq_getElem this]
theorem getD_mem_six {s : List Nat} (hs : s.length = 6) {p : Nat} (hp : p < 6) : s.getD p 0 ∈ s := by
  have : p < s.length := by omega
  rw [List.getD_eq_getElem?_getD, List.getElem?_eq_getElem this, Option.getD_some]
  exact List.getElem_mem this
theorem getD_inj_six {s : List Nat} (hs : s.length = 6) (hn : s.Nodup) {p q : Nat} (hp : p < 6) (hq : q < 6) (e : s.getD p 0 = s.getD q 0) : p = q := by
  have h1 : p < s.length := by omega
  have h2 : q < s.length := by omega
  rw [List.getD_eq_getElem?_getD, List.getElem?_eq_getElem h1, Option.getD_some, List.getD_eq_getElem?_getD, List.getElem?_eq_getElem h2, Option.getD_some] at e
  exact (List.getElem_inj hn).mp e

theorem pinv_step {H : Nat → Int} {le : Nat → Nat → Int} {odd odd' : Nat → Nat → Bool} {ps : List Nat} {lv : Int} {d : Nat} (I : PInv H le odd ps) (sym : ∀ i j, le i j = le j i) (osym : ∀ i j, odd i j = odd j i) (hodd : ∀ i j, i < 6 → j < 6 → odd' i j = (odd i j != decide (lv ≤ le i j))) :
    PInv H le odd' (turnC (fun p => decide (lv ≤ H p)) d ps) := by
  rw [turn_six I.len]
  generalize hbs : ((List.range 6).map fun s => decide (lv ≤ H (ps.getD s 0))) = bs
  have hlen : bs.length = 6 := by rw [← hbs]; simp
  have D := deed_of bs hlen
  have hb : ∀ s, s < 6 → bs.getD s false = decide (lv ≤ H (ps.getD s 0)) := fun s hs => by
    rw [← hbs]; simp [List.getD_eq_getElem?_getD, hs]
  generalize sigma bs = s at D
  have slt : ∀ p, p < 6 → s.getD p 0 < 6 := fun p hp => D.lt _ (getD_mem_six D.len hp)
  -- the least of what lies between two slots
  have segle : ∀ p q, p < 6 → q < 6 → ∀ v, v ≤ le (ps.getD p 0) (ps.getD q 0) ↔ ∀ x ∈ seg (List.range 6) (min p q) (max p q), v ≤ H (ps.getD x 0) := fun p q hp hq v => by
    have key : ∀ a b, a ≤ b → b < 6 → (v ≤ le (ps.getD a 0) (ps.getD b 0) ↔ ∀ x ∈ seg (List.range 6) a b, v ≤ H (ps.getD x 0)) := fun a b hab hb' => by
      rw [I.least a b hab hb' v]
      conv => lhs; rw [self_map (d := 0) I.len, seg_map]
      simp
    by_cases h : p ≤ q
    · rw [Nat.min_eq_left h, Nat.max_eq_right h]; exact key p q h hq
    · rw [Nat.min_eq_right (by omega), Nat.max_eq_left (by omega), sym]; exact key q p (by omega) hp
  have segin : ∀ a b x, x ∈ seg (List.range 6) a b → x < 6 := fun a b x hx => List.mem_range.mp (List.mem_of_mem_drop (List.mem_of_mem_take hx))
  refine ⟨(D.perm.map _).trans ((self_map (d := 0) I.len) ▸ I.perm), by rw [List.length_map]; exact D.len, ?_, ?_, fun p q hp hq => ?_, fun p q hp hq v => ?_⟩
  · refine List.pairwise_map.mpr (D.nodup.imp_of_mem fun {a b} ha hb ne e => ne (getD_inj_six I.len I.nodup (D.lt _ ha) (D.lt _ hb) e))
  · intro x hx
    obtain ⟨a, ha, rfl⟩ := List.mem_map.mp hx
    exact I.lt _ (getD_mem_six I.len (D.lt _ ha))
  · have hp6 : p < 6 := by omega
    rw [getD_map_six D.len hp6, getD_map_six D.len hq]
    have flip := D.flip p q hp hq
    have h1 := slt p hp6
    have h2 := slt q hq
    have hne : s.getD p 0 ≠ s.getD q 0 := fun e => by have := getD_inj_six D.len D.nodup hp6 hq e; omega
    generalize s.getD p 0 = a at flip h1 hne
    generalize s.getD q 0 = c at flip h2 hne
    have e : (seg (List.range 6) (min a c) (max a c)).all (fun s => bs.getD s false) = decide (lv ≤ le (ps.getD a 0) (ps.getD c 0)) := by
      rw [Bool.eq_iff_iff, List.all_eq_true, decide_eq_true_eq, segle a c h1 h2 lv]
      refine ⟨fun k x hx => ?_, fun k x hx => ?_⟩
      · have := k x hx
        rw [hb x (segin _ _ x hx)] at this
        exact of_decide_eq_true this
      · rw [hb x (segin _ _ x hx)]
        exact decide_eq_true (k x hx)
    rw [e] at flip
    rw [hodd _ _ (I.lt _ (getD_mem_six I.len h1)) (I.lt _ (getD_mem_six I.len h2)), ← flip]
    by_cases hlt : a < c
    · have := I.ord a c hlt h2
      rw [show decide (c < a) = false from decide_eq_false (by omega)]
      simpa using this
    · by_cases hgt : c < a
      · have := I.ord c a hgt h1
        rw [show decide (c < a) = true from decide_eq_true hgt, osym (ps.getD a 0)]
        have ne : ps.getD a 0 ≠ ps.getD c 0 := fun q => by have := getD_inj_six I.len I.nodup h1 h2 q; omega
        have e2 : decide (ps.getD a 0 < ps.getD c 0) = !decide (ps.getD c 0 < ps.getD a 0) := by
          by_cases q : ps.getD a 0 < ps.getD c 0
          · rw [decide_eq_true q, decide_eq_false (by omega)]; rfl
          · rw [decide_eq_false q, decide_eq_true (by omega)]; rfl
        rw [e2]
        generalize decide (ps.getD c 0 < ps.getD a 0) = x at this ⊢
        generalize odd (ps.getD c 0) (ps.getD a 0) = y at this ⊢
        revert this
        cases x <;> cases y <;> decide
      · exact absurd (by omega) hne
  · have hp6 : p < 6 := by omega
    rw [getD_map_six D.len hp6, getD_map_six D.len hq, segle _ _ (slt p hp6) (slt q hq) v, seg_map]
    have sm := D.same p q hp hq (fun x => x < 6 ∧ v ≤ H (ps.getD x 0)) ?_
    · refine ⟨fun k x hx => ?_, fun k x hx => ?_⟩
      · obtain ⟨y, hy, rfl⟩ := List.mem_map.mp hx
        exact ((sm.mpr fun x hx => ⟨segin _ _ x hx, k x hx⟩) y hy).2
      · exact ((sm.mp fun y hy => ⟨D.lt y (List.mem_of_mem_drop (List.mem_of_mem_take hy)), k _ (List.mem_map.mpr ⟨y, hy, rfl⟩)⟩) x hx).2
    · have bl : ∀ x, bs.getD x false = true → x < 6 := fun x e => by
        by_cases q : x < 6
        · exact q
        · rw [List.getD_eq_getElem?_getD, List.getElem?_eq_none (by omega)] at e
          cases e
      by_cases h : v ≤ lv
      · refine .inl fun x e => ⟨bl x e, ?_⟩
        rw [hb x (bl x e)] at e
        have := of_decide_eq_true e
        omega
      · refine .inr fun x e => ?_
        rw [hb x e.1]
        exact decide_eq_true (by omega)

/-! the order due, read off -/
theorem filter_slots {pred : Nat → Bool} {ps : List Nat} (h : ps.length = 6) {p : Nat} (hp : p < 6) (k : ∀ q, q < 6 → pred (ps.getD q 0) = decide (q < p)) : (ps.filter pred).length = p := by
  rw [self_map (d := 0) h, List.filter_map, List.length_map]
  have e : (List.range 6).filter (pred ∘ fun s => ps.getD s 0) = (List.range 6).filter fun q => decide (q < p) := List.filter_congr fun q hq => k q (List.mem_range.mp hq)
  rw [e]
  have : ∀ p : Fin 6, ((List.range 6).filter fun q => decide (q < p.val)).length = p.val := by decide
  exact this ⟨p, hp⟩
theorem ahead_slots {le : Nat → Nat → Int} {levels : List Int} {H : Nat → Int} {ps : List Nat} (I : PInv H le (fun i j => oddF levels (le i j).toNat) ps) (sym : ∀ i j, le i j = le j i) {p : Nat} (hp : p < 6) :
    (aheadF 6 levels le (ps.getD p 0)).length = p := by
  unfold aheadF
  rw [← (I.perm.filter _).length_eq]
  refine filter_slots I.len hp fun q hq => ?_
  by_cases h : q = p
  · subst h; simp
  · have ne : ps.getD q 0 ≠ ps.getD p 0 := fun e => h (getD_inj_six I.len I.nodup hq hp e)
    have ne' : ((ps.getD q 0 : Nat) : Int) ≠ ((ps.getD p 0 : Nat) : Int) := by omega
    have e0 : (((ps.getD q 0 : Nat) : Int) != ((ps.getD p 0 : Nat) : Int)) = true := by simpa using ne'
    have e1 : decide (((ps.getD q 0 : Nat) : Int) < ((ps.getD p 0 : Nat) : Int)) = decide (ps.getD q 0 < ps.getD p 0) := by
      by_cases t : ps.getD q 0 < ps.getD p 0
      · rw [decide_eq_true t, decide_eq_true (by omega)]
      · rw [decide_eq_false t, decide_eq_false (by omega)]
    rw [e0, e1, Bool.true_and, sym]
    by_cases hlt : q < p
    · rw [decide_eq_true hlt]
      exact I.ord q p hlt hp
    · rw [decide_eq_false hlt]
      have o := I.ord p q (by omega) hq
      have e2 : decide (ps.getD q 0 < ps.getD p 0) = !decide (ps.getD p 0 < ps.getD q 0) := by
        by_cases t : ps.getD q 0 < ps.getD p 0
        · rw [decide_eq_true t, decide_eq_false (by omega)]; rfl
        · rw [decide_eq_false t, decide_eq_true (by omega)]; rfl
      rw [sym] at o
      rw [e2]
      generalize decide (ps.getD p 0 < ps.getD q 0) = x at o ⊢
      generalize oddF levels (le (ps.getD q 0) (ps.getD p 0)).toNat = y at o ⊢
      revert o
      cases x <;> cases y <;> decide
theorem due_slots {le : Nat → Nat → Int} {levels : List Int} {H : Nat → Int} {ps : List Nat} {codes : List Int} (hc : codes.length = 6) (I : PInv H le (fun i j => oddF levels (le i j).toNat) ps) (sym : ∀ i j, le i j = le j i) :
    ∀ k, k ≤ 6 → ∀ p, p < 6 → ps.getD p 0 < k → (dueK codes levels le k)[p]? = some (codes.getD (ps.getD p 0) 0)
  | 0, _, _, _, h => by omega
  | k + 1, hk, p, hp, h => by
    rw [dueK_succ, hc]
    have hm : k ∈ ps := I.perm.mem_iff.mpr (List.mem_range.mpr (by omega))
    obtain ⟨pk, hpk, e⟩ := List.mem_iff_getElem.mp hm
    have hpk6 : pk < 6 := by rw [I.len] at hpk; exact hpk
    have ek : ps.getD pk 0 = k := by rw [List.getD_eq_getElem?_getD, List.getElem?_eq_getElem hpk, Option.getD_some, e]
    have ea := ahead_slots I sym hpk6
    rw [ek] at ea
    rw [ea]
    by_cases q : p = pk
    · subst q
      rw [ek, List.getElem?_set_self (by rw [dueK_length, hc]; exact hp)]
    · rw [List.getElem?_set_ne (Ne.symm q)]
      refine due_slots hc I sym k (by omega) p hp ?_
      have : ps.getD p 0 ≠ k := fun e => q (getD_inj_six I.len I.nodup hp hpk6 (e.trans ek.symm))
      omega
theorem due_eq {le : Nat → Nat → Int} {levels : List Int} {H : Nat → Int} {ps : List Nat} {codes : List Int} (hc : codes.length = 6) (I : PInv H le (fun i j => oddF levels (le i j).toNat) ps) (sym : ∀ i j, le i j = le j i) :
    dueK codes levels le 6 = ps.map fun i => codes.getD i 0 := by
  apply List.ext_getElem?
  intro p
  by_cases hp : p < 6
  · rw [due_slots hc I sym 6 (Nat.le_refl _) p hp (I.lt _ (getD_mem_six I.len hp)), List.getElem?_map]
    have : p < ps.length := by rw [I.len]; exact hp
    rw [List.getD_eq_getElem?_getD (l := ps), List.getElem?_eq_getElem this]
    rfl
  · rw [List.getElem?_eq_none (by rw [dueK_length, hc]; omega), List.getElem?_eq_none (by rw [List.length_map, I.len]; omega)]
end Mine
end

section
set_option maxRecDepth 100000
namespace Mine

def htOf (ns : List Int) : Int → Int := fun c => (told c (maskL ns) : Nat)
def hsOf (ns : List Int) : List Int := (codesL ns).map fun c => ((height c (maskL ns) : Nat) : Int)
def HOf (ns : List Int) : Nat → Int := fun p => htOf ns ((codesL ns).getD p 0)
def posK (H : Nat → Int) (nums : List Int) (k : Nat) : List Nat := (nums.take k).foldl (fun ps x => turnC (fun p => decide (lvOf x ≤ H p)) 0 ps) (List.range 6)
theorem posK_succ {H : Nat → Int} {nums : List Int} {k : Nat} (hk : k < nums.length) : posK H nums (k + 1) = turnC (fun p => decide (lvOf (nums.getD k 0) ≤ H p)) 0 (posK H nums k) := by
  unfold posK
  rw [take_succ_getD hk, List.foldl_append]
  rfl
theorem lineK_pos {ns : List Int} : ∀ k, k ≤ 6 → lineK (htOf ns) (codesL ns) (numsL ns) k = (posK (HOf ns) (numsL ns) k).map fun p => (codesL ns).getD p 0
  | 0, _ => self_map (codes_length ns)
  | k + 1, hk => by
    have hk' : k < (numsL ns).length := by rw [nums_length]; omega
    rw [lineK_succ hk', posK_succ hk', lineK_pos k (by omega)]
    rw [turnC_congr (d := 0) (d' := (codesL ns).getD 0 0) (fun _ _ => rfl), turnC_map (fun p => (codesL ns).getD p 0)]
    rfl
theorem hs_eq (ns : List Int) : hsOf ns = (List.range 6).map (HOf ns) := by
  unfold hsOf
  conv => lhs; rw [self_map (d := 0) (codes_length ns)]
  rw [List.map_map]
  apply List.map_congr_left
  intro p hp
  have : p < (codesL ns).length := by rw [codes_length]; exact List.mem_range.mp hp
  have h0 : 0 ≤ (codesL ns).getD p 0 := by
    rw [List.getD_eq_getElem?_getD, List.getElem?_eq_getElem this, Option.getD_some]
    exact (codes_bounds _ (List.getElem_mem this)).1
  show ((height ((codesL ns).getD p 0) (maskL ns) : Nat) : Int) = ((told ((codesL ns).getD p 0) (maskL ns) : Nat) : Int)
  rw [told_height h0]
theorem least_sym (hs : List Int) (i j : Nat) : least1 hs i j = least1 hs j i := by
  unfold least1; rw [Nat.min_comm, Nat.max_comm]
theorem least_seg {ns : List Int} {i j : Nat} (h : i ≤ j) : least1 (hsOf ns) i j = lmin ((seg (List.range 6) i j).map (HOf ns)) := by
  unfold least1
  rw [Nat.min_eq_left h, Nat.max_eq_right h, hs_eq, ← seg_map]
  rfl
theorem seg_ne {i j : Nat} (h : i ≤ j) (hj : j < 6) : seg (List.range 6) i j ≠ [] := fun e => by
  have := congrArg List.length e
  unfold seg at this
  simp at this
  omega
theorem lmin_iff {l : List Int} (h : l ≠ []) (v : Int) : v ≤ lmin l ↔ ∀ x ∈ l, v ≤ x :=
  ⟨fun k x hx => Int.le_trans k (lmin_le hx), fun k => k _ (lmin_mem h)⟩
theorem H_bounds {ns : List Int} (p : Nat) (hp : p < 6) : 0 ≤ HOf ns p ∧ HOf ns p < 8 := by
  have : p < (codesL ns).length := by rw [codes_length]; exact hp
  have h0 : 0 ≤ (codesL ns).getD p 0 := by
    rw [List.getD_eq_getElem?_getD, List.getElem?_eq_getElem this, Option.getD_some]
    exact (codes_bounds _ (List.getElem_mem this)).1
  have := told_lt h0 (maskL ns)
  unfold HOf htOf
  omega
theorem le_bounds {ns : List Int} {i j : Nat} (hi : i < 6) (hj : j < 6) : 0 ≤ least1 (hsOf ns) i j ∧ least1 (hsOf ns) i j < 8 := by
  have key : ∀ a b, a ≤ b → b < 6 → 0 ≤ least1 (hsOf ns) a b ∧ least1 (hsOf ns) a b < 8 := fun a b hab hb => by
    rw [least_seg hab]
    obtain ⟨x, hx, e⟩ := List.mem_map.mp (lmin_mem (fun e => seg_ne hab hb (List.map_eq_nil_iff.mp e)) : lmin ((seg (List.range 6) a b).map (HOf ns)) ∈ _)
    rw [← e]
    exact H_bounds x (List.mem_range.mp (List.mem_of_mem_drop (List.mem_of_mem_take hx)))
  by_cases h : i ≤ j
  · exact key i j h hj
  · rw [least_sym]; exact key j i (by omega) hi
theorem odd_snoc {levels : List Int} {lv m : Int} (hm : 0 ≤ m) : oddF (levels ++ [lv]) m.toNat = (oddF levels m.toNat != decide (lv ≤ m)) := by
  have e : ((m.toNat : Nat) : Int) = m := by omega
  unfold oddF
  rw [List.filter_append, List.map_append, List.length_append, List.length_map, List.length_map, e]
  generalize (levels.filter fun l => decide (l ≤ m)).length = n
  have key : ∀ n : Nat, ((n : Int).fmod 2 == 1) = decide (n % 2 = 1) := fun n => by
    rw [Int.fmod_eq_emod_of_nonneg _ (by decide), Bool.eq_iff_iff]
    simp only [beq_iff_eq, decide_eq_true_eq]
    omega
  rw [key, key]
  by_cases h : lv ≤ m
  · simp only [List.filter_cons, decide_eq_true h, if_true, List.filter_nil, List.length_singleton]
    by_cases q : n % 2 = 1
    · rw [decide_eq_true q, decide_eq_false (by omega)]; rfl
    · rw [decide_eq_false q, decide_eq_true (by omega)]; rfl
  · simp only [List.filter_cons, decide_eq_false h, List.filter_nil, Bool.false_eq_true, if_false, List.length_nil, Nat.add_zero]
    simp
theorem pinv_all {ns : List Int} : ∀ k, k ≤ 6 → PInv (HOf ns) (least1 (hsOf ns)) (fun i j => oddF (levelsK (numsL ns) k) (least1 (hsOf ns) i j).toNat) (posK (HOf ns) (numsL ns) k)
  | 0, _ => by
    have g : ∀ p, p < 6 → (List.range 6).getD p 0 = p := fun p hp => by simp [List.getD_eq_getElem?_getD, hp]
    refine ⟨List.Perm.refl _, rfl, List.nodup_range, fun x hx => List.mem_range.mp hx, fun p q hp hq => ?_, fun p q hp hq v => ?_⟩
    · show (decide ((List.range 6).getD p 0 < (List.range 6).getD q 0) != oddF [] _) = true
      rw [g p (by omega), g q hq, decide_eq_true hp]
      rfl
    · show v ≤ least1 (hsOf ns) ((List.range 6).getD p 0) ((List.range 6).getD q 0) ↔ _
      rw [g p (by omega), g q hq, least_seg hp, lmin_iff (fun e => seg_ne hp hq (List.map_eq_nil_iff.mp e))]
      exact ⟨fun k x hx => k _ (List.mem_map.mpr ⟨x, hx, rfl⟩), fun k x hx => by obtain ⟨y, hy, rfl⟩ := List.mem_map.mp hx; exact k y hy⟩
  | k + 1, hk => by
    have hk' : k < (numsL ns).length := by rw [nums_length]; omega
    rw [posK_succ hk', levelsK_succ hk']
    exact pinv_step (pinv_all k (by omega)) (least_sym _) (fun i j => by show oddF _ _ = oddF _ _; rw [least_sym]) fun i j hi hj => odd_snoc (le_bounds hi hj).1
/-- the law in plain Lean: what is due is what the deeds leave -/
theorem law_plain {ns : List Int} {k : Nat} (hk : k ≤ 6) : dueK (codesL ns) (levelsK (numsL ns) k) (least1 (hsOf ns)) 6 = lineK (htOf ns) (codesL ns) (numsL ns) k := by
  rw [due_eq (codes_length ns) (pinv_all k hk) (least_sym _), lineK_pos k hk]
theorem least_row {ns : List Int} {i j : Nat} (hi : i < 6) (hj : j < 6) : ∃ row, (leastF (hsOf ns))[i]? = some row ∧ row[j]? = some (least1 (hsOf ns) i j) ∧ 0 ≤ least1 (hsOf ns) i j ∧ least1 (hsOf ns) i j < 8 := by
  have len : (hsOf ns).length = 6 := by rw [hs_eq]; simp
  refine ⟨_, by unfold leastF; rw [len, List.getElem?_map, List.getElem?_range hi]; rfl, by rw [List.getElem?_map, List.getElem?_range hj]; rfl, le_bounds hi hj⟩
end Mine
end

section
open PySem PySem.W PyProof.Rows
set_option maxRecDepth 100000
namespace Mine

section
variable {prog : Program} {w : World} {mg mb : Str → Option Value} {A : Around} {h : Heap} {env : Env}

theorem Ev.call2 {x : Str} {p pos : Pos} {e e' : Expr} {k : Nat} {P Q : Value → Heap → Prop} {T : Value → Value → Heap → Prop} (G : Gd mg mb h) (R : Room k A) (he : Ev prog w A h (eval e env) P) (he' : ∀ v h', h.StaysIn h' → P v h' → Ev prog w A h' (eval e' env) (T v))
    (hf : ∀ v u h', h.StaysIn h' → T v u h' → Fn prog w mg x [v, u] h' k Q) (hx : ∃ a o fd, mg x = some (.ref a) ∧ h.get? a = some o ∧ o.data = .func fd)
    (hg : env.globals = mainGlobals := by rfl)
    (hk : env.scope.kind = .function := by rfl) (hl : env.kindOf x = some .globalImplicit := by rfl) (hd : (x == ("__debug__" : Str)) = false := by decide)
    (hs : backTo pos (starEach [e, e'] env) = [(false, eval e env), (false, eval e' env)] := by rfl) : Ev prog w A h (eval (.Call (.Name x p) [e, e'] [] pos) env) Q := by
  obtain ⟨a, o, fd, h1, h2, h3⟩ := hx
  refine Ev.call_ref h2 h3 (Ev.name_global G.g h1 hg hk hl hd) (Ev.args2 he he' hs) fun a' h' k' ha => ?_
  obtain ⟨v, u, rfl, hv⟩ := ha
  obtain ⟨a₂, o₂, fd₂, g1, g2, g3, g4⟩ := hf v u h' k' hv
  rw [h1] at g1
  cases g1
  exact g4 A R
theorem Ev.call3 {x : Str} {p pos : Pos} {e e' e'' : Expr} {k : Nat} {P Q : Value → Heap → Prop} {T : Value → Value → Heap → Prop} {U : Value → Value → Value → Heap → Prop} (G : Gd mg mb h) (R : Room k A) (he : Ev prog w A h (eval e env) P) (he' : ∀ v h', h.StaysIn h' → P v h' → Ev prog w A h' (eval e' env) (T v))
    (he'' : ∀ v u h', h.StaysIn h' → T v u h' → Ev prog w A h' (eval e'' env) (U v u))
    (hf : ∀ v u z h', h.StaysIn h' → U v u z h' → Fn prog w mg x [v, u, z] h' k Q) (hx : ∃ a o fd, mg x = some (.ref a) ∧ h.get? a = some o ∧ o.data = .func fd)
    (hg : env.globals = mainGlobals := by rfl)
    (hk : env.scope.kind = .function := by rfl) (hl : env.kindOf x = some .globalImplicit := by rfl) (hd : (x == ("__debug__" : Str)) = false := by decide)
    (hs : backTo pos (starEach [e, e', e''] env) = [(false, eval e env), (false, eval e' env), (false, eval e'' env)] := by rfl) : Ev prog w A h (eval (.Call (.Name x p) [e, e', e''] [] pos) env) Q := by
  obtain ⟨a, o, fd, h1, h2, h3⟩ := hx
  refine Ev.call_ref h2 h3 (Ev.name_global G.g h1 hg hk hl hd) (Ev.args3 he he' he'' hs) fun a' h' k' ha => ?_
  obtain ⟨v, u, z, rfl, hv⟩ := ha
  obtain ⟨a₂, o₂, fd₂, g1, g2, g3, g4⟩ := hf v u z h' k' hv
  rw [h1] at g1
  cases g1
  exact g4 A R

/-- the law's own def: in clean contexts, called from no frame -/
def FnL (prog : Program) (w : World) (mg : Str → Option Value) (x : Str) (vs : List Value) (h : Heap) (k : Nat) (P : Value → Heap → Prop) : Prop :=
  ∃ a o fd, mg x = some (.ref a) ∧ h.get? a = some o ∧ o.data = .func fd ∧ ∀ A, Room k A → A.guards = some [] → A.frames = some [] → EvN prog w A h (call (.ref a) vs) P
theorem FnL.of_bodyC {name : Str} {params : Arguments} {body : List Stmt} {scope : Scope} {pos : Pos} {i : Nat} {vs : List Value} {binds : List (Str × Value)} {k : Nat} {P : Value → Heap → Prop}
    (G : Gd mg mb h) (hd : (recsOf pw)[i]? = some ⟨name, params, body, scope, pos⟩)
    (hx : ∀ (s s₁ : Shared) (A : Around) (L a : Addr) (cd : Value), Room k A → A.guards = some [] → A.frames = some [envOfC name scope L a cd] → s.heap.get? L = none → h.StaysIn s.heap →
      St s (envOfC name scope L a cd) (bindL (envOfC name scope L a cd).kindOf binds fun _ => none) (bindC (envOfC name scope L a cd).kindOf binds fun _ => none) s.heap s₁ →
      wpN (model prog w) A (execs body (envOfC name scope L a cd)) (fun f s' => P (match f with | .ret v => v | _ => .none) s'.heap ∧ Keeps s s') (fun _ _ => False) s₁)
    (hbind : ∀ pm cd doc, bindArgs (Calls.docDef name params body scope pm cd doc) ⟨vs, []⟩ = pure binds)
    (hkind : (binds.all fun y => scope.names.lookup y.1 == some .local || scope.names.lookup y.1 == some .cell) = true) (hnd : ((cellsFrom 0 scope.names []).map (·.1)).Nodup)
    (hco : scope.isCoroutine = false := by rfl) (hgen : scope.isGenerator = false := by rfl) (hk : scope.kind = .function := by rfl) : FnL prog w mg name vs h (k + 1) P := by
  obtain ⟨a, o, pm, cd, doc, h1, h2, h3, h4⟩ := G.fn _ (List.mem_of_getElem? hd)
  refine ⟨a, o, _, h1, h2, h3, fun A R hg hfr => EvN.mk fun s hs => wpN_call ?_⟩
  refine codeN_call_function (by have := R.1; omega) (hs _ _ h2) h3 hco hgen rfl (h4.keeps hs) ?_
  rw [hbind pm cd doc]
  refine wpAny_pure (wpAny_newFunctionEnv_cells hk (kindsX hkind _) fun env he s₁ x => ?_)
  subst he
  have up := x.toInCall.keep
  refine ⟨(G.nolimit.keeps hs).keeps up, codeN_func ?_⟩
  have S : St s (envOfC name scope s.heap.objs.size a cd) (bindL (envOfC name scope s.heap.objs.size a cd).kindOf binds fun _ => none) (bindC (envOfC name scope s.heap.objs.size a cd).kindOf binds fun _ => none) s.heap s₁ := by
    have above : ∀ n c, (n, c) ∈ (envOfC name scope s.heap.objs.size a cd).cells → s.heap.objs.size < c := fun n c hm => x.above n c hm
    refine ⟨x.toInCall.same, stays_refl _, up, x.toInCall.ns, x.cell, fresh_size _, fun n c hm => ⟨?_, Nat.ne_of_gt (above n c hm)⟩, x.apart, fun n c hm => ⟨_, x.cell n c (lookup_of_mem_nodup (cellsFrom_names scope.names 0 (s.heap.objs.size + 1) [] [] rfl ▸ hnd) hm)⟩⟩
    cases q : s.heap.get? c with
    | none => rfl
    | some o => exact absurd (Heap.lt_size q) (Nat.not_lt.mpr (Nat.le_of_lt (above n c hm)))
  exact hx s s₁ _ _ a cd (R.deeper _) hg (Around.frames_deeper hfr) (fresh_size _) hs S

theorem St.seqs {s₀ s s₁ : Shared} {m cm : Str → Option Value} {g g' : Heap} (S : St s₀ env m cm g s) (k : Keeps s s₁) (tr : ∀ a o, s₁.heap.get? a = some o → ¬ Own env a → g'.get? a = some o) : Seqs s₁.heap g' :=
  fun a o e ⟨_, _, hd⟩ => tr a o e ((S.keeps k).not_own_seq e hd)

/-- ns + ms, the new list -/
theorem Ev.add_intsF {l r : Expr} {pos : Pos} {ns ms : List Int} (hl : Ev prog w A h (eval l env) (IsIL ns)) (hr : Ev prog w A h (eval r env) (IsIL ms)) (hn : ns.length + ms.length ≤ 100) :
    Ev prog w A h (eval (.BinOp l .Add r pos) env) (fun v h' => ∃ c vs, v = .ref c ∧ h.get? c = none ∧ h'.IsList c vs.toArray ∧ IntsAre vs (ns ++ ms)) :=
  Ev.binop hl (R := fun x y h' => IsIL ns x h' ∧ IsIL ms y h') (fun x h' k hx => (hr.mono k).weak fun y h'' k2 hy => ⟨IsIL.up hx k2, hy⟩) fun x y h' k hxy => by
    obtain ⟨⟨a, vs, rfl, ha, i⟩, b, us, rfl, hb, j⟩ := hxy
    have : (100 : Nat) ≤ sizeLine := by decide
    exact Ev.add_lists ha hb (by rw [i.length, j.length]; omega) fun c h₂ _ nw hc => ⟨c, vs ++ us, rfl, not_of_stays k nw, hc, ints_append i j⟩
theorem slice_bad {a b c d e f : Nat} {k : Int} (hk : k = 0 ∨ k = 2 ∨ k = 6) (t : Tok) : BadV (.str (Txt.slice ⟨#[a, b, c, d, e, f]⟩ none (some k)) t) := by
  rcases hk with rfl | rfl | rfl
  · exact .zero t
  · exact .two a b t
  · exact .six a b c d e f t
theorem join_six (a b c d e f : Nat) : Txt.join "" [⟨#[a]⟩, ⟨#[b]⟩, ⟨#[c]⟩, ⟨#[d]⟩, ⟨#[e]⟩, ⟨#[f]⟩] = (⟨#[a, b, c, d, e, f]⟩ : Str) := by rfl
end
end Mine
end

section
open PySem PySem.W PyProof.Rows
set_option maxRecDepth 100000
namespace Mine

section
variable {prog : Program} {w : World} {mg mb : Str → Option Value} {A : Around} {h : Heap} {env : Env}

set_option maxHeartbeats 600000 in
theorem law_ok {v : Value} {ns : List Int} (G : Gd mg mb h) (hv : IsIL ns v h) (hn : ns.length ≤ 63) : FnL prog w mg "law" [v] h 9 (IsB true) := by
  refine FnL.of_bodyC (i := 25) (binds := [("script", v)]) (k := 8) G rfl (fun s s₁ A L a cd R hgd hfr hLs hs S => ?_) (fun _ _ _ => rfl) rfl (by decide)
  have up : ∀ {env m cm g s'}, St s env m cm g s' → h.StaysIn s'.heap := fun S' => stays_trans hs (keeps_stays S'.done)
  have hh := R.2.2
  have szl : (100 : Nat) ≤ sizeLine := by decide
  -- own
  refine wpN_execs_cons (wpN_of ?_)
  refine @St.assignC prog w A _ _ _ _ _ _ "own" _ _ _ (L + 1) (IsIL ownL) _ _ S rfl ?_ ?_ rfl rfl rfl
  · exact Ev.list_ints (ns := ownL) (by decide) (Ev.ei Ev.int (Ev.ei Ev.int (Ev.ei Ev.int (Ev.ei Ev.int (Ev.ei Ev.int (Ev.ei Ev.int Ev.ei_nil))))))
  intro vo s₂ hvo k₂ g₃ s₃ gk₃ tr₃ S₃
  have hown₃ : IsIL ownL vo g₃ := IsIL.seqs hvo (St.seqs S k₂ tr₃)
  -- given
  refine wpN_execs_cons (wpN_of (St.assignC (x := "given") (c := L + 2) S₃ (P := IsIL (givenL ns)) rfl ?_ ?_))
  · have e0 : ((ns.take 6).filter fun _ => true).map (fun x => x.fmod 1000003) = givenL ns := by rw [List.filter_eq_self.mpr (by simp)]; rfl
    rw [← e0]
    exact Ev.comp_ints (ns := ns.take 6) (ok := fun _ => true) (f := fun x => x.fmod 1000003) (cl := []) hh rfl (Ev.slice_intsU (b := 6) (Ev.val (St.loc S₃ rfl) fun h' k => IsIL.up hv (stays_trans (up S₃) k)) Ev.int (by omega)) (fun _ _ _ _ _ _ _ _ _ => Ev.tests_nil)
      (fun b tb h₂ C₂ m₂ _ _ k₂ hn₂ hm₂ => Ev.fmod (by decide) (Ev.val (Ev.name_local hn₂ hm₂) fun _ _ => ⟨_, rfl⟩) Ev.int) (by rw [List.length_take]; omega)
  intro vg s₄ hvg k₄ g₅ s₅ gk₅ tr₅ S₅
  have hgiv₅ : IsIL (givenL ns) vg g₅ := IsIL.seqs hvg (St.seqs S₃ k₄ tr₅)
  have hown₅ := IsIL.up hown₃ gk₅
  have G₅ := G.keeps (up S₅)
  have glen : (givenL ns).length ≤ 6 := by simp [givenL]; omega
  -- numbers
  refine wpN_execs_cons (wpN_of (St.assignL S₅ (n := 6) (P := fun i v => ∃ t, v = .int i t) (ok := fun _ => true) (Y := fun _ i y _ => ∃ t, y = .int (ownL.getD i 0 + (((givenL ns).drop i).take (i + 1 - i)).sum) t) (cl := [("own", L + 1), ("given", L + 2)]) rfl
    (Ev.range1 G₅ Ev.int) (fun v h' k hv => itRange hh (by decide) hv) (fun _ _ _ _ _ q _ => q) (fun _ _ _ _ _ _ _ _ _ _ => Ev.tests_nil) (fun fb i v' h' C m' hi _ hp k hn₂ hm₂ _ => ?_) ?_))
  · obtain ⟨t, rfl⟩ := hp
    have G' := G₅.keeps k
    have e1 : ownL[i]? = some (ownL.getD i 0) := by
      have : i < ownL.length := hi
      simp [List.getD_eq_getElem?_getD, List.getElem?_eq_getElem this]
    refine Ev.add (Ev.item_int (ns := ownL) (k := i) (Ev.val (Ev.name_cell (c := L + 1) rfl ((S₅.cell "own" (L + 1) rfl).keeps k)) fun h₂ k₂ => IsIL.up hown₅ (stays_trans S₅.imm (stays_trans k k₂))) (Ev.val (Ev.name_local hn₂ hm₂) fun _ _ => ⟨_, rfl⟩) (by omega) e1)
      (Ev.bsum G' hh (Ev.slice_intsG (ns := givenL ns) (a := i) (b := i + 1) (Ev.val (Ev.name_cell (c := L + 2) rfl ((S₅.cell "given" (L + 2) rfl).keeps k)) fun h₂ k₂ => IsIL.up hgiv₅ (stays_trans S₅.imm (stays_trans k k₂))) (Ev.val (Ev.name_local hn₂ hm₂) fun _ _ => ⟨_, rfl⟩)
        (Ev.castI (Ev.add (a := i) (b := 1) (Ev.val (Ev.name_local hn₂ hm₂) fun _ _ => ⟨_, rfl⟩) Ev.int) (by simp)) (by omega)) (fun x hx => ?_) (by rw [List.length_take]; omega))
    have := given_bounds x (List.mem_of_mem_drop (List.mem_of_mem_take hx))
    omega
  intro Dn ys fb s₆ hDn hln hall k₆ g₇ s₇ gk₇ tr₇ S₇
  have hnums₇ : IsIL (numsL ns) (.ref Dn) g₇ := by
    obtain ⟨o, ho, hc', n, hdd⟩ := hln
    rw [List.filter_eq_self.mpr (by simp)] at hall
    have := All2.ints hall
    simp only [Nat.add_sub_cancel_left] at this
    exact ⟨Dn, ys, rfl, ⟨o, tr₇ Dn o ho ((S₅.keeps k₆).not_own_seq ho hdd) (.inr rfl), hc', n, hdd⟩, this⟩
  have G₇ := G.keeps (up S₇)
  have nlen := nums_length ns
  have clen := codes_length ns
  -- mask
  refine wpN_execs_cons (wpN_of (St.assignC (x := "mask") (c := L + 3) S₇ (P := IsI (maskL ns)) rfl ?_ ?_))
  · exact Ev.add Ev.int (Ev.fmod (by decide) (Ev.add Ev.int (Ev.bsum (ns := numsL ns) G₇ hh (Ev.val (St.loc S₇ rfl) fun h' k => IsIL.up hnums₇ (stays_trans S₇.imm k)) (fun x hx => by have := nums_bounds x hx; omega) (by omega))) Ev.int)
  rintro _ s₈ ⟨tm, rfl⟩ k₈ g₉ s₉ gk₉ tr₉ S₉
  have hnums₉ := IsIL.up hnums₇ gk₉
  -- codes
  refine wpN_execs_cons (wpN_of (St.assignL S₉ (n := (numsL ns).length) (Pv := IsIL (numsL ns)) (P := fun i v => ∃ t, v = .int ((numsL ns).getD i 0) t) (ok := fun _ => true) (Y := fun _ i y _ => ∃ t, y = .int (codeOf ((numsL ns).getD i 0)) t) (cl := []) rfl
    (Ev.val (St.loc S₉ rfl) fun h' k => IsIL.up hnums₉ (stays_trans S₉.imm k)) (fun v h' k hv => ?_) (fun _ _ _ _ _ q _ => q) (fun _ _ _ _ _ _ _ _ _ _ => Ev.tests_nil) (fun fb i v' h' C m' hi _ hp k hn₂ hm₂ _ => ?_) ?_ (by omega)))
  · obtain ⟨a, vs, rfl, hl, is⟩ := hv
    exact itInts hh hl is
  · obtain ⟨t, rfl⟩ := hp
    generalize (numsL ns).getD i 0 = x at hm₂ ⊢
    show Ev prog w A h' (eval _ _) (IsI ((x.fdiv 8).fmod (if x.fmod 8 != 0 then 128 else 55296)))
    refine Ev.fmod (by split <;> decide) (Ev.fdiv (b := 8) (by decide) (by decide) (Ev.val (Ev.name_local hn₂ hm₂) fun _ _ => ⟨_, rfl⟩) Ev.int)
      (Ev.ifexp (b := x.fmod 8 != 0) (Ev.testI (Ev.fmod (b := 8) (by decide) (Ev.val (Ev.name_local hn₂ hm₂) fun _ _ => ⟨_, rfl⟩) Ev.int)) (fun e => by rw [if_pos e]; exact Ev.int) fun e => by rw [if_neg (by rw [e]; decide)]; exact Ev.int)
  intro Dc ys' fb' s₁₀ hDc hlc hall' k₁₀ g₁₁ s₁₁ gk₁₁ tr₁₁ S₁₁
  have hcodes₁₁ : IsIL (codesL ns) (.ref Dc) g₁₁ := by
    obtain ⟨o, ho, hc', n, hdd⟩ := hlc
    rw [List.filter_eq_self.mpr (by simp)] at hall'
    have := All2.ints (f := fun i => codeOf ((numsL ns).getD i 0)) hall'
    have e : (List.range (numsL ns).length).map (fun i => codeOf ((numsL ns).getD i 0)) = codesL ns := by
      unfold codesL
      conv => rhs; rw [self_map (d := 0) (rfl : (numsL ns).length = _)]
      rw [List.map_map]; rfl
    rw [e] at this
    exact ⟨Dc, ys', rfl, ⟨o, tr₁₁ Dc o ho ((S₉.keeps k₁₀).not_own_seq ho hdd) (.inr rfl), hc', n, hdd⟩, this⟩
  have hnums₁₁ := IsIL.up hnums₉ gk₁₁
  have G₁₁ := G.keeps (up S₁₁)
  -- heights
  refine wpN_execs_cons (wpN_of (St.assignC (x := "heights") (c := L + 4) S₁₁ (P := fun v h' => ∃ D f, v = .ref D ∧ s₁₁.heap.get? D = none ∧ h'.MapOf (intKind prog w) D f ∧ ∀ c ∈ codesL ns, ∃ t, f c = some (.int (htOf ns c) t)) rfl ?_ ?_))
  · refine Ev.dictcomp (ns := codesL ns) (f := htOf ns) (cl := [("mask", L + 3)]) hh rfl (Ev.val (St.loc S₁₁ rfl) fun h' k => IsIL.up hcodes₁₁ (stays_trans S₁₁.imm k)) (fun n t h' C m' _ k hn₂ hm₂ => Ev.val (Ev.name_local hn₂ hm₂) fun _ _ => ⟨_, rfl⟩) (fun n t h' C m' hnm k hn₂ hm₂ => ?_) (by omega)
    refine Ev.call2 (k := 7) (T := fun v u _ => v = .int n t ∧ u = .int (maskL ns) tm) (G₁₁.keeps k) (R.le (by decide)) (Ev.name_local hn₂ hm₂) (fun v h₂ k₂ e => (Ev.name_cell (c := L + 3) rfl ((S₁₁.cell "mask" (L + 3) rfl).keeps (stays_trans k k₂))).weak fun _ _ _ e' => ⟨e, e'⟩) (fun v u h₂ k₂ e => ?_) ((G₁₁.keeps k).at (i := 18) rfl)
    obtain ⟨rfl, rfl⟩ := e
    exact told_ok ((G₁₁.keeps k).keeps k₂) (codes_bounds n hnm)
  rintro _ s₁₂ ⟨Dh, f, rfl, nwh, hmap, hf⟩ k₁₂ g₁₃ s₁₃ gk₁₃ tr₁₃ S₁₃
  have hmap₁₃ : g₁₃.MapOf (intKind prog w) Dh f := by
    obtain ⟨o, es, ep, ho, r⟩ := hmap
    exact ⟨o, es, ep, tr₁₃ Dh o ho (S₁₁.not_own_new nwh), r⟩
  have hnums₁₃ := IsIL.up hnums₁₁ gk₁₃
  have hcodes₁₃ := IsIL.up hcodes₁₁ gk₁₃
  have G₁₃ := G.keeps (up S₁₃)
  -- no judge failed
  refine wpN_execs_cons (exec_ifN (b := false) ?_ (fun e => nomatch e) fun _ s₁₄ k₁₄ => wpN_of (wpAny_execs_nil ?_))
  · have hne : 0 < (((codesL ns).filter fun _ => true).map (htOf ns)).length := by rw [List.filter_eq_self.mpr (by simp), List.length_map]; omega
    refine (Ev.test_cmpI (a := lmin (((codesL ns).filter fun _ => true).map (htOf ns))) (b := 0) (Ev.bmin_list G₁₃ hh (Ev.comp_ints (ns := codesL ns) (ok := fun _ => true) (f := htOf ns) (cl := [("heights", L + 4)]) hh rfl (Ev.val (St.loc S₁₃ rfl) fun h' k => IsIL.up hcodes₁₃ (stays_trans S₁₃.imm k)) (fun _ _ _ _ _ _ _ _ _ => Ev.tests_nil)
      (fun n t h' C m' hnm _ k hn₂ hm₂ => ?_) (by omega)) hne) Ev.int fun _ _ _ => Ev.opLt).weak fun _ _ _ q => ?_
    · obtain ⟨th, hth⟩ := hf n hnm
      exact Ev.item_map (mapOf_up hmap₁₃ (stays_trans S₁₃.imm k)) (Ev.name_cell (c := L + 4) rfl ((S₁₃.cell "heights" (L + 4) rfl).keeps k)) (Ev.val (Ev.name_local hn₂ hm₂) fun _ _ => ⟨_, rfl⟩) hth
    · rw [q]
      refine decide_eq_false ?_
      have := lmin_mem (ns := ((codesL ns).filter fun _ => true).map (htOf ns)) (fun e => by rw [e] at hne; cases hne)
      obtain ⟨c, _, e⟩ := List.mem_map.mp this
      rw [← e]
      unfold htOf
      omega
  have S₁₄ := S₁₃.keeps k₁₄
  have G₁₄ := G.keeps (up S₁₄)
  have hslen : (hsOf ns).length = 6 := by rw [hs_eq]; simp
  -- least
  refine wpN_execs_cons (wpN_of (St.assign S₁₄ (x := "least") (P := IsILL (leastF (hsOf ns))) ?_ ?_))
  · refine Ev.call1 (k := 1) (P := IsIL (hsOf ns)) G₁₄ (R.le (by decide)) ?_ (fun v h' k hv => least_ok (G₁₄.keeps k) hv (by omega)) (G₁₄.at (i := 23) rfl)
    have e0 : ((codesL ns).filter fun _ => true).map (fun c => ((height c (maskL ns) : Nat) : Int)) = hsOf ns := by rw [List.filter_eq_self.mpr (by simp)]; rfl
    rw [← e0]
    refine Ev.comp_ints (ns := codesL ns) (ok := fun _ => true) (f := fun c => ((height c (maskL ns) : Nat) : Int)) (cl := [("mask", L + 3)]) hh rfl (Ev.val (St.loc S₁₄ rfl) fun h' k => IsIL.up hcodes₁₃ (stays_trans S₁₄.imm k)) (fun _ _ _ _ _ _ _ _ _ => Ev.tests_nil) (fun n t h' C m' hnm _ k hn₂ hm₂ => ?_) (by omega)
    refine Ev.call2 (k := 1) (T := fun v u _ => v = .int n t ∧ u = .int (maskL ns) tm) (G₁₄.keeps k) (R.le (by decide)) (Ev.name_local hn₂ hm₂) (fun v h₂ k₂ e => (Ev.name_cell (c := L + 3) rfl ((S₁₄.cell "mask" (L + 3) rfl).keeps (stays_trans k k₂))).weak fun _ _ _ e' => ⟨e, e'⟩) (fun v u h₂ k₂ e => ?_) ((G₁₄.keeps k).at (i := 19) rfl)
    obtain ⟨rfl, rfl⟩ := e
    exact height_ok ((G₁₄.keeps k).keeps k₂)
  intro vl s₁₅ hvl k₁₅ g₁₆ s₁₆ gk₁₆ tr₁₆ S₁₆
  have hleast₁₆ : IsILL (leastF (hsOf ns)) vl g₁₆ := IsILL.seqs hvl (St.seqs S₁₄ k₁₅ tr₁₆)
  have hnums₁₆ := IsIL.up hnums₁₃ gk₁₆
  have hcodes₁₆ := IsIL.up hcodes₁₃ gk₁₆
  have hmap₁₆ := mapOf_up (prog := prog) (w := w) hmap₁₃ gk₁₆
  have G₁₆ := G.keeps (up S₁₆)
  have cb : ∀ c ∈ codesL ns, 0 ≤ c ∧ c < 65536 := fun c hc => by have := codes_bounds c hc; omega
  -- line, levels
  refine wpN_execs_cons (wpN_of (St.assign2s hh S₁₆ (P := fun a b h' => (∃ t, a = .bytes (lineL (codesL ns)).toArray t) ∧ IsIL [] b h') (Ev.pair (P := IsYL (lineL (codesL ns))) ?_ (fun v h' k hv => (Ev.list_ints (ns := []) (by decide) Ev.ei_nil).weak fun _ _ _ q => ⟨hv, q⟩) fun _ _ _ _ k q => ⟨q.1, IsIL.up q.2 k⟩) ?_))
  · refine (Ev.call1 (k := 1) (P := IsV (.ref Dc)) (Q := IsY (lineF (codesL ns))) G₁₆ (R.le (by decide)) (St.loc S₁₆ rfl) (fun v h' k hv => by obtain rfl := hv; exact line_ok (G₁₆.keeps k) (IsIL.up hcodes₁₆ (stays_trans S₁₆.imm k)) (by omega) cb) (G₁₆.at (i := 21) rfl)).weak fun v _ _ q => ?_
    obtain ⟨t, q⟩ := q
    exact ⟨t, by rw [q, lineF_eq]⟩
  rintro _ vlv s₁₇ ⟨⟨tl, rfl⟩, hlv⟩ k₁₇ g₁₈ s₁₈ gk₁₈ tr₁₈ S₁₈
  have hlv₁₈ : IsIL [] vlv g₁₈ := IsIL.seqs hlv (St.seqs S₁₆ k₁₇ tr₁₈)
  have hleast₁₈ := IsILL.up hleast₁₆ gk₁₈
  have hnums₁₈ := IsIL.up hnums₁₆ gk₁₈
  have hcodes₁₈ := IsIL.up hcodes₁₆ gk₁₈
  have hmap₁₈ := mapOf_up (prog := prog) (w := w) hmap₁₆ gk₁₈
  have G₁₈ := G.keeps (up S₁₈)
  -- the deeds
  refine wpN_execs_cons (exec_forN (n := (numsL ns).length) (P := fun i v => ∃ t, v = .int ((numsL ns).getD i 0) t) (Pv := IsIL (numsL ns)) (Ev.val (St.loc S₁₈ rfl) fun h' k => IsIL.up hnums₁₈ (stays_trans S₁₈.imm k)) (fun v h' k hv => ?_) ?_)
  · obtain ⟨a, vs, rfl, hl, is⟩ := hv
    exact itInts hh hl is
  intro xv I fp s₁₉ k₁₉ hI hsrc
  have hIg : g₁₈.get? I = none := not_of_stays S₁₈.imm hI
  have nI := S₁₈.not_own_new hI
  have hIs : s.heap.get? I = none := not_of_stays S₁₈.base hIg
  have hfp : ∀ b ∈ fp, b = I ∨ ∃ s', ∃ _ : Keeps s₁₈ s', ∃ o xs n, s'.heap.get? b = some o ∧ o.data = .seq xs n := by
    obtain ⟨s', k', _, _, _, hf⟩ := hsrc
    intro b hb
    rcases hf b hb with q | ⟨_, o, ho, xs, n, hd⟩
    · exact .inl q
    · exact .inr ⟨s', k', o, xs, n, ho, hd⟩
  have hfo : ∀ b ∈ fp, ¬ Own _ b := fun b hb => by
    rcases hfp b hb with rfl | ⟨s', k', o, xs, n, ho, hd⟩
    · exact nI
    · exact (S₁₈.keeps k').not_own_seq ho hd
  refine ⟨fun i s' => ∃ mm cm g', StLike S mm cm g' s' ∧ g₁₈.StaysIn g' ∧ g'.get? I = none ∧ mm "codes" = some (.ref Dc) ∧ cm "heights" = some (.ref Dh) ∧ mm "least" = some vl ∧ (∃ lv, mm "levels" = some lv ∧ IsIL (levelsK (numsL ns) i) lv g') ∧
    ∃ t, mm "line" = some (.bytes (lineL (lineK (htOf ns) (codesL ns) (numsL ns) i)).toArray t), ?_, ?_, ?_, ?_⟩
  · exact ⟨_, _, g₁₈, S₁₈.keeps k₁₉, stays_refl _, hIg, rfl, rfl, rfl, ⟨vlv, rfl, hlv₁₈⟩, tl, rfl⟩
  · rintro i s' h' tk ⟨mm, cm, g', S', gg, gI, e⟩ kk
    exact ⟨mm, cm, g', S'.turn gI nI kk, gg, gI, e⟩
  · rintro i v s₂₀ hi ⟨tx, rfl⟩ ⟨mm, cm, g₂₀, S₂₀, gg₂₀, gI₂₀, e1, e2, e3, ⟨lv, e4, hlv₂₀⟩, te5, e5⟩ ⟨oI, hoI⟩
    have hi6 : i < 6 := by omega
    have hls := levelsK_succ (nums := numsL ns) hi
    have hks := lineK_succ (ht := htOf ns) (codes := codesL ns) (nums := numsL ns) hi
    generalize hx : (numsL ns).getD i 0 = x at hls hks ⊢
    obtain ⟨g₂₁, S₂₁, gk₂₁, tr₂₁⟩ := S₂₀.grow
    have gI₂₁ : g₂₁.get? I = some oI := tr₂₁ I oI hoI nI
    refine wpAny_assign_Name (S₂₁.store_local rfl rfl fun s₂₂ S₂₂ sb => ?_)
    have hlv₂₁ := IsIL.up hlv₂₀ gk₂₁
    have lvl := levelsK_length (numsL ns) i
    -- levels
    refine wpN_execs_cons (wpN_of (St.assign S₂₂ (x := "levels") (P := fun v h' => ∃ c vs, v = .ref c ∧ s₂₂.heap.get? c = none ∧ h'.IsList c vs.toArray ∧ IntsAre vs (levelsK (numsL ns) i ++ [lvOf x])) ?_ ?_))
    · exact Ev.add_intsF (Ev.val (St.loc S₂₂ e4) fun h' k => IsIL.up hlv₂₁ (stays_trans S₂₂.imm k)) (Ev.list_ints (ns := [lvOf x]) (by simp) (Ev.ei (Ev.fmod (b := 7) (by decide) (Ev.fdiv (b := 1024) (by decide) (by decide) (Ev.val (St.loc S₂₂ rfl) fun _ _ => ⟨_, rfl⟩) Ev.int) Ev.int) Ev.ei_nil)) (by simp; omega)
    rintro _ s₂₃ ⟨c, vs, rfl, nwc, hlc, isc⟩ k₂₃ g₂₄ s₂₄ gk₂₄ tr₂₄ S₂₄
    have hcI : c ≠ I := fun q => by have := S₂₂.imm _ _ gI₂₁; rw [← q, nwc] at this; cases this
    have hlv₂₄ : g₂₄.IsList c vs.toArray := isList_seqs hlc (St.seqs S₂₂ k₂₃ tr₂₄)
    have g18 : g₁₈.StaysIn g₂₄ := stays_trans gg₂₀ (stays_trans gk₂₁ gk₂₄)
    have G₂₄ := G.keeps (up S₂₄)
    have kmem : ∀ c ∈ lineK (htOf ns) (codesL ns) (numsL ns) i, c ∈ codesL ns := fun c hc => lineK_mem (by omega) hc
    have klen := lineK_length (ht := htOf ns) (codes := codesL ns) (nums := numsL ns) (k := i) (by omega)
    -- line
    refine wpN_execs_cons (St.assignN S₂₄ (x := "line") (P := IsYL (lineL (lineK (htOf ns) (codesL ns) (numsL ns) (i + 1)))) ?_ ?_)
    · rw [hks]
      refine EvN.call3 (k := 2) G₂₄ (R.le (by decide)) hgd (T := fun v u _ => v = .bytes (lineL (lineK (htOf ns) (codesL ns) (numsL ns) i)).toArray te5 ∧ u = .ref Dh) (U := fun v u z _ => (v = .bytes (lineL (lineK (htOf ns) (codesL ns) (numsL ns) i)).toArray te5 ∧ u = .ref Dh) ∧ ∃ t, z = .int (lvOf x) t)
        (St.loc S₂₄ e5) (fun v h' k e => ((St.cel S₂₄ (c := L + 4) rfl e2).mono k).weak fun _ _ _ e' => ⟨e, e'⟩)
        (fun v u h' k e => (Ev.item_last (ns := levelsK (numsL ns) i) (n := lvOf x) (Ev.val ((St.loc S₂₄ rfl).mono k) fun h₂ k₂ => ⟨c, vs, rfl, isList_up hlv₂₄ (stays_trans S₂₄.imm (stays_trans k k₂)), isc⟩) (Ev.neg Ev.int)).weak fun _ _ _ e' => ⟨e, e'⟩) (fun v u z h' k e => ?_) (G₂₄.at (i := 22) rfl)
      obtain ⟨⟨rfl, rfl⟩, tz, rfl⟩ := e
      exact turned_ok (G₂₄.keeps k) (by omega) (fun c hc => cb c (kmem c hc)) (mapOf_up hmap₁₈ (stays_trans g18 (stays_trans S₂₄.imm k))) fun c hc => hf c (kmem c hc)
    rintro _ s₂₅ ⟨t₂₅, rfl⟩ k₂₅ g₂₆ s₂₆ gk₂₆ tr₂₆ S₂₆
    have G₂₆ := G.keeps (up S₂₆)
    have g18' := stays_trans g18 gk₂₆
    have hdue : dueK (codesL ns) (levelsK (numsL ns) (i + 1)) (least1 (hsOf ns)) (codesL ns).length = lineK (htOf ns) (codesL ns) (numsL ns) (i + 1) := by rw [clen]; exact law_plain (by omega)
    have kmem' : ∀ c ∈ lineK (htOf ns) (codesL ns) (numsL ns) (i + 1), c ∈ codesL ns := fun c hc => lineK_mem (by omega) hc
    have klen' := lineK_length (ht := htOf ns) (codes := codesL ns) (nums := numsL ns) (k := i + 1) (by omega)
    -- the test
    refine wpN_execs_cons (wpN_of (exec_if (b := false) ?_ (fun e => nomatch e) fun _ s₂₇ k₂₇ => wpAny_execs_nil ?_))
    · refine (Ev.test_neB (x := lineL (lineK (htOf ns) (codesL ns) (numsL ns) (i + 1))) (y := lineL (lineK (htOf ns) (codesL ns) (numsL ns) (i + 1))) (Ev.val (St.loc S₂₆ rfl) fun _ _ => ⟨_, rfl⟩) ?_).weak fun _ _ _ q => by simpa using q
      refine (Ev.call1 (k := 1) (P := IsIL (lineK (htOf ns) (codesL ns) (numsL ns) (i + 1))) (Q := IsY (lineF (lineK (htOf ns) (codesL ns) (numsL ns) (i + 1)))) G₂₆ (R.le (by decide)) ?_ (fun v h' k hv => line_ok (G₂₆.keeps k) hv (by omega) fun c hc => cb c (kmem' c hc)) (G₂₆.at (i := 21) rfl)).weak fun v _ _ q => ?_
      · rw [← hdue]
        refine Ev.call3 (k := 1) (T := fun v u _ => v = .ref Dc ∧ u = vl) (U := fun v u z _ => (v = .ref Dc ∧ u = vl) ∧ z = .ref c) G₂₆ (R.le (by decide)) (St.loc S₂₆ e1) (fun v h' k e => ((St.loc (x := "least") S₂₆ e3).mono k).weak fun _ _ _ e' => ⟨e, e'⟩) (fun v u h' k e => ((St.loc (x := "levels") S₂₆ rfl).mono k).weak fun _ _ _ e' => ⟨e, e'⟩) (fun v u z h' k e => ?_) (G₂₆.at (i := 24) rfl)
        obtain ⟨⟨rfl, rfl⟩, rfl⟩ := e
        have kk := stays_trans S₂₆.imm k
        exact due_ok (rows := leastF (hsOf ns)) (G₂₆.keeps k) (IsIL.up hcodes₁₈ (stays_trans g18' kk)) (IsILL.up hleast₁₈ (stays_trans g18' kk)) ⟨c, vs, rfl, isList_up hlv₂₄ (stays_trans gk₂₆ kk), hls ▸ isc⟩ (by omega) (by have := levelsK_length (numsL ns) (i + 1); omega) fun a b ha hb => least_row (by omega) (by omega)
      · obtain ⟨t, q⟩ := q
        exact ⟨t, by rw [q, lineF_eq]⟩
    have S₂₇ := S₂₆.keeps k₂₇
    refine wpN_of (wpAny_execs_nil ⟨⟨_, _, g₂₆.hide I, S₂₇.hide1 hIs, fun b o e => (Heap.hide_ne _ fun q => by rw [q, hIg] at e; cases e).trans (g18' b o e), Heap.hide_self _ _, e1, e2, e3, ⟨.ref c, rfl, c, vs, rfl, ?_, hls ▸ isc⟩, t₂₅, rfl⟩, fun b hb o ho => S₂₇.imm _ _ (gk₂₆ _ _ (gk₂₄ _ _ (tr₂₁ b o ho (hfo b hb))))⟩)
    obtain ⟨o, ho, r⟩ := hlv₂₄
    exact ⟨o, (Heap.hide_ne _ hcI).trans (gk₂₆ c o ho), r⟩
  · rintro s₃₀ ⟨mm, cm, g₃₀, S₃₀, gg₃₀, gI₃₀, e1, e2, e3, _, _⟩
    have G₃₀ := G.keeps (up S₃₀)
    obtain ⟨c0, c1, c2, c3, c4, c5, hcs⟩ : ∃ c0 c1 c2 c3 c4 c5, codesL ns = [c0, c1, c2, c3, c4, c5] := by
      match codesL ns, clen with
      | [a, b, c, d, e, f], _ => exact ⟨a, b, c, d, e, f, rfl⟩
    have hys : (codesL ns).map (fun c => (⟨#[c.toNat]⟩ : Str)) = [⟨#[c0.toNat]⟩, ⟨#[c1.toNat]⟩, ⟨#[c2.toNat]⟩, ⟨#[c3.toNat]⟩, ⟨#[c4.toNat]⟩, ⟨#[c5.toNat]⟩] := by rw [hcs]; rfl
    -- text
    refine @wpN_execs_cons _ _ _ _ _ _ _ _ (@wpN_of _ _ _ _ _ _ _ ?_)
    refine @St.assignC prog w A _ _ _ _ _ _ "text" _ _ _ (L + 5) (IsS ⟨#[c0.toNat, c1.toNat, c2.toNat, c3.toNat, c4.toNat, c5.toNat]⟩) _ _ S₃₀ rfl ?_ ?_ rfl rfl rfl
    · rw [← join_six, ← hys]
      have hw : (((codesL ns).map fun c => (⟨#[c.toNat]⟩ : Str)).map (·.length)).sum + ((codesL ns).map fun c => (⟨#[c.toNat]⟩ : Str)).length ≤ 1000 := by rw [hys]; exact Nat.le_of_ble_eq_true rfl
      refine @Ev.join _ _ _ _ _ _ _ _ _ _ _ ?_ hw ?_ ?_
      rotate_left
      · rfl
      · rfl
      refine ((Ev.comp_any (ns := codesL ns) (Y := fun n y => ∃ t, y = .str ⟨#[n.toNat]⟩ t) (cl := []) hh rfl (Ev.val (St.loc S₃₀ e1) fun h' k => IsIL.up hcodes₁₈ (stays_trans gg₃₀ (stays_trans S₃₀.imm k))) (fun n t h' C m' hnm k hn₂ hm₂ => ?_) (by omega)).weak fun v h' _ q => ?_)
      · have nb := codes_bounds n hnm
        refine Ev.call_builtin (Ev.name_bi (G₃₀.keeps k) (by decide) boot_chr' (by decide)) (Ev.args1 (Ev.name_local hn₂ hm₂)) fun a' h₁ k₁ ha => ?_
        obtain ⟨_, rfl, rfl⟩ := ha
        exact Ev.mk fun s _ => chr_of_range (by omega) (by omega) ⟨⟨_, rfl⟩, keeps_tok s _⟩
      · obtain ⟨D, ys, rfl, _, hl, hall⟩ := q
        exact ⟨D, ys, rfl, hl, strs_at (All2.map_left (f := fun n : Int => (⟨#[n.toNat]⟩ : Str)) hall)⟩
    rintro _ s₃₁ ⟨tt, rfl⟩ k₃₁ g₃₂ s₃₂ gk₃₂ tr₃₂ S₃₂
    have G₃₂ := G.keeps (up S₃₂)
    -- the texts refused
    refine wpN_execs_cons (wpN_of (wpAny_Return_some (wpAny_Compare1 (wpAny_mono (listcompS (F := L) (n := 3) (cl := [("text", L + 5)]) (Pv := IsIT [0, 2, 6]) (P := fun i v => ∃ t, v = .int (([0, 2, 6] : List Int).getD i 0) t) (Y := fun _ y => ∃ t, y = .int 15 t) S₃₂.ns rfl
      (Ev.tuple_ints (ns := [0, 2, 6]) (by decide) (Ev.ei Ev.int (Ev.ei Ev.int (Ev.ei Ev.int Ev.ei_nil)))) (fun v h' k hv => ?_) (fun i v s' C m' hi hp hns hm hk hF => ?_) (by decide)) (fun v s₃₃ q => ?_) fun _ _ e => e.elim) rfl)))
    · obtain ⟨b, vs, rfl, tp, is⟩ := hv
      have W := ItOk.tuple (prog := prog) (w := w) hh tp
      rw [List.size_toArray, is.length] at W
      refine fun s Q E hs k => W s Q E hs fun I fp St s₂ hI W' hst hfp hIo hfv k₂ => k I fp St s₂ hI ⟨W'.sub, W'.frame, fun i s Q E hi st hQ => W'.item i s Q E hi st fun v h' tk hP => hQ v h' tk ?_, W'.done, W'.self⟩ hst hfp hIo hfv k₂
      have key : ([0, 2, 6] : List Int)[i]? = some (([0, 2, 6] : List Int).getD i 0) := by
        have : i < ([0, 2, 6] : List Int).length := hi
        simp [List.getD_eq_getElem?_getD, List.getElem?_eq_getElem this]
      obtain ⟨t, ht⟩ := ints_get is key
      exact ⟨t, by simpa [ht] using hP.symm⟩
    · obtain ⟨t, rfl⟩ := hp
      have ks : s.heap.StaysIn s'.heap := fun b o e => hk b o (fun q => by rw [q, hLs] at e; cases e) (keeps_stays S₃₂.done b o e)
      refine refusals_call (h₀ := s.heap) (env₀ := envOfC "law" _ L a cd) (G.keeps hs) (R.le (by decide)) hfr rfl (by intro q; cases q) hLs ks hF ?_
      have cell : s'.heap.IsCell (L + 5) (some (.str ⟨#[c0.toNat, c1.toNat, c2.toNat, c3.toNat, c4.toNat, c5.toNat]⟩ tt)) := by
        obtain ⟨o, ho, hd⟩ := S₃₂.cell "text" (L + 5) rfl
        exact ⟨o, hk _ o (Nat.ne_of_gt (Nat.lt_add_of_pos_right (by decide))) ho, hd⟩
      have hkk : ([0, 2, 6] : List Int).getD i 0 = 0 ∨ ([0, 2, 6] : List Int).getD i 0 = 2 ∨ ([0, 2, 6] : List Int).getD i 0 = 6 := by
        have : ∀ i : Fin 3, ([0, 2, 6] : List Int).getD i.val 0 = 0 ∨ ([0, 2, 6] : List Int).getD i.val 0 = 2 ∨ ([0, 2, 6] : List Int).getD i.val 0 = 6 := by decide
        exact this ⟨i, hi⟩
      refine (Ev.slice_text (b := ([0, 2, 6] : List Int).getD i 0) (Ev.val (Ev.name_cell (c := L + 5) rfl cell) fun _ _ => ⟨_, rfl⟩) (Ev.val (Ev.name_local hns hm) fun _ _ => ⟨_, rfl⟩) (by show 6 ≤ 1000; decide)).weak fun y _ _ q => ?_
      obtain ⟨t', rfl⟩ := q
      exact slice_bad hkk t'
    · obtain ⟨⟨D, ys, rfl, hD, hall⟩, h', tk, rfl, hk⟩ := q
      have is : IntsAre ys [15, 15, 15] := All2.ints (f := fun _ => (15 : Int)) hall
      refine Ev.run (h := h') (Ev.list_ints (ns := [15, 15, 15]) (by decide) (Ev.ei Ev.int (Ev.ei Ev.int (Ev.ei Ev.int Ev.ei_nil)))) (stays_refl _) fun b s₃₄ hb k₃₄ => ?_
      obtain ⟨b, us, rfl, hB, js⟩ := hb
      refine Ev.run (h := s₃₄.heap) (Ev.eq_ints (isList_up hD (keeps_stays k₃₄)) hB is js (by have := R.2.1; omega)) (stays_refl _) fun r s₃₅ hr k₃₅ => ⟨by rw [hr]; rfl, ?_⟩
      have K₁ : Keeps s { s₃₂ with heap := h', toks := tk } := by
        obtain ⟨H, T, e⟩ := S₃₂.same
        refine ⟨h', tk, by rw [e], fun b o e => hk b o (fun q => by rw [q, hLs] at e; cases e) (keeps_stays S₃₂.done b o e)⟩
      exact keeps_trans K₁ (keeps_trans k₃₄ k₃₅)
end
end Mine
end

section
open PySem PySem.W PyProof.Rows
namespace Mine

/-! the head for the contexts whose stack holds no decoder: as the library's own, by wpN in place of wpAny -/
theorem thread_endsN {prog : Program} {w : World} {t : Sem Fin} {s : Shared} {R : Result → Shared → Prop} (hreg : s.asleep)
    (h : wpN (model prog w) callerA t (fun fin s' => ∃ f, fin = .done f ∧ (R (.ok f) s' ∧ leftWithCleanup s'.gens = false)) (fun e s' => R (.error e) s' ∧ leftWithCleanup s'.gens = false) s) :
    ∃ n r s' s'', runN (denote table) prog w n s ⟨t, .builtin "claim.caller" {}, default, []⟩ = .halted (outcomeOf r) s' ∧
      schedN (denote table) prog w n (.single s ⟨t, .builtin "claim.caller" {}, default, []⟩) = .halted (outcomeOf r) s' ∧ s'.forget = s''.forget ∧ R r s'' := by
  obtain ⟨n, r, s₁, s₂, hs, hn, hfo, hR⟩ := wp_halts_full (M := model prog w) (R := R) hreg (by
    refine Sem.wp_mono _ _ t (fun fin p' s' h' => ?_) (fun _ _ _ h' => h') default s (h ⟨.builtin "claim.caller" {}, none, none, [], none⟩ default caller_in ⟨by decide +kernel, fun x hx => by cases hx⟩)
    obtain ⟨f, rfl, hf⟩ := h'
    exact hf)
  exact ⟨n, r, s₂, s₁, hn, hs, hfo, hR⟩

theorem callFromN {c : ClaimW} {tree : List Value → Sem Fin} {w : World} {s : Shared} {free : Addr → Prop} {gens : Prop} {kept : Heap → Prop} (hz : s.asleep) (hgens : s.gens = #[])
    (hspec : ∀ args, c.pre args = true → WData.layableAll args = true →
      ∀ ord : List DictEntry → List DictEntry, (∀ l, (ord l).Perm l) →
      ∃ vs s₁, layAllW c.records (classAt s.heap) w.params ord args s = some (vs, s₁) ∧
        wpN (model c.prog w) callerA (tree vs) (fun fin s' => ∃ f, fin = .done f ∧ (c.Ends s args vs s₁ (.ok f) s' ∧ s'.os = s.os ∧ AllBare s'.gens ∧ kept s'.heap))
          (fun e s' => c.Ends s args vs s₁ (.error e) s' ∧ s'.os = s.os ∧ AllBare s'.gens ∧ kept s'.heap) s₁) :
    c.CallFrom (fun vs => ⟨tree vs, .builtin "claim.caller" {}, default, []⟩) w free gens kept s := by
  intro args hpre hlay ord hord
  obtain ⟨vs, s₁, hlaid, hcode⟩ := hspec args hpre hlay ord hord
  have hal := layAllW_rest _ _ _ hlaid
  obtain ⟨k, r, s', s'', hrun, hsched, hfo, hcase, hos, hkp⟩ := thread_endsN (prog := c.prog) (w := w) (t := tree vs) (s := s₁)
    (R := fun r s' => c.Ends s args vs s₁ r s' ∧ s'.os = s.os ∧ kept s'.heap)
    (Shared.asleep_of_life hal.2.2.2 hz)
    (wpN_mono hcode (by
      rintro fin s' ⟨f, e, h1, h2, h3, h4⟩
      exact ⟨f, e, ⟨h1, h2, h4⟩, leftWithCleanup_false_of_bare h3⟩) (by
      rintro e s' ⟨h1, h2, h3, h4⟩
      exact ⟨⟨h1, h2, h4⟩, leftWithCleanup_false_of_bare h3⟩))
  obtain ⟨eh, _, _, eo, _⟩ := Shared.forget_eq hfo
  have hcase := hcase.congr eh
  have hkp : kept s'.heap := by first | exact eh ▸ hkp | (rw [eh] at hkp; exact hkp) | (rw [← eh] at hkp; exact hkp)
  rw [← eo] at hos
  have hlife : s'.heap.life = s.heap.life := (runN_life _ _ _ hrun).trans hal.2.2.2
  refine ⟨vs, s₁, hlaid, k, _, s', hsched, ?_, (fun _ i x hx => by rw [hgens] at hx; simp at hx), hkp, by rw [hlife], Shared.rest_eq hos⟩
  rcases hcase with ⟨v, rfl, d1, d2, d3, d4, d5⟩ | ⟨e, ob, cls, rfl, d1, d2, d3, d4, d5⟩
  · exact .inl ⟨v, rfl, d1, d2, d3, fun b o y _ => d4 b o y, d5⟩
  · exact .inr ⟨e, ob, cls, rfl, d1, d2, d3, d4, fun b o y _ => d5 b o y⟩

theorem openN {r : RowW} {run : Value → List Value → Sem Value} {tree : List Value → Sem Fin} {q : Program} {loose defs kps : List Str} {writes : Bool} {Xt : Shared → Bool} {XP : (Str → Option Value) → Heap → Prop} {α : Type} {Yf : Shared → α} {Ya : World → α} {YP : World → Heap → Prop} {N : Nat}
    (left : LeftO r.prog q loose Xt Yf Ya N) (hY : ∀ w s, Yf s = Ya w → YP w s.heap) (hYk : ∀ w h h', YP w h → (∀ b o, h.get? b = some o → h'.get? b = some o) → YP w h') (hX : ∀ s, Xt s = true → XP (s.heap.nsMap mainGlobals) s.heap) (hXk : ∀ mg h h', XP mg h → (∀ b o, h.get? b = some o → h'.get? b = some o) → XP mg h')
    (hRf : ∀ s, Xt s = true → RecFacts r.records s.heap) (hwr : (!writes || r.records.isEmpty) = true) (ok : (chainsOk q && opensWell r.prog && (frees r && r.within.isEmpty)) = true) (hb : r.prog.bare) (hw : r.promised)
    (ht : ∀ vs (w : World) (s : Shared) mg f (Q : Fin → Shared → Prop) (E : Value → Shared → Prop), s.heap.Ns mainGlobals mg → mg r.name = some f → wpN (model r.prog w) callerA (run f vs) (fun v s' => Q (.done (.ret v)) s') E s → wpN (model r.prog w) callerA (tree vs) Q E s)
    (pin : ∀ w s, s.heap.isNs mainGlobals = true → Ground q loose [] XP w s (s.heap.nsMap mainGlobals) (s.heap.nsMap builtinsNs) s.heap → ∀ n ∈ defs, isTheDefsW r.prog s.heap n)
    (call : ∀ (w : World) (s₀ s₁ : Shared) (mg mb : Str → Option Value), Ground q loose r.records XP w s₀ mg mb s₁.heap → YP w s₁.heap → ∀ (args : List WData) (vs : List Value) (as : List Addr),
      r.claim.pre args = true → WData.layableAll args = true → Laid r.records w s₀ s₁ args vs as → sysModules < s₀.heap.objs.size → ∃ f, mg r.name = some f ∧
        wpN (model r.prog w) callerA (run f vs) (fun v s' => GoodWG r.claim (classAt s₀.heap) (ExcName.means s₀.heap) args s₁ (.ok (.ret v)) s')
          (fun e s' => GoodWG r.claim (classAt s₀.heap) (ExcName.means s₀.heap) args s₁ (.error e) s') s₁) : r.claim.HoldsOpenBy (fun vs => ⟨tree vs, .builtin "claim.caller" {}, default, []⟩) defs kps writes := by
  obtain ⟨ok, k5⟩ := Bool.and_eq_true_iff.mp ok
  obtain ⟨hch, o1⟩ := Bool.and_eq_true_iff.mp ok
  obtain ⟨k5, k6⟩ := Bool.and_eq_true_iff.mp k5
  obtain ⟨hsame, hu, ha, hap, hm⟩ := frees_parts k5
  refine ⟨⟨hb, o1, by show r.makers.map _ = []; rw [hm]; rfl⟩, hw.witness, fun w => ⟨(left.behind hX hch w).1, fun s' hs' => ?_⟩⟩
  obtain ⟨s₀, hf, hg0, s, hT, hz, hgens, hg, G00, y⟩ := (left.behind (XP := fun mg h => XP mg h ∧ RecFacts r.records h) (fun s hs => ⟨hX s hs, hRf s hs⟩) hch w).2 s' hs'
  have G0 : Ground q loose [] XP w s (s.heap.nsMap mainGlobals) (s.heap.nsMap builtinsNs) s.heap := ⟨G00.T, G00.B, G00.D, G00.TE, G00.TD, G00.W, G00.X.1, G00.cls, G00.has, G00.apart, G00.once, G00.K⟩
  have RF := G00.X.2
  have hT' := hT
  refine ⟨s₀, hf, hg0, s, hT, pin w s hg G0, RF.1, RF.2.1, ?_⟩
  have hgens : s.gens = #[] := Array.eq_empty_of_size_eq_zero (beq_iff_eq.mp hgens)
  have G : Ground q loose r.records XP w s _ _ s.heap := RF.ground G0
  refine callFromN (c := r.claim) hz hgens fun args hpre hlay ord hord => ?_
  obtain ⟨⟨vs, s₁⟩, hlaid⟩ := Option.isSome_iff_exists.mp (layAllW_isSome (P := w.params) (ord := ord) G.has args r.args s (pre_splitW hpre).1)
  have keeps := layAllW_keeps _ _ _ hlaid
  have hal := layAllW_rest _ _ _ hlaid
  obtain ⟨as, hrd, hin, hold⟩ := reads_layAllW hord _ _ _ hlaid hlay s₁.heap (fun _ _ e => e)
  have L : Laid r.records w s s₁ args vs as := ⟨⟨ord, hord, hlaid⟩, hrd, hin, hold, keeps, hal.1.trans hgens, hal.2.2.1⟩
  have G₁ := G.keeps hXk keeps
  obtain ⟨f, hf, h⟩ := call w s s₁ _ _ G₁ (hYk _ _ _ (hY w s y) keeps) args vs as hpre hlay L G.low
  have hi := ident_freeW hu ha hap
  have hwi : r.claim.within = [] := List.isEmpty_iff.mp k6
  exact ⟨vs, s₁, hlaid, ht vs w s₁ _ f _ _ G₁.T.g hf (wpN_mono h (fun v s' g => ⟨_, rfl, have z := g.laid (c := r.claim) hsame hwi hi L; ⟨z.1, z.2.1, z.2.2, fun q => ⟨namesKept_of hT' hg kps keeps g.2.1.old, noTable hwr q⟩⟩⟩) fun e s' g => have z := g.laid (c := r.claim) hsame hwi hi L; ⟨z.1, z.2.1, z.2.2, fun q => ⟨namesKept_of hT' hg kps keeps g.2.1.old, noTable hwr q⟩⟩)⟩

abbrev WalkZ (q : Program) (loose : List Str) (XP : (Str → Option Value) → Heap → Prop) (YP : World → Heap → Prop) (r : RowW) (d : DefRec) (kwd : List (Str × Expr)) (run : Value → List Value → Sem Value) : Prop :=
  ∀ (w : World) (s₀ s₁ : Shared) (mg mb : Str → Option Value), Ground q loose r.records XP w s₀ mg mb s₁.heap → YP w s₁.heap → ∀ (a : Addr) (o : Obj) (pm cd doc dV kV : Value), s₁.heap.get? a = some o →
    o.data = .func { Calls.docDef d.name d.params d.body d.scope pm cd doc with defaults := dV, kwdefaults := kV } → s₁.heap.CodeRec cd d.name → Dflts mg s₁.heap d.params kwd dV kV → mg d.name = some (.ref a) → s₁.gens = #[] →
    ∀ (args : List WData) (vals : List Value) (as : List Addr), r.claim.pre args = true → WData.layableAll args = true → ReadsAllW r.records (classAt s₀.heap) s₁.heap vals args as → WellAll w.params s₁.heap vals args → (∀ a ∈ as, (a == sysModules) = false) →
      wpN (model r.prog w) callerA (run (.ref a) vals) (fun v s' => GoodWG r.claim (classAt s₀.heap) (ExcName.means s₀.heap) args s₁ (.ok (.ret v)) s')
        (fun e s' => GoodWG r.claim (classAt s₀.heap) (ExcName.means s₀.heap) args s₁ (.error e) s') s₁

end Mine
namespace Mine.PySem.W
theorem holds_open {r : OpenRow} {q : Program} {loose : List Str} {Xt : Shared → Bool} {XP : (Str → Option Value) → Heap → Prop} {α : Type} {Yf : Shared → α} {Ya : World → α} {YP : World → Heap → Prop} {d : DefRec} {kwd : List (Str × Expr)} {N : Nat}
    (left : LeftO r.prog q loose Xt Yf Ya N) (hY : ∀ w s, Yf s = Ya w → YP w s.heap) (hYk : ∀ w h h', YP w h → (∀ b o, h.get? b = some o → h'.get? b = some o) → YP w h')
    (hX : ∀ s, Xt s = true → XP (s.heap.nsMap mainGlobals) s.heap) (hXk : ∀ mg h h', XP mg h → (∀ b o, h.get? b = some o → h'.get? b = some o) → XP mg h')
    (hdef : defOf q r.name = some (d, kwd)) (hp : r.prog.theDef r.name = some (d.params, d.body, d.scope)) (hk : kwWritten? d.params.kwonlyargs d.params.kw_defaults = some kwd) (hRf : ∀ s, Xt s = true → RecFacts r.records s.heap) (hwr : (!r.writes || r.records.isEmpty) = true)
    (k1 : r.wellSaid = true) (ok : (chainsOk q && opensWell r.prog && (frees r.toRowW && r.within.isEmpty)) = true) (hb : r.prog.bare) (hw : r.toRowW.promised)
    (call : WalkZ q loose XP YP r.toRowW d kwd fun f vs => PySem.call f vs) : r.Holds := by
  refine ⟨k1, hw, openN (r := r.toRowW) (run := fun f vs => PySem.call f vs) (tree := fun vs => do match ← nsGet mainNs r.name with
      | some f => do ret (← PySem.call f vs)
      | none => unsupported "claim.caller:no-such-global") left hY hYk hX hXk hRf hwr ok hb hw
    (fun vs w s mg f Q E hg hf h => wpN_bind (wpN_of (wpAny_nsGet hg (by rw [hf]; exact wpN_bind (wpN_mono h (fun _ _ x => wpN_pure x) fun _ _ x => x)))))
    (fun w s hg G n hn => ?_) fun w s₀ s₁ mg mb G Y args vs as hpre hlay L low => ?_⟩
  · obtain rfl : n = r.name := by split at hn <;> simp_all
    exact pinned_of_view hg G hdef hp hk
  · obtain ⟨a, o, pm, cd, doc, dV, kV, h1, h2, h3, h4, h5⟩ := G.fn hdef
    exact ⟨.ref a, h1, call w s₀ s₁ mg mb G Y a o pm cd doc dV kV h2 h3 h4 h5 (defOf_name hdef ▸ h1) L.gens args vs as hpre hlay L.reads L.well (L.low low)⟩

end Mine.PySem.W
end

section
open PySem PySem.W PyProof.Rows
set_option maxRecDepth 100000
namespace Mine
theorem gd_of_top {q : Program} {mean : ExcName → Option Value} {loose : List Str} {mg mb : Str → Option Value} {h : Heap} (T : Top q loose mean mg mb h) (hl : loose = []) (e : recsOf q = recsOf pw)
    (key : ∀ x ∈ bnames, x ∉ startupNames ∧ x ∉ (recsOf q).map (·.name) ∧ x ∉ (litsOf q).map (·.1) ∧ x ∉ (clssOf q []).map (·.name)) : Gd mg mb h where
  g := T.g
  b := T.b
  nolimit := T.nolimit
  fn := fun d hd' => T.fn d (by rw [e]; exact hd')
  bi := T.builtins
  free := fun x hx => by
    subst hl
    obtain ⟨h1, h2, h3, h4⟩ := key x hx
    exact T.free x h1 (by simp) h2 h3 h4
theorem good_true {c : ClaimW} {cl : Str → Option Addr} {mean : ExcName → Option Value} {args : List WData} {s₁ s' : Shared} (k : Keeps s₁ s') (hg : s₁.gens = #[]) (hn : ∀ cls, c.raises args cls = false) (hp : c.post args (.bool true) args = true) :
    GoodWG c cl mean args s₁ (.ok (.ret (.bool true))) s' := by
  obtain ⟨h', tk, rfl, kk⟩ := k
  exact GoodW.toG ⟨.inl ⟨_, .bool true, [], rfl, hn, .bool true, hp, fun _ => ⟨List.nodup_nil, fun _ h => by cases h⟩⟩, kk, rfl, hg⟩

theorem post_true {args : List WData} : PySem.Challenge.rw_pk0014_01.row.claim.post args (.bool true) args = true := by
  show (WShape.has [] (.bool true) .bool && WTm.holds [] (.eq .res (.lit (.bool true))) { args := args, res := some (.bool true), after := args }) = true
  have h1 : WShape.has [] (.bool true) .bool = true := by decide +kernel
  have h2 : WTm.holds [] (.eq .res (.lit (.bool true))) { args := args, res := some (.bool true), after := args } = true := by
    have h3 : same (WData.bool true) (WData.bool true) = true := by decide +kernel
    simp only [WTm.holds, WTm.value, h3]
  rw [h1, h2]; rfl
theorem law_end {prog : Program} {w : World} {mg mb : Str → Option Value} {s : Shared} {a l : Addr} {vs : List Value} {ns : List Int} (G : Gd mg mb s.heap) (hmg : mg "law" = some (.ref a)) (hl : s.heap.IsList l vs.toArray) (hi : IntsAre vs ns) (hn : ns.length ≤ 63) :
    wpN (model prog w) callerA (call (.ref a) [.ref l]) (fun v s' => v = .bool true ∧ Keeps s s') (fun _ _ => False) s := by
  obtain ⟨a', o, fd, h1, h2, h3, h4⟩ := law_ok (prog := prog) (w := w) G ⟨l, vs, rfl, hl, hi⟩ hn
  rw [hmg] at h1
  cases h1
  exact EvN.run (h4 callerA ⟨by decide +kernel, by decide +kernel, rfl⟩ rfl rfl) (stays_refl _) fun v s' e k => ⟨e, k⟩
set_option maxHeartbeats 8000000 in
theorem law_holds : PySem.Challenge.rw_pk0014_01.Holds := by
  w_on
  o_law
  k_head
  (case hw => w_witness2)
  k_fill
  intro w s₀ s₁ mg mb G Y a o pm cd doc dV kV ho hd hcd hD hmg hg args vals as hpre hlay hrd hwl hlo
  clear hd hcd hD ho
  refine Ground.open G ?_
  intro T B D TE TW
  have G₁ : Gd mg mb s₁.heap := by
    refine gd_of_top T ?_ ?_ ?_
    · decide +kernel
    · kernel_rfl
    · decide +kernel
  clear T B D TE TW Y
  wrow_args hpre hlay hrd hwl hlo
  all_goals (
    refine wpN_mono (law_end G₁ hmg (by assumption) (by assumption) (by omega)) (fun v s' q => ?_) (fun _ _ q => q.elim)
    obtain ⟨rfl, k⟩ := q
    exact good_true k hg (fun _ => rfl) post_true)
end Mine
end

open PySem PySem.W PyProof.Rows
set_option maxRecDepth 100000
theorem PySem.Challenge.cw_pk0014_01_holds : PySem.Challenge.rw_pk0014_01.Holds := by
  exact Mine.law_holds
