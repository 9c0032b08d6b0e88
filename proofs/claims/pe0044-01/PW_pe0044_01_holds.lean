import PyProof.Rows.All
import Wide.All
import OpenK.AllK
import Wide.FinOn
import PySem.Challenge.RW_pe0044_01
set_option Elab.async false

section
open PySem PySem.W PyProof.Rows
set_option maxRecDepth 100000
set_option maxHeartbeats 8000000
namespace Mine
open_top hd for PySem.Challenge.rw_pe0044_01
end Mine
end

section
open PySem PySem.W PyProof.Rows
set_option maxRecDepth 100000
set_option maxHeartbeats 1000000
namespace Mine

abbrev NoE : Value → Shared → Prop := fun _ _ => False
abbrev Ext (h h' : Heap) : Prop := ∀ b o, h.get? b = some o → h'.get? b = some o

theorem Ext.rfl' (h : Heap) : Ext h h := fun _ _ e => e
theorem Ext.trans {a b c : Heap} (x : Ext a b) (y : Ext b c) : Ext a c := fun p o e => y p o (x p o e)
theorem Ext.same {h₀ h h' : Heap} {a : Addr} (x : Ext h₀ h) (hs : Heap.ExtBut a h h') (ha : h₀.get? a = none) : Ext h₀ h' :=
  fun b o e => hs b o (by rintro rfl; rw [ha] at e; cases e) (x b o e)
theorem none_of_le {h : Heap} {a : Addr} (ha : h.objs.size ≤ a) : h.get? a = none := by
  cases e : h.get? a with
  | none => rfl
  | some o => exact absurd (Heap.lt_size e) (Nat.not_lt.mpr ha)
theorem Ext.push (h : Heap) (o : Obj) : Ext h (h.push o) := fun _ _ e => Heap.get?_push_of_some _ e

theorem Keeps.rfl' (s : Shared) : Keeps s s := ⟨s.heap, s.toks, by rfl, fun _ _ e => e⟩
theorem Keeps.trans {a b c : Shared} (x : Keeps a b) (y : Keeps b c) : Keeps a c := by
  obtain ⟨h, t, rfl, k⟩ := x
  obtain ⟨h', t', rfl, k'⟩ := y
  exact ⟨h', t', rfl, fun b o e => k' b o (k b o e)⟩
theorem Keeps.mk (s : Shared) {h : Heap} {tk : Nat} (k : Ext s.heap h) : Keeps s { s with heap := h, toks := tk } := ⟨h, tk, rfl, k⟩
theorem Keeps.ext {a b : Shared} (x : Keeps a b) : Ext a.heap b.heap := by obtain ⟨h, t, rfl, k⟩ := x; exact k

/-- the tree ends, raises nothing, only allocates, and P of value and state -/
def Ev {α : Type} (M : Model) (A : Around) (s : Shared) (t : Sem α) (P : α → Shared → Prop) : Prop :=
  wpAny M A t (fun v s' => Keeps s s' ∧ P v s') NoE s
theorem Ev.use {α : Type} {M : Model} {A : Around} {s : Shared} {t : Sem α} {P Q : α → Shared → Prop} {E : Value → Shared → Prop}
    (h : Ev M A s t P) (k : ∀ v s', Keeps s s' → P v s' → Q v s') : wpAny M A t Q E s :=
  wpAny_mono h (fun v s' x => k v s' x.1 x.2) fun _ _ f => f.elim
/-- what stands: the text's own objects, the built-ins, no limit set -/
structure Base (w : World) (h : Heap) : Prop where
  K : (hd.heap_39 w.params).In h
  b : ∃ mb, h.Ns builtinsNs mb ∧ ∀ x : Str, x ≠ "__name__" → mb x = bootBuiltins x
  lim : h.NoLimit
theorem Base.ext {w : World} {h h' : Heap} (B : Base w h) (x : Ext h h') : Base w h' where
  K := B.K.keeps x
  b := let ⟨mb, h1, h2⟩ := B.b; ⟨mb, h1.keeps x, h2⟩
  lim := B.lim.keeps x

structure Room (A : Around) (n : Nat) : Prop where
  hh : A.handled = none
  dp : A.depth + n < recursionLimit
  un : A.units + 3 * n + 10 < cLine
theorem Room.deeper {A : Around} {n : Nat} (R : Room A (n + 1)) (env : Env) : Room (A.deeper env) n := by
  obtain ⟨h1, h2, h3⟩ := R
  refine ⟨h1, ?_, ?_⟩
  · show A.depth + 1 + n < recursionLimit; omega
  · show A.units + 3 + 3 * n + 10 < cLine; omega
theorem Room.le {A : Around} {n k : Nat} (R : Room A n) (h : k ≤ n) : Room A k := ⟨R.hh, by have := R.dp; omega, by have := R.un; omega⟩

section
variable {prog : Program} {w : World} {A : Around} {E : Value → Shared → Prop} {s : Shared}

theorem ld_glob {env : Env} {x : Str} {v : Value} {Q : Value → Shared → Prop} (B : Base w s.heap) (e : nsIn (hd.heap_39 w.params) env.globals x = some (some v)) (h : Q v s)
    (hk : env.scope.kind = .function := by rfl) (hx : env.kindOf x = some .globalImplicit := by rfl) : wpAny (model prog w) A (loadName env x) Q E s := by
  rw [loadName_read hk hx]
  unfold loadGlobal
  exact wpAny_bind ((looks_nsIn B.K e).here (wpAny_pure h))
theorem ld_blt {env : Env} {x : Str} {v : Value} {Q : Value → Shared → Prop} (B : Base w s.heap) (e : nsIn (hd.heap_39 w.params) env.globals x = some none) (hb : bootBuiltins x = some v) (h : Q v s)
    (hn : x ≠ "__name__" := by decide) (hbl : env.builtins = builtinsNs := by rfl)
    (hk : env.scope.kind = .function := by rfl) (hx : env.kindOf x = some .globalImplicit := by rfl) : wpAny (model prog w) A (loadName env x) Q E s := by
  rw [loadName_read hk hx]
  obtain ⟨mb, h1, h2⟩ := B.b
  unfold loadGlobal
  rw [hbl]
  exact wpAny_bind ((looks_nsIn B.K e).here (wpAny_bind (wpAny_nsGet h1 (by rw [h2 x hn, hb]; exact wpAny_pure h))))

/-- a call of one of the text's own defs without cells -/
theorem call_own {f : Addr} {o : Obj} {fd : FuncData} {body : List Stmt} {vals : List Value} {binds : List (Str × Value)} {P : Value → Shared → Prop} {n : Nat}
    (B : Base w s.heap) (R : Room A (n + 1)) (ho : (hd.heap_39 w.params).lookup f = some o) (hdata : o.data = .func fd) (hcd : codeIn (hd.heap_39 w.params) fd.code fd.qualname = true)
    (hbody : fd.body = .stmts body) (hbind : BindsTo s fd ⟨vals, []⟩ binds)
    (hcell : ∀ x ∈ fd.scope.names, x.2 ≠ .cell) (hloc : ∀ x ∈ binds, fd.scope.names.lookup x.1 = some .local)
    (h : ∀ h₁ tk, h₁.Ns s.heap.objs.size (fun x => binds.reverse.lookup x) → Ext s.heap h₁ → Room (A.deeper (callEnv fd s.heap.objs.size f)) n →
      wpAny (model prog w) (A.deeper (callEnv fd s.heap.objs.size f)) (execs body (callEnv fd s.heap.objs.size f)) (fun fl s' => Keeps s s' ∧ P (match fl with | .ret v => v | _ => .none) s') NoE
        { s with heap := h₁, toks := tk })
    (hco : fd.scope.isCoroutine = false := by rfl) (hgen : fd.scope.isGenerator = false := by rfl) (hk : fd.scope.kind = .function := by rfl) :
    Ev (model prog w) A s (call (.ref f) vals []) P := by
  refine wpAny_call (codeAny_call_def (fd := fd) (body := body) (binds := binds) (by have := R.dp; omega) (B.K _ _ ho) hdata B.lim (codeRec_of B.K hcd) hbody hbind hcell hloc (fun h₁ hns hx => ?_) hco hgen hk)
  exact wpAny_mono (h h₁ _ hns hx (R.deeper _)) (fun fl s' p => p) fun _ _ f => f.elim
end
end Mine
end

section
open PySem PySem.W PyProof.Rows
set_option maxRecDepth 100000
set_option maxHeartbeats 1000000
namespace Mine
section
variable {prog : Program} {w : World} {A : Around} {s : Shared} {env : Env}

theorem IfExp2 {M : Model} {E : Value → Shared → Prop} {test body orelse : Expr} {pos : Pos} {Q : Value → Shared → Prop}
    (h : wpAny M A (isTrue test env (eval test env)) (fun b s₁ => (b = true → wpAny M A (eval body env) Q E s₁) ∧ (b = false → wpAny M A (eval orelse env) Q E s₁)) E s) :
    wpAny M A (eval (.IfExp test body orelse pos) env) Q E s :=
  wpAny_IfExp (wpAny_mono h (fun b s₁ h₁ => by cases b with | true => exact h₁.1 rfl | false => exact h₁.2 rfl) fun _ _ e => e)
theorem If2 {M : Model} {E : Value → Shared → Prop} {test : Expr} {body orelse : List Stmt} {pos : Pos} {Q : Flow → Shared → Prop}
    (h : wpAny M A (isTrue test env (eval test env)) (fun b s₁ => (b = true → wpAny M A (execs body env) Q E s₁) ∧ (b = false → wpAny M A (execs orelse env) Q E s₁)) E s) :
    wpAny M A (exec (.If test body orelse pos) env) Q E s :=
  wpAny_If (wpAny_mono h (fun b s₁ h₁ => by cases b with | true => exact h₁.1 rfl | false => exact h₁.2 rfl) fun _ _ e => e)

theorem And2 {M : Model} {E : Value → Shared → Prop} {a b : Expr} {pos : Pos} {whole : Sem Value} {Q : Bool → Shared → Prop}
    (h : wpAny M A (isTrue a env (eval a env)) (fun x s₁ => (x = true → wpAny M A (isTrue b env (eval b env)) Q E s₁) ∧ (x = false → Q false s₁)) E s) :
    wpAny M A (isTrue (.BoolOp .And [a, b] pos) env whole) Q E s := by
  refine wpAny_isTrue_BoolOp (wpAny_allTrue_And_cons (wpAny_mono h (fun x s₁ h₁ => ?_) fun _ _ e => e))
  cases x with
  | false => exact h₁.2 rfl
  | true => exact wpAny_allTrue_And_cons (wpAny_mono (h₁.1 rfl) (fun y s₂ h₂ => by cases y with | false => exact h₂ | true => exact wpAny_allTrue_And_nil h₂) fun _ _ e => e)
theorem str_item {E : Value → Shared → Prop} {value slice : Expr} {x : Str} {t u : Tok} {k : Int} {c : Nat} {Q : Value → Shared → Prop} (h0 : 0 ≤ k) (h1 : k < 2 ^ 62) (hc : x.cps[k.toNat]? = some c)
    (h : ∀ t' tk, Q (.str ⟨#[c]⟩ t') { s with toks := tk })
    (hs : subscripted slice false (.str x t) (.int k u) = operate [.str x t, .int k u] (getItem (.str x t) (.int k u)) := by with_unfolding_all rfl)
    (ht : ∀ r, letTemporaryGo value (.str x t) r = pure () := by intro _; with_unfolding_all rfl) :
    wpAny (model prog w) A (subscriptTail value slice (.str x t) (.int k u)) Q E s := by
  have hlt : k.toNat < x.cps.size := (Array.getElem?_eq_some_iff.mp hc).1
  have e : seqIndex? k x.length = some k.toNat := by
    unfold seqIndex? Str.length
    simp only
    have h2 : ¬ k < 0 := by omega
    have h3 : k < x.cps.size := by omega
    simp [h2, h0, h3]
  refine subscriptTail_builtin (typeIs_str _ _ _) F.slot_str_getitem.lookup (P.getItem_str ?_ ?_ (h _ _)) hs ht
  · have a1 : ¬ k < -(2 ^ 63 : Int) := by omega
    have a2 : ¬ k ≥ 2 ^ 63 := by omega
    rw [decide_eq_false a1, decide_eq_false a2]; rfl
  · rw [e]; exact hc

theorem while_ev {test : Expr} {body : List Stmt} {pos : Pos} {Q : Flow → Shared → Prop} (I : Nat → Heap → Prop)
    (turn : ∀ n h tk, I n h → wpAny (model prog w) A (isTrue test env (eval test env)) (fun b s₂ =>
      (b = true → wpAny (model prog w) A (execs body env) (fun f s₃ => f = .next ∧ ∃ h' tk', s₃ = { s with heap := h', toks := tk' } ∧ ∃ m, m < n ∧ I m h') NoE s₂) ∧ (b = false → Q .next s₂)) NoE { s with heap := h, toks := tk })
    (n : Nat) (h : I n s.heap) : wpAny (model prog w) A (exec (.While test body [] pos) env) Q NoE s := by
  refine wpAny_While (codeAny_whileLoop (fun n s' => ∃ h' tk, s' = { s with heap := h', toks := tk } ∧ I n h') ?_ n ⟨_, _, rfl, h⟩)
  rintro n s' ⟨h', tk, rfl, hI⟩
  refine wpAny_mono (turn n h' tk hI) (fun b s₂ hb => ?_) fun _ _ f => f.elim
  cases b with
  | true =>
    simp only [if_true]
    refine wpAny_mono (hb.1 rfl) (fun f s₃ h₃ => ?_) fun _ _ f => f.elim
    obtain ⟨rfl, h'', tk', rfl, m, hm, hI'⟩ := h₃
    exact ⟨m, hm, h'', tk', rfl, hI'⟩
  | false =>
    simp only [Bool.false_eq_true, if_false]
    exact wpAny_execs_nil (hb.2 rfl)

theorem for_ev {target : Expr} {body : List Stmt} {I : Addr} {fp wr : List Addr} {n : Nat} {P : Nat → Value → Prop} {St : Nat → Heap → Prop} {Q : Flow → Shared → Prop} (W : Walks prog w A I fp wr n P St) (Inv : Nat → Heap → Prop)
    (h0 : St 0 s.heap) (h1 : Inv 0 s.heap)
    (stab : ∀ i h h', St i h → Inv i h → (∀ b o, b ∉ wr → h.get? b = some o → h'.get? b = some o) → Inv i h')
    (turn : ∀ i v h tk, i < n → P i v → St (i + 1) h → Inv i h → wpAny (model prog w) A (assign target env v) (fun _ s₂ => wpAny (model prog w) A (execs body env)
      (fun f s₃ => (f = .next ∨ f = .cont) ∧ ∃ h' tk', s₃ = { s with heap := h', toks := tk' } ∧ St (i + 1) h' ∧ Inv (i + 1) h') NoE s₂) NoE { s with heap := h, toks := tk })
    (done : ∀ h tk, Inv n h → Q .next { s with heap := h, toks := tk })
    (ht : ∀ v, letOwnedTupleGo target (.ref I) v = pure () := by intro _; rfl) :
    codeAny (model prog w) A (.forLoop target (.ref I) body [] env) (fun r s' => match r with | .ok f => Q f s' | .error e => cameBackBy (model prog w) A env NoE e s') s := by
  refine codeAny_forLoop (fun k s' => ∃ h' tk i, s' = { s with heap := h', toks := tk } ∧ i ≤ n ∧ k = n + 1 - i ∧ St i h' ∧ Inv i h') ?_ (n + 1) ⟨_, _, 0, rfl, Nat.zero_le _, rfl, h0, h1⟩ ht
  rintro k s' ⟨h', tk, i, rfl, hi, rfl, hst, hinv⟩
  by_cases hlt : i < n
  · refine W.item i _ _ _ hlt hst fun v h₁ tk₁ hP hst₁ hk₁ => ?_
    refine wpAny_mono (turn i v h₁ tk₁ hlt hP hst₁ (stab i _ _ hst hinv hk₁)) (fun _ s₂ h₂ => wpAny_mono h₂ (fun f s₃ h₃ => ?_) fun _ _ f => f.elim) fun _ _ f => f.elim
    obtain ⟨hf, h₄, tk₄, rfl, hst₄, hinv₄⟩ := h₃
    have fin : ∃ m, m < n + 1 - i ∧ ∃ h' tk i, ({ s with heap := h₄, toks := tk₄ } : Shared) = { s with heap := h', toks := tk } ∧ i ≤ n ∧ m = n + 1 - i ∧ St i h' ∧ Inv i h' :=
      ⟨n + 1 - (i + 1), by omega, h₄, tk₄, i + 1, rfl, hlt, rfl, hst₄, hinv₄⟩
    rcases hf with rfl | rfl <;> exact fin
  · obtain rfl : i = n := by omega
    refine W.done _ _ _ hst fun h₁ tk₁ hk₁ => wpAny_execs_nil ?_
    exact done h₁ tk₁ (stab i _ _ hst hinv hk₁)

/-- all but W stays -/
abbrev But (W : List Addr) (h h' : Heap) : Prop := ∀ b o, b ∉ W → h.get? b = some o → h'.get? b = some o
theorem But.trans {W : List Addr} {a b c : Heap} (x : But W a b) (y : But W b c) : But W a c := fun p o hp e => y p o hp (x p o hp e)
theorem But.rfl' (W : List Addr) (h : Heap) : But W h h := fun _ _ _ e => e
theorem But.one {W : List Addr} {h h' : Heap} {a : Addr} (x : Heap.SameBut a h h') (ha : a ∈ W) : But W h h' := fun b o hb e => x.extBut b o (by rintro rfl; exact hb ha) e
theorem But.ext {W : List Addr} {h h' : Heap} (x : Ext h h') : But W h h' := fun b o _ e => x b o e
theorem Ext.but {W : List Addr} {h₀ h h' : Heap} (x : Ext h₀ h) (y : But W h h') (hW : ∀ b ∈ W, h₀.get? b = none) : Ext h₀ h' :=
  fun b o e => y b o (fun hb => by rw [hW b hb] at e; cases e) (x b o e)

theorem for_walk {target : Expr} {body : List Stmt} {I : Addr} {fp : List Addr} {n : Nat} {P : Nat → Value → Prop} {St : Nat → Heap → Prop} {Q : Flow → Shared → Prop} {h₀ : Heap} {W : List Addr}
    (Wk : Walks prog w A I fp [I] n P St) (Inv : Nat → Heap → Prop)
    (h0 : St 0 s.heap) (h1 : Inv 0 s.heap) (hx : Ext h₀ s.heap) (hI : h₀.get? I = none) (hW : ∀ b ∈ W, h₀.get? b = none) (hWf : ∀ b ∈ W, b ∉ fp)
    (stab : ∀ i h h', St i h → Inv i h → Heap.ExtBut I h h' → Inv i h')
    (turn : ∀ i v h tk, i < n → P i v → St (i + 1) h → Ext h₀ h → Inv i h → wpAny (model prog w) A (assign target env v) (fun _ s₂ => wpAny (model prog w) A (execs body env)
      (fun f s₃ => (f = .next ∨ f = .cont) ∧ ∃ h' tk', s₃ = { s with heap := h', toks := tk' } ∧ But W h h' ∧ Inv (i + 1) h') NoE s₂) NoE { s with heap := h, toks := tk })
    (done : ∀ h tk, Ext h₀ h → Inv n h → Q .next { s with heap := h, toks := tk })
    (ht : ∀ v, letOwnedTupleGo target (.ref I) v = pure () := by intro _; rfl) :
    codeAny (model prog w) A (.forLoop target (.ref I) body [] env) (fun r s' => match r with | .ok f => Q f s' | .error e => cameBackBy (model prog w) A env NoE e s') s := by
  refine for_ev Wk (fun i h => Ext h₀ h ∧ Inv i h) h0 ⟨hx, h1⟩ (fun i h h' st iv k => ?_) (fun i v h tk hi hP st iv => ?_) (fun h tk iv => done h tk iv.1 iv.2) ht
  · have k' : Heap.ExtBut I h h' := fun b o hb e => k b o (by simpa using hb) e
    exact ⟨iv.1.same k' hI, stab i h h' st iv.2 k'⟩
  · refine wpAny_mono (turn i v h tk hi hP st iv.1 iv.2) (fun _ s₂ h₂ => wpAny_mono h₂ (fun f s₃ h₃ => ?_) fun _ _ e => e) fun _ _ e => e
    obtain ⟨hf, h', tk', rfl, hb, hv⟩ := h₃
    exact ⟨hf, h', tk', rfl, Wk.frame _ _ _ st fun b hb' o e => hb b o (fun q => hWf b q hb') e, iv.1.but hb hW, hv⟩

theorem for_list {target : Expr} {body : List Stmt} {l : Addr} {items : Array Value} {Q : Flow → Shared → Prop} {h₀ : Heap} {W : List Addr}
    (hh : A.handled = none) (hl : s.heap.IsList l items) (Inv : Nat → Heap → Prop) (h1 : ∀ h, Ext s.heap h → Inv 0 h) (hx : Ext h₀ s.heap) (hsz : h₀.objs.size ≤ s.heap.objs.size)
    (hW : ∀ b ∈ W, h₀.get? b = none ∧ b ≠ l ∧ b < s.heap.objs.size)
    (stab : ∀ i h h', h.IsListIter s.heap.objs.size l i → Inv i h → Heap.ExtBut s.heap.objs.size h h' → Inv i h')
    (turn : ∀ i v h tk, items[i]? = some v → h.IsListIter s.heap.objs.size l (i + 1) → Ext h₀ h → Inv i h → wpAny (model prog w) A (assign target env v) (fun _ s₂ => wpAny (model prog w) A (execs body env)
      (fun f s₃ => (f = .next ∨ f = .cont) ∧ ∃ h' tk', s₃ = { s with heap := h', toks := tk' } ∧ But W h h' ∧ Inv (i + 1) h') NoE s₂) NoE { s with heap := h, toks := tk })
    (done : ∀ h tk, Ext h₀ h → Inv items.size h → Q .next { s with heap := h, toks := tk })
    (ht : ∀ I v, letOwnedTupleGo target (.ref I) v = pure () := by intro _ _; rfl) :
    wpAny (model prog w) A (pyIter (.ref l)) (fun it s₂ => codeAny (model prog w) A (.forLoop target it body [] env) (fun r s' => match r with | .ok f => Q f s' | .error e => cameBackBy (model prog w) A env NoE e s') s₂) NoE s := by
  obtain ⟨ol, hol, _⟩ := id hl
  have hne : l ≠ s.heap.objs.size := Nat.ne_of_lt (Heap.lt_size hol)
  refine wpAny_pyIter_list hl ?_
  refine for_walk (W := W) (h₀ := h₀) (Walks.list hh s.heap.objs.size l hne items) Inv ⟨⟨_, Heap.get?_push_size _ rfl, rfl, rfl⟩, hl.push _⟩ (h1 _ (Ext.push _ _)) (hx.trans (Ext.push _ _)) (none_of_le hsz) (fun b hb => (hW b hb).1)
    (fun b hb hf => ?_) (fun i h h' st iv k => stab i h h' st.1 iv k) (fun i v h tk _ hP st hx' iv => turn i v h tk hP st.1 hx' iv) done (ht _)
  obtain ⟨_, h2, h3⟩ := hW b hb
  simp only [List.mem_cons, List.not_mem_nil, or_false] at hf
  rcases hf with rfl | rfl
  · exact absurd h3 (Nat.lt_irrefl _)
  · exact h2 rfl
end
end Mine
end

section
open PySem PySem.W PyProof.Rows
set_option maxRecDepth 100000
set_option maxHeartbeats 200000
namespace Mine
section
variable {prog : Program} {w : World} {A : Around} {s : Shared} {env : Env} {E : Value → Shared → Prop}

/-- who has a plain method -/
def Has (s : Shared) (ov : Value) (T : String) : Prop := s.TypeIs ov T ∧ ∀ a, ov = .ref a → ∃ ob, s.heap.get? a = some ob ∧ ob.dict = none
theorem has_str (s : Shared) (x : Str) (t : Tok) : Has s (.str x t) "str" := ⟨typeIs_str _ _ _, fun _ e => nomatch e⟩
theorem has_list {s : Shared} {a : Addr} {xs : Array Value} (h : s.heap.PlainList a xs) : Has s (.ref a) "list" :=
  ⟨h.isList.typeIs, fun b e => by cases e; obtain ⟨n, e⟩ := h; exact ⟨_, e, rfl⟩⟩

theorem meth0 {o : Expr} {name : Str} {apos pos : Pos} {T id : String} {Q : Value → Shared → Prop} (pa : PlainAttrs T) (slot : Slot T name id) (hty : typeOf (.builtin id) = pure (.type "method_descriptor"))
    (h : wpAny (model prog w) A (eval o env) (fun ov s₁ => Has s₁ ov T ∧ wpAny (model prog w) A (call (.builtin id) [ov]) Q E s₁) E s)
    (hbase : attributeBase o name env (eval o env) = eval o env := by rfl) (hline : (apos.endLine == pos.line) = true := by rfl) :
    wpAny (model prog w) A (eval (.Call (.Attribute o name apos) [] [] pos) env) Q E s :=
  wpAny_Call_method hbase rfl hline pa slot hty (wpAny_mono h (fun ov s₁ h₁ => ⟨h₁.1.1, h₁.1.2, Calls.callWith_builtin rfl (evalArgs_nil3 (by simpa using h₁.2))⟩) fun _ _ e => e)
theorem meth1 {o e : Expr} {name : Str} {apos pos : Pos} {T id : String} {Q : Value → Shared → Prop} (pa : PlainAttrs T) (slot : Slot T name id) (hty : typeOf (.builtin id) = pure (.type "method_descriptor"))
    (h : wpAny (model prog w) A (eval o env) (fun ov s₁ => Has s₁ ov T ∧ wpAny (model prog w) A (eval e env) (fun v s₂ => wpAny (model prog w) A (call (.builtin id) [ov, v]) Q E s₂) E s₁) E s)
    (hbase : attributeBase o name env (eval o env) = eval o env := by rfl) (hline : (apos.endLine == pos.line) = true := by rfl)
    (htrees : backTo pos (starEach [e] env) = [(false, eval e env)] := by rfl) :
    wpAny (model prog w) A (eval (.Call (.Attribute o name apos) [e] [] pos) env) Q E s :=
  wpAny_Call_method hbase (by rw [htrees]; rfl) hline pa slot hty (wpAny_mono h (fun ov s₁ h₁ => ⟨h₁.1.1, h₁.1.2, by
    rw [htrees]
    exact Calls.callWith_builtin rfl (Calls.evalArgs_plain (Calls.spliced_cons (wpAny_mono h₁.2 (fun v s₂ h₂ => Calls.spliced_nil h₂) fun _ _ e => e)))⟩) fun _ _ e => e)
theorem meth2 {o e f : Expr} {name : Str} {apos pos : Pos} {T id : String} {Q : Value → Shared → Prop} (pa : PlainAttrs T) (slot : Slot T name id) (hty : typeOf (.builtin id) = pure (.type "method_descriptor"))
    (h : wpAny (model prog w) A (eval o env) (fun ov s₁ => Has s₁ ov T ∧ wpAny (model prog w) A (eval e env) (fun v s₂ => wpAny (model prog w) A (eval f env) (fun v' s₃ => wpAny (model prog w) A (call (.builtin id) [ov, v, v']) Q E s₃) E s₂) E s₁) E s)
    (hbase : attributeBase o name env (eval o env) = eval o env := by rfl) (hline : (apos.endLine == pos.line) = true := by rfl)
    (htrees : backTo pos (starEach [e, f] env) = [(false, eval e env), (false, eval f env)] := by rfl) :
    wpAny (model prog w) A (eval (.Call (.Attribute o name apos) [e, f] [] pos) env) Q E s :=
  wpAny_Call_method hbase (by rw [htrees]; rfl) hline pa slot hty (wpAny_mono h (fun ov s₁ h₁ => ⟨h₁.1.1, h₁.1.2, by
    rw [htrees]
    exact Calls.callWith_builtin rfl (Calls.evalArgs_plain (Calls.spliced_cons (wpAny_mono h₁.2 (fun v s₂ h₂ => Calls.spliced_cons (wpAny_mono h₂ (fun v' s₃ h₃ => Calls.spliced_nil h₃) fun _ _ e => e)) fun _ _ e => e)))⟩) fun _ _ e => e)

/-- a statement that is a call -/
theorem stmt_call {f : Expr} {args : List Expr} {ks : List Keyword} {p pos : Pos} {Q : Flow → Shared → Prop}
    (h : wpAny (model prog w) A (eval (.Call f args ks p) env) (fun _ s' => Q .next s') E s) (hi : interactive env = false := by rfl) : wpAny (model prog w) A (exec (.Expr (.Call f args ks p) pos) env) Q E s := by
  exact wpAny_Expr_any h hi rfl

theorem append_stmt {l : Addr} {xs : Array Value} {e : Expr} {o : Expr} {apos p pos : Pos} {Q : Flow → Shared → Prop}
    (h : wpAny (model prog w) A (eval o env) (fun ov s₁ => ov = .ref l ∧ s₁.heap.PlainList l xs ∧ wpAny (model prog w) A (eval e env) (fun v s₂ => s₂.heap.PlainList l xs ∧ xs.size ≤ sizeLine ∧
      ∀ h', h'.PlainList l (xs.push v) → Heap.SameBut l s₂.heap h' → Q .next { s₂ with heap := h' }) E s₁) E s)
    (hbase : attributeBase o (Str.ofString "append") env (eval o env) = eval o env := by rfl) (hline : (apos.endLine == p.line) = true := by rfl)
    (htrees : backTo p (starEach [e] env) = [(false, eval e env)] := by rfl) (hi : interactive env = false := by rfl) :
    wpAny (model prog w) A (exec (.Expr (.Call (.Attribute o (Str.ofString "append") apos) [e] [] p) pos) env) Q E s := by
  refine stmt_call (meth1 (T := "list") F.plainAttrs_list slot_list_append type_list_append (wpAny_mono h (fun ov s₁ h₁ => ?_) fun _ _ e => e) hbase hline htrees) hi
  obtain ⟨rfl, hl, h₂⟩ := h₁
  refine ⟨has_list hl, wpAny_mono h₂ (fun v s₂ h₃ => ?_) fun _ _ e => e⟩
  exact wpAny_list_append_plain h₃.1 (fun h' hp hs => h₃.2.2 h' hp hs) h₃.2.1

/-- a, b = (x, y), the stores exchanged -/
theorem tuple_assign {elts velts : List Expr} {k k' : Nat} {tpos vpos pos : Pos} {names : List Str} {Q : Flow → Shared → Prop} (hh : A.handled = none)
    (h : wpAny (model prog w) A (spliced (backTo vpos (starEach velts env))) (fun vs s₁ => vs.length = names.length ∧ vs.length ≤ sizeLine ∧
      ∀ h', Ext s₁.heap h' → wpAny (model prog w) A (assignInOrder (names.reverse.map fun n => bindName env n) vs.reverse) (fun _ => Q .next) E { s₁ with heap := h' }) E s)
    (hs : swapsWithSole [.Tuple elts k tpos] (.Tuple velts k' vpos) pos.line env = pure false := by rfl)
    (hw : swappedStores [.Tuple elts k tpos] (.Tuple velts k' vpos) env = pure (some names) := by rfl) :
    wpAny (model prog w) A (exec (.Assign [.Tuple elts k tpos] (.Tuple velts k' vpos) pos) env) Q E s := by
  refine Assign_Tuple_swapped (names := names) (Tuple_ (wpAny_mono h (fun vs s₁ h₁ => wpAny_newTuple ?_ h₁.2.1) fun _ _ e => e)) hs hw
  have hl : names.length = vs.toArray.size := by simp [h₁.1]
  rw [hl]
  refine wpAny_unpackItems_tuple hh ⟨_, Heap.get?_push_size _ rfl, rfl, _, rfl⟩ fun h' hx => ?_
  rw [List.toList_toArray]
  refine h₁.2.2 h' fun b o e => hx b o ?_ (Heap.get?_push_of_some _ e)
  have := Heap.lt_size e
  show b ≠ (s₁.heap.push _).objs.size
  rw [Heap.size_push]
  exact Nat.ne_of_lt (Nat.lt_succ_of_lt this)
theorem bind_local {x : Str} {v : Value} {ts : List (Value → Sem Unit)} {vs : List Value} {m : Str → Option Value} {Q : Unit → Shared → Prop} (hn : s.heap.Ns env.locals m)
    (h : ∀ h' tk, h'.Ns env.locals (fun z => if z = x then some v else m z) → Heap.SameBut env.locals s.heap h' → wpAny (model prog w) A (assignInOrder ts vs) Q E { s with heap := h', toks := tk })
    (hl : env.kindOf x = some .local := by rfl) (hp : (env.scope.kind == .class || (env.scope.kind == .module && env.locals != env.globals)) = false := by rfl) :
    wpAny (model prog w) A (assignInOrder ((fun n => bindName env n) x :: ts) (v :: vs)) Q E s :=
  wpAny_assignInOrder_more (wpAny_bindName (wpAny_storeName_local hl hn (fun h' hn' hs' => h h' _ hn' hs') hp))
end
end Mine
end

section
namespace Mine
/-! the plain readers: no program in sight -/
inductive Mode where
  | O
  | I (st : Nat)
  | E (st : Nat)

def spansM : List Nat → Nat → Mode → List (Nat × Nat)
  | [], _, .O => []
  | [], i, .I st => [(st, i)]
  | [], i, .E st => [(st, i + 1)]
  | c :: r, i, .O => if c = 34 then spansM r (i + 1) (.I i) else spansM r (i + 1) .O
  | c :: r, i, .I st => if c = 34 then (st, i) :: spansM r (i + 1) .O else if c = 92 then spansM r (i + 1) (.E st) else spansM r (i + 1) (.I st)
  | _ :: r, i, .E st => spansM r (i + 1) (.I st)
def heldM : List Nat → Nat → Mode → List Nat
  | [], _, _ => []
  | c :: r, i, .O => if c = 34 then heldM r (i + 1) (.I i) else heldM r (i + 1) .O
  | c :: r, i, .I st => if c = 34 then heldM r (i + 1) .O else if c = 92 then i :: heldM r (i + 1) (.E st) else heldM r (i + 1) (.I st)
  | _ :: r, i, .E st => heldM r (i + 1) (.I st)

theorem spansM_len : ∀ (t : List Nat) (i : Nat) (m : Mode), (spansM t i m).length ≤ t.length + 1
  | [], i, m => by cases m <;> simp [spansM]
  | c :: r, i, .O => by
    simp only [spansM]; split
    · have := spansM_len r (i + 1) (.I i); simp; omega
    · have := spansM_len r (i + 1) .O; simp; omega
  | c :: r, i, .I st => by
    simp only [spansM]; split
    · have := spansM_len r (i + 1) .O; simp; omega
    · split
      · have := spansM_len r (i + 1) (.E st); simp; omega
      · have := spansM_len r (i + 1) (.I st); simp; omega
  | c :: r, i, .E st => by
    simp only [spansM]
    have := spansM_len r (i + 1) (.I st); simp; omega
theorem heldM_len : ∀ (t : List Nat) (i : Nat) (m : Mode), (heldM t i m).length ≤ t.length
  | [], i, m => by cases m <;> simp [heldM]
  | c :: r, i, .O => by
    simp only [heldM]; split
    · have := heldM_len r (i + 1) (.I i); simp; omega
    · have := heldM_len r (i + 1) .O; simp; omega
  | c :: r, i, .I st => by
    simp only [heldM]; split
    · have := heldM_len r (i + 1) .O; simp; omega
    · split
      · have := heldM_len r (i + 1) (.E st); simp; omega
      · have := heldM_len r (i + 1) (.I st); simp; omega
  | c :: r, i, .E st => by
    simp only [heldM]
    have := heldM_len r (i + 1) (.I st); simp; omega

theorem drop_cons {t : List Nat} {i c : Nat} (h : t[i]? = some c) : t.drop i = c :: t.drop (i + 1) := by
  obtain ⟨hi, e⟩ := List.getElem?_eq_some_iff.mp h
  rw [List.drop_eq_getElem_cons hi, e]

/-- outside of quotes, up to the next double quote -/
theorem skipO (t : List Nat) : ∀ (d p : Nat), (∀ v, p ≤ v → v < p + d → t[v]? ≠ some 34) →
    spansM (t.drop p) p .O = spansM (t.drop (p + d)) (p + d) .O ∧ heldM (t.drop p) p .O = heldM (t.drop (p + d)) (p + d) .O
  | 0, p, _ => ⟨rfl, rfl⟩
  | d + 1, p, h => by
    have ih := skipO t d (p + 1) fun v h1 h2 => h v (by omega) (by omega)
    have e : p + 1 + d = p + (d + 1) := by omega
    rw [e] at ih
    cases hc : t[p]? with
    | none =>
      have hp : t.length ≤ p := by simpa using hc
      rw [List.drop_eq_nil_of_le hp, List.drop_eq_nil_of_le (by omega)]
      exact ⟨rfl, rfl⟩
    | some c =>
      have hne : c ≠ 34 := fun e => h p (Nat.le_refl _) (by omega) (by rw [hc, e])
      rw [drop_cons hc]
      simp only [spansM, heldM, if_neg hne]
      exact ih
theorem restO (t : List Nat) (p : Nat) (h : ∀ v, p ≤ v → v < t.length → t[v]? ≠ some 34) : spansM (t.drop p) p .O = [] ∧ heldM (t.drop p) p .O = [] := by
  have := skipO t t.length p fun v h1 _ => by
    by_cases hv : v < t.length
    · exact h v h1 hv
    · rw [List.getElem?_eq_none (by omega)]; simp
  rw [List.drop_eq_nil_of_le (show t.length ≤ p + t.length by omega)] at this
  exact ⟨this.1.trans rfl, this.2.trans rfl⟩
/-- the end of quotes -/
theorem shutI {t : List Nat} {e st : Nat} (h : t.length ≤ e ∨ t[e]? = some 34) :
    spansM (t.drop e) e (.I st) = (st, e) :: spansM (t.drop (e + 1)) (e + 1) .O ∧ heldM (t.drop e) e (.I st) = heldM (t.drop (e + 1)) (e + 1) .O := by
  rcases h with h | h
  · rw [List.drop_eq_nil_of_le h, List.drop_eq_nil_of_le (by omega)]; exact ⟨rfl, rfl⟩
  · rw [drop_cons h]; exact ⟨rfl, rfl⟩
theorem openO {t : List Nat} {e : Nat} (h : t[e]? = some 34) :
    spansM (t.drop e) e .O = spansM (t.drop (e + 1)) (e + 1) (.I e) ∧ heldM (t.drop e) e .O = heldM (t.drop (e + 1)) (e + 1) (.I e) := by
  rw [drop_cons h]; exact ⟨rfl, rfl⟩
theorem stepI {t : List Nat} {e st c : Nat} (h : t[e]? = some c) (h1 : c ≠ 34) (h2 : c ≠ 92) :
    spansM (t.drop e) e (.I st) = spansM (t.drop (e + 1)) (e + 1) (.I st) ∧ heldM (t.drop e) e (.I st) = heldM (t.drop (e + 1)) (e + 1) (.I st) := by
  rw [drop_cons h]; simp only [spansM, heldM, if_neg h1, if_neg h2]; exact ⟨trivial, trivial⟩
theorem stepH {t : List Nat} {e st : Nat} (h : t[e]? = some 92) :
    spansM (t.drop e) e (.I st) = spansM (t.drop (e + 2)) (e + 2) (.I st) ∧ heldM (t.drop e) e (.I st) = e :: heldM (t.drop (e + 2)) (e + 2) (.I st) := by
  rw [drop_cons h]
  have a : (92 : Nat) ≠ 34 := by decide
  simp only [spansM, heldM, if_neg a, if_true]
  cases hc : t[e + 1]? with
  | none =>
    have hp : t.length ≤ e + 1 := by simpa using hc
    rw [List.drop_eq_nil_of_le hp, List.drop_eq_nil_of_le (by omega)]
    exact ⟨rfl, rfl⟩
  | some c => rw [drop_cons hc]; exact ⟨rfl, rfl⟩
end Mine
end

section
open PySem PySem.W PyProof.Rows
set_option maxRecDepth 100000
set_option maxHeartbeats 100000
namespace Mine
section
variable {prog : Program} {w : World} {A : Around} {s : Shared} {env : Env}

def TextOk (x : Str) : Prop := x.cps.toList ≠ [] ∧ x.cps.size ≤ 26 ∧ ∀ c ∈ x.cps.toList, c < 128 ∧ c ≠ 10

theorem ns_list_ne {h : Heap} {a b : Addr} {m : Str → Option Value} {xs : Array Value} (x : h.Ns a m) (y : h.IsList b xs) : a ≠ b := by
  rintro rfl
  obtain ⟨o, es, ep, ho, hd, _⟩ := x
  obtain ⟨o', ho', _, n, hd'⟩ := y
  rw [ho] at ho'; cases ho'; rw [hd] at hd'; cases hd'
theorem ns_listiter_ne {h : Heap} {a b l : Addr} {i : Nat} {m : Str → Option Value} (x : h.Ns a m) (y : h.IsListIter b l i) : a ≠ b := by
  rintro rfl
  obtain ⟨o, es, ep, ho, hd, _⟩ := x
  obtain ⟨o', ho', _, hd'⟩ := y
  rw [ho] at ho'; cases ho'; rw [hd] at hd'; cases hd'

theorem get_push2 (h : Heap) (a b : Obj) (hb : b.isFreed = false := by rfl) : ((h.push a).push b).get? (h.objs.size + 1) = some b := by
  have := Heap.get?_push_size (h.push a) hb
  rwa [Heap.size_push] at this

theorem ints_item {items : Array Value} {ns : List Int} (hI : IntsAre items.toList ns) {i : Nat} {v : Value} (hv : items[i]? = some v) : ∃ z tz, v = .int z tz := by
  have hv' : items.toList[i]? = some v := by simpa using hv
  have hlt : i < items.toList.length := (List.getElem?_eq_some_iff.mp hv').1
  rw [hI.length] at hlt
  obtain ⟨t, ht⟩ := hI.get i ns[i] (by simp [hlt])
  rw [ht] at hv'
  exact ⟨_, _, (Option.some.inj hv').symm⟩

theorem menu_item (k : Int) (h1 : 0 ≤ k) (h2 : k < 12) (h3 : k ≠ 11) : ∃ c, c < 128 ∧ (Str.ofString "\"\"\\\\,,(() a").cps[k.toNat]? = some c := by
  rw [show Str.ofString "\"\"\\\\,,(() a" = ⟨#[34,34,92,92,44,44,40,40,41,32,97]⟩ from by decide +kernel]
  have : k = 0 ∨ k = 1 ∨ k = 2 ∨ k = 3 ∨ k = 4 ∨ k = 5 ∨ k = 6 ∨ k = 7 ∨ k = 8 ∨ k = 9 ∨ k = 10 := by omega
  rcases this with rfl | rfl | rfl | rfl | rfl | rfl | rfl | rfl | rfl | rfl | rfl
  all_goals exact ⟨_, by decide, rfl⟩

theorem menu_on {E : Value → Shared → Prop} {value slice : Expr} {k : Int} {t u : Tok} {Q : Value → Shared → Prop} (h1 : 0 ≤ k) (h2 : k < 12) (h3 : k ≠ 11) (h : ∀ c t tk, c < 128 → Q (.str ⟨#[c]⟩ t) { s with toks := tk })
    (hs : ∀ x t k u, subscripted slice false (.str x t) (.int k u) = operate [.str x t, .int k u] (getItem (.str x t) (.int k u)) := by intro _ _ _ _; with_unfolding_all rfl)
    (ht : ∀ x t r, letTemporaryGo value (.str x t) r = pure () := by intro _ _ _; with_unfolding_all rfl) :
    wpAny (model prog w) A (subscriptTail value slice (.str (Str.ofString "\"\"\\\\,,(() a") t) (.int k u)) Q E s := by
  obtain ⟨c, q3, q4⟩ := menu_item k h1 h2 h3
  exact str_item h1 (by omega) q4 (fun t' tk => h c t' tk q3) (hs _ _ _ _) (ht _ _)

theorem grown_size {x : Str} {d i : Nat} (h : x.cps.size = 12 + i) : (x ++ (⟨#[d]⟩ : Str)).cps.size = 12 + (i + 1) := by
  rw [Str.cps_append]; simp; omega
theorem grown_ok {x : Str} {d : Nat} (h : ∀ c ∈ x.cps.toList, c < 128 ∧ c ≠ 10) (h1 : d < 128) (h2 : d ≠ 10) : ∀ c ∈ (x ++ (⟨#[d]⟩ : Str)).cps.toList, c < 128 ∧ c ≠ 10 := by
  intro c hc
  rw [Str.cps_append] at hc
  simp at hc
  rcases hc with hc | rfl
  · exact h c (by simpa using hc)
  · exact ⟨h1, h2⟩
theorem ints_size {items : Array Value} {ns : List Int} (hI : IntsAre items.toList (ns.take (Int.toNat 14))) : items.size ≤ 14 := by
  have := hI.length
  rw [List.length_take, Array.length_toList] at this
  omega
theorem grown_fits {x : Str} {d i k : Nat} (h : x.cps.size = 12 + i) (hi : i < k) (hk : k ≤ 14) : x.length + (⟨#[d]⟩ : Str).length ≤ sizeLine := by
  show x.cps.size + 1 ≤ sizeLine
  rw [sizeLine_eq]; omega

theorem law_text_ev {l : Addr} {vs : List Value} {ns : List Int} {n : Nat} (B : Base w s.heap) (R : Room A (n + 1)) (hl : s.heap.IsList l vs.toArray) (hi : IntsAre vs ns) (hlen : ns.length ≤ 63) :
    Ev (model prog w) A s (call (.ref 56) [.ref l] []) (fun v _ => ∃ x t, v = .str x t ∧ TextOk x) := by
  refine call_own B R rfl rfl (by rfl) rfl (BindsTo.of_eq rfl) (by decide) (locs rfl) fun h₁ tk hn hx R' => ?_
  refine wpAny_execs_cons ?_
  refine wpAny_Assign_Name (wpAny_Constant_str ?_)
  refine wpAny_storeName_local rfl hn fun h₂ hn₂ hs₂ => ?_
  have hx₂ : Ext s.heap h₂ := hx.same hs₂.extBut (none_of_le (Nat.le_refl _))
  refine wpAny_execs_cons ?_
  refine wpAny_For ?_
  refine wpAny_Subscript_list_slice ?_
  refine wpAny_Name (wpAny_loadName_local rfl rfl hn₂ rfl ?_)
  refine wpAny_evalPart_none ?_
  refine wpAny_evalPart_some (wpAny_Constant_int ?_)
  refine ⟨l, vs.toArray, none, some 14, rfl, hl.at (fun o e => hx₂ _ _ e), ?_, .none, .int _ _, ?_⟩
  · rw [List.size_toArray, hi.length, sizeLine_eq]; omega
  have hI := slice_ints_uptoW hi (y := 14) (by decide)
  generalize slicePick vs.toArray none (some 14) none = items at hI ⊢
  refine for_list (h₀ := s.heap) (W := [s.heap.objs.size]) R'.hh (l := h₂.objs.size + 1) (items := items) ⟨_, get_push2 _ _ _, rfl, _, rfl⟩
    (fun i h => ∃ m x t, h.Ns s.heap.objs.size m ∧ m (Str.ofString "text") = some (.str x t) ∧ x.cps.size = 12 + i ∧ ∀ c ∈ x.cps.toList, c < 128 ∧ c ≠ 10)
    (fun h hh => ⟨_, _, _, (hn₂.keeps ((Ext.push _ _).trans ((Ext.push _ _).trans hh))), rfl, by decide +kernel, by decide +kernel⟩)
    (hx₂.trans ((Ext.push _ _).trans (Ext.push _ _))) ?_ ?_ ?_ ?_ ?_
  · have h3 : s.heap.objs.size < h₂.objs.size := hn₂.lt
    show _ ≤ ((h₂.push _).push _).objs.size
    simp only [Heap.size_push]; omega
  · intro b hb
    obtain rfl := List.mem_singleton.mp hb
    have := hn₂.lt
    have h3 : s.heap.objs.size < h₂.objs.size := this
    refine ⟨none_of_le (Nat.le_refl _), fun e => by have e' : s.heap.objs.size = h₂.objs.size + 1 := e; omega, ?_⟩
    show _ < ((h₂.push _).push _).objs.size
    simp only [Heap.size_push]; omega
  · rintro i h h' hit ⟨m, x, t, a1, a2, a3, a4⟩ hk
    exact ⟨m, x, t, a1.extBut hk (ns_listiter_ne a1 hit), a2, a3, a4⟩
  · rintro i v h tk hv hit hxh ⟨m, x, t, a1, a2, a3, a4⟩
    obtain ⟨z, tz, rfl⟩ : ∃ z tz, v = .int z tz := ints_item hI hv
    refine wpAny_assign_Name (wpAny_storeName_local rfl a1 fun h₃ hn₃ hs₃ => ?_)
    have hx₃ : Ext s.heap h₃ := hxh.same hs₃.extBut (none_of_le (Nat.le_refl _))
    refine wpAny_execs_cons ?_
    refine wpAny_Assign_Name (wpAny_BinOp ?_)
    refine wpAny_Name (wpAny_loadName_local rfl rfl hn₃ rfl ?_)
    refine wpAny_Constant_int ?_
    refine mod_int (by decide) ?_
    refine wpAny_storeName_local rfl hn₃ fun h₄ hn₄ hs₄ => ?_
    have hx₄ : Ext s.heap h₄ := hx₃.same hs₄.extBut (none_of_le (Nat.le_refl _))
    have hb := Int.fmod_nonneg_of_pos z (b := 1536) (by decide)
    have hb2 := Int.fmod_lt_of_pos z (b := 1536) (by decide)
    refine wpAny_execs_cons ?_
    refine wpAny_Assign_Name ?_
    refine Ev.use (P := fun r _ => ∃ c t, r = .str ⟨#[c]⟩ t ∧ c < 128) ?_ ?_
    · refine IfExp2 (wpAny_isTrue_Compare1 (wpAny_BinOp ?_))
      refine wpAny_Name (wpAny_loadName_local rfl rfl hn₄ rfl ?_)
      refine wpAny_Constant_int (mod_int (by decide) (wpAny_Constant_int (eq_int (wpAny_truthy_bool ?_))))
      have hc := Int.fmod_nonneg_of_pos (z.fmod 1536) (b := 12) (by decide)
      have hc2 := Int.fmod_lt_of_pos (z.fmod 1536) (b := 12) (by decide)
      have hfd := Int.mul_fdiv_add_fmod (z.fmod 1536) 12
      refine ⟨fun h11 => ?_, fun h11 => ?_⟩
      · have h11 : (z.fmod 1536).fmod 12 = 11 := by simpa using h11
        refine wpAny_Call_NameR (wpAny_Name (ld_blt (B.ext hx₄) rfl rfl ?_))
        refine callWith_builtin1 (wpAny_BinOp ?_)
        refine wpAny_Name (wpAny_loadName_local rfl rfl hn₄ rfl ?_)
        refine wpAny_Constant_int (floordiv_int (by decide) ?_ (.inl (PyProof.noPylong_small (by omega))))
        refine chr_of_range (by omega) (by omega) ?_
        exact ⟨Keeps.mk _ (Ext.rfl' _), _, _, rfl, by omega⟩
      · have h11 : (z.fmod 1536).fmod 12 ≠ 11 := by simpa using h11
        refine Subscript_ (wpAny_Constant_str (wpAny_BinOp ?_))
        refine wpAny_Name (wpAny_loadName_local rfl rfl hn₄ rfl ?_)
        refine wpAny_Constant_int (mod_int (by decide) ?_)
        refine menu_on hc hc2 h11 fun c t' tk' q3 => ?_
        exact ⟨Keeps.mk _ (Ext.rfl' _), _, _, rfl, q3⟩
    · rintro _ s₅ hk₅ ⟨c, t₅, rfl, hc⟩
      obtain ⟨h₅, tk₅, rfl, hk₅⟩ := hk₅
      refine wpAny_storeName_local rfl (hn₄.keeps hk₅) fun h₆ hn₆ hs₆ => ?_
      have hx₆ : Ext s.heap h₆ := (hx₄.trans hk₅).same hs₆.extBut (none_of_le (Nat.le_refl _))
      refine wpAny_execs_cons ?_
      refine wpAny_AugAssign_Name ?_
      refine wpAny_loadName_local rfl rfl hn₆ a2 ?_
      refine Ev.use (P := fun r _ => ∃ c t, r = .str ⟨#[c]⟩ t ∧ c < 128 ∧ c ≠ 10) ?_ ?_
      · refine IfExp2 (wpAny_isTrue_Compare1 ?_)
        refine wpAny_Name (wpAny_loadName_local rfl rfl hn₆ rfl ?_)
        refine wpAny_Constant_str (PyProof.Rows.eq_str (wpAny_truthy_bool ?_))
        have e : (((⟨#[c]⟩ : Str) == Str.ofString "\n") = true) = (c = 10) := by
          rw [show Str.ofString "\n" = ⟨#[10]⟩ from by decide +kernel]
          simp
        refine ⟨fun h10 => ?_, fun h10 => ?_⟩
        · refine wpAny_Constant_str ?_
          exact ⟨Keeps.mk _ (Ext.rfl' _), 97, _, rfl, by decide, by decide⟩
        · have h10 : c ≠ 10 := by rw [← Bool.not_eq_true, e] at h10; exact h10
          refine wpAny_Name (wpAny_loadName_local rfl rfl hn₆ rfl ?_)
          exact ⟨Keeps.mk _ (Ext.rfl' _), c, _, rfl, hc, h10⟩
      · rintro _ s₇ hk₇ ⟨d, t₇, rfl, hd1, hd2⟩
        obtain ⟨h₇, tk₇, rfl, hk₇⟩ := hk₇
        refine PyProof.Rows.iadd_str (fun t' tk' => ?_) ?_
        · refine wpAny_storeName_local rfl (hn₆.keeps hk₇) fun h₈ hn₈ hs₈ => ?_
          refine wpAny_execs_nil ⟨.inl rfl, h₈, _, rfl, ?_, _, _, _, hn₈, rfl, ?_, ?_⟩
          · exact (((But.one hs₃ (.head _)).trans (But.one hs₄ (.head _))).trans ((But.ext hk₅).trans (But.one hs₆ (.head _)))).trans ((But.ext hk₇).trans (But.one hs₈ (.head _)))
          · exact grown_size a3
          · exact grown_ok a4 hd1 hd2
        · have hlt : i < items.size := (Array.getElem?_eq_some_iff.mp hv).1
          exact grown_fits a3 hlt (ints_size hI)
  · rintro h tk hxh ⟨m, x, t, a1, a2, a3, a4⟩
    refine wpAny_execs_cons ?_
    refine wpAny_Return_some (wpAny_Name (wpAny_loadName_local rfl rfl a1 a2 ?_))
    refine ⟨Keeps.mk _ hxh, x, t, rfl, ?_, ?_, a4⟩
    · intro e
      have : x.cps.toList.length = 0 := by rw [e]; rfl
      rw [Array.length_toList] at this; omega
    · have := ints_size hI
      omega
end
end Mine
end

section
open PySem PySem.W PyProof.Rows
set_option maxRecDepth 100000
set_option maxHeartbeats 200000
namespace Mine
section
theorem kinds_ne {h : Heap} {a b : Addr} {x y : Obj} (ha : h.get? a = some x) (hb : h.get? b = some y) (hd : x ≠ y) : a ≠ b := by
  rintro rfl; rw [ha] at hb; exact hd (Option.some.inj hb)
theorem ns_plain_ne {h : Heap} {a b : Addr} {m : Str → Option Value} {xs : Array Value} (x : h.Ns a m) (y : h.PlainList b xs) : a ≠ b := ns_list_ne x y.isList
theorem tuple_plain_ne {h : Heap} {a b : Addr} {xs ys : Array Value} (x : h.IsTuple a ys) (y : h.PlainList b xs) : a ≠ b := by
  rintro rfl
  obtain ⟨o, ho, hc, _⟩ := x
  obtain ⟨n, e⟩ := y
  rw [ho] at e; cases e; simp at hc
theorem ns_tuple_ne {h : Heap} {a b : Addr} {m : Str → Option Value} {ys : Array Value} (x : h.Ns a m) (y : h.IsTuple b ys) : a ≠ b := by
  rintro rfl
  obtain ⟨o, es, ep, ho, hd, _⟩ := x
  obtain ⟨o', ho', _, n, hd'⟩ := y
  rw [ho] at ho'; cases ho'; rw [hd] at hd'; cases hd'
theorem tuple_at {h h' : Heap} {a : Addr} {xs : Array Value} (x : h.IsTuple a xs) (k : ∀ o, h.get? a = some o → h'.get? a = some o) : h'.IsTuple a xs := let ⟨o, ho, r⟩ := x; ⟨o, k o ho, r⟩

/-- a list of tuples of two ints -/
abbrev SpansAre (h : Heap) : List (Nat × Nat) → List Value → Prop := Paired fun p v => ∃ a t u, v = .ref a ∧ h.IsTuple a #[.int (p.1 : Int) t, .int (p.2 : Int) u]
theorem paired_mono {α β : Type} {F G : α → β → Prop} (k : ∀ a b, F a b → G a b) : ∀ {xs : List α} {ys : List β}, Paired F xs ys → Paired G xs ys
  | _, _, .nil => .nil
  | _, _, .cons h t => .cons (k _ _ h) (paired_mono k t)
theorem SpansAre.mono {h h' : Heap} {S : List (Nat × Nat)} {vs : List Value} (x : SpansAre h S vs) (k : ∀ a ys o, h.IsTuple a ys → h.get? a = some o → h'.get? a = some o) : SpansAre h' S vs :=
  paired_mono (fun _ _ ⟨a, t, u, e, ht⟩ => ⟨a, t, u, e, tuple_at ht fun o ho => k a _ o ht ho⟩) x
theorem paired_len {α β : Type} {F : α → β → Prop} : ∀ {xs : List α} {ys : List β}, Paired F xs ys → xs.length = ys.length
  | _, _, .nil => rfl
  | _, _, .cons _ t => by simp [paired_len t]
theorem ints_snoc {vs : List Value} {ns : List Int} {i : Int} {t : Tok} (h : IntsAre vs ns) : IntsAre (vs ++ [.int i t]) (ns ++ [i]) := by
  induction h with
  | nil => exact .cons _ _ .nil
  | cons _ _ _ ih => exact .cons _ _ ih

structure SpF (h₀ : Heap) (x : Str) (tx : Tok) (L ls lh : Addr) (h : Heap) (m : Str → Option Value) (S : List (Nat × Nat)) (H : List Nat) : Prop where
  ns : h.Ns L m
  ext : Ext h₀ h
  t : m (Str.ofString "text") = some (.str x tx)
  s : m (Str.ofString "spans") = some (.ref ls)
  e : m (Str.ofString "held") = some (.ref lh)
  sp : ∃ vs, h.PlainList ls vs ∧ SpansAre h S vs.toList
  hl : ∃ vs, h.PlainList lh vs ∧ IntsAre vs.toList (H.map Int.ofNat)
variable {h₀ h h' : Heap} {x : Str} {tx : Tok} {L ls lh : Addr} {m : Str → Option Value} {S : List (Nat × Nat)} {H : List Nat}
theorem SpF.grow (f : SpF h₀ x tx L ls lh h m S H) (k : Ext h h') : SpF h₀ x tx L ls lh h' m S H where
  ns := f.ns.keeps k
  ext := f.ext.trans k
  t := f.t
  s := f.s
  e := f.e
  sp := let ⟨vs, p, q⟩ := f.sp; ⟨vs, p.at fun o e => k _ o e, q.mono fun a _ o _ e => k a o e⟩
  hl := let ⟨vs, p, q⟩ := f.hl; ⟨vs, p.at fun o e => k _ o e, q⟩
theorem SpF.set {y : Str} {v : Value} (f : SpF h₀ x tx L ls lh h m S H) (hn : h'.Ns L (fun z => if z = y then some v else m z)) (hs : Heap.SameBut L h h') (hL : h₀.get? L = none)
    (h1 : Str.ofString "text" ≠ y := by decide) (h2 : Str.ofString "spans" ≠ y := by decide) (h3 : Str.ofString "held" ≠ y := by decide) : SpF h₀ x tx L ls lh h' (fun z => if z = y then some v else m z) S H where
  ns := hn
  ext := f.ext.same hs.extBut hL
  t := (if_neg h1).trans f.t
  s := (if_neg h2).trans f.s
  e := (if_neg h3).trans f.e
  sp := let ⟨vs, p, q⟩ := f.sp; ⟨vs, p.extBut hs.extBut (Ne.symm (ns_plain_ne f.ns p)), q.mono fun a _ o ht e => hs.extBut a o (Ne.symm (ns_tuple_ne f.ns ht)) e⟩
  hl := let ⟨vs, p, q⟩ := f.hl; ⟨vs, p.extBut hs.extBut (Ne.symm (ns_plain_ne f.ns p)), q⟩
theorem SpF.held {vs : Array Value} {i : Nat} {t : Tok} (f : SpF h₀ x tx L ls lh h m S H) (hne : ls ≠ lh) (hlh : h₀.get? lh = none) (q : IntsAre vs.toList (H.map Int.ofNat)) (p : h.PlainList lh vs)
    (hp : h'.PlainList lh (vs.push (.int (i : Int) t))) (hs : Heap.SameBut lh h h') : SpF h₀ x tx L ls lh h' m S (H ++ [i]) where
  ns := f.ns.extBut hs.extBut (ns_plain_ne f.ns p)
  ext := f.ext.same hs.extBut hlh
  t := f.t
  s := f.s
  e := f.e
  sp := let ⟨vs', p', q'⟩ := f.sp; ⟨vs', p'.extBut hs.extBut hne, q'.mono fun a _ o ht e => hs.extBut a o (tuple_plain_ne ht p) e⟩
  hl := ⟨_, hp, by rw [Array.toList_push, List.map_append]; exact ints_snoc q⟩
theorem SpF.span {vs : Array Value} {p : Nat × Nat} {a : Addr} {t u : Tok} (f : SpF h₀ x tx L ls lh h m S H) (hne : ls ≠ lh) (hls : h₀.get? ls = none) (q : SpansAre h S vs.toList) (pl : h.PlainList ls vs)
    (ht : h.IsTuple a #[.int (p.1 : Int) t, .int (p.2 : Int) u]) (hp : h'.PlainList ls (vs.push (.ref a))) (hs : Heap.SameBut ls h h') : SpF h₀ x tx L ls lh h' m (S ++ [p]) H where
  ns := f.ns.extBut hs.extBut (ns_plain_ne f.ns pl)
  ext := f.ext.same hs.extBut hls
  t := f.t
  s := f.s
  e := f.e
  sp := ⟨_, hp, by
    rw [Array.toList_push]
    exact Paired.snoc (q.mono fun a _ o ht e => hs.extBut a o (tuple_plain_ne ht pl) e) ⟨a, t, u, rfl, tuple_at ht fun o e => hs.extBut a o (tuple_plain_ne ht pl) e⟩⟩
  hl := let ⟨vs', p', q'⟩ := f.hl; ⟨vs', p'.extBut hs.extBut (Ne.symm hne), q'⟩
end
section
variable {prog : Program} {w : World} {A : Around} {s : Shared} {env : Env}

def FindAt (t : List Nat) (p : Nat) (z : Int) : Prop := (z = -1 ∧ ∀ v, p ≤ v → v < t.length → t[v]? ≠ some 34) ∨
    ∃ k : Nat, z = k ∧ p ≤ k ∧ t[k]? = some 34 ∧ ∀ v, p ≤ v → v < k → t[v]? ≠ some 34
theorem getD_at {x : Str} {v c : Nat} (h : v < x.cps.size) : (x.cps.toList[v]? = some c) = (x.cps.getD v 0 = c) := by
  simp [Array.getD, h]
theorem from_nat (n p : Nat) : fromIndex n (p : Int) = p := by
  unfold fromIndex
  rw [if_neg (by omega), Int.max_eq_right (by omega), Int.toNat_natCast]
theorem find_from (x : Str) (p : Nat) : FindAt x.cps.toList p (Txt.find3 x ⟨#[34]⟩ p) := by
  have e0 : fromIndex x.length (p : Int) = p := from_nat _ _
  rcases StrLaws.find3_spec x 34 p with ⟨h1, h2⟩ | ⟨k, h1, h2, h3, h4, h5⟩
  · rw [e0] at h2
    refine .inl ⟨h1, fun v a b => ?_⟩
    rw [Array.length_toList] at b
    rw [ne_eq, getD_at b]; exact h2 v a b
  · rw [e0] at h2 h5
    refine .inr ⟨k, h1, h2, by rw [getD_at h3]; exact h4, fun v a b => ?_⟩
    have : v < x.cps.size := Nat.lt_trans b h3
    rw [ne_eq, getD_at this]; exact h5 v a b
theorem quote_str : Str.ofString "\"" = ⟨#[34]⟩ := by decide +kernel
theorem find3_call {E : Value → Shared → Prop} {x : Str} {t u v : Tok} {p : Nat} {z : Int} {Q : Value → Shared → Prop} (hz : z = p) (h : ∀ z t' tk, FindAt x.cps.toList p z → Q (.int z t') { s with toks := tk }) :
    wpAny (model prog w) A (call (.builtin "str.find") [.str x t, .str (Str.ofString "\"") u, .int z v]) Q E s := by
  subst hz
  refine SC.find3 ?_
  rw [quote_str]
  exact h _ _ _ (find_from x p)
theorem find_call {E : Value → Shared → Prop} {x : Str} {t u : Tok} {Q : Value → Shared → Prop} (h : ∀ z t' tk, FindAt x.cps.toList 0 z → Q (.int z t') { s with toks := tk }) :
    wpAny (model prog w) A (call (.builtin "str.find") [.str x t, .str (Str.ofString "\"") u]) Q E s := by
  refine SC.find ?_
  rw [quote_str]
  have e : Txt.find x ⟨#[34]⟩ = Txt.find3 x ⟨#[34]⟩ (0 : Nat) := by
    unfold Txt.find Txt.find3; rw [from_nat]; rfl
  rw [e]
  exact h _ _ _ (find_from x 0)

def OutI (t : List Nat) (S : List (Nat × Nat)) (H : List Nat) (z : Int) : Prop :=
  (z = -1 ∧ S = spansM t 0 .O ∧ H = heldM t 0 .O) ∨ ∃ k : Nat, z = k ∧ t[k]? = some 34 ∧ S ++ spansM (t.drop k) k .O = spansM t 0 .O ∧ H ++ heldM (t.drop k) k .O = heldM t 0 .O
def InI (t : List Nat) (S : List (Nat × Nat)) (H : List Nat) (st e : Nat) : Prop :=
  S ++ spansM (t.drop e) e (.I st) = spansM t 0 .O ∧ H ++ heldM (t.drop e) e (.I st) = heldM t 0 .O
theorem outI_of {t : List Nat} {S : List (Nat × Nat)} {H : List Nat} {p : Nat} {z : Int} (h1 : S ++ spansM (t.drop p) p .O = spansM t 0 .O) (h2 : H ++ heldM (t.drop p) p .O = heldM t 0 .O) (hf : FindAt t p z) : OutI t S H z := by
  rcases hf with ⟨e, hn⟩ | ⟨k, e, hp, hk, hn⟩
  · have := restO t p hn
    rw [this.1, List.append_nil] at h1
    rw [this.2, List.append_nil] at h2
    exact .inl ⟨e, h1, h2⟩
  · have := skipO t (k - p) p fun v a b => hn v a (by omega)
    rw [show p + (k - p) = k by omega] at this
    rw [this.1] at h1
    rw [this.2] at h2
    exact .inr ⟨k, e, hk, h1, h2⟩
theorem outI_lens {t : List Nat} {S : List (Nat × Nat)} {H : List Nat} {st e : Nat} (h : InI t S H st e) : S.length ≤ t.length + 1 ∧ H.length ≤ t.length := by
  have h1 := congrArg List.length h.1
  have h2 := congrArg List.length h.2
  rw [List.length_append] at h1 h2
  have := spansM_len t 0 .O
  have := heldM_len t 0 .O
  omega

theorem outI_in {t : List Nat} {S : List (Nat × Nat)} {H : List Nat} {z : Int} (h : OutI t S H z) (hz : 0 ≤ z) : ∃ k : Nat, z = k ∧ t[k]? = some 34 ∧ InI t S H k (k + 1) := by
  rcases h with ⟨e, _⟩ | ⟨k, e, hk, h1, h2⟩
  · omega
  · have := openO hk
    rw [this.1] at h1
    rw [this.2] at h2
    exact ⟨k, e, hk, h1, h2⟩
theorem len_ok {x : Str} (h : TextOk x) : ¬ (x.length : Int) ≥ 2 ^ 63 := by
  have := h.2.1
  have e : x.length = x.cps.size := rfl
  omega
theorem len_lt {x : Str} {e : Nat} (h : decide ((e : Int) < (x.length : Int)) = true) : e < x.cps.size := by
  have e' : x.length = x.cps.size := rfl
  have := of_decide_eq_true h
  omega

theorem len_ge {x : Str} {e : Nat} (h : decide ((e : Int) < (x.length : Int)) = false) : x.cps.size ≤ e := by
  have e' : x.length = x.cps.size := rfl
  have := of_decide_eq_false h
  omega
theorem text_small {x : Str} {e : Nat} (h : TextOk x) (hlt : e < x.cps.size) : (e : Int) < 2 ^ 62 := by
  have := h.2.1
  omega
theorem ne_quote {c : Nat} (h : ((⟨#[c]⟩ : Str) != Str.ofString "\"") = true) : c ≠ 34 := by
  rw [quote_str] at h; simpa using h
theorem eq_quote {c : Nat} (h : ((⟨#[c]⟩ : Str) != Str.ofString "\"") = false) : c = 34 := by
  rw [quote_str] at h; simpa using h
theorem span_fits {x : Str} {h : Heap} {S : List (Nat × Nat)} {vs : Array Value} (hx : TextOk x) (hp : SpansAre h S vs.toList) (hn : S.length ≤ x.cps.toList.length + 1) : vs.size ≤ sizeLine := by
  have h1 := paired_len hp
  have h2 := hx.2.1
  have h3 : vs.toList.length = vs.size := Array.length_toList
  have h4 : x.cps.toList.length = x.cps.size := Array.length_toList
  rw [sizeLine_eq]; omega
theorem held_fits {x : Str} {H : List Nat} {vs : Array Value} (hx : TextOk x) (hp : IntsAre vs.toList (H.map Int.ofNat)) (hn : H.length ≤ x.cps.toList.length) : vs.size ≤ sizeLine := by
  have h1 := hp.length
  have h2 := hx.2.1
  have h3 : vs.toList.length = vs.size := Array.length_toList
  have h4 : x.cps.toList.length = x.cps.size := Array.length_toList
  rw [List.length_map] at h1
  rw [sizeLine_eq]; omega
theorem shut_in {t : List Nat} {S : List (Nat × Nat)} {H : List Nat} {st e : Nat} (h : InI t S H st e) (hx : t.length ≤ e ∨ t[e]? = some 34) :
    (S ++ [(st, e)]) ++ spansM (t.drop (e + 1)) (e + 1) .O = spansM t 0 .O ∧ H ++ heldM (t.drop (e + 1)) (e + 1) .O = heldM t 0 .O := by
  have := shutI (st := st) hx
  obtain ⟨h1, h2⟩ := h
  rw [this.1] at h1
  rw [this.2] at h2
  exact ⟨by simpa using h1, h2⟩
def meas (x : Str) (z : Int) : Nat := if z < 0 then 0 else x.cps.size - z.toNat
theorem find_less {x : Str} {e st k : Nat} {z : Int} (h : FindAt x.cps.toList (e + 1) z) (hlt : st < x.cps.size) (hse : st < e) (hk : k = meas x st) : meas x z < k := by
  subst hk
  have e1 : meas x st = x.cps.size - st := by unfold meas; rw [if_neg (by omega), Int.toNat_natCast]
  rw [e1]
  rcases h with ⟨rfl, _⟩ | ⟨k, rfl, h1, h2, _⟩
  · have e2 : meas x (-1) = 0 := rfl
    rw [e2]; omega
  · have e2 : meas x k = x.cps.size - k := by unfold meas; rw [if_neg (by omega), Int.toNat_natCast]
    have := (List.getElem?_eq_some_iff.mp h2).1
    rw [Array.length_toList] at this
    rw [e2]; omega

theorem back_str : Str.ofString "\\" = ⟨#[92]⟩ := by decide +kernel
theorem ne_back {c : Nat} (h : ((⟨#[c]⟩ : Str) == Str.ofString "\\") = false) : c ≠ 92 := by
  rw [back_str] at h; simpa using h
theorem eq_back {c : Nat} (h : ((⟨#[c]⟩ : Str) == Str.ofString "\\") = true) : c = 92 := by
  rw [back_str] at h; simpa using h
theorem held_in {t : List Nat} {S : List (Nat × Nat)} {H : List Nat} {st e : Nat} (h : InI t S H st e) (hc : t[e]? = some 92) : InI t S (H ++ [e]) st (e + 2) := by
  have := stepH (st := st) hc
  obtain ⟨h1, h2⟩ := h
  rw [this.1] at h1
  rw [this.2] at h2
  exact ⟨h1, by simpa using h2⟩
theorem step_in {t : List Nat} {S : List (Nat × Nat)} {H : List Nat} {st e c : Nat} (h : InI t S H st e) (hc : t[e]? = some c) (a : c ≠ 34) (b : c ≠ 92) : InI t S H st (e + 1) := by
  have := stepI (st := st) hc a b
  obtain ⟨h1, h2⟩ := h
  rw [this.1] at h1
  rw [this.2] at h2
  exact ⟨h1, h2⟩

theorem law_spans_ev {x : Str} {tx : Tok} {n : Nat} (B : Base w s.heap) (R : Room A (n + 1)) (hx : TextOk x) :
    Ev (model prog w) A s (call (.ref 63) [.str x tx] []) (fun v s' => ∃ r ls lh vs hs, v = .ref r ∧ s'.heap.IsTuple r #[.ref ls, .ref lh] ∧ ls ≠ lh ∧ s.heap.get? ls = none ∧ s.heap.get? lh = none ∧
      s'.heap.PlainList ls vs ∧ SpansAre s'.heap (spansM x.cps.toList 0 .O) vs.toList ∧ s'.heap.PlainList lh hs ∧ IntsAre hs.toList ((heldM x.cps.toList 0 .O).map Int.ofNat)) := by
  refine call_own B R rfl rfl (by rfl) rfl (BindsTo.of_eq rfl) (by decide) (locs rfl) fun h₁ tk hn hx₁ R' => ?_
  refine wpAny_execs_cons ?_
  refine tuple_assign R'.hh ?_
  refine Calls.spliced_cons (List_ (Calls.spliced_nil (wpAny_newList ?_)))
  refine Calls.spliced_cons (List_ (Calls.spliced_nil (wpAny_newList (Calls.spliced_nil ?_))))
  refine ⟨rfl, by size_fits, fun h₂ hx₂ => ?_⟩
  have hx₂' : Ext h₁ h₂ := ((Ext.push _ _).trans (Ext.push _ _)).trans hx₂
  refine bind_local (hn.keeps hx₂') fun h₃ _ hn₃ hs₃ => ?_
  refine bind_local hn₃ fun h₄ _ hn₄ hs₄ => ?_
  refine wpAny_assignInOrder_none ?_
  have hLn : s.heap.get? s.heap.objs.size = none := none_of_le (Nat.le_refl _)
  have hL₁ : s.heap.objs.size < h₁.objs.size := hn.lt
  have F₄ : SpF s.heap x tx s.heap.objs.size h₁.objs.size (h₁.objs.size + 1) h₄ _ [] [] := {
    ns := hn₄
    ext := ((hx₁.trans hx₂').same hs₃.extBut hLn).same hs₄.extBut hLn
    t := rfl
    s := rfl
    e := congrArg (fun a => some (Value.ref a)) (Heap.size_push h₁ _)
    sp := ⟨#[], (Heap.PlainList.extBut (Heap.PlainList.extBut ⟨_, hx₂ _ _ (Ext.push _ _ _ _ (Heap.get?_push_size _ rfl))⟩ hs₃.extBut (Ne.symm (Nat.ne_of_lt hL₁))) hs₄.extBut (Ne.symm (Nat.ne_of_lt hL₁))), .nil⟩
    hl := ⟨#[], (Heap.PlainList.extBut (Heap.PlainList.extBut ⟨_, hx₂ _ _ (get_push2 _ _ _)⟩ hs₃.extBut (Ne.symm (Nat.ne_of_lt (Nat.lt_succ_of_lt hL₁)))) hs₄.extBut (Ne.symm (Nat.ne_of_lt (Nat.lt_succ_of_lt hL₁)))), .nil⟩ }
  clear hn₄ hn₃ hs₃ hs₄ hx₂ hx₂'
  have hls : s.heap.get? h₁.objs.size = none := none_of_le (Nat.le_of_lt hL₁)
  have hlh : s.heap.get? (h₁.objs.size + 1) = none := none_of_le (Nat.le_succ_of_le (Nat.le_of_lt hL₁))
  have hne : h₁.objs.size ≠ h₁.objs.size + 1 := by omega
  generalize h₁.objs.size + 1 = lh at F₄ hlh hne
  generalize h₁.objs.size = ls at F₄ hls hne
  refine wpAny_execs_cons ?_
  refine wpAny_Assign_Name (meth1 (T := "str") F.plainAttrs_str F.slot_str_find F.type_str_find ?_)
  refine wpAny_Name (wpAny_loadName_local rfl rfl F₄.ns F₄.t ⟨has_str _ _ _, ?_⟩)
  refine wpAny_Constant_str (find_call fun z tz _ hz => ?_)
  refine wpAny_storeName_local rfl F₄.ns fun h₅ hn₅ hs₅ => ?_
  have F₅ := F₄.set hn₅ hs₅ hLn
  have hz₀ : OutI x.cps.toList [] [] z := outI_of rfl rfl hz
  refine wpAny_execs_cons ?_
  refine while_ev (fun k h => ∃ m S H z tz, SpF s.heap x tx s.heap.objs.size ls lh h m S H ∧ m (Str.ofString "start") = some (.int z tz) ∧ OutI x.cps.toList S H z ∧ k = meas x z) ?_ (meas x z) ⟨_, _, _, z, tz, F₅, rfl, hz₀, rfl⟩
  rintro k h tk' ⟨m, S, H, z, tz, Fh, hst, hO, hk⟩
  refine wpAny_isTrue_Compare1 ?_
  refine wpAny_Name (wpAny_loadName_local rfl rfl Fh.ns hst ?_)
  refine wpAny_Constant_int (PyProof.Rows.ge_int (wpAny_truthy_bool ⟨fun hb => ?_, fun hb => ?_⟩))
  · have hz0 : 0 ≤ z := by simpa using hb
    have hO' : ∃ k : Nat, z = k ∧ x.cps.toList[k]? = some 34 ∧ InI x.cps.toList S H k (k + 1) := outI_in hO hz0
    obtain ⟨st, rfl, hq, hin⟩ := hO'
    have hlt : st < x.cps.size := by
      have := (List.getElem?_eq_some_iff.mp hq).1
      rwa [Array.length_toList] at this
    refine wpAny_execs_cons (wpAny_Assign_Name (wpAny_BinOp ?_))
    refine wpAny_Name (wpAny_loadName_local rfl rfl Fh.ns hst ?_)
    refine wpAny_Constant_int (PyProof.Rows.add_int ?_)
    refine wpAny_storeName_local rfl Fh.ns fun h₆ hn₆ hs₆ => ?_
    have F₆ := Fh.set hn₆ hs₆ hLn
    refine wpAny_execs_cons ?_
    refine wpAny_mono (Q := fun f s' => f = .next ∧ ∃ h tk m S H e tz te, s' = { s with heap := h, toks := tk } ∧ SpF s.heap x tx s.heap.objs.size ls lh h m S H ∧ m (Str.ofString "start") = some (.int (st : Int) tz) ∧ m (Str.ofString "end") = some (.int ((e : Nat) : Int) te) ∧ InI x.cps.toList S H st e ∧ st < e ∧ (x.cps.toList.length ≤ e ∨ x.cps.toList[e]? = some 34)) (while_ev (fun j h => ∃ m S H e tz te, SpF s.heap x tx s.heap.objs.size ls lh h m S H ∧ m (Str.ofString "start") = some (.int (st : Int) tz) ∧ m (Str.ofString "end") = some (.int ((e : Nat) : Int) te) ∧ InI x.cps.toList S H st e ∧ st < e ∧ j = x.cps.size + 2 - e) ?_ (x.cps.size + 2 - (st + 1))
      ⟨_, S, H, st + 1, tz, _, F₆, hst, rfl, hin, by omega, rfl⟩) ?_ fun _ _ e => e
    rotate_left
    · rintro _ _ ⟨rfl, h₈, tk₈, m₈, S₈, H₈, e, tz₈, te₈, rfl, F₈, hst₈, hen₈, hin₈, hse₈, hex⟩
      have hN₈ := outI_lens hin₈
      have q1 := F₈.sp
      obtain ⟨vs, p1, p2⟩ := q1
      refine wpAny_execs_cons (append_stmt (l := ls) (xs := vs) ?_)
      refine wpAny_Name (wpAny_loadName_local rfl rfl F₈.ns F₈.s ⟨rfl, p1, ?_⟩)
      refine Tuple_ (Calls.spliced_cons ?_)
      refine wpAny_Name (wpAny_loadName_local rfl rfl F₈.ns hst₈ (Calls.spliced_cons ?_))
      refine wpAny_Name (wpAny_loadName_local rfl rfl F₈.ns hen₈ (Calls.spliced_nil (wpAny_newTuple ?_)))
      refine ⟨p1.at fun o e => Ext.push _ _ _ _ e, span_fits hx p2 hN₈.1, fun h₉ hp₉ hs₉ => ?_⟩
      have F₉ := SpF.span (p := (st, e)) (F₈.grow (Ext.push _ _)) hne hls (p2.mono fun a _ o _ e => Ext.push _ _ _ _ e) (p1.at fun o e => Ext.push _ _ _ _ e) ⟨_, Heap.get?_push_size _ rfl, rfl, _, rfl⟩ hp₉ hs₉
      refine wpAny_execs_cons (wpAny_Assign_Name (meth2 (T := "str") F.plainAttrs_str F.slot_str_find F.type_str_find ?_))
      refine wpAny_Name (wpAny_loadName_local rfl rfl F₉.ns F₉.t ⟨has_str _ _ _, ?_⟩)
      refine wpAny_Constant_str (wpAny_BinOp ?_)
      refine wpAny_Name (wpAny_loadName_local rfl rfl F₉.ns hen₈ ?_)
      refine wpAny_Constant_int (PyProof.Rows.add_int (find3_call (p := e + 1) rfl fun z' tz' _ hz' => ?_))
      refine wpAny_storeName_local rfl F₉.ns fun h₁₀ hn₁₀ hs₁₀ => ?_
      have F₁₀ := F₉.set hn₁₀ hs₁₀ hLn
      have hO₁₀ := outI_of (shut_in hin₈ hex).1 (shut_in hin₈ hex).2 hz'
      exact wpAny_execs_nil ⟨rfl, h₁₀, _, rfl, meas x z', find_less hz' hlt hse₈ hk, _, _, _, z', tz', F₁₀, rfl, hO₁₀, rfl⟩
    rintro j h₇ tk₇ ⟨m₇, S₇, H₇, e, tz₇, te, F₇, hst₇, hen, hin₇, hse, hj⟩
    have hN₇ := outI_lens hin₇
    refine And2 (wpAny_isTrue_Compare1 ?_)
    refine wpAny_Name (wpAny_loadName_local rfl rfl F₇.ns hen ?_)
    refine wpAny_Call_NameR (wpAny_Name (ld_blt (B.ext F₇.ext) rfl rfl ?_))
    refine callWith_builtin1 (wpAny_Name (wpAny_loadName_local rfl rfl F₇.ns F₇.t ?_))
    refine PyProof.Rows.len_str (len_ok hx) (PyProof.Rows.lt_int (wpAny_truthy_bool ⟨fun hb₇ => ?_, fun hb₇ => ?_⟩))
    · have hlt₇ : e < x.cps.size := len_lt hb₇
      have hcx : ∃ c, x.cps[e]? = some c := ⟨_, Array.getElem?_eq_getElem hlt₇⟩
      obtain ⟨c, hc⟩ := hcx
      have hc' : x.cps.toList[e]? = some c := by rw [Array.getElem?_toList]; exact hc
      refine wpAny_isTrue_Compare1 (Subscript_ ?_)
      refine wpAny_Name (wpAny_loadName_local rfl rfl F₇.ns F₇.t ?_)
      refine wpAny_Name (wpAny_loadName_local rfl rfl F₇.ns hen ?_)
      refine str_item (c := c) (by omega) (text_small hx hlt₇) hc fun t' tk' => ?_
      refine wpAny_Constant_str (PyProof.Rows.ne_str (wpAny_truthy_bool ⟨fun hb₈ => ?_, fun hb₈ => ?_⟩))
      · have hc34 : c ≠ 34 := ne_quote hb₈
        refine wpAny_execs_cons ?_
        refine If2 ?_
        refine wpAny_isTrue_Compare1 ?_
        refine Subscript_ ?_
        refine wpAny_Name (wpAny_loadName_local rfl rfl F₇.ns F₇.t ?_)
        refine wpAny_Name (wpAny_loadName_local rfl rfl F₇.ns hen ?_)
        refine str_item (c := c) (by omega) (text_small hx hlt₇) hc fun t' tk' => ?_
        refine wpAny_Constant_str (PyProof.Rows.eq_str (wpAny_truthy_bool ⟨fun hb₉ => ?_, fun hb₉ => ?_⟩))
        · have hc92 : c = 92 := eq_back hb₉
          subst hc92
          have q2 := F₇.hl
          obtain ⟨vs, p1, p2⟩ := q2
          refine wpAny_execs_cons (append_stmt (l := lh) (xs := vs) ?_)
          refine wpAny_Name (wpAny_loadName_local rfl rfl F₇.ns F₇.e ⟨rfl, p1, ?_⟩)
          refine wpAny_Name (wpAny_loadName_local rfl rfl F₇.ns hen ⟨p1, held_fits hx p2 hN₇.2, fun h₉ hp₉ hs₉ => ?_⟩)
          have F₉ := F₇.held hne hlh p2 p1 hp₉ hs₉
          refine wpAny_execs_cons (wpAny_AugAssign_Name (wpAny_loadName_local rfl rfl F₉.ns hen ?_))
          refine wpAny_Constant_int (PyProof.Rows.iadd_int ?_)
          refine wpAny_storeName_local rfl F₉.ns fun h₁₀ hn₁₀ hs₁₀ => ?_
          have F₁₀ := F₉.set hn₁₀ hs₁₀ hLn
          refine wpAny_execs_nil ?_
          refine wpAny_execs_cons (wpAny_AugAssign_Name (wpAny_loadName_local rfl rfl F₁₀.ns rfl ?_))
          refine wpAny_Constant_int (PyProof.Rows.iadd_int ?_)
          refine wpAny_storeName_local rfl F₁₀.ns fun h₁₁ hn₁₁ hs₁₁ => ?_
          have F₁₁ := F₁₀.set hn₁₁ hs₁₁ hLn
          exact wpAny_execs_nil ⟨rfl, h₁₁, _, rfl, x.cps.size + 2 - (e + 2), by omega, _, _, _, e + 2, tz₇, _, F₁₁, hst₇, rfl, held_in hin₇ hc', by omega, rfl⟩
        · have hc92 : c ≠ 92 := ne_back hb₉
          refine wpAny_execs_nil ?_
          refine wpAny_execs_cons (wpAny_AugAssign_Name (wpAny_loadName_local rfl rfl F₇.ns hen ?_))
          refine wpAny_Constant_int (PyProof.Rows.iadd_int ?_)
          refine wpAny_storeName_local rfl F₇.ns fun h₁₁ hn₁₁ hs₁₁ => ?_
          have F₁₁ := F₇.set hn₁₁ hs₁₁ hLn
          exact wpAny_execs_nil ⟨rfl, h₁₁, _, rfl, x.cps.size + 2 - (e + 1), by omega, _, _, _, e + 1, tz₇, _, F₁₁, hst₇, rfl, step_in hin₇ hc' hc34 hc92, by omega, rfl⟩
      · have hc34 : c = 34 := eq_quote hb₈
        subst hc34
        exact ⟨rfl, h₇, _, m₇, S₇, H₇, e, tz₇, te, rfl, F₇, hst₇, hen, hin₇, hse, .inr hc'⟩
    · have hge₇ : x.cps.toList.length ≤ e := by rw [Array.length_toList]; exact len_ge hb₇
      exact ⟨fun q => (Bool.false_ne_true q).elim, fun _ => ⟨rfl, h₇, _, m₇, S₇, H₇, e, tz₇, te, rfl, F₇, hst₇, hen, hin₇, hse, .inl hge₇⟩⟩
  · have hz0 : z < 0 := by simpa using hb
    have hO' : S = spansM x.cps.toList 0 .O ∧ H = heldM x.cps.toList 0 .O := by
      rcases hO with ⟨_, h⟩ | ⟨k, rfl, _⟩
      · exact h
      · omega
    refine wpAny_execs_cons ?_
    refine wpAny_Return_some (Tuple_ (Calls.spliced_cons ?_))
    refine wpAny_Name (wpAny_loadName_local rfl rfl Fh.ns Fh.s (Calls.spliced_cons ?_))
    refine wpAny_Name (wpAny_loadName_local rfl rfl Fh.ns Fh.e (Calls.spliced_nil (wpAny_newTuple ?_)))
    have q1 := Fh.sp
    have q2 := Fh.hl
    obtain ⟨vs, p1, p2⟩ := q1
    obtain ⟨hs, p3, p4⟩ := q2
    rw [hO'.1] at p2
    rw [hO'.2] at p4
    exact ⟨Keeps.mk _ (Fh.ext.trans (Ext.push _ _)), _, ls, lh, vs, hs, rfl, ⟨_, Heap.get?_push_size _ rfl, rfl, _, rfl⟩, hne, hls, hlh, p1.at fun o e => Ext.push _ _ _ _ e, p2.mono fun a _ o _ e => Ext.push _ _ _ _ e, p3.at fun o e => Ext.push _ _ _ _ e, p4⟩
end
end Mine
end

section
open PySem PySem.W PyProof.Rows PySem.Builtin PySem.Builtin._codecs
set_option maxRecDepth 100000
set_option maxHeartbeats 400000
namespace Mine
theorem two_turns {σ : Type} (f : Nat → σ → Sem (ForInStep σ)) (s0 s1 : σ) (h0 : ∀ i, f i s0 = pure (.yield s1)) (h1 : ∀ i, f i s1 = pure (.done s1)) : ∀ (l : List Nat), l ≠ [] → forIn l s0 f = pure s1
  | [], h => absurd rfl h
  | [a], _ => by rw [List.forIn_cons, h0]; rfl
  | a :: b :: r, _ => by rw [List.forIn_cons, h0]; show forIn (b :: r) s1 f = _; rw [List.forIn_cons, h1]; rfl
theorem utf8_ascii {c : Nat} (h : c < 128) : Str.utf8Of c = [c.toUInt8] := by
  unfold Str.utf8Of; rw [if_pos (by omega)]
theorem surr_ascii {c : Nat} (h : c < 128) : Str.isSurrogate c = false := by
  unfold Str.isSurrogate; simp; omega
theorem fold_ascii : ∀ (l : List Nat) (acc : Array UInt8), (∀ c ∈ l, c < 128) → l.foldl (fun acc y => acc ++ (Str.utf8Of y).toArray) acc = acc ++ (l.map (·.toUInt8)).toArray
  | [], acc, _ => by simp
  | c :: r, acc, h => by
    rw [List.foldl_cons, fold_ascii r _ fun d hd => h d (.tail _ hd), utf8_ascii (h c (.head _))]
    simp
theorem find_none {l : Array Nat} (h : ∀ c ∈ l.toList, c < 128) : l.findIdx? Str.isSurrogate = none := by
  rw [Array.findIdx?_eq_none_iff]
  intro c hc
  exact surr_ascii (h c (by simpa using hc))
theorem enc_ascii (id : String) (self : Value) (x : Str) (h : ∀ c ∈ x.cps.toList, c < 128) (hs : x.cps.size ≤ sizeLine) : encodeNarrow id utf8Codec none self x = pure (x.cps.map (·.toUInt8)) := by
  have hl : ([:x.length] : Std.Legacy.Range).size = x.cps.size := by simp [Std.Legacy.Range.size]; rfl
  unfold encodeNarrow
  simp only [Std.Legacy.Range.forIn_eq_forIn_range']
  rw [hl]
  by_cases h0 : x.cps.size = 0
  · have : x.cps = #[] := by simpa using h0
    rw [h0]
    show (forIn [] _ _ >>= _) = _
    rw [List.forIn_nil, this, Array.map_empty]; rfl
  · refine (congrArg (· >>= _) (two_turns _ _ (x.cps.size, x.cps.map (·.toUInt8), {}) ?_ ?_ _ ?_)).trans rfl
    · intro i
      have hlt : 0 < x.cps.size := by omega
      have e : x.cps[0]? = some x.cps[0] := by simp [hlt]
      dsimp only
      rw [if_neg (by simp)]
      rw [e]
      dsimp only
      have hb : utf8Codec.bad x.cps[0] = false := surr_ascii (h _ (by simp))
      rw [hb]
      have e2 : x.cps.extract 0 x.cps.size = x.cps := by simp
      rw [e2, show utf8Codec.bad = Str.isSurrogate from rfl, find_none h]
      simp only [Option.getD_none, e2]
      have e3 : Array.foldl (fun acc y => acc ++ (utf8Codec.bytesOf y).toArray) #[] x.cps = x.cps.map (·.toUInt8) := by
        rw [← Array.foldl_toList]
        refine (fold_ascii _ _ h).trans ?_
        apply Array.ext'; simp
      rw [e3]
      simp
    · intro i
      dsimp only
      rw [if_neg (by rw [Array.size_map]; omega), show x.cps[x.cps.size]? = none by simp]
    · rw [ne_eq, List.range'_eq_nil_iff]; exact h0

section
variable {prog : Program} {w : World} {A : Around} {s : Shared} {E : Value → Shared → Prop}
theorem encode_call {x : Str} {t : Tok} {Q : Value → Shared → Prop} (h : ∀ c ∈ x.cps.toList, c < 128) (hs : x.cps.size ≤ sizeLine) (hQ : ∀ t' tk, Q (.bytes (x.cps.map (·.toUInt8)) t') { s with toks := tk }) :
    wpAny (model prog w) A (call (.builtin "str.encode") [.str x t]) Q E s := by
  refine wpAny_call_entry F.slot_str_encode (typeIs_str _ _ _) F.entry_str_encode ?_ (F.args_str_encode_1 _)
  rw [encode_tree]
  refine wpAny_bind ?_
  rw [encodeRoad_utf8, enc_ascii _ _ _ h hs]
  refine wpAny_bind (wpAny_pure ?_)
  refine wpAny_mkBytes (wpAny_pure ⟨_, rfl, hQ _ _⟩) ?_
  rw [Array.size_map]; exact hs

/-! bytes.count of one byte -/
theorem slot_bytes_count : Slot "bytes" "count" "bytes.count" :=
  .of (owner := "bytes") (n := "count") (by rw [typeLookup_type, builtinLookup_eq_fast]; kernel_rfl) (by decide +kernel) (by decide +kernel) (by decide +kernel) (.inr (by kernel_rfl)) F.sub_bytes_bytes
theorem type_bytes_count : typeOf (.builtin "bytes.count") = pure (.type "method_descriptor") := by show builtinType _ = _; rw [builtinType_eq_fast]; kernel_rfl
theorem entry_bytes_count : entryFor table "bytes.count" = some Builtin.«bytes.count» := entryFor_of_tree (by kernel_rfl)
theorem plainAttrs_bytes : PlainAttrs "bytes" :=
  ⟨⟨"bytes.__getattribute__", by rw [typeLookup_type, builtinLookup_eq_fast]; kernel_rfl, by decide +kernel⟩, by rw [typeLookup_type, builtinLookup_eq_fast]; kernel_rfl⟩
theorem args_bytes_count (a b : Value) : argsOk "bytes.count" ⟨[a, b], []⟩ := by unfold argsOk; kernel_rfl

theorem ext_one (b : Array UInt8) (c : UInt8) (i : Nat) (h : i < b.size) : (b.extract i (i + 1) == #[c]) = (b[i] == c) := by
  have : b.extract i (i + 1) = #[b[i]] := by
    apply Array.ext
    · simp; omega
    · intro j h1 h2
      simp at h2
      simp [h2]
  rw [this]
  simp
theorem occ_fold (b : Array UInt8) (c : UInt8) : ∀ (n k : Nat) (acc : List Nat), k + n = b.size → k ≤ b.size → ∀ free, free ≤ k →
    ((List.range' k n).foldl (fun (acc : List Nat × Nat) i => if i ≥ acc.2 && b.extract i (i + (#[c] : Array UInt8).size) == #[c] then (i :: acc.1, i + (#[c] : Array UInt8).size) else acc) (acc, free)).1.length = acc.length + (b.toList.drop k).count c
  | 0, k, acc, h, _, free, _ => by
    have : b.toList.drop k = [] := List.drop_eq_nil_of_le (by rw [Array.length_toList]; omega)
    simp [this]
  | n + 1, k, acc, h, hk, free, hf => by
    have hlt : k < b.size := by omega
    rw [List.range'_succ, List.foldl_cons]
    have e1 : b.toList.drop k = b[k] :: b.toList.drop (k + 1) := by
      rw [List.drop_eq_getElem_cons (by rw [Array.length_toList]; exact hlt)]
      simp
    have e2 : (decide (k ≥ free) && b.extract k (k + 1) == #[c]) = (b[k] == c) := by rw [decide_eq_true hf, Bool.true_and, ext_one b c k hlt]
    show ((List.range' (k + 1) n).foldl _ (if (decide (k ≥ free) && b.extract k (k + 1) == #[c]) = true then (k :: acc, k + 1) else (acc, free))).1.length = _
    rw [e2, e1, List.count_cons]
    cases hc : b[k] == c
    · rw [if_neg (by simp), occ_fold b c n (k + 1) acc (by omega) (by omega) free (by omega)]
      simp
    · rw [if_pos rfl, occ_fold b c n (k + 1) (k :: acc) (by omega) (by omega) (k + 1) (Nat.le_refl _)]
      simp; omega
theorem occ_one (b : Array UInt8) (c : UInt8) : (Builtin.Bytes.occurrences b #[c] 0 b.size).length = b.toList.count c := by
  unfold Builtin.Bytes.occurrences
  have e : (List.range (b.size + 1 - (0 + (#[c] : Array UInt8).size))).map (· + 0) = List.range' 0 b.size := by
    simp [List.range_eq_range']
  simp only [e]
  rw [List.length_reverse, occ_fold b c b.size 0 [] (by omega) (by omega) 0 (Nat.le_refl _)]
  simp
theorem count_call {b : Array UInt8} {c : UInt8} {t u : Tok} {Q : Value → Shared → Prop} (hQ : ∀ t' tk, Q (.int (b.toList.count c : Nat) t') { s with toks := tk }) :
    wpAny (model prog w) A (call (.builtin "bytes.count") [.bytes b t, .bytes #[c] u]) Q E s := by
  refine wpAny_call_entry slot_bytes_count ?_ entry_bytes_count ?_ (args_bytes_count _ _)
  · exact typeIs_bytes _ _ _
  show wpAny _ _ (Builtin.Bytes.searchArgs .bytes "count" ⟨[.bytes b t, .bytes #[c] u], []⟩ >>= _) _ _ _
  refine wpAny_bind ?_
  show wpAny _ _ (Builtin.Bytes.buffer? "bytes.count" (.bytes #[c] u) >>= _) _ _ _
  refine wpAny_bind (wpAny_of_eq KBy.buffer_eq ?_)
  have hw : Builtin.Bytes.window b.size none none = (0, (b.size : Int)) := by
    unfold Builtin.Bytes.window
    simp only [Option.getD_none]
    rw [if_neg (by omega), if_neg (by omega), Int.min_self]
  show wpAny _ _ (match Builtin.Bytes.window b.size none none with | (lo, hi) => pure (b, #[c], if hi - lo < ((#[c] : Array UInt8).size : Nat) then none else some (lo.toNat, hi.toNat))) _ _ _
  rw [hw]
  refine wpAny_pure ?_
  by_cases h0 : b.size = 0
  · have e : ((b.size : Int) - 0 < ((#[c] : Array UInt8).size : Nat)) := by show (b.size : Int) - 0 < 1; omega
    rw [if_pos e]
    have e2 : b.toList.count c = 0 := by
      have : b = #[] := by simpa using h0
      rw [this]; rfl
    rw [e2] at hQ
    exact wpAny_bind (wpAny_mkInt (wpAny_pure ⟨_, rfl, hQ _ _⟩))
  · have e : ¬ ((b.size : Int) - 0 < ((#[c] : Array UInt8).size : Nat)) := by show ¬ ((b.size : Int) - 0 < 1); omega
    rw [if_neg e]
    show wpAny _ _ (retInt (Builtin.Bytes.occurrences b #[c] (0 : Int).toNat (b.size : Int).toNat).length) _ _ _
    rw [Int.toNat_natCast, show (0 : Int).toNat = 0 from rfl, occ_one]
    exact wpAny_bind (wpAny_mkInt (wpAny_pure ⟨_, rfl, hQ _ _⟩))
end
end Mine
end

section
open PySem PySem.Sre
set_option maxRecDepth 100000
set_option maxHeartbeats 400000
namespace Mine
def CODE : Array Nat := #[14, 8, 1, 2, 4294967295, 1, 1, 34, 0, 16, 34, 28, 22, 0, 4294967295, 7, 11, 13, 7, 21, 16, 34, 16, 92, 0, 15, 8, 6, 16, 92, 2, 15, 2, 0, 1, 16, 34, 1]

/-- the machine over that code, its marks never used -/
def mq (T : Array Nat) (start : Nat) (sn : Seen) (fr : List Sre.Frame) (wt : Nat) (o : Bool) (pc pos hd : Nat) (lp : Array Loop) (inn : Option Nat) (an : Option Bool) : M :=
  { code := CODE, text := T, lim := T.size, start := start, lastStart := T.size, pc := pc, pos := pos, handed := hd, outermost := o, marks := #[], loops := lp, inner := inn, frames := fr, weight := wt, answer := an, seen := sn }

section
variable {T : Array Nat} {start : Nat} {sn : Seen} {fr : List Sre.Frame} {wt : Nat} {o : Bool} {pos hd : Nat} {lp : Array Loop} {inn : Option Nat}

theorem q9 : (mq T start sn fr wt o 9 pos hd lp inn none).step = if pos ≥ T.size then mq T start (sn.add 16) fr wt o 9 pos hd lp inn (some false) else
    match (T.getD pos 0 == 34) with | true => mq T start (sn.add 16) fr wt o 11 (pos + 1) hd lp inn none | false => mq T start (sn.add 16) fr wt o 9 pos hd lp inn (some false) := by
  show (if pos ≥ T.size then _ else _) = _
  by_cases h : pos ≥ T.size
  · rw [if_pos h, if_pos h]; rfl
  · rw [if_neg h, if_neg h]
    show (match accepts CODE 9 (T.getD pos 0) (sn.add 16) with | .error why => _ | .ok (false, seen) => _ | .ok (true, seen) => _) = _
    have e : accepts CODE 9 (T.getD pos 0) (sn.add 16) = .ok (T.getD pos 0 == 34, sn.add 16) := rfl
    rw [e]
    cases hc : T.getD pos 0 == 34 <;> rfl
theorem q35 : (mq T start sn fr wt o 35 pos hd lp inn none).step = if pos ≥ T.size then mq T start (sn.add 16) fr wt o 35 pos hd lp inn (some false) else
    match (T.getD pos 0 == 34) with | true => mq T start (sn.add 16) fr wt o 37 (pos + 1) hd lp inn none | false => mq T start (sn.add 16) fr wt o 35 pos hd lp inn (some false) := by
  show (if pos ≥ T.size then _ else _) = _
  by_cases h : pos ≥ T.size
  · rw [if_pos h, if_pos h]; rfl
  · rw [if_neg h, if_neg h]
    show (match accepts CODE 35 (T.getD pos 0) (sn.add 16) with | .error why => _ | .ok (false, seen) => _ | .ok (true, seen) => _) = _
    have e : accepts CODE 35 (T.getD pos 0) (sn.add 16) = .ok (T.getD pos 0 == 34, sn.add 16) := rfl
    rw [e]
    cases hc : T.getD pos 0 == 34 <;> rfl
theorem q28 : (mq T start sn fr wt o 28 pos hd lp inn none).step = if pos ≥ T.size then mq T start (sn.add 16) fr wt o 28 pos hd lp inn (some false) else
    match (T.getD pos 0 == 92) with | true => mq T start (sn.add 16) fr wt o 30 (pos + 1) hd lp inn none | false => mq T start (sn.add 16) fr wt o 28 pos hd lp inn (some false) := by
  show (if pos ≥ T.size then _ else _) = _
  by_cases h : pos ≥ T.size
  · rw [if_pos h, if_pos h]; rfl
  · rw [if_neg h, if_neg h]
    show (match accepts CODE 28 (T.getD pos 0) (sn.add 16) with | .error why => _ | .ok (false, seen) => _ | .ok (true, seen) => _) = _
    have e : accepts CODE 28 (T.getD pos 0) (sn.add 16) = .ok (T.getD pos 0 == 92, sn.add 16) := rfl
    rw [e]
    cases hc : T.getD pos 0 == 92 <;> rfl
theorem q30 : (mq T start sn fr wt o 30 pos hd lp inn none).step = if pos ≥ T.size then mq T start (sn.add 2) fr wt o 30 pos hd lp inn (some false) else
    match (T.getD pos 0 != 10) with | true => mq T start (sn.add 2) fr wt o 31 (pos + 1) hd lp inn none | false => mq T start (sn.add 2) fr wt o 30 pos hd lp inn (some false) := by
  show (if pos ≥ T.size then _ else _) = _
  by_cases h : pos ≥ T.size
  · rw [if_pos h, if_pos h]; rfl
  · rw [if_neg h, if_neg h]
    show (match accepts CODE 30 (T.getD pos 0) (sn.add 2) with | .error why => _ | .ok (false, seen) => _ | .ok (true, seen) => _) = _
    have e : accepts CODE 30 (T.getD pos 0) (sn.add 2) = .ok (T.getD pos 0 != 10, sn.add 2) := rfl
    rw [e]
    cases hc : T.getD pos 0 != 10 <;> rfl
theorem acc17 (c : Nat) (sn : Seen) : ∃ sn', accepts CODE 17 c sn = .ok (!(c == 34) && !(c == 92), sn') := by
  show ∃ sn', (if c == 34 then _ else (if c == 92 then _ else _)) = Except.ok (!(c == 34) && !(c == 92), sn')
  cases h1 : c == 34
  · cases h2 : c == 92
    · exact ⟨_, rfl⟩
    · exact ⟨_, rfl⟩
  · exact ⟨_, rfl⟩
theorem q17 : ∃ sn', (mq T start sn fr wt o 17 pos hd lp inn none).step = if pos ≥ T.size then mq T start sn' fr wt o 17 pos hd lp inn (some false) else
    match (!(T.getD pos 0 == 34) && !(T.getD pos 0 == 92)) with | true => mq T start sn' fr wt o 25 (pos + 1) hd lp inn none | false => mq T start sn' fr wt o 17 pos hd lp inn (some false) := by
  obtain ⟨sn', e⟩ := acc17 (T.getD pos 0) (sn.add 13)
  by_cases h : pos ≥ T.size
  · refine ⟨sn.add 13, ?_⟩
    show (if pos ≥ T.size then _ else _) = _
    rw [if_pos h, if_pos h]; rfl
  · refine ⟨sn', ?_⟩
    show (if pos ≥ T.size then _ else _) = _
    rw [if_neg h, if_neg h]
    show (match accepts CODE 17 (T.getD pos 0) (sn.add 13) with | .error why => _ | .ok (false, seen) => _ | .ok (true, seen) => _) = _
    rw [e]
    cases hc : (!(T.getD pos 0 == 34) && !(T.getD pos 0 == 92)) <;> rfl
theorem q25 : (mq T start sn fr wt o 25 pos hd lp inn none).step = mq T start (sn.add 15) fr wt o 34 pos hd lp inn none := rfl
theorem q31 : (mq T start sn fr wt o 31 pos hd lp inn none).step = mq T start (sn.add 15) fr wt o 34 pos hd lp inn none := rfl
theorem q34 : (mq T start sn fr wt false 34 pos hd lp inn none).step = mq T start (sn.add 1) fr wt false 34 pos pos lp inn (some true) := rfl
theorem q37 : (mq T start sn fr wt o 37 pos hd lp inn none).step = mq T start (sn.add 1) fr wt o 37 pos pos lp inn (some true) := by cases o <;> rfl

/-- the loop's own record -/
def LP : Array Loop := #[{ pc := 0, outer := none }]
def KP : Sre.Kept := { lastmark := -1, lastindex := -1, whole := true, marks := #[] }
def F1 (o : Bool) (p : Nat) (cnt : Nat) : Sre.Frame := { wait := .possMore, pc := 11, pos := p, outermost := o, loop := 0, count := (cnt : Int), kept := KP }
def F2 (alt p : Nat) : Sre.Frame := { wait := .nextBranch, pc := alt, pos := p, outermost := false, kept := KP }
def F0 (o : Bool) (s : Nat) : Sre.Frame := { wait := .nextStart, pc := 9, pos := s, outermost := o }

theorem q11 : (mq T start sn fr 1 o 11 pos hd #[] none none).step = mq T start (sn.add 28) (F1 o pos 0 :: fr) 2 false 15 pos pos LP (some 0) none := by
  rfl
theorem q15 {sn : Seen} : (mq T start sn fr 2 false 15 pos hd LP (some 0) none).step = mq T start (sn.add 7) (F2 16 pos :: fr) 3 false 17 pos pos LP (some 0) none := rfl
theorem r2t {alt : Nat} {p pc : Nat} {o : Bool} : (mq T start sn (F2 alt p :: fr) 3 o pc pos hd LP (some 0) (some true)).step = mq T start sn fr 2 false alt p hd LP (some 0) (some true) := rfl
theorem r2f16 {p pc : Nat} {o : Bool} : (mq T start sn (F2 16 p :: fr) 3 o pc pos hd LP (some 0) (some false)).step = mq T start sn (F2 27 p :: fr) 3 false 28 p p LP (some 0) none := rfl
theorem r2f27 {p pc : Nat} {o : Bool} : (mq T start sn (F2 27 p :: fr) 3 o pc pos hd LP (some 0) (some false)).step = mq T start sn fr 2 false 27 p hd LP (some 0) (some false) := rfl

theorem poss {cnt : Int} {began : Option Nat} (h0 : ¬ cnt < ((0 : Nat) : Int)) (x : Bool) (hb : (began != some hd) = x) :
    (mq T start sn fr 1 o 11 pos hd LP (some 0) none).possessive 0 cnt began =
      if x = true then mq T start sn ({ wait := .possMore, pc := 11, pos := hd, outermost := o, loop := 0, count := cnt, kept := KP } :: fr) 2 false 15 hd hd LP (some 0) none else mq T start sn fr 1 o 35 hd hd #[] none none := by
  have e : ((decide (cnt < ((maxRepeat : Nat) : Int)) || (maxRepeat == maxRepeat)) && (began != some hd)) = x := by rw [beq_self_eq_true, Bool.or_true, Bool.true_and, hb]
  have hw2 : (mq T start sn fr 1 o 11 pos hd LP (some 0) none).word 2 = 0 := rfl
  have hw3 : (mq T start sn fr 1 o 11 pos hd LP (some 0) none).word 3 = maxRepeat := rfl
  have hh : (mq T start sn fr 1 o 11 pos hd LP (some 0) none).handed = hd := rfl
  unfold M.possessive
  rw [hw2, hw3]
  dsimp only
  rw [if_neg h0, hh, e]
  cases x <;> rfl
theorem res_t (m : M) (f : Sre.Frame) (h : f.wait = .possMore) : m.resume f true = m.possessive f.loop (f.count + 1) (some f.pos) := by unfold M.resume; rw [h]; rfl
theorem res_f (m : M) (f : Sre.Frame) (h : f.wait = .possMore) : m.resume f false = { m.putBack f.kept with handed := f.pos }.possessive f.loop f.count (some f.pos) := by unfold M.resume; rw [h]; rfl
theorem step_frame (m : M) (f : Sre.Frame) (rest : List Sre.Frame) (yes : Bool) (h1 : m.outcome = none) (h2 : m.answer = some yes) (h3 : m.frames = f :: rest) :
    m.step = M.resume { m with answer := none, frames := rest, weight := m.weight - (1 + f.kept.marks.size), pc := f.pc, pos := f.pos, outermost := f.outermost } f yes := by
  unfold M.step; rw [h1, h2, h3]; rfl
theorem mq_back {p pc cnt : Nat} {o' b : Bool} : (mq T start sn (F1 o p cnt :: fr) 2 o' pc pos hd LP (some 0) (some b)).step = M.resume (mq T start sn fr 1 o 11 p hd LP (some 0) none) (F1 o p cnt) b := by
  rw [step_frame _ (F1 o p cnt) fr b rfl rfl rfl]
  exact congrArg (fun m : M => M.resume m (F1 o p cnt) b) rfl
theorem r1t {p pc cnt : Nat} {o' : Bool} (h : hd ≠ p) : (mq T start sn (F1 o p cnt :: fr) 2 o' pc pos hd LP (some 0) (some true)).step = mq T start sn (F1 o hd (cnt + 1) :: fr) 2 false 15 hd hd LP (some 0) none := by
  rw [mq_back, res_t _ _ rfl]
  exact (poss (cnt := (cnt : Int) + 1) (began := some p) (by omega) true (by simpa using Ne.symm h)).trans (if_pos rfl)
theorem r1f {p pc cnt : Nat} {o' : Bool} : (mq T start sn (F1 o p cnt :: fr) 2 o' pc pos hd LP (some 0) (some false)).step = mq T start sn fr 1 o 35 p p #[] none none := by
  rw [mq_back, res_f _ _ rfl]
  have e2 : ({ (mq T start sn fr 1 o 11 p hd LP (some 0) none).putBack KP with handed := p } : M) = mq T start sn fr 1 o 11 p p LP (some 0) none := rfl
  exact (congrArg (fun m : M => m.possessive 0 (cnt : Int) (some p)) e2).trans ((poss (cnt := (cnt : Int)) (by omega) false (by simp)).trans (if_neg Bool.false_ne_true))
theorem r0t {s pc : Nat} {o' : Bool} : (mq T start sn [F0 o s] 1 o' pc pos hd lp inn (some true)).step = mq T start sn [] 0 o 9 s hd lp inn (some true) := rfl
theorem r0f {s pc : Nat} {o' : Bool} : (mq T start sn [F0 o s] 1 o' pc pos hd lp inn (some false)).step = if s < T.size then mq T (s + 1) sn [F0 false (s + 1)] 1 false 9 (s + 1) (s + 1) lp inn none else mq T start sn [] 0 o 9 s hd lp inn (some false) := by
  show (if s < T.size then _ else _) = _
  by_cases h : s < T.size
  · rw [if_pos h, if_pos h]; rfl
  · rw [if_neg h, if_neg h]; rfl

/-- it goes on from m to m' in at most b steps -/
def Go (b : Nat) (m m' : M) : Prop := ∃ k, k ≤ b ∧ ∀ j, M.runFor (k + j) m = M.runFor j m'
theorem Go.trans {x y : Nat} {a b c : M} (g : Go x a b) (g' : Go y b c) : Go (x + y) a c := by
  obtain ⟨k, h1, hk⟩ := g
  obtain ⟨l, h2, hl⟩ := g'
  exact ⟨k + l, by omega, fun j => by rw [Nat.add_assoc, hk, hl]⟩
theorem Go.le {x y : Nat} {a b : M} (g : Go x a b) (h : x ≤ y) : Go y a b := let ⟨k, h1, hk⟩ := g; ⟨k, by omega, hk⟩
theorem Go.step {m m' : M} (h : m.outcome = none) (e : m.step = m') : Go 1 m m' := ⟨1, Nat.le_refl _, fun j => by
  rw [Nat.add_comm]
  show (if m.outcome.isSome then m else M.runFor j m.step) = _
  rw [h, e]; rfl⟩
theorem Go.one {fr : List Sre.Frame} {wt pc pos hd : Nat} {o : Bool} {lp : Array Loop} {inn : Option Nat} {an : Option Bool} {m' : M} (e : (mq T start sn fr wt o pc pos hd lp inn an).step = m') : Go 1 (mq T start sn fr wt o pc pos hd lp inn an) m' := Go.step rfl e

/-- one turn of the loop: where it ends -/
def turnP (T : Array Nat) (p : Nat) : Option Nat :=
  if p ≥ T.size then none
  else if T.getD p 0 = 92 then (if p + 1 ≥ T.size then none else if T.getD (p + 1) 0 = 10 then none else some (p + 2))
  else if T.getD p 0 = 34 then none else some (p + 1)

theorem body_go (p cnt : Nat) : match turnP T p with
    | some q => ∃ sn', Go 9 (mq T start sn (F1 o p cnt :: fr) 2 false 15 p p LP (some 0) none) (mq T start sn' (F1 o q (cnt + 1) :: fr) 2 false 15 q q LP (some 0) none)
    | none => ∃ sn', Go 9 (mq T start sn (F1 o p cnt :: fr) 2 false 15 p p LP (some 0) none) (mq T start sn' fr 1 o 35 p p #[] none none) := by
  have g1 : Go 1 (mq T start sn (F1 o p cnt :: fr) 2 false 15 p p LP (some 0) none) _ := Go.one q15
  obtain ⟨sn1, e17⟩ := q17 (T := T) (start := start) (sn := sn.add 7) (fr := F2 16 p :: F1 o p cnt :: fr) (wt := 3) (o := false) (pos := p) (hd := p) (lp := LP) (inn := some 0)
  have g2 := g1.trans (Go.one e17)
  have fail17 : Go 2 (mq T start sn (F1 o p cnt :: fr) 2 false 15 p p LP (some 0) none) (mq T start sn1 (F2 16 p :: F1 o p cnt :: fr) 3 false 17 p p LP (some 0) (some false)) →
      Go 3 (mq T start sn (F1 o p cnt :: fr) 2 false 15 p p LP (some 0) none) (mq T start sn1 (F2 27 p :: F1 o p cnt :: fr) 3 false 28 p p LP (some 0) none) := fun g => g.trans (Go.one r2f16)
  have fail27 : ∀ {sn2 : Seen} {pc q b : Nat}, b ≤ 7 → Go b (mq T start sn (F1 o p cnt :: fr) 2 false 15 p p LP (some 0) none) (mq T start sn2 (F2 27 p :: F1 o p cnt :: fr) 3 false pc q p LP (some 0) (some false)) →
      ∃ sn', Go 9 (mq T start sn (F1 o p cnt :: fr) 2 false 15 p p LP (some 0) none) (mq T start sn' fr 1 o 35 p p #[] none none) := fun hb g => ⟨_, ((g.trans (Go.one r2f27)).trans (Go.one r1f)).le (by omega)⟩
  unfold turnP
  by_cases h : p ≥ T.size
  · rw [if_pos h]
    rw [if_pos h] at g2
    have g3 := fail17 g2
    exact fail27 (by decide) (g3.trans (Go.one (q28.trans (if_pos h))))
  · rw [if_neg h]
    rw [if_neg h] at g2
    by_cases h92 : T.getD p 0 = 92
    · rw [if_pos h92]
      have e : (!(T.getD p 0 == 34) && !(T.getD p 0 == 92)) = false := by rw [h92]; rfl
      rw [e] at g2
      have g3 := (fail17 g2).trans (Go.one (q28.trans (if_neg h)))
      have e2 : (T.getD p 0 == 92) = true := by rw [h92]; rfl
      rw [e2] at g3
      have g4 := g3.trans (Go.one q30)
      by_cases h1 : p + 1 ≥ T.size
      · rw [if_pos h1]
        rw [if_pos h1] at g4
        exact fail27 (by decide) g4
      · rw [if_neg h1]
        rw [if_neg h1] at g4
        by_cases h10 : T.getD (p + 1) 0 = 10
        · rw [if_pos h10]
          have e3 : (T.getD (p + 1) 0 != 10) = false := by rw [h10]; rfl
          rw [e3] at g4
          exact fail27 (by decide) g4
        · rw [if_neg h10]
          have e3 : (T.getD (p + 1) 0 != 10) = true := by simpa using h10
          rw [e3] at g4
          exact ⟨_, ((((g4.trans (Go.one q31)).trans (Go.one q34)).trans (Go.one r2t)).trans (Go.one (r1t (by omega)))).le (by decide)⟩
    · rw [if_neg h92]
      by_cases h34 : T.getD p 0 = 34
      · rw [if_pos h34]
        have e : (!(T.getD p 0 == 34) && !(T.getD p 0 == 92)) = false := by rw [h34]; rfl
        rw [e] at g2
        have g3 := (fail17 g2).trans (Go.one (q28.trans (if_neg h)))
        have e2 : (T.getD p 0 == 92) = false := by rw [h34]; rfl
        rw [e2] at g3
        exact fail27 (by decide) g3
      · rw [if_neg h34]
        have e : (!(T.getD p 0 == 34) && !(T.getD p 0 == 92)) = true := by rw [beq_eq_false_iff_ne.mpr h34, beq_eq_false_iff_ne.mpr h92]; rfl
        rw [e] at g2
        exact ⟨_, ((((g2.trans (Go.one q25)).trans (Go.one q34)).trans (Go.one r2t)).trans (Go.one (r1t (by omega)))).le (by decide)⟩

/-- where the loop stops -/
def stopP (T : Array Nat) : Nat → Nat → Nat
  | 0, p => p
  | k + 1, p => match turnP T p with
    | none => p
    | some q => stopP T k q
theorem turnP_lt {p q : Nat} (h : turnP T p = some q) : p < q ∧ q ≤ T.size := by
  unfold turnP at h
  split at h
  · cases h
  · split at h
    · split at h
      · cases h
      · split at h
        · cases h
        · cases h; omega
    · split at h
      · cases h
      · cases h; omega
theorem loop_go : ∀ (k p cnt : Nat) (sn : Seen), T.size - p ≤ k → ∃ sn', Go (9 * (k + 1)) (mq T start sn (F1 o p cnt :: fr) 2 false 15 p p LP (some 0) none) (mq T start sn' fr 1 o 35 (stopP T k p) (stopP T k p) #[] none none)
  | 0, p, cnt, sn, h => by
    have hb := body_go (T := T) (start := start) (sn := sn) (fr := fr) (o := o) p cnt
    have e : turnP T p = none := by unfold turnP; rw [if_pos (by omega)]
    rw [e] at hb
    obtain ⟨sn', g⟩ := hb
    exact ⟨sn', g.le (by decide)⟩
  | k + 1, p, cnt, sn, h => by
    have hb := body_go (T := T) (start := start) (sn := sn) (fr := fr) (o := o) p cnt
    unfold stopP
    cases e : turnP T p with
    | none =>
      rw [e] at hb
      obtain ⟨sn', g⟩ := hb
      exact ⟨sn', g.le (by omega)⟩
    | some q =>
      rw [e] at hb
      obtain ⟨sn', g⟩ := hb
      have hq := turnP_lt e
      obtain ⟨sn'', g'⟩ := loop_go k q (cnt + 1) sn' (by omega)
      exact ⟨sn'', (g.trans g').le (by omega)⟩

/-- a match at s: its end -/
def matchAt (T : Array Nat) (s : Nat) : Option Nat :=
  if s ≥ T.size then none else if T.getD s 0 = 34 then
    (if stopP T T.size (s + 1) ≥ T.size then none else if T.getD (stopP T T.size (s + 1)) 0 = 34 then some (stopP T T.size (s + 1) + 1) else none)
  else none

theorem attempt_go (s : Nat) : match matchAt T s with
    | some e => ∃ sn' pc pos, Go (9 * (T.size + 1) + 9) (mq T s sn [F0 o s] 1 o 9 s s #[] none none) (mq T s sn' [] 0 o pc pos e #[] none (some true))
    | none => ∃ sn' pc pos hd, Go (9 * (T.size + 1) + 9) (mq T s sn [F0 o s] 1 o 9 s s #[] none none) (mq T s sn' [F0 o s] 1 o pc pos hd #[] none (some false)) := by
  unfold matchAt
  have g1 : Go 1 (mq T s sn [F0 o s] 1 o 9 s s #[] none none) _ := Go.one q9
  by_cases h : s ≥ T.size
  · rw [if_pos h]
    rw [if_pos h] at g1
    exact ⟨_, _, _, _, g1.le (by omega)⟩
  · rw [if_neg h]
    rw [if_neg h] at g1
    by_cases hc : T.getD s 0 = 34
    · rw [if_pos hc]
      have e : (T.getD s 0 == 34) = true := by rw [hc]; rfl
      rw [e] at g1
      have g2 := g1.trans (Go.one q11)
      obtain ⟨sn2, g3⟩ := loop_go (T := T) (start := s) (o := o) (fr := [F0 o s]) T.size (s + 1) 0 _ (by omega)
      have g4 := (g2.trans g3).trans (Go.one q35)
      by_cases h2 : stopP T T.size (s + 1) ≥ T.size
      · rw [if_pos h2]
        rw [if_pos h2] at g4
        exact ⟨_, _, _, _, g4.le (by omega)⟩
      · rw [if_neg h2]
        rw [if_neg h2] at g4
        by_cases hc2 : T.getD (stopP T T.size (s + 1)) 0 = 34
        · rw [if_pos hc2]
          have e2 : (T.getD (stopP T T.size (s + 1)) 0 == 34) = true := by rw [hc2]; rfl
          rw [e2] at g4
          exact ⟨_, _, _, ((g4.trans (Go.one q37)).trans (Go.one r0t)).le (by omega)⟩
        · rw [if_neg hc2]
          have e2 : (T.getD (stopP T T.size (s + 1)) 0 == 34) = false := beq_eq_false_iff_ne.mpr hc2
          rw [e2] at g4
          exact ⟨_, _, _, _, g4.le (by omega)⟩
    · rw [if_neg hc]
      have e : (T.getD s 0 == 34) = false := beq_eq_false_iff_ne.mpr hc
      rw [e] at g1
      exact ⟨_, _, _, _, g1.le (by omega)⟩

/-- the first match at p or behind it -/
def firstP (T : Array Nat) : Nat → Nat → Option (Nat × Nat)
  | 0, p => (matchAt T p).map fun e => (p, e)
  | k + 1, p => match matchAt T p with
    | some e => some (p, e)
    | none => firstP T k (p + 1)

/-- how a run ends -/
def Ends (b : Nat) (m : M) (r : Option (Nat × Nat)) : Prop :=
  ∃ k m', k ≤ b ∧ M.runFor k m = m' ∧ match r with
    | some se => m'.outcome = some .matched ∧ m'.start = se.1 ∧ m'.handed = se.2
    | none => m'.outcome = some .failed
theorem ends_some {b s e : Nat} {m : M} {sn : Seen} {o : Bool} {pc pos : Nat} (g : Go b m (mq T s sn [] 0 o pc pos e #[] none (some true))) : Ends (b + 1) m (some (s, e)) := by
  obtain ⟨k, h1, hk⟩ := g
  exact ⟨k + 1, _, by omega, hk 1, rfl, rfl, rfl⟩
theorem ends_none {b s e : Nat} {m : M} {sn : Seen} {o : Bool} {pc pos : Nat} {lp : Array Loop} {inn : Option Nat} (g : Go b m (mq T s sn [] 0 o pc pos e lp inn (some false))) : Ends (b + 1) m none := by
  obtain ⟨k, h1, hk⟩ := g
  exact ⟨k + 1, _, by omega, hk 1, rfl⟩
theorem Ends.go {b c : Nat} {m m' : M} {r : Option (Nat × Nat)} (g : Go b m m') (e : Ends c m' r) : Ends (b + c) m r := by
  obtain ⟨k, h1, hk⟩ := g
  obtain ⟨l, m'', h2, hl, hr⟩ := e
  exact ⟨k + l, m'', by omega, by rw [hk l]; exact hl, hr⟩
theorem Ends.le {b c : Nat} {m : M} {r : Option (Nat × Nat)} (e : Ends b m r) (h : b ≤ c) : Ends c m r := let ⟨l, m', h2, hl, hr⟩ := e; ⟨l, m', by omega, hl, hr⟩

theorem search_ends : ∀ (k p : Nat) (o : Bool) (sn : Seen), T.size - p ≤ k → Ends ((9 * (T.size + 1) + 12) * (k + 1)) (mq T p sn [F0 o p] 1 o 9 p p #[] none none) (firstP T k p) := by
  intro k
  induction k with
  | zero =>
    intro p o sn h
    have ha := attempt_go (T := T) (sn := sn) (o := o) p
    have e : matchAt T p = none := by unfold matchAt; rw [if_pos (by omega)]
    rw [e] at ha
    obtain ⟨sn', pc, pos, hd, g⟩ := ha
    have g2 := g.trans (Go.one (r0f.trans (if_neg (by omega))))
    have : firstP T 0 p = none := by unfold firstP; rw [e]; rfl
    rw [this]
    exact (ends_none g2).le (by omega)
  | succ k ih =>
    intro p o sn h
    have ha := attempt_go (T := T) (sn := sn) (o := o) p
    unfold firstP
    cases e : matchAt T p with
    | some e' =>
      rw [e] at ha
      obtain ⟨sn', pc, pos, g⟩ := ha
      refine (ends_some g).le ?_
      rw [Nat.mul_add (9 * (T.size + 1) + 12) (k + 1) 1]; omega
    | none =>
      rw [e] at ha
      obtain ⟨sn', pc, pos, hd, g⟩ := ha
      by_cases hp : p < T.size
      · have g2 := g.trans (Go.one (r0f.trans (if_pos hp)))
        refine ((ih (p + 1) false sn' (by omega)).go g2).le ?_
        rw [Nat.mul_add (9 * (T.size + 1) + 12) (k + 1) 1]; omega
      · have g2 := g.trans (Go.one (r0f.trans (if_neg hp)))
        have hn : ∀ (k p : Nat), T.size ≤ p → firstP T k p = none := by
          intro k
          induction k with
          | zero => intro p hp; unfold firstP matchAt; rw [if_pos hp]; rfl
          | succ k ih => intro p hp; unfold firstP; rw [show matchAt T p = none by unfold matchAt; rw [if_pos hp]]; exact ih (p + 1) (by omega)
        rw [show (match (none : Option Nat) with | some e => some (p, e) | none => firstP T k (p + 1)) = firstP T k (p + 1) from rfl, hn k (p + 1) (by omega)]
        refine (ends_none g2).le ?_
        rw [Nat.mul_add (9 * (T.size + 1) + 12) (k + 1) 1]; omega

theorem forSearch_ends (p : Nat) (hp : p ≤ T.size) : Ends ((9 * (T.size + 1) + 12) * (T.size + 1)) (Sre.forSearch CODE T 0 p T.size false) (if T.size - p < 2 then none else firstP T T.size p) := by
  have e : Sre.forSearch CODE T 0 p T.size false = if (decide (p > T.size) || decide (T.size - p < 2)) = true then ({ (mq T p (({} : Seen).add 14) [] 0 true 9 p p #[] none (some false)) with lastStart := 0 } : M) else mq T p (({} : Seen).add 14) [F0 true p] 1 true 9 p p #[] none none := by
    show (if (decide (p > T.size) || decide (T.size - p < 2)) = true then _ else _) = _
    by_cases h : (decide (p > T.size) || decide (T.size - p < 2)) = true
    · rw [if_pos h, if_pos h]; rfl
    · rw [if_neg h, if_neg h]; rfl
  rw [e]
  have e2 : (decide (p > T.size) || decide (T.size - p < 2)) = decide (T.size - p < 2) := by rw [decide_eq_false (by omega : ¬ p > T.size), Bool.false_or]
  rw [e2]
  by_cases h : T.size - p < 2
  · rw [if_pos (decide_eq_true h), if_pos h]
    exact ⟨1, _, by rw [Nat.mul_add (9 * (T.size + 1) + 12) T.size 1]; omega, rfl, rfl⟩
  · rw [if_neg (by simpa using h), if_neg h]
    exact search_ends T.size p true _ (by omega)
end
end Mine
end

section
open PySem PySem.W PyProof.Rows PySem.Builtin PySem.Builtin.Re
set_option maxRecDepth 100000
set_option maxHeartbeats 400000
namespace Mine
section
variable {prog : Program} {w : World} {A : Around} {s : Shared} {E : Value → Shared → Prop}

theorem runFor_stop {m : Sre.M} (h : m.outcome.isSome = true) : ∀ n, Sre.M.runFor n m = m
  | 0 => rfl
  | n + 1 => by show (if m.outcome.isSome then m else _) = m; rw [if_pos h]
theorem runFor_add : ∀ (a b : Nat) (m : Sre.M), Sre.M.runFor (a + b) m = Sre.M.runFor b (Sre.M.runFor a m)
  | 0, b, m => by rw [Nat.zero_add]; rfl
  | a + 1, b, m => by
    by_cases h : m.outcome.isSome = true
    · rw [runFor_stop h, runFor_stop h, runFor_stop h]
    · rw [Nat.add_right_comm]
      show (if m.outcome.isSome then m else Sre.M.runFor (a + b) m.step) = Sre.M.runFor b (if m.outcome.isSome then m else Sre.M.runFor a m.step)
      rw [if_neg h, if_neg h, runFor_add a b]
theorem reDrive_ev {M : Model} {Q : Sre.M → Shared → Prop} : ∀ (t k : Nat) (m : Sre.M), k < t → (Sre.M.runFor k m).outcome.isSome = true → Q (Sre.M.runFor k m) s → wpAny M A (reDrive t m) Q E s
  | 0, k, m, h, _, _ => absurd h (Nat.not_lt_zero _)
  | t + 1, k, m, h, ho, hQ => by
    have hk : Sre.M.runFor (k + 4) m = Sre.M.runFor k m := by rw [runFor_add k 4, runFor_stop ho]
    have hk' : Sre.M.runFor k (Sre.M.runFor 4 m) = Sre.M.runFor k m := by rw [← runFor_add, Nat.add_comm]; exact hk
    show wpAny M A (if (Sre.M.runFor 4 m).outcome.isSome then pure (Sre.M.runFor 4 m) else (rule "sre.turn" >>= fun _ => reDrive t (Sre.M.runFor 4 m))) Q E s
    by_cases h4 : (Sre.M.runFor 4 m).outcome.isSome = true
    · rw [if_pos h4]
      rw [runFor_stop h4] at hk'
      refine wpAny_pure ?_
      rw [hk']; exact hQ
    · rw [if_neg h4]
      refine wpAny_bind (wpAny_rule ?_)
      cases k with
      | zero => exact absurd (by rw [show Sre.M.runFor 4 m = m from runFor_stop ho 4]; exact ho) h4
      | succ k =>
        by_cases hkk : k + 1 ≤ 4
        · exfalso
          apply h4
          have : Sre.M.runFor 4 m = Sre.M.runFor (k + 1) m := by
            rw [show 4 = (k + 1) + (4 - (k + 1)) by omega, runFor_add, runFor_stop ho]
          rw [this]; exact ho
        · have e : Sre.M.runFor (k + 1 - 4) (Sre.M.runFor 4 m) = Sre.M.runFor (k + 1) m := by
            rw [← runFor_add, show 4 + (k + 1 - 4) = k + 1 by omega]
          exact reDrive_ev t (k + 1 - 4) (Sre.M.runFor 4 m) (by omega) (by rw [e]; exact ho) (by rw [e]; exact hQ)
theorem rules_ev {M : Model} {f : Nat → PUnit → Sem (ForInStep PUnit)} {Q : PUnit → Shared → Prop} (hf : ∀ i (Q' : ForInStep PUnit → Shared → Prop), Q' (.yield ⟨⟩) s → wpAny M A (f i ⟨⟩) Q' E s) : ∀ (l : List Nat), Q ⟨⟩ s → wpAny M A (forIn l PUnit.unit f) Q E s
  | [], h => wpAny_pure h
  | i :: r, h => by
    rw [List.forIn_cons]
    exact wpAny_bind (hf i _ (rules_ev hf r h))

theorem runToEnd_ev {M : Model} {m : Sre.M} {b : Nat} {r : Option (Nat × Nat)} {Q : Option Sre.M → Shared → Prop} (he : Ends b m r) (hb : b < 2 ^ 64)
    (h1 : ∀ se m', r = some se → m'.start = se.1 → m'.handed = se.2 → Q (some m') s) (h2 : r = none → Q none s) : wpAny M A (reRunToEnd m) Q E s := by
  obtain ⟨k, m', hk, hm, hr⟩ := he
  unfold reRunToEnd
  cases r with
  | some se =>
    obtain ⟨ho, h3, h4⟩ := hr
    refine wpAny_bind (reDrive_ev (2 ^ 64) k m (by omega) (by rw [hm, ho]; rfl) ?_)
    rw [hm]
    refine wpAny_bind (rules_ev (fun i Q' hq => ?_) _ ?_)
    · split
      · exact wpAny_bind (wpAny_rule (wpAny_pure hq))
      · exact wpAny_pure hq
    rw [ho]
    exact wpAny_pure (h1 se m' rfl h3 h4)
  | none =>
    have ho : m'.outcome = some .failed := hr
    refine wpAny_bind (reDrive_ev (2 ^ 64) k m (by omega) (by rw [hm, ho]; rfl) ?_)
    rw [hm]
    refine wpAny_bind (rules_ev (fun i Q' hq => ?_) _ ?_)
    · split
      · exact wpAny_bind (wpAny_rule (wpAny_pure hq))
      · exact wpAny_pure hq
    rw [ho]
    exact wpAny_pure (h2 rfl)

theorem text_ev {b : Array UInt8} {t : Tok} : reTextOf (.bytes b t) = pure (b.map (·.toNat), 1) := by
  unfold reTextOf
  show (Bytes.bufferQuiet? "_sre" (.bytes b t) >>= _) = _
  rw [KBy.quiet_eq]; rfl

theorem code_words {P : Params} (vs : Array Value) (h : (hd.heap_39 P).lookup 35 = some { cls := .type "tuple", data := .seq vs }) : (vs.map reRawOf).map (·.toNat) = CODE := by
  have e : some ({ cls := .type "tuple", data := .seq vs } : Obj) = (hd.heap_39 P).lookup 35 := h.symm
  cases e.trans (rfl : (hd.heap_39 P).lookup 35 = some _)
  decide +kernel

def target (b : Array UInt8) (t : Tok) : ReTarget := { pattern := .ref 36, string := .bytes b t, code := CODE, text := b.map (·.toNat), kind := 1, groups := 0, pos := 0, lim := (b.map (·.toNat)).size }
theorem target_ev {b : Array UInt8} {t : Tok} {Q : ReTarget → Shared → Prop} (B : Base w s.heap) (h : Q (target b t) s) : wpAny (model prog w) A (reWholeTarget (.ref 36) (.bytes b t)) Q E s := by
  unfold reWholeTarget
  refine wpAny_bind (wpAny_bind (wpAny_load (B.K 36 _ rfl) (wpAny_pure ?_)))
  rw [text_ev]
  refine wpAny_bind (wpAny_pure ?_)
  show wpAny _ _ (reNoCollectionInside (.bytes b t) 1 >>= _) _ _ _
  refine wpAny_bind ?_
  show wpAny _ _ (isInstance (.bytes b t) (.type "bytes") >>= _) _ _ _
  refine wpAny_bind (wpAny_of_eq KBy.isInstance_eq ?_)
  refine wpAny_pure ?_
  show wpAny _ _ (reRawItems (.ref 35) >>= _) _ _ _
  refine wpAny_bind (wpAny_bind (wpAny_bind (wpAny_load (B.K 35 _ rfl) (wpAny_pure (wpAny_pure (wpAny_pure ?_))))))
  exact (congrArg (fun c => Q ⟨.ref 36, .bytes b t, c, b.map (fun x : UInt8 => x.toNat), 1, 0, 0, (b.map (fun x : UInt8 => x.toNat)).size⟩ s) (code_words (P := w.params) _ rfl)).mpr h

/-! bytes.join with no separator, of a list of bytes -/
theorem slot_bytes_join : Slot "bytes" "join" "bytes.join" :=
  .of (owner := "bytes") (n := "join") (by rw [typeLookup_type, builtinLookup_eq_fast]; kernel_rfl) (by decide +kernel) (by decide +kernel) (by decide +kernel) (.inr (by kernel_rfl)) F.sub_bytes_bytes
theorem entry_bytes_join : entryFor table "bytes.join" = some Builtin.«bytes.join» := entryFor_of_tree (by kernel_rfl)
theorem args_bytes_join (a b : Value) : argsOk "bytes.join" ⟨[a, b], []⟩ := by unfold argsOk; kernel_rfl
theorem take_eq {id : String} {b : Array UInt8} {t : Tok} : Bytes.takeBufferQuiet? id (.bytes b t) 0 = pure (some (b, none)) := by
  unfold Bytes.takeBufferQuiet? Bytes.takeBuffer?
  rw [KBy.special_eq KBy.look_buffer, KBy.own_buffer]
  simp only [pure_bind]
  show (Sem.attempt (Bytes.buffer? id (.bytes b t) (full := 0 == Bytes.fullReadOnly) >>= _) >>= _) = _
  rw [show ((0 : Int) == Bytes.fullReadOnly) = false from by decide +kernel]
  rw [KBy.buffer_eq]
  rfl

theorem forIn_inv {M : Model} {σ : Type} {f : Nat → σ → Sem (ForInStep σ)} {Q : σ → Shared → Prop} {n : Nat} (I : Nat → σ → Prop)
    (step : ∀ i st, i < n → I i st → ∀ Q' : ForInStep σ → Shared → Prop, (∀ st', I (i + 1) st' → Q' (.yield st') s) → wpAny M A (f i st) Q' E s) (done : ∀ st', I n st' → Q st' s) :
    ∀ (m k : Nat) (st : σ), I k st → k + m = n → wpAny M A (forIn (List.range' k m) st f) Q E s
  | 0, k, st, h, e => by
    have : k = n := by omega
    subst this
    exact wpAny_pure (done st h)
  | m + 1, k, st, h, e => by
    rw [List.range'_succ, List.forIn_cons]
    exact wpAny_bind (step k st (by omega) h _ fun st' h' => forIn_inv I step done m (k + 1) st' h' (by omega))

theorem forIn_rng {M : Model} {σ : Type} {f : Nat → σ → Sem (ForInStep σ)} {Q : σ → Shared → Prop} {n : Nat} {st : σ} (I : Nat → σ → Prop)
    (step : ∀ i st, i < n → I i st → ∀ Q' : ForInStep σ → Shared → Prop, (∀ st', I (i + 1) st' → Q' (.yield st') s) → wpAny M A (f i st) Q' E s) (done : ∀ st', I n st' → Q st' s) (h0 : I 0 st) :
    wpAny M A (forIn ([:n] : Std.Legacy.Range) st f) Q E s := by
  have hrange : ([:n] : Std.Legacy.Range).size = n := by simp [Std.Legacy.Range.size]
  rw [Std.Legacy.Range.forIn_eq_forIn_range', hrange]
  exact forIn_inv I step done n 0 st h0 (by omega)

/-- values that are bytes -/
abbrev BytesAre : List (Array UInt8) → List Value → Prop := Paired fun b v => ∃ t, v = .bytes b t
theorem paired_get {α β : Type} {F : α → β → Prop} : ∀ {xs : List α} {ys : List β}, Paired F xs ys → ∀ (i : Nat) (y : β), ys[i]? = some y → ∃ x, xs[i]? = some x ∧ F x y
  | _, _, .nil, i, y, h => by simp at h
  | _, _, .cons hf t, 0, y, h => by simp at h; subst h; exact ⟨_, rfl, hf⟩
  | _, _, .cons _ t, i + 1, y, h => by simp at h; simpa using paired_get t i y h
theorem joined_eq (parts : List (Array UInt8)) : Bytes.joined #[] parts = parts.foldl (· ++ ·) #[] := by
  unfold Bytes.joined
  have : ∀ (l : List (Array UInt8)) (k : Nat) (acc : Array UInt8), (l.zipIdx k).foldl (fun out (p, i) => (if i > 0 then out ++ (#[] : Array UInt8) else out) ++ p) acc = l.foldl (· ++ ·) acc := by
    intro l
    induction l with
    | nil => intro k acc; rfl
    | cons a r ih => intro k acc; rw [List.zipIdx_cons, List.foldl_cons, List.foldl_cons, ih]; simp
  exact this parts 0 #[]
theorem letGo_ev {Q : Unit → Shared → Prop} : ∀ (taken : List (Value × Option Value)) (keep : List Value), (∀ p ∈ taken, p.2 = none) → Q () s → wpAny (model prog w) A (Bytes.joinLetGo taken keep) Q E s
  | [], _, _, h => wpAny_pure h
  | (x, o) :: r, keep, ht, h => by
    obtain rfl : o = none := ht _ (.head _)
    show wpAny _ _ (letGo [x] _ >>= fun _ => Bytes.joinLetGo r keep) Q E s
    exact wpAny_bind (wpAny_letGo (letGo_ev r keep (fun p hp => ht p (.tail _ hp)) h))
theorem cat_size : ∀ (l : List (Array UInt8)) (acc : Array UInt8), (l.foldl (· ++ ·) acc).size = l.foldl (· + ·.size) acc.size
  | [], _ => rfl
  | a :: r, acc => by rw [List.foldl_cons, List.foldl_cons, cat_size r, Array.size_append]

theorem join_ev {l : Addr} {vs : Array Value} {parts : List (Array UInt8)} {t : Tok} {Q : Value → Shared → Prop} (hl : s.heap.PlainList l vs) (hb : BytesAre parts vs.toList) (hsz : (parts.foldl (· ++ ·) #[]).size ≤ sizeLine)
    (hQ : ∀ t' tk, Q (.bytes (parts.foldl (· ++ ·) #[]) t') { s with toks := tk }) : wpAny (model prog w) A (call (.builtin "bytes.join") [.bytes #[] t, .ref l]) Q E s := by
  refine wpAny_call_entry slot_bytes_join (typeIs_bytes _ _ _) entry_bytes_join ?_ (args_bytes_join _ _)
  obtain ⟨n, ho⟩ := id hl
  have hitems : ∀ {α : Type} {k : Option (Array Value) → Sem α} {Q' : α → Shared → Prop} {A : Around}, wpAny (model prog w) A (k (some vs)) Q' E s → wpAny (model prog w) A (seqItems? (.ref l) >>= k) Q' E s := fun h => wpAny_bind (wpAny_seqItems ho rfl h)
  show wpAny _ _ (Bytes.joinM .bytes ⟨[.bytes #[] t, .ref l], []⟩) _ _ _
  unfold Bytes.joinM
  show wpAny _ _ (Bytes.joinItems (.ref l) >>= _) _ _ _
  refine wpAny_bind ?_
  unfold Bytes.joinItems
  refine wpAny_bind (wpAny_typeOf_ref ho ?_)
  show wpAny _ _ (pure (Value.ref l)) _ _ _
  refine wpAny_pure ?_
  refine hitems ?_
  have hrange : ([:vs.size] : Std.Legacy.Range).size = vs.size := by simp [Std.Legacy.Range.size]
  by_cases h1 : ∃ x, vs = #[x]
  · obtain ⟨x, rfl⟩ := h1
    cases hb with
    | cons hx ht =>
      cases ht
      obtain ⟨tx, rfl⟩ := hx
      show wpAny _ _ (rule "bytes.join.one-item" >>= fun _ => ret (Value.bytes _ tx)) _ _ _
      refine wpAny_bind (wpAny_rule (wpAny_pure ⟨_, rfl, ?_⟩))
      have := hQ tx s.toks
      simpa using this
  · have hlen : parts.length = vs.size := by rw [paired_len hb, Array.length_toList]
    have hxall : ∀ i, i < vs.size → vs.toList[i]? = some (vs.getD i .none) := by
      intro i hi
      rw [Array.getElem?_toList, Array.getD_eq_getD_getElem?]
      simp [hi]
    obtain ⟨vl⟩ := vs
    rcases vl with _ | ⟨x, _ | ⟨y, r⟩⟩
    rotate_left
    · exact absurd ⟨x, rfl⟩ h1
    all_goals (
      refine wpAny_bind (forIn_rng (fun i st => st.1.toList = parts.take i ∧ (∀ p ∈ st.2, p.2 = none ∧ p.1.onHeap = false)) ?_ ?_ ⟨by simp, by simp⟩)
      · rintro i ⟨ps, tk⟩ hi ⟨hp, htk⟩ Q' hQ'
        refine hitems ?_
        dsimp only
        have hany : (Bytes.Kind.bytes == Bytes.Kind.bytearray || tk.any fun x => x.fst.onHeap) = false := by
          rw [show (Bytes.Kind.bytes == Bytes.Kind.bytearray) = false from rfl, Bool.false_or, List.any_eq_false]
          intro p hp'
          rw [(htk p hp').2]; decide
        rw [hany, if_neg Bool.false_ne_true]
        have hx := hxall i hi
        obtain ⟨b, hb1, tb, hb2⟩ := paired_get hb i _ hx
        rw [hb2]
        refine wpAny_bind (wpAny_holding ?_)
        rw [take_eq]
        refine wpAny_pure ?_
        dsimp only
        refine hitems ?_
        dsimp only
        rw [if_neg (by simp)]
        refine wpAny_pure (hQ' _ ⟨?_, ?_⟩)
        · show (ps.push b).toList = _
          rw [Array.toList_push, hp, List.take_add_one, hb1]; rfl
        · intro p hp'
          rcases List.mem_append.mp hp' with h | h
          · exact htk p h
          · obtain rfl := List.mem_singleton.mp h
            exact ⟨rfl, rfl⟩
      · rintro ⟨ps, tk⟩ ⟨hp, htk⟩
        rw [← hlen, List.take_length] at hp
        dsimp only
        refine wpAny_bind ?_
        show wpAny _ _ (pure (#[] : Array UInt8)) _ _ _
        refine wpAny_pure ?_
        have hfold : ps.foldl (fun x1 x2 => x1 + x2.size) (0 * (ps.size - 1)) = (parts.foldl (· ++ ·) #[]).size := by
          rw [Nat.zero_mul, cat_size, ← Array.foldl_toList, hp]; rfl
        rw [if_neg (by
          show ¬ Bytes.tooLong (ps.foldl (fun x1 x2 => x1 + x2.size) (0 * (ps.size - 1))) = true
          rw [hfold, KBy.tooLong_not (by rw [← sizeLine_eq]; exact hsz)]; decide)]
        rw [hp, joined_eq]
        refine wpAny_bind (wpAny_mkBytes ?_ hsz)
        refine wpAny_bind (wpAny_holding (wpAny_point ?_))
        exact wpAny_bind (letGo_ev _ _ (fun p hp => (htk p hp).1) (wpAny_pure ⟨_, rfl, hQ _ _⟩)))
end
end Mine
end

section
open PySem PySem.W PyProof.Rows PySem.Builtin PySem.Builtin.Re
set_option maxRecDepth 100000
set_option maxHeartbeats 400000
namespace Mine
/-! the text without what the pattern takes: no program in sight -/
def subP (T : Array Nat) : Nat → Nat → Array Nat
  | 0, p => T.extract p T.size
  | k + 1, p => match (if T.size - p < 2 then none else firstP T T.size p) with
    | none => T.extract p T.size
    | some se => T.extract p se.1 ++ subP T k se.2
theorem stopP_le {T : Array Nat} : ∀ (k p : Nat), p ≤ stopP T k p
  | 0, p => Nat.le_refl _
  | k + 1, p => by
    unfold stopP
    cases e : turnP T p with
    | none => exact Nat.le_refl _
    | some q => exact Nat.le_trans (Nat.le_of_lt (turnP_lt e).1) (stopP_le k q)
theorem matchAt_in {T : Array Nat} {s e : Nat} (h : matchAt T s = some e) : s + 2 ≤ e ∧ e ≤ T.size := by
  unfold matchAt at h
  have := stopP_le (T := T) T.size (s + 1)
  split at h
  · cases h
  · split at h
    · split at h
      · cases h
      · split at h
        · cases h; omega
        · cases h
    · cases h
theorem firstP_in {T : Array Nat} {se : Nat × Nat} : ∀ {k p : Nat}, firstP T k p = some se → p ≤ se.1 ∧ se.1 + 2 ≤ se.2 ∧ se.2 ≤ T.size
  | 0, p, h => by
    unfold firstP at h
    cases e : matchAt T p with
    | none => rw [e] at h; cases h
    | some e' => rw [e] at h; cases h; exact ⟨Nat.le_refl _, matchAt_in e⟩
  | k + 1, p, h => by
    unfold firstP at h
    cases e : matchAt T p with
    | none => rw [e] at h; have := firstP_in h; omega
    | some e' => rw [e] at h; cases h; exact ⟨Nat.le_refl _, matchAt_in e⟩
theorem size_of_back {b : Array UInt8} {x y : Nat} : (((b.map (·.toNat)).extract x y).map (·.toUInt8)) = b.extract x y := by
  apply Array.ext
  · simp
  · intro i h1 h2
    simp
theorem subP_size {T : Array Nat} : ∀ (k p : Nat), p ≤ T.size → (subP T k p).size ≤ T.size - p
  | 0, p, h => by simp [subP]
  | k + 1, p, h => by
    unfold subP
    split
    · simp
    · rename_i se e
      have hse : p ≤ se.1 ∧ se.1 + 2 ≤ se.2 ∧ se.2 ≤ T.size := by
        split at e
        · cases e
        · exact firstP_in e
      have := subP_size k se.2 hse.2.2
      simp only [Array.size_append, Array.size_extract]
      omega

section
variable {prog : Program} {w : World} {A : Around} {s : Shared} {E : Value → Shared → Prop}

theorem slot_sub : Slot "re.Pattern" "sub" "re.Pattern.sub" :=
  .of (owner := "re.Pattern") (n := "sub") (by rw [typeLookup_type, builtinLookup_eq_fast]; kernel_rfl) (by decide +kernel) (by decide +kernel) (by decide +kernel) (.inr (by kernel_rfl)) (by rw [isSubtype_type]; kernel_rfl)
theorem type_sub : typeOf (.builtin "re.Pattern.sub") = pure (.type "method_descriptor") := by show builtinType _ = _; rw [builtinType_eq_fast]; kernel_rfl
theorem entry_sub : entryFor table "re.Pattern.sub" = some Builtin.«re.Pattern.sub» := entryFor_of_tree (by kernel_rfl)
theorem entry_sub_loop : entryFor table "re.Pattern.sub.loop" = some Builtin.«re.Pattern.sub.loop» := entryFor_of_tree (by kernel_rfl)
theorem plain_sub_loop : plainId "re.Pattern.sub.loop" = true := by decide +kernel
theorem plainAttrs_pattern : PlainAttrs "re.Pattern" :=
  ⟨⟨"object.__getattribute__", by rw [typeLookup_type, builtinLookup_eq_fast]; kernel_rfl, by decide +kernel⟩, by rw [typeLookup_type, builtinLookup_eq_fast]; kernel_rfl⟩
theorem args_sub (a b c : Value) : argsOk "re.Pattern.sub" ⟨[a, b, c], []⟩ := by unfold argsOk; kernel_rfl
theorem no_call_bytes : typeLookup (.type "bytes") "__call__" = pure none := by rw [typeLookup_type, builtinLookup_eq_fast]; kernel_rfl
end
end Mine
end

section
open PySem PySem.W PyProof.Rows PySem.Builtin PySem.Builtin.Re
set_option maxRecDepth 100000
set_option maxHeartbeats 400000
namespace Mine
section
variable {prog : Program} {w : World} {A : Around} {s : Shared} {E : Value → Shared → Prop}

theorem push_plain {l : Addr} {vs : Array Value} {x : Value} {M : Model} {Q : Unit → Shared → Prop} (hl : s.heap.PlainList l vs) (hsz : vs.size ≤ sizeLine)
    (h : ∀ h', h'.PlainList l (vs.push x) → Heap.SameBut l s.heap h' → Q () { s with heap := h' }) : wpAny M A (updateSeq l (·.push x)) Q E s := by
  obtain ⟨n, ho⟩ := hl
  refine wpAny_updateSeq ho rfl (h _ ⟨n + 1, ?_⟩ (Heap.SameBut.update ..)) hsz (by rw [Array.size_push]; omega)
  rw [Heap.get?_update_self _ ho (by rw [Obj.mapSeq_push_plain]; rfl), Obj.mapSeq_push_plain]
theorem slice_ev {b : Array UInt8} {x y : Nat} {M : Model} {Q : Value → Shared → Prop} (hb : b.size ≤ sizeLine) (h : ∀ t tk, Q (.bytes (b.extract x y) t) { s with toks := tk }) : wpAny M A (reSlice (b.map (·.toNat)) 1 x y) Q E s := by
  show wpAny M A (mkBytes (((b.map (·.toNat)).extract x y).map (·.toUInt8))) Q E s
  rw [size_of_back]
  exact wpAny_mkBytes (h _ _) (Nat.le_trans (by simp; omega) hb)
def cat (l : List (Array UInt8)) : Array UInt8 := l.foldl (· ++ ·) #[]
theorem cat_snoc (l : List (Array UInt8)) (a : Array UInt8) : cat (l ++ [a]) = cat l ++ a := by unfold cat; rw [List.foldl_append]; rfl
theorem bytes_snoc {vs : Array Value} {parts : List (Array UInt8)} {a : Array UInt8} {t : Tok} (h : BytesAre parts vs.toList) : BytesAre (parts ++ [a]) (vs.push (.bytes a t)).toList := by
  rw [Array.toList_push]; exact Paired.snoc h ⟨t, rfl⟩
theorem map_back (b : Array UInt8) (x y : Nat) : (((b.map (·.toNat)).extract x y).map (·.toUInt8)) = b.extract x y := size_of_back
theorem notLit {b : Array UInt8} {u : Tok} {M : Model} {Q : Unit → Shared → Prop} (h : Q () s) : wpAny M A (reLiteralCannotBeTurned (.bytes b u)) Q E s := by
  unfold reLiteralCannotBeTurned
  refine wpAny_bind (wpAny_of_eq (a := none) rfl ?_)
  refine wpAny_bind (wpAny_of_eq KBy.isInstance_eq ?_)
  exact wpAny_pure h
theorem small_run {n : Nat} (h : n ≤ 1000) : (9 * (n + 1) + 12) * (n + 1) < 2 ^ 64 := by
  have : (9 * (n + 1) + 12) * (n + 1) ≤ (9 * (1000 + 1) + 12) * (1000 + 1) := Nat.mul_le_mul (by omega) (by omega)
  exact Nat.lt_of_le_of_lt this (by decide)
def nextP (T : Array Nat) (p : Nat) : Option (Nat × Nat) := if T.size - p < 2 then none else firstP T T.size p
theorem nextP_in {T : Array Nat} {p : Nat} {se : Nat × Nat} (h : nextP T p = some se) : p ≤ se.1 ∧ se.1 + 2 ≤ se.2 ∧ se.2 ≤ T.size := by
  unfold nextP at h
  split at h
  · cases h
  · exact firstP_in h
theorem subP_some {T : Array Nat} {k p : Nat} {se : Nat × Nat} (h : nextP T p = some se) : subP T (k + 1) p = T.extract p se.1 ++ subP T k se.2 := by
  show (match nextP T p with | none => _ | some se => _) = _
  rw [h]
theorem subP_none {T : Array Nat} {k p : Nat} (h : nextP T p = none) : subP T (k + 1) p = T.extract p T.size := by
  show (match nextP T p with | none => _ | some se => _) = _
  rw [h]
theorem found_ev {b : Array UInt8} {t : Tok} {p : Nat} {M : Model} {Q : Option Sre.M → Shared → Prop} (hp : p ≤ b.size) (hb : b.size ≤ 1000)
    (h1 : ∀ se m, nextP (b.map (·.toNat)) p = some se → m.start = se.1 → m.handed = se.2 → Q (some m) s)
    (h2 : nextP (b.map (·.toNat)) p = none → Q none s) : wpAny M A (reNextFound (target b t) p false) Q E s := by
  have hsz : (b.map (·.toNat)).size = b.size := Array.size_map
  have he : Ends _ _ (nextP (b.map (·.toNat)) p) := forSearch_ends (T := b.map (·.toNat)) p (by rw [hsz]; exact hp)
  unfold reNextFound
  exact runToEnd_ev he (small_run (by rw [hsz]; exact hb)) h1 h2
theorem sub_loop {b : Array UInt8} {t u : Tok} {l : Addr} {R : Result → Shared → Prop} {h₀ : Heap} (hb : b.size ≤ 1000) (hl₀ : h₀.get? l = none) (B₀ : Base w h₀) :
    ∀ (k p n : Nat) (h : Heap) (tk : Nat) (vs : Array Value) (parts : List (Array UInt8)), Ext h₀ h → h.PlainList l vs → BytesAre parts vs.toList → p ≤ b.size → b.size - p < k → vs.size ≤ 2 * p → (cat parts).size ≤ p →
      (∀ h' tk' t', Ext h₀ h' → R (.ok (.ret (.bytes (cat parts ++ (subP (b.map (·.toNat)) k p).map (·.toUInt8)) t'))) { s with heap := h', toks := tk' }) →
      codeAny (model prog w) A (.builtin "re.Pattern.sub.loop" ⟨[.ref 36, .bytes b t, .bytes #[] u, rawInt 0, rawInt 0, rawInt (n : Int), rawInt (p : Int), rawInt (p : Int), .bool false, .ref l, .bool false], []⟩) R { s with heap := h, toks := tk } := by
  have hline : b.size ≤ sizeLine := by rw [sizeLine_eq]; omega
  have hsz : (b.map (·.toNat)).size = b.size := Array.size_map
  intro k
  induction k with
  | zero => intro p n h tk vs parts _ _ _ _ hk; omega
  | succ k ih =>
    intro p n h tk vs parts hx hl hv hp hk hvs hcat hR
    refine codeAny_builtin entry_sub_loop ?_
    rw [Around.under_plainId plain_sub_loop _]
    show wpAny _ _ (reWholeTarget (.ref 36) (.bytes b t) >>= _) _ _ _
    refine wpAny_bind (target_ev (B₀.ext hx) ?_)
    show wpAny _ _ (reLiteralCannotBeTurned (.bytes #[] u) >>= _) _ _ _
    refine wpAny_bind (notLit ?_)
    show wpAny _ _ (reNextFound (target b t) (p : Int).toNat false >>= _) _ _ _
    refine wpAny_bind (found_ev hp hb (fun se m hse hm1 hm2 => ?_) (fun hno => ?_))
    · replace hse : nextP (b.map (·.toNat)) p = some se := hse
      have hin : p ≤ se.1 ∧ se.1 + 2 ≤ se.2 ∧ se.2 ≤ b.size := by
        have := nextP_in hse
        rwa [hsz] at this
      have hsub := subP_some (T := b.map (·.toNat)) (k := k) hse
      have hmust : (m.handed == m.start) = false := by rw [hm1, hm2]; exact beq_eq_false_iff_ne.mpr (by omega)
      dsimp only
      rw [hm1, hm2]
      rw [hm1, hm2] at hmust
      have fin : ∀ h' tk' vs' parts', Ext h₀ h' → h'.PlainList l vs' → BytesAre parts' vs'.toList → vs'.size ≤ vs.size + 1 → cat parts' = cat parts ++ b.extract p se.1 →
          wpAny (model prog w) A.in1 (updateSeq l (·.push (.bytes #[] u)) >>= fun _ => again (.builtin "re.Pattern.sub.loop" ⟨[.ref 36, .bytes b t, .bytes #[] u, rawInt 0, rawInt 0, rawInt ((n : Int) + 1), rawInt (se.2 : Int), rawInt (se.2 : Int), .bool (se.2 == se.1), .ref l, .bool false], []⟩))
            (fun fin s' => match fin with | .done f => R (.ok f) s' | .again c' => c'.quiet = true ∧ codeAny (model prog w) A c' R s') (fun e s' => R (.error e) s') { s with heap := h', toks := tk' } := by
        intro h' tk' vs' parts' hx' hl' hv' hs' hc'
        refine wpAny_bind (push_plain hl' (by rw [sizeLine_eq]; omega) fun h'' hl'' hs'' => ?_)
        rw [hmust]
        refine wpAny_pure ⟨plainId_quiet plain_sub_loop _, ?_⟩
        have hx'' : Ext h₀ h'' := hx'.same hs''.extBut hl₀
        have hcx : cat (parts' ++ [#[]]) = cat parts ++ b.extract p se.1 := by rw [cat_snoc, hc']; simp
        refine ih se.2 (n + 1) h'' tk' _ (parts' ++ [#[]]) hx'' hl'' (bytes_snoc hv') hin.2.2 (by omega) (by rw [Array.size_push]; omega) ?_ (fun h₃ tk₃ t₃ hx₃ => ?_)
        · rw [hcx, Array.size_append]
          have : (b.extract p se.1).size ≤ se.1 - p := by simp; omega
          omega
        · have := hR h₃ tk₃ t₃ hx₃
          rw [hcx]
          rw [hsub, Array.map_append, size_of_back, ← Array.append_assoc] at this
          exact this
      by_cases hlt : p < se.1
      · rw [if_pos (show (p : Int).toNat < se.1 by omega)]
        show wpAny _ _ (reSlice (b.map (·.toNat)) 1 p se.1 >>= fun x => updateSeq l (·.push x) >>= _) _ _ _
        refine wpAny_bind (slice_ev hline fun t₂ tk₂ => ?_)
        refine wpAny_bind (push_plain hl (by rw [sizeLine_eq]; omega) fun h' hl' hs' => ?_)
        exact fin h' tk₂ _ _ (hx.same hs'.extBut hl₀) hl' (bytes_snoc hv) (by rw [Array.size_push]; omega) (cat_snoc _ _)
      · rw [if_neg (show ¬ (p : Int).toNat < se.1 by omega)]
        refine fin h tk vs parts hx hl hv (by omega) ?_
        have : b.extract p se.1 = #[] := by apply Array.ext'; simp; omega
        rw [this]; simp
    · replace hno : nextP (b.map (·.toNat)) p = none := hno
      have hsub := subP_none (T := b.map (·.toNat)) (k := k) hno
      rw [hsub] at hR
      dsimp only
      have fin : ∀ h' tk' vs' parts', Ext h₀ h' → h'.PlainList l vs' → BytesAre parts' vs'.toList → cat parts' = cat parts ++ b.extract p b.size →
          wpAny (model prog w) A.in1 (do
              let joiner ← reSlice (b.map (·.toNat)) 1 0 0
              let text ← if ((← seqItems? (.ref l)).getD #[]).isEmpty then pure joiner else call (.builtin "bytes.join") [joiner, .ref l]
              ret text)
            (fun fin s' => match fin with | .done f => R (.ok f) s' | .again c' => c'.quiet = true ∧ codeAny (model prog w) A c' R s') (fun e s' => R (.error e) s') { s with heap := h', toks := tk' } := by
        intro h' tk' vs' parts' hx' hl' hv' hc'
        have hR' : ∀ tk' t', R (.ok (.ret (.bytes (cat parts') t'))) { s with heap := h', toks := tk' } := fun tk' t' => by
          have := hR h' tk' t' hx'
          rwa [size_of_back, hsz, ← hc'] at this
        refine wpAny_bind (slice_ev hline fun t₂ tk₂ => ?_)
        have e0 : b.extract 0 0 = #[] := by apply Array.ext'; simp
        rw [e0]
        obtain ⟨n', ho⟩ := id hl'
        refine wpAny_bind (wpAny_seqItems ho rfl ?_)
        show wpAny _ _ (if vs'.isEmpty = true then _ else _) _ _ _
        by_cases he : vs'.isEmpty = true
        · rw [if_pos he]
          obtain rfl : vs' = #[] := by simpa using he
          have : parts' = [] := by cases parts' with | nil => rfl | cons a r => cases hv'
          refine wpAny_pure ?_
          have := hR' tk₂ t₂
          rw [‹parts' = []›] at this
          exact this
        · rw [if_neg he]
          refine wpAny_bind (wpAny_mono (join_ev (s := { s with heap := h', toks := tk₂ }) (A := A.in1) (Q := fun v s' => ∃ tk t', v = .bytes (cat parts') t' ∧ s' = { s with heap := h', toks := tk }) (E := fun e s' => R (.error e) s') hl' hv' ?_ fun t' tk => ⟨tk, t', rfl, rfl⟩) (fun v s' hv => ?_) fun _ _ e => e)
          · show (cat parts').size ≤ sizeLine
            rw [hc', Array.size_append, sizeLine_eq]
            have : (b.extract p b.size).size ≤ b.size := by simp
            omega
          · obtain ⟨tk, t', rfl, rfl⟩ := hv
            exact wpAny_pure (hR' _ _)
      have elim : (target b t).lim = b.size := hsz
      by_cases hlt : p < b.size
      · rw [if_pos (show (p : Int).toNat < (target b t).lim by omega)]
        show wpAny _ _ (reSlice (b.map (·.toNat)) 1 p (target b t).lim >>= fun x => updateSeq l (·.push x) >>= _) _ _ _
        rw [elim]
        refine wpAny_bind (slice_ev hline fun t₂ tk₂ => ?_)
        refine wpAny_bind (push_plain hl (by rw [sizeLine_eq]; omega) fun h' hl' hs' => ?_)
        exact fin h' tk₂ _ _ (hx.same hs'.extBut hl₀) hl' (bytes_snoc hv) (cat_snoc _ _)
      · rw [if_neg (show ¬ (p : Int).toNat < (target b t).lim by omega)]
        refine fin h tk vs parts hx hl hv ?_
        have : b.extract p b.size = #[] := by apply Array.ext'; simp; omega
        rw [this]; simp
theorem has_pattern (B : Base w s.heap) : Has s (.ref 36) "re.Pattern" := ⟨⟨_, B.K 36 _ rfl, rfl⟩, fun a e => by cases e; exact ⟨_, B.K 36 _ rfl, rfl⟩⟩
theorem sub_call {b : Array UInt8} {t u : Tok} (B : Base w s.heap) (hb : b.size ≤ 1000) :
    Ev (model prog w) A s (call (.builtin "re.Pattern.sub") [.ref 36, .bytes #[] u, .bytes b t]) (fun v _ => ∃ t', v = .bytes ((subP (b.map (·.toNat)) (b.size + 1) 0).map (·.toUInt8)) t') := by
  refine wpAny_call (codeAny_call_builtin slot_sub.plain entry_sub (slot_sub.check _ _ _ _ _ _ _ _ (has_pattern B).1 (args_sub _ _ _) ?_))
  show wpAny _ _ (reSubstitute "re.Pattern.sub" "sub" false ⟨[.ref 36, .bytes #[] u, .bytes b t], []⟩) _ _ _
  unfold reSubstitute
  dsimp only
  refine wpAny_bind (wpAny_of_eq (a := [some (.bytes #[] u), some (.bytes b t), none]) rfl ?_)
  dsimp only
  refine wpAny_bind (wpAny_pure ?_)
  rw [KBy.special_eq no_call_bytes]
  refine wpAny_bind (wpAny_pure ?_)
  refine wpAny_bind (m := asStr? (.bytes #[] u)) (wpAny_of_eq (a := none) rfl ?_)
  show wpAny _ _ (Bytes.bufferQuiet? "re.Pattern.sub" (.bytes #[] u) >>= _) _ _ _
  refine wpAny_bind (wpAny_of_eq KBy.quiet_eq ?_)
  refine wpAny_bind (m := pure (!(#[] : Array UInt8).contains 92)) (wpAny_pure ?_)
  show wpAny _ _ (if (!(#[] : Array UInt8).contains 92) = true then _ else _) _ _ _
  rw [if_pos (by simp)]
  show wpAny _ _ (holding [Value.bytes #[] u] (reWholeTarget (.ref 36) (.bytes b t)) >>= _) _ _ _
  refine wpAny_bind (wpAny_holding (target_ev B ?_))
  show wpAny _ _ (newList [] >>= _) _ _ _
  refine wpAny_bind (wpAny_newList ?_)
  refine wpAny_pure ⟨plainId_quiet plain_sub_loop _, ?_⟩
  refine sub_loop (s := s) (h₀ := s.heap) hb (none_of_le (Nat.le_refl _)) B (b.size + 1) 0 0 _ _ #[] [] (Ext.push _ _) ⟨_, Heap.get?_push_size _ rfl⟩ .nil (Nat.zero_le _) (by omega) (by simp) (by simp [cat]) ?_
  intro h' tk' t' hx
  refine ⟨Keeps.mk _ hx, t', ?_⟩
  have : cat [] = #[] := rfl
  rw [this, Array.empty_append]
end
end Mine
end

section
open PySem PySem.W PyProof.Rows
set_option maxRecDepth 100000
set_option maxHeartbeats 200000
namespace Mine
section
variable {prog : Program} {w : World} {A : Around} {s : Shared} {env : Env}

/-- what _paren_depth adds to the depth it is given -/
def gain (b : Array UInt8) : Int :=
  (((subP (b.map (·.toNat)) (b.size + 1) 0).map (·.toUInt8)).toList.count 40 : Int) - (((subP (b.map (·.toNat)) (b.size + 1) 0).map (·.toUInt8)).toList.count 41 : Int)

theorem has_bytes (s : Shared) (x : Array UInt8) (t : Tok) : Has s (.bytes x t) "bytes" := ⟨typeIs_bytes _ _ _, fun _ e => by cases e⟩
theorem paren_ev {b : Array UInt8} {tb td : Tok} {d : Int} {n : Nat} (B : Base w s.heap) (R : Room A (n + 1)) (hb : b.size ≤ 1000) :
    Ev (model prog w) A s (call (.ref 44) [.bytes b tb, .int d td] []) (fun v _ => ∃ t, v = .int (d + gain b) t) := by
  refine call_own B R rfl rfl (by rfl) rfl (BindsTo.of_defaults rfl (B.K _ _ rfl) rfl rfl rfl) (by decide) (locs rfl) fun h₁ tk hn hx R' => ?_
  refine wpAny_execs_cons ?_
  refine wpAny_Assign_Name ?_
  refine meth2 (T := "re.Pattern") plainAttrs_pattern slot_sub type_sub ?_
  refine wpAny_Name (ld_glob (B.ext hx) rfl ⟨has_pattern (B.ext hx), ?_⟩)
  refine PySem.W.Constant_bytes ?_
  refine wpAny_Name (wpAny_loadName_local rfl rfl hn rfl ?_)
  refine Ev.use (sub_call (B.ext hx) hb) ?_
  rintro _ s₂ hk₂ ⟨t', rfl⟩
  obtain ⟨h₂, tk₂, rfl, hk₂⟩ := hk₂
  refine wpAny_storeName_local rfl (hn.keeps hk₂) fun h₃ hn₃ hs₃ => ?_
  have hx₃ : Ext s.heap h₃ := (hx.trans hk₂).same hs₃.extBut (none_of_le (Nat.le_refl _))
  refine wpAny_execs_cons ?_
  refine wpAny_Return_some (wpAny_BinOp (wpAny_BinOp ?_))
  refine wpAny_Name (wpAny_loadName_local rfl rfl hn₃ rfl ?_)
  refine meth1 (T := "bytes") plainAttrs_bytes slot_bytes_count type_bytes_count ?_
  refine wpAny_Name (wpAny_loadName_local rfl rfl hn₃ rfl ⟨has_bytes _ _ _, ?_⟩)
  refine PySem.W.Constant_bytes (count_call fun t₄ tk₄ => PyProof.Rows.add_int ?_)
  refine meth1 (T := "bytes") plainAttrs_bytes slot_bytes_count type_bytes_count ?_
  refine wpAny_Name (wpAny_loadName_local rfl rfl hn₃ rfl ⟨has_bytes _ _ _, ?_⟩)
  refine PySem.W.Constant_bytes (count_call fun t₅ tk₅ => PyProof.Rows.sub_int ?_)
  exact ⟨Keeps.mk _ hx₃, _, congrArg (fun z => Value.int z _) (Int.add_sub_assoc _ _ _)⟩
theorem paren0_ev {b : Array UInt8} {tb : Tok} {n : Nat} (B : Base w s.heap) (R : Room A (n + 1)) (hb : b.size ≤ 1000) :
    Ev (model prog w) A s (call (.ref 44) [.bytes b tb] []) (fun v _ => ∃ t, v = .int (gain b) t) := by
  refine call_own B R rfl rfl (by rfl) rfl (BindsTo.of_defaults rfl (B.K _ _ rfl) rfl rfl rfl) (by decide) (locs rfl) fun h₁ tk hn hx R' => ?_
  refine wpAny_execs_cons ?_
  refine wpAny_Assign_Name ?_
  refine meth2 (T := "re.Pattern") plainAttrs_pattern slot_sub type_sub ?_
  refine wpAny_Name (ld_glob (B.ext hx) rfl ⟨has_pattern (B.ext hx), ?_⟩)
  refine PySem.W.Constant_bytes ?_
  refine wpAny_Name (wpAny_loadName_local rfl rfl hn rfl ?_)
  refine Ev.use (sub_call (B.ext hx) hb) ?_
  rintro _ s₂ hk₂ ⟨t', rfl⟩
  obtain ⟨h₂, tk₂, rfl, hk₂⟩ := hk₂
  refine wpAny_storeName_local rfl (hn.keeps hk₂) fun h₃ hn₃ hs₃ => ?_
  have hx₃ : Ext s.heap h₃ := (hx.trans hk₂).same hs₃.extBut (none_of_le (Nat.le_refl _))
  refine wpAny_execs_cons ?_
  refine wpAny_Return_some (wpAny_BinOp (wpAny_BinOp ?_))
  refine wpAny_Name (wpAny_loadName_local rfl rfl hn₃ rfl ?_)
  refine meth1 (T := "bytes") plainAttrs_bytes slot_bytes_count type_bytes_count ?_
  refine wpAny_Name (wpAny_loadName_local rfl rfl hn₃ rfl ⟨has_bytes _ _ _, ?_⟩)
  refine PySem.W.Constant_bytes (count_call fun t₄ tk₄ => PyProof.Rows.add_int ?_)
  refine meth1 (T := "bytes") plainAttrs_bytes slot_bytes_count type_bytes_count ?_
  refine wpAny_Name (wpAny_loadName_local rfl rfl hn₃ rfl ⟨has_bytes _ _ _, ?_⟩)
  refine PySem.W.Constant_bytes (count_call fun t₅ tk₅ => PyProof.Rows.sub_int ?_)
  exact ⟨Keeps.mk _ hx₃, _, congrArg (fun z => Value.int z _) ((Int.add_sub_assoc _ _ _).trans (Int.zero_add _))⟩
end
end Mine
end

section
open PySem PySem.W PyProof.Rows
set_option maxRecDepth 100000
set_option maxHeartbeats 200000
namespace Mine
/-! the plain reader of parse_http_list -/
inductive PM where
  | O
  | I
  | E
def parseM : List Nat → List Nat → PM → List (List Nat)
  | [], part, _ => if part = [] then [] else [part]
  | c :: r, part, .E => parseM r (part ++ [c]) .I
  | c :: r, part, .I => if c = 92 then parseM r part .E else if c = 34 then parseM r (part ++ [c]) .O else parseM r (part ++ [c]) .I
  | c :: r, part, .O => if c = 44 then part :: parseM r [] .O else if c = 34 then parseM r (part ++ [c]) .I else parseM r (part ++ [c]) .O
def sOf (l : List Nat) : Str := ⟨l.toArray⟩
theorem sOf_cps (x : Str) : sOf x.cps.toList = x := by cases x; simp [sOf]
theorem sOf_push (l : List Nat) (c : Nat) : sOf l ++ (⟨#[c]⟩ : Str) = sOf (l ++ [c]) := by
  have : (sOf l ++ (⟨#[c]⟩ : Str)).cps = (sOf (l ++ [c])).cps := by rw [Str.cps_append]; simp [sOf]
  cases h : sOf l ++ (⟨#[c]⟩ : Str); cases h' : sOf (l ++ [c])
  rw [h, h'] at this
  exact congrArg _ this
theorem sOf_len (l : List Nat) : (sOf l).length = l.length := by show l.toArray.size = _; simp
abbrev StrsAre : List (List Nat) → List Value → Prop := Paired fun l v => ∃ t, v = .str (sOf l) t

section
variable {prog : Program} {w : World} {A : Around} {s : Shared} {env : Env} {E : Value → Shared → Prop}

structure PF (h₀ : Heap) (L lr : Addr) (h : Heap) (m : Str → Option Value) (acc : List (List Nat)) (part : List Nat) (e q : Bool) : Prop where
  ns : h.Ns L m
  ext : Ext h₀ h
  r : m (Str.ofString "res") = some (.ref lr)
  p : ∃ t, m (Str.ofString "part") = some (.str (sOf part) t)
  es : m (Str.ofString "escape") = some (.bool e)
  qu : m (Str.ofString "quote") = some (.bool q)
  ls : ∃ vs, h.PlainList lr vs ∧ StrsAre acc vs.toList
variable {h₀ h h' : Heap} {L lr : Addr} {m : Str → Option Value} {acc : List (List Nat)} {part : List Nat} {e q : Bool}
theorem PF.grow (f : PF h₀ L lr h m acc part e q) (k : Ext h h') : PF h₀ L lr h' m acc part e q where
  ns := f.ns.keeps k
  ext := f.ext.trans k
  r := f.r
  p := f.p
  es := f.es
  qu := f.qu
  ls := let ⟨vs, p, q⟩ := f.ls; ⟨vs, p.at fun o e => k _ o e, q⟩
theorem PF.iter {I : Addr} (f : PF h₀ L lr h m acc part e q) (k : Heap.ExtBut I h h') (hI : h₀.get? I = none) (h1 : L ≠ I) (h2 : lr ≠ I) : PF h₀ L lr h' m acc part e q where
  ns := f.ns.extBut k h1
  ext := f.ext.same k hI
  r := f.r
  p := f.p
  es := f.es
  qu := f.qu
  ls := let ⟨vs, p, q⟩ := f.ls; ⟨vs, p.extBut k h2, q⟩
theorem PF.lsSet {y : Str} {v : Value} (f : PF h₀ L lr h m acc part e q) (hs : Heap.SameBut L h h') : ∃ vs, h'.PlainList lr vs ∧ StrsAre acc vs.toList :=
  let ⟨vs, p, q⟩ := f.ls; ⟨vs, p.extBut hs.extBut (Ne.symm (ns_plain_ne f.ns p)), q⟩
theorem PF.set {y : Str} {v : Value} (f : PF h₀ L lr h m acc part e q) (hn : h'.Ns L (fun z => if z = y then some v else m z)) (hs : Heap.SameBut L h h') (hL : h₀.get? L = none)
    (h1 : Str.ofString "res" ≠ y := by decide) (h2 : Str.ofString "part" ≠ y := by decide) (h3 : Str.ofString "escape" ≠ y := by decide) (h4 : Str.ofString "quote" ≠ y := by decide) :
    PF h₀ L lr h' (fun z => if z = y then some v else m z) acc part e q where
  ns := hn
  ext := f.ext.same hs.extBut hL
  r := (if_neg h1).trans f.r
  p := let ⟨t, ht⟩ := f.p; ⟨t, (if_neg h2).trans ht⟩
  es := (if_neg h3).trans f.es
  qu := (if_neg h4).trans f.qu
  ls := f.lsSet (y := y) (v := v) hs
theorem PF.setE {b : Bool} (f : PF h₀ L lr h m acc part e q) (hn : h'.Ns L (fun z => if z = Str.ofString "escape" then some (.bool b) else m z)) (hs : Heap.SameBut L h h') (hL : h₀.get? L = none) :
    PF h₀ L lr h' (fun z => if z = Str.ofString "escape" then some (.bool b) else m z) acc part b q where
  ns := hn
  ext := f.ext.same hs.extBut hL
  r := (if_neg (by decide)).trans f.r
  p := let ⟨t, ht⟩ := f.p; ⟨t, (if_neg (by decide)).trans ht⟩
  es := if_pos rfl
  qu := (if_neg (by decide)).trans f.qu
  ls := f.lsSet (y := Str.ofString "escape") (v := .bool b) hs
theorem PF.setQ {b : Bool} (f : PF h₀ L lr h m acc part e q) (hn : h'.Ns L (fun z => if z = Str.ofString "quote" then some (.bool b) else m z)) (hs : Heap.SameBut L h h') (hL : h₀.get? L = none) :
    PF h₀ L lr h' (fun z => if z = Str.ofString "quote" then some (.bool b) else m z) acc part e b where
  ns := hn
  ext := f.ext.same hs.extBut hL
  r := (if_neg (by decide)).trans f.r
  p := let ⟨t, ht⟩ := f.p; ⟨t, (if_neg (by decide)).trans ht⟩
  es := (if_neg (by decide)).trans f.es
  qu := if_pos rfl
  ls := f.lsSet (y := Str.ofString "quote") (v := .bool b) hs
theorem PF.setP {part' : List Nat} {t : Tok} (f : PF h₀ L lr h m acc part e q) (hn : h'.Ns L (fun z => if z = Str.ofString "part" then some (.str (sOf part') t) else m z)) (hs : Heap.SameBut L h h') (hL : h₀.get? L = none) :
    PF h₀ L lr h' (fun z => if z = Str.ofString "part" then some (.str (sOf part') t) else m z) acc part' e q where
  ns := hn
  ext := f.ext.same hs.extBut hL
  r := (if_neg (by decide)).trans f.r
  p := ⟨t, if_pos rfl⟩
  es := (if_neg (by decide)).trans f.es
  qu := (if_neg (by decide)).trans f.qu
  ls := f.lsSet (y := Str.ofString "part") (v := .str (sOf part') t) hs
theorem PF.more {vs : Array Value} {l : List Nat} {t : Tok} (f : PF h₀ L lr h m acc part e q) (hlr : h₀.get? lr = none) (p : h.PlainList lr vs) (hq : StrsAre acc vs.toList)
    (hp : h'.PlainList lr (vs.push (.str (sOf l) t))) (hs : Heap.SameBut lr h h') : PF h₀ L lr h' m (acc ++ [l]) part e q where
  ns := f.ns.extBut hs.extBut (ns_plain_ne f.ns p)
  ext := f.ext.same hs.extBut hlr
  r := f.r
  p := f.p
  es := f.es
  qu := f.qu
  ls := ⟨_, hp, by rw [Array.toList_push]; exact Paired.snoc hq ⟨t, rfl⟩⟩

theorem part_add {c : Nat} {u : Tok} {p1 p2 pos : Pos} {Q : Flow → Shared → Prop} (f : PF h₀ env.locals lr s.heap m acc part e q) (hL : h₀.get? env.locals = none) (hc : m (Str.ofString "cur") = some (.str ⟨#[c]⟩ u)) (hsz : part.length ≤ 1000)
    (h : ∀ h' tk m', PF h₀ env.locals lr h' m' acc (part ++ [c]) e q → m' (Str.ofString "cur") = some (.str ⟨#[c]⟩ u) → Heap.SameBut env.locals s.heap h' → Q .next { s with heap := h', toks := tk })
    (hk : env.scope.kind = .function := by rfl) (hk1 : env.kindOf (Str.ofString "part") = some .local := by rfl) (hk2 : env.kindOf (Str.ofString "cur") = some .local := by rfl) :
    wpAny (model prog w) A (exec (.AugAssign (.Name (Str.ofString "part") p1) .Add (.Name (Str.ofString "cur") p2) pos) env) Q E s := by
  have hp := f.p
  obtain ⟨t, ht⟩ := hp
  refine wpAny_AugAssign_Name (wpAny_loadName_local hk hk1 f.ns ht ?_)
  refine wpAny_Name (wpAny_loadName_local hk hk2 f.ns hc ?_) (by decide)
  refine PyProof.Rows.iadd_str (fun t' tk' => ?_) ?_
  · rw [sOf_push]
    refine wpAny_storeName_local hk1 f.ns (fun h₂ hn₂ hs₂ => ?_) (by rw [hk]; rfl)
    exact h _ _ _ (f.setP hn₂ hs₂ hL) ((if_neg (by decide)).trans hc) hs₂
  · rw [sOf_len, sizeLine_eq]; show part.length + 1 ≤ _; omega
end
end Mine
end

section
open PySem PySem.W PyProof.Rows
set_option maxRecDepth 100000
set_option maxHeartbeats 2000000
namespace Mine
section
variable {prog : Program} {w : World} {A : Around} {s : Shared} {env : Env} {E : Value → Shared → Prop}
def PM.e : PM → Bool
  | .E => true
  | _ => false
def PM.q : PM → Bool
  | .O => false
  | _ => true
theorem PM.isE {md : PM} (h : md.e = true) : md = .E := by cases md <;> simp_all [PM.e]
theorem PM.isI {md : PM} (h : md.e = false) (h' : md.q = true) : md = .I := by cases md <;> simp_all [PM.e, PM.q]
theorem PM.isO {md : PM} (h : md.e = false) (h' : md.q = false) : md = .O := by cases md <;> simp_all [PM.e, PM.q]
/-- what stands behind i signs -/
structure PI (T : List Nat) (i : Nat) (acc : List (List Nat)) (part : List Nat) (md : PM) : Prop where
  eq : acc ++ parseM (T.drop i) part md = parseM T [] .O
  sz : part.length ≤ i
  az : acc.length ≤ i
theorem PI.step {T : List Nat} {i c : Nat} {acc acc' : List (List Nat)} {part part' : List Nat} {md md' : PM} (x : PI T i acc part md) (hc : T[i]? = some c)
    (h : ∀ r, acc ++ parseM (c :: r) part md = acc' ++ parseM r part' md') (h1 : part'.length ≤ part.length + 1) (h2 : acc'.length ≤ acc.length + 1) : PI T (i + 1) acc' part' md' where
  eq := by rw [← h, ← drop_cons hc]; exact x.eq
  sz := by have := x.sz; omega
  az := by have := x.az; omega
theorem comma_str : Str.ofString "," = ⟨#[44]⟩ := by decide +kernel
theorem eq_one {c d : Nat} : ((⟨#[c]⟩ : Str) == ⟨#[d]⟩) = decide (c = d) := by
  by_cases h : c = d
  · subst h; simp
  · simp [h]
theorem is_quote {c : Nat} (h : ((⟨#[c]⟩ : Str) == Str.ofString "\"") = true) : c = 34 := by
  rw [quote_str, eq_one] at h; exact of_decide_eq_true h
theorem no_quote {c : Nat} (h : ((⟨#[c]⟩ : Str) == Str.ofString "\"") = false) : c ≠ 34 := by
  rw [quote_str, eq_one] at h; exact of_decide_eq_false h
theorem is_comma {c : Nat} (h : ((⟨#[c]⟩ : Str) == Str.ofString ",") = true) : c = 44 := by
  rw [comma_str, eq_one] at h; exact of_decide_eq_true h
theorem no_comma {c : Nat} (h : ((⟨#[c]⟩ : Str) == Str.ofString ",") = false) : c ≠ 44 := by
  rw [comma_str, eq_one] at h; exact of_decide_eq_false h
theorem empty_str : Str.ofString "" = sOf [] := by decide +kernel

theorem strs_fit {acc : List (List Nat)} {vs : Array Value} {i : Nat} (p : StrsAre acc vs.toList) (h : acc.length ≤ i) (hi : i ≤ 1000) : vs.size ≤ sizeLine := by
  have e1 := paired_len p
  have e2 : vs.toList.length = vs.size := Array.length_toList
  rw [sizeLine_eq]; omega
theorem PF.setP0 {h₀ h h' : Heap} {L lr : Addr} {m : Str → Option Value} {acc : List (List Nat)} {part : List Nat} {e q : Bool} {t : Tok} (f : PF h₀ L lr h m acc part e q) (hn : h'.Ns L (fun z => if z = Str.ofString "part" then some (.str (Str.ofString "") t) else m z)) (hs : Heap.SameBut L h h') (hL : h₀.get? L = none) :
    PF h₀ L lr h' (fun z => if z = Str.ofString "part" then some (.str (Str.ofString "") t) else m z) acc [] e q := by
  rw [empty_str] at hn ⊢
  exact f.setP hn hs hL
theorem parseM_len : ∀ (t part : List Nat) (md : PM) (l : List Nat), l ∈ parseM t part md → l.length ≤ part.length + t.length
  | [], part, md, l, h => by
    unfold parseM at h
    split at h
    · cases h
    · obtain rfl := List.mem_singleton.mp h; omega
  | c :: r, part, .E, l, h => by have := parseM_len r _ _ l h; simp at this ⊢; omega
  | c :: r, part, .I, l, h => by
    simp only [parseM] at h
    split at h
    · have := parseM_len r _ _ l h; simp at this ⊢; omega
    · split at h
      · have := parseM_len r _ _ l h; simp at this ⊢; omega
      · have := parseM_len r _ _ l h; simp at this ⊢; omega
  | c :: r, part, .O, l, h => by
    simp only [parseM] at h
    split at h
    · rcases List.mem_cons.mp h with rfl | h
      · omega
      · have := parseM_len r _ _ l h; simp at this ⊢; omega
    · split at h
      · have := parseM_len r _ _ l h; simp at this ⊢; omega
      · have := parseM_len r _ _ l h; simp at this ⊢; omega
theorem paired_mem {α β : Type} {F : α → β → Prop} : ∀ {xs : List α} {ys : List β}, Paired F xs ys → ∀ y ∈ ys, ∃ x ∈ xs, F x y
  | _, _, .cons h t, y, hy => by
    rcases List.mem_cons.mp hy with rfl | hy
    · exact ⟨_, .head _, h⟩
    · obtain ⟨x, hx, hf⟩ := paired_mem t y hy; exact ⟨x, .tail _ hx, hf⟩
theorem paired_comp {α β γ : Type} {F : α → β → Prop} {G : β → γ → Prop} {H : α → γ → Prop} (k : ∀ a b c, F a b → G b c → H a c) : ∀ {xs : List α} {ys : List β} {zs : List γ}, Paired F xs ys → Paired G ys zs → Paired H xs zs
  | _, _, _, .nil, .nil => .nil
  | _, _, _, .cons h t, .cons h' t' => .cons (k _ _ _ h h') (paired_comp k t t')
theorem list_same {vs : List Value} {ws : Array Value} (h : vs.length = ws.size) (hg : ∀ (j : Nat) (v : Value), vs[j]? = some v → ws[j]? = some v) : vs = ws.toList := by
  apply List.ext_getElem?
  intro j
  have e2 : ws.toList[j]? = ws[j]? := by simp
  rw [e2]
  cases e : vs[j]? with
  | none =>
    have : vs.length ≤ j := by simpa using e
    exact (Array.getElem?_eq_none (xs := ws) (by omega)).symm
  | some v => rw [hg j v e]
theorem filter_yes (vs : List Value) : vs.filter (fun _ => true) = vs := by simp
/-- [part.strip() for part in res] -/
theorem strips_ev {scope : Scope} {pos p1 p2 p3 p4 p5 : Pos} {vs : Array Value} {acc : List (List Nat)} {lr : Addr} {m : Str → Option Value} {P : Value → Shared → Prop}
    (hh : A.handled = none) (hn : s.heap.Ns env.locals m) (hm : m (Str.ofString "res") = some (.ref lr)) (hl : s.heap.PlainList lr vs) (hp : StrsAre acc vs.toList) (hb : ∀ l ∈ acc, l.length ≤ 2000) (hbn : acc.length ≤ 2000)
    (hP : ∀ D s' ys, s.heap.get? D = none → Keeps s s' → s'.heap.PlainList D ys → Paired (fun l v => ∃ t, v = .str (Txt.strip (sOf l)) t) acc ys.toList → P (.ref D) s')
    (hs : scope.names = [(Str.ofString ".0", .local), (Str.ofString "part", .local)]) (hkind : scope.kind = .function)
    (hk : env.scope.kind = .function := by rfl) (hk1 : env.kindOf (Str.ofString "res") = some .local := by rfl) (hline : (p2.endLine == p3.line) = true := by rfl) :
    wpAny (model prog w) A (eval (.ListComp (.Call (.Attribute (.Name (Str.ofString "part") p1) (Str.ofString "strip") p2) [] [] p3) [⟨.Name (Str.ofString "part") p4, .Name (Str.ofString "res") p5, [], 0⟩] scope pos) env) P E s := by
  have hloc : scope.names.lookup (Str.ofString "part") = some .local := by rw [hs]; rfl
  refine wpAny_ListComp_walk (fun _ => true) (fun v y => ∃ l t t', v = .str (sOf l) t ∧ y = .str (Txt.strip (sOf l)) t') (by rw [hs]; decide) (by rw [hs]; decide) hkind (by rw [hs]; decide) hloc ?_
  refine wpAny_Name (wpAny_loadName_local hk hk1 hn hm ?_) (by decide)
  have hne : lr ≠ s.heap.objs.size := Nat.ne_of_lt (let ⟨_, e⟩ := hl; Heap.lt_size e)
  refine wpAny_pyIter_list hl.isList ?_
  have hfr : ∀ b, b ∈ [s.heap.objs.size] → s.heap.get? b = none := fun b hb => by rw [List.mem_singleton.mp hb]; exact none_of_le (Nat.le_refl _)
  have hlen : vs.size = acc.length := by rw [paired_len hp, Array.length_toList]
  refine ⟨_, _, _, _, _, _, rfl, Walks.list hh s.heap.objs.size lr hne vs, by rw [hlen, sizeLine_eq]; omega, ⟨⟨_, Heap.get?_push_size _ rfl, rfl, rfl⟩, hl.isList.push _⟩, ?_, ⟨?_, ?_⟩, ?_⟩
  · intro b hb
    show b < (s.heap.push _).objs.size
    rw [Heap.size_push]
    simp only [List.mem_cons, List.not_mem_nil, or_false] at hb
    rcases hb with rfl | rfl
    · exact Nat.lt_succ_self _
    · obtain ⟨_, e⟩ := hl; exact Nat.lt_succ_of_lt (Heap.lt_size e)
  · intro C i v s₃ m₃ E' _ _ _ _ _
    exact wpAny_tests_nil ⟨rfl, Keeps.rfl' _⟩
  · intro C i v s₃ m₃ E' hv _ hn₃ hm₃ _ _
    obtain ⟨l, hl, t, rfl⟩ := paired_mem hp v (by rw [Array.mem_toList_iff]; exact Array.mem_of_getElem? hv)
    refine meth0 (T := "str") F.plainAttrs_str F.slot_str_strip F.type_str_strip ?_ rfl hline
    refine wpAny_Name (wpAny_loadName_local hkind hloc hn₃ hm₃ ⟨has_str _ _ _, ?_⟩) (by decide)
    refine SC.strip (fun t' k => ⟨⟨l, t, t', rfl, rfl⟩, Keeps.mk _ (Ext.rfl' _)⟩) ?_
    have := hb l hl
    rw [sOf_len, sizeLine_eq]; omega
  · intro D h' tk ys vs' hD _ hpl hlen' hget hF hk'
    rw [filter_yes, list_same hlen' hget] at hF
    have hD' : s.heap.get? D = none := by
      cases e : s.heap.get? D with
      | none => rfl
      | some o => have := Heap.get?_push_of_some { cls := .type "list_iterator", data := .fields #[.ref lr, .int 0 0] } e; exact absurd (hD.symm.trans (Heap.get?_push_of_some _ e)) (by simp)
    have hx : Ext s.heap h' := fun b o e => hk' b o (fun hb => by rw [hfr b hb] at e; cases e) (Heap.get?_push_of_some _ e)
    exact hP D _ ys hD' (Keeps.mk s hx) hpl (paired_comp (fun a b c h1 h2 => by
      obtain ⟨t, rfl⟩ := h1
      obtain ⟨l, t1, t2, e1, e2⟩ := h2
      have e3 : sOf a = sOf l := by injection e1
      exact ⟨t2, by rw [e2, e3]⟩) hp hF)
theorem part_fits {part : List Nat} (h : part.length ≤ 1000) : ¬ ((sOf part).length : Int) ≥ 2 ^ 63 := by rw [sOf_len]; omega
theorem part_some {part : List Nat} (h : (((sOf part).length : Int) != 0) = true) : part ≠ [] := by
  rintro rfl; simp [sOf_len] at h
theorem part_none {part : List Nat} (h : (((sOf part).length : Int) != 0) = false) : part = [] := by
  rw [sOf_len] at h; simpa using h
theorem parse_ev {x : Str} {tx : Tok} {n : Nat} (B : Base w s.heap) (R : Room A (n + 1)) (hsz : x.cps.size ≤ 1000) :
    Ev (model prog w) A s (call (.ref 49) [.str x tx] []) (fun v s' => ∃ D vs, v = .ref D ∧ s.heap.get? D = none ∧ s'.heap.PlainList D vs ∧ Paired (fun l v => ∃ t, v = .str (Txt.strip (sOf l)) t) (parseM x.cps.toList [] .O) vs.toList) := by
  refine call_own B R rfl rfl (by rfl) rfl (BindsTo.of_eq rfl) (by decide) (locs rfl) fun h₁ tk hn hx R' => ?_
  have hLn : s.heap.get? s.heap.objs.size = none := none_of_le (Nat.le_refl _)
  have hL₁ : s.heap.objs.size < h₁.objs.size := hn.lt
  refine wpAny_execs_cons (wpAny_Assign_Name (List_ (Calls.spliced_nil (wpAny_newList ?_))))
  refine wpAny_storeName_local rfl (hn.keeps (Ext.push _ _)) fun h₂ hn₂ hs₂ => ?_
  refine wpAny_execs_cons (wpAny_Assign_Name (wpAny_Constant_str ?_))
  refine wpAny_storeName_local rfl hn₂ fun h₃ hn₃ hs₃ => ?_
  refine wpAny_execs_cons (wpAny_Assign_two ?_)
  refine wpAny_Constant_bool ?_
  refine wpAny_assign_Name (wpAny_storeName_local rfl hn₃ fun h₄ hn₄ hs₄ => ?_)
  refine wpAny_assign_Name (wpAny_storeName_local rfl hn₄ fun h₅ hn₅ hs₅ => ?_)
  have F₅ : PF s.heap s.heap.objs.size h₁.objs.size h₅ _ [] [] false false := {
    ns := hn₅
    ext := ((((hx.trans (Ext.push _ _)).same hs₂.extBut hLn).same hs₃.extBut hLn).same hs₄.extBut hLn).same hs₅.extBut hLn
    r := rfl
    p := ⟨_, congrArg (fun z => some (Value.str z _)) empty_str⟩
    es := rfl
    qu := rfl
    ls := ⟨#[], (((Heap.PlainList.extBut ⟨_, Heap.get?_push_size _ rfl⟩ hs₂.extBut (Ne.symm (Nat.ne_of_lt hL₁))).extBut hs₃.extBut (Ne.symm (Nat.ne_of_lt hL₁))).extBut hs₄.extBut (Ne.symm (Nat.ne_of_lt hL₁))).extBut hs₅.extBut (Ne.symm (Nat.ne_of_lt hL₁)), .nil⟩ }
  have hlr : s.heap.get? h₁.objs.size = none := none_of_le (Nat.le_of_lt hL₁)
  have hLr : s.heap.objs.size ≠ h₁.objs.size := Nat.ne_of_lt hL₁
  refine wpAny_execs_cons ?_
  refine wpAny_For ?_
  refine wpAny_Name (wpAny_loadName_local rfl rfl hn₅ rfl ?_)
  refine wpAny_pyIter_str fun o St W hst => ?_
  have hL5 : s.heap.objs.size < h₅.objs.size := hn₅.lt
  have hlr5 : h₁.objs.size < h₅.objs.size := by
    have q := F₅.ls
    obtain ⟨vs, p, _⟩ := q
    obtain ⟨n, e⟩ := p
    exact Heap.lt_size e
  refine for_walk (W := [s.heap.objs.size, h₁.objs.size]) (h₀ := s.heap) (W _ R'.hh) (fun i h => ∃ m acc part md, PF s.heap s.heap.objs.size h₁.objs.size h m acc part (PM.e md) (PM.q md) ∧ PI x.cps.toList i acc part md) hst
    ⟨_, [], [], .O, F₅.grow (Ext.push _ _), ⟨rfl, Nat.le_refl _, Nat.le_refl _⟩⟩ (F₅.ext.trans (Ext.push _ _)) (none_of_le (Nat.le_of_lt hL5)) ?_ ?_ ?_ ?_ ?_
  · intro b hb
    simp only [List.mem_cons, List.not_mem_nil, or_false] at hb
    rcases hb with rfl | rfl
    · exact hLn
    · exact hlr
  · intro b hb hf
    simp only [List.mem_cons, List.not_mem_nil, or_false] at hb hf
    subst hf
    rcases hb with e | e
    · exact absurd (show h₅.objs.size = s.heap.objs.size from e) (Nat.ne_of_gt hL5)
    · exact absurd (show h₅.objs.size = h₁.objs.size from e) (Nat.ne_of_gt hlr5)
  · rintro i h h' _ ⟨m, acc, part, md, Fh, Ph⟩ hk
    exact ⟨m, acc, part, md, Fh.iter hk (none_of_le (Nat.le_of_lt hL5)) (Nat.ne_of_lt hL5) (Nat.ne_of_lt hlr5), Ph⟩
  · rintro i v h tk hi ⟨c, u, hc, rfl⟩ _ hxh ⟨m, acc, part, md, Fh, Ph⟩
    have hct : x.cps.toList[i]? = some c := by rw [Array.getElem?_toList]; exact hc
    have hps : part.length ≤ 1000 := by have := Ph.sz; omega
    refine wpAny_assign_Name (wpAny_storeName_local rfl Fh.ns fun h₆ hn₆ hs₆ => ?_)
    have F₆ := Fh.set hn₆ hs₆ hLn
    have hb₆ : But [s.heap.objs.size, h₁.objs.size] h h₆ := But.one hs₆ (.head _)
    refine wpAny_execs_cons (If2 (wpAny_isTrue_value (wpAny_Name (wpAny_loadName_local rfl rfl F₆.ns F₆.es (wpAny_truthy_bool ⟨fun he => ?_, fun he => ?_⟩)))))
    · obtain rfl : md = .E := PM.isE he
      refine wpAny_execs_cons (part_add F₆ hLn rfl hps fun h₇ tk₇ m₇ F₇ hc₇ hs₇ => ?_)
      refine wpAny_execs_cons (wpAny_Assign_Name (wpAny_Constant_bool ?_))
      refine wpAny_storeName_local rfl F₇.ns fun h₈ hn₈ hs₈ => ?_
      have F₈ := F₇.setE hn₈ hs₈ hLn
      refine wpAny_execs_cons (wpAny_Continue ?_)
      exact ⟨.inr rfl, h₈, _, rfl, (hb₆.trans (But.one hs₇ (.head _))).trans (But.one hs₈ (.head _)), _, acc, part ++ [c], .I, F₈, Ph.step hct (fun r => rfl) (by simp) (by omega)⟩
    · refine wpAny_execs_nil ?_
      refine wpAny_execs_cons (If2 (wpAny_isTrue_value (wpAny_Name (wpAny_loadName_local rfl rfl F₆.ns F₆.qu (wpAny_truthy_bool ⟨fun hq => ?_, fun hq => ?_⟩)))))
      · obtain rfl : md = .I := PM.isI he hq
        refine wpAny_execs_cons (If2 (wpAny_isTrue_Compare1 ?_))
        refine wpAny_Name (wpAny_loadName_local rfl rfl F₆.ns rfl ?_)
        refine wpAny_Constant_str (PyProof.Rows.eq_str (wpAny_truthy_bool ⟨fun h1 => ?_, fun h1 => ?_⟩))
        · have hc92 := eq_back h1
          subst hc92
          refine wpAny_execs_cons (wpAny_Assign_Name (wpAny_Constant_bool ?_))
          refine wpAny_storeName_local rfl F₆.ns fun h₈ hn₈ hs₈ => ?_
          have F₈ := F₆.setE hn₈ hs₈ hLn
          refine wpAny_execs_cons (wpAny_Continue ?_)
          exact ⟨.inr rfl, h₈, _, rfl, hb₆.trans (But.one hs₈ (.head _)), _, acc, part, .E, F₈, Ph.step hct (fun r => rfl) (by omega) (by omega)⟩
        · have hc92 := ne_back h1
          refine wpAny_execs_cons (If2 (wpAny_isTrue_Compare1 ?_))
          refine wpAny_Name (wpAny_loadName_local rfl rfl F₆.ns rfl ?_)
          refine wpAny_Constant_str (PyProof.Rows.eq_str (wpAny_truthy_bool ⟨fun h2 => ?_, fun h2 => ?_⟩))
          · have hc34 := is_quote h2
            subst hc34
            refine wpAny_execs_cons (wpAny_Assign_Name (wpAny_Constant_bool ?_))
            refine wpAny_storeName_local rfl F₆.ns fun h₇ hn₇ hs₇ => ?_
            have F₇ := F₆.setQ hn₇ hs₇ hLn
            refine wpAny_execs_nil (wpAny_execs_nil ?_)
            refine wpAny_execs_cons (part_add F₇ hLn rfl hps fun h₈ tk₈ m₈ F₈ hc₈ hs₈ => ?_)
            refine wpAny_execs_cons (wpAny_Continue ?_)
            exact ⟨.inr rfl, h₈, _, rfl, (hb₆.trans (But.one hs₇ (.head _))).trans (But.one hs₈ (.head _)), _, acc, part ++ [34], .O, F₈, Ph.step hct (fun r => rfl) (by simp) (by omega)⟩
          · have hc34 := no_quote h2
            refine wpAny_execs_nil (wpAny_execs_nil ?_)
            refine wpAny_execs_cons (part_add F₆ hLn rfl hps fun h₈ tk₈ m₈ F₈ hc₈ hs₈ => ?_)
            refine wpAny_execs_cons (wpAny_Continue ?_)
            exact ⟨.inr rfl, h₈, _, rfl, hb₆.trans (But.one hs₈ (.head _)), _, acc, part ++ [c], .I, F₈, Ph.step hct (fun r => by simp only [parseM, if_neg hc92, if_neg hc34]) (by simp) (by omega)⟩
      · obtain rfl : md = .O := PM.isO he hq
        refine wpAny_execs_nil ?_
        refine wpAny_execs_cons (If2 (wpAny_isTrue_Compare1 ?_))
        refine wpAny_Name (wpAny_loadName_local rfl rfl F₆.ns rfl ?_)
        refine wpAny_Constant_str (PyProof.Rows.eq_str (wpAny_truthy_bool ⟨fun h1 => ?_, fun h1 => ?_⟩))
        · have hc44 := is_comma h1
          subst hc44
          have q1 := F₆.ls
          have q2 := F₆.p
          obtain ⟨vs, p1, p2⟩ := q1
          obtain ⟨tp, hp⟩ := q2
          refine wpAny_execs_cons (append_stmt (l := h₁.objs.size) (xs := vs) ?_)
          refine wpAny_Name (wpAny_loadName_local rfl rfl F₆.ns F₆.r ⟨rfl, p1, ?_⟩)
          refine wpAny_Name (wpAny_loadName_local rfl rfl F₆.ns hp ⟨p1, strs_fit p2 Ph.az (by omega), fun h₇ hp₇ hs₇ => ?_⟩)
          have F₇ := F₆.more hlr p1 p2 hp₇ hs₇
          refine wpAny_execs_cons (wpAny_Assign_Name (wpAny_Constant_str ?_))
          refine wpAny_storeName_local rfl F₇.ns fun h₈ hn₈ hs₈ => ?_
          have F₈ := F₇.setP0 hn₈ hs₈ hLn
          refine wpAny_execs_cons (wpAny_Continue ?_)
          exact ⟨.inr rfl, h₈, _, rfl, (hb₆.trans (But.one hs₇ (.tail _ (.head _)))).trans (But.one hs₈ (.head _)), _, acc ++ [part], [], .O, F₈, Ph.step hct (fun r => by simp [parseM]) (by simp) (by simp)⟩
        · have hc44 := no_comma h1
          refine wpAny_execs_nil ?_
          refine wpAny_execs_cons (If2 (wpAny_isTrue_Compare1 ?_))
          refine wpAny_Name (wpAny_loadName_local rfl rfl F₆.ns rfl ?_)
          refine wpAny_Constant_str (PyProof.Rows.eq_str (wpAny_truthy_bool ⟨fun h2 => ?_, fun h2 => ?_⟩))
          · have hc34 := is_quote h2
            subst hc34
            refine wpAny_execs_cons (wpAny_Assign_Name (wpAny_Constant_bool ?_))
            refine wpAny_storeName_local rfl F₆.ns fun h₇ hn₇ hs₇ => ?_
            have F₇ := F₆.setQ hn₇ hs₇ hLn
            refine wpAny_execs_nil ?_
            refine wpAny_execs_cons (part_add F₇ hLn rfl hps fun h₈ tk₈ m₈ F₈ hc₈ hs₈ => ?_)
            exact wpAny_execs_nil ⟨.inl rfl, h₈, _, rfl, (hb₆.trans (But.one hs₇ (.head _))).trans (But.one hs₈ (.head _)), _, acc, part ++ [34], .I, F₈, Ph.step hct (fun r => rfl) (by simp) (by omega)⟩
          · have hc34 := no_quote h2
            refine wpAny_execs_nil ?_
            refine wpAny_execs_cons (part_add F₆ hLn rfl hps fun h₈ tk₈ m₈ F₈ hc₈ hs₈ => ?_)
            exact wpAny_execs_nil ⟨.inl rfl, h₈, _, rfl, hb₆.trans (But.one hs₈ (.head _)), _, acc, part ++ [c], .O, F₈, Ph.step hct (fun r => by simp only [parseM, if_neg hc44, if_neg hc34]) (by simp) (by omega)⟩
  · rintro h tk hxh ⟨m, acc, part, md, Fh, Ph⟩
    have q2 := Fh.p
    obtain ⟨tp, hp⟩ := q2
    have hps : part.length ≤ 1000 := by have := Ph.sz; omega
    have hend : acc ++ (if part = [] then [] else [part]) = parseM x.cps.toList [] .O := by
      have := Ph.eq
      rw [List.drop_eq_nil_of_le (by rw [Array.length_toList]; exact Nat.le_refl _)] at this
      exact this
    refine wpAny_execs_cons ?_
    refine wpAny_mono (Q := fun f s' => f = .next ∧ ∃ h' tk' m', s' = { s with heap := h', toks := tk' } ∧ PF s.heap s.heap.objs.size h₁.objs.size h' m' (parseM x.cps.toList [] .O) part (PM.e md) (PM.q md)) (If2 (wpAny_isTrue_value (wpAny_Name (wpAny_loadName_local rfl rfl Fh.ns hp (P.truthy_str (part_fits hps) ⟨fun hq => ?_, fun hq => ?_⟩))))) ?_ fun _ _ e => e
    · have hne : part ≠ [] := part_some hq
      rw [if_neg hne] at hend
      have q1 := Fh.ls
      obtain ⟨vs, p1, p2⟩ := q1
      refine wpAny_execs_cons (append_stmt (l := h₁.objs.size) (xs := vs) ?_)
      refine wpAny_Name (wpAny_loadName_local rfl rfl Fh.ns Fh.r ⟨rfl, p1, ?_⟩)
      refine wpAny_Name (wpAny_loadName_local rfl rfl Fh.ns hp ⟨p1, strs_fit p2 Ph.az hsz, fun h₇ hp₇ hs₇ => ?_⟩)
      have F₇ := Fh.more hlr p1 p2 hp₇ hs₇
      rw [hend] at F₇
      exact wpAny_execs_nil ⟨rfl, h₇, _, _, rfl, F₇⟩
    · have he : part = [] := part_none hq
      subst he
      rw [if_pos rfl, List.append_nil] at hend
      subst hend
      exact wpAny_execs_nil ⟨rfl, h, _, _, rfl, Fh⟩
    · rintro _ _ ⟨rfl, h', tk', m', rfl, F'⟩
      have q1 := F'.ls
      obtain ⟨vs, p1, p2⟩ := q1
      refine wpAny_execs_cons (wpAny_Return_some (strips_ev R'.hh F'.ns F'.r p1 p2 ?_ ?_ ?_ rfl rfl))
      · intro l hl
        have := parseM_len _ _ _ l hl
        rw [Array.length_toList] at this
        simp at this; omega
      · have e1 := congrArg List.length hend
        rw [← hend, List.length_append]
        have := Ph.az
        have : (if part = [] then ([] : List (List Nat)) else [part]).length ≤ 1 := by split <;> simp
        omega
      · intro D s' ys hD hks hpl hpr
        obtain ⟨h'', tk'', rfl, hk''⟩ := hks
        refine ⟨Keeps.mk _ (F'.ext.trans hk''), D, ys, rfl, ?_, hpl, hpr⟩
        cases e : s.heap.get? D with
        | none => rfl
        | some o => rw [F'.ext _ _ e] at hD; cases hD
end
end Mine
end

section
open PySem PySem.W PyProof.Rows
set_option maxRecDepth 100000
set_option maxHeartbeats 400000
namespace Mine
section
variable {prog : Program} {w : World} {A : Around} {s : Shared} {env : Env} {E : Value → Shared → Prop}

/-- the comprehension of two clauses, the second over a name and without a test -/
abbrev comp2 (elt target iter : Expr) (ifs : List Expr) (t1 iter1 : Expr) (scope : Scope) (pos : Pos) : Expr := .ListComp elt [⟨target, iter, ifs, 0⟩, ⟨t1, iter1, [], 0⟩] scope pos
theorem noted_err {M : Model} {α : Type} {t : Sem α} {Q : α → Shared → Prop} (h : wpAny M A t Q NoE s) : wpAny M A t Q E s := wpAny_mono h (fun _ _ q => q) fun _ _ f => f.elim

/-- the inner turns: over ints, each is kept -/
theorem inner_ev {target iter : Expr} {ifs : List Expr} {iter1 : Expr} {x : Str} {pe px : Pos} {scope : Scope} {pos : Pos} {I D : Addr} {fp : List Addr} {n : Nat} {ks : List Int} {St : Nat → Heap → Prop} {ys : Array Value} {zs : List Int} {m : Str → Option Value} {R : Result → Shared → Prop}
    (W : Walks prog w A I fp [I] n (fun i v => ∃ z t, ks[i]? = some z ∧ v = .int z t) St) (hks : ks.length = n)
    (hk : env.scope.kind = .function) (hx : env.kindOf x = some .local) (hd : (x == ("__debug__" : Str)) = false)
    (hDC : D ≠ env.locals) (hDf : D ∉ fp) (hCf : env.locals ∉ fp) (hst : St 0 s.heap) (hacc : s.heap.PlainList D ys) (hys : IntsAre ys.toList zs) (hn : s.heap.Ns env.locals m) (hsz : zs.length + n ≤ 10000)
    (hR : ∀ h' tk m' ys', h'.Ns env.locals m' → h'.PlainList D ys' → IntsAre ys'.toList (zs ++ ks) → (∀ b o, b ≠ env.locals → b ≠ I → b ≠ D → s.heap.get? b = some o → h'.get? b = some o) → R (.ok .next) { s with heap := h', toks := tk }) :
    codeAny (model prog w) A (.compLoop (comp2 (.Name x pe) target iter ifs (.Name x px) iter1 scope pos) 1 (.ref I) (.ref D) env) R s := by
  have hDI : D ≠ I := fun e => hDf (e ▸ W.sub I (.head _))
  have hCI : env.locals ≠ I := fun e => hCf (e ▸ W.sub I (.head _))
  refine codeAny_loop rfl (fun k s' => ∃ h' tk m' ys' i, s' = { s with heap := h', toks := tk } ∧ i ≤ n ∧ k = n + 1 - i ∧ St i h' ∧ h'.Ns env.locals m' ∧ h'.PlainList D ys' ∧ IntsAre ys'.toList (zs ++ ks.take i) ∧
    (∀ b o, b ≠ env.locals → b ≠ I → b ≠ D → s.heap.get? b = some o → h'.get? b = some o)) ?_ (n + 1) ⟨_, _, _, _, 0, rfl, Nat.zero_le _, rfl, hst, hn, hacc, by simpa using hys, fun _ _ _ _ _ e => e⟩
  rintro k s' ⟨h', tk, m', ys', i, rfl, hi, rfl, hst', hn', hacc', hys', hkeep⟩
  show wpAny _ _ ((compTurn (comp2 (.Name x pe) target iter ifs (.Name x px) iter1 scope pos) 1 (.ref I) (.ref D) env).onRaise (fun x => do noteFrame x env; theTreesLotGoes x)) _ _ _
  refine wpAny_noted ?_
  show wpAny _ _ (standAt iter1.pos >>= fun _ => pyNext (.ref I) >>= _) _ _ _
  refine wpAny_bind (wpAny_standAt (wpAny_bind ?_))
  by_cases hlt : i < n
  · refine W.item i _ _ _ hlt hst' fun v h₁ tk₁ hP hst₁ hk₁ => ?_
    obtain ⟨z, t, hz, rfl⟩ := hP
    have hk₁' : Heap.ExtBut I h' h₁ := fun b o hb e => hk₁ b o (by simpa using hb) e
    refine wpAny_bind (wpAny_pure (wpAny_bind ?_))
    refine wpAny_assign_Name (wpAny_storeName_local hx (hn'.extBut hk₁' hCI) (fun h₂ hn₂ hs₂ => ?_) (by rw [hk]; rfl))
    refine wpAny_bind (wpAny_tests_nil ?_)
    show wpAny _ _ ((eval (.Name x pe) env >>= _) >>= _) _ _ _
    refine wpAny_bind (wpAny_bind ?_)
    refine wpAny_Name (wpAny_loadName_local hk hx hn₂ (if_pos rfl) ?_) hd
    have hacc₂ : h₂.PlainList D ys' := (hacc'.extBut hk₁' hDI).extBut hs₂.extBut hDC
    refine wpAny_bind (wpAny_list_append_plain hacc₂ (fun h₃ hp₃ hs₃ => ?_) ?_)
    · refine wpAny_pure (wpAny_pure ⟨rfl, n + 1 - (i + 1), by omega, h₃, _, _, _, i + 1, rfl, hlt, rfl, ?_, hn₂.sameBut hs₃ (Ne.symm hDC), hp₃, ?_, ?_⟩)
      · exact W.frame _ _ _ (W.frame _ _ _ hst₁ fun b hb o e => hs₂.extBut b o (fun q => hCf (q ▸ hb)) e) fun b hb o e => hs₃.extBut b o (fun q => hDf (q ▸ hb)) e
      · rw [List.take_add_one, hz, Array.toList_push, ← List.append_assoc]
        exact ints_snoc hys'
      · exact fun b o h1 h2 h3 e => hs₃.extBut b o h3 (hs₂.extBut b o h1 (hk₁' b o h2 (hkeep b o h1 h2 h3 e)))
    · have e1 := hys'.length
      rw [List.length_append, List.length_take, Array.length_toList] at e1
      rw [sizeLine_eq]; omega
  · obtain rfl : i = n := by omega
    refine W.done _ _ _ hst' fun h₁ tk₁ hk₁ => wpAny_pure ?_
    have hk₁' : Heap.ExtBut I h' h₁ := fun b o hb e => hk₁ b o (by simpa using hb) e
    rw [← hks, List.take_length] at hys'
    exact hR h₁ tk₁ _ _ (hn'.extBut hk₁' hCI) (hacc'.extBut hk₁' hDI) hys' fun b o h1 h2 h3 e => hk₁' b o h2 (hkeep b o h1 h2 h3 e)
theorem start1_ev {elt target iter : Expr} {ifs : List Expr} {t1 iter1 : Expr} {scope : Scope} {pos : Pos} {I : Addr} {acc : Value} {R : Result → Shared → Prop}
    (hi : ∀ (Q : Value → Shared → Prop) (E : Value → Shared → Prop), Q (.ref I) s → wpAny (model prog w) A (pyIter (.ref I)) Q E s)
    (h : codeAny (model prog w) A (.compLoop (comp2 elt target iter ifs t1 iter1 scope pos) 1 (.ref I) acc env) R s) :
    codeAny (model prog w) A (.compStart (comp2 elt target iter ifs t1 iter1 scope pos) 1 (.ref I) acc env) R s := by
  refine codeAny_of_tree ?_
  show wpAny _ _ ((compStart (comp2 elt target iter ifs t1 iter1 scope pos) 1 (.ref I) acc env).onRaise (fun x => do noteFrame x env; standAt theWindowsPlace)) _ _ s
  refine wpAny_notedAt ?_
  unfold compStart
  show wpAny _ _ (ask >>= _) _ _ s
  refine wpAny_bind (wpAny_askSetting (wpAny_ite ?_))
  split
  · exact wpAny_pure ⟨rfl, h⟩
  · refine wpAny_bind (wpAny_rule ?_)
    show wpAny _ _ (standAt iter1.pos >>= _) _ _ s
    exact wpAny_bind (wpAny_standAt (wpAny_bind (hi _ _ (wpAny_pure ⟨rfl, h⟩))))

theorem go_listiter {elts : List Expr} {k : Nat} {pos : Pos} {I l a : Addr} {i : Nat} {M : Model} {Q : Unit → Shared → Prop} (hI : s.heap.IsListIter I l i) (h : Q () s) : wpAny M A (letOwnedTupleGo (.Tuple elts k pos) (.ref I) (.ref a)) Q E s := by
  obtain ⟨o, ho, hc, hd⟩ := hI
  show wpAny M A (load I >>= _) Q E s
  refine wpAny_bind (wpAny_load ho ?_)
  obtain ⟨c, d, dt, sl⟩ := o
  dsimp only at hc hd
  subst hc hd
  dsimp only
  rw [if_neg (by simp)]
  exact wpAny_pure h

/-- the ints of range(a, b) -/
def rInts (q : Nat × Nat) : List Int := (List.range' q.1 (q.2 - q.1)).map Int.ofNat
theorem rInts_len (q : Nat × Nat) : (rInts q).length = q.2 - q.1 := by simp [rInts]
theorem rInts_get (q : Nat × Nat) (i : Nat) (h : i < q.2 - q.1) : (rInts q)[i]? = some ((q.1 : Int) + i) := by
  unfold rInts
  rw [List.getElem?_map, List.getElem?_range' (by exact h)]
  simp
theorem walks_rInts (hh : A.handled = none) (I : Addr) (q : Nat × Nat) : Walks prog w A I [I] [I] (q.2 - q.1) (fun i v => ∃ z t, (rInts q)[i]? = some z ∧ v = .int z t) (fun i h => IsRangeIter h I ((q.1 : Int) + (i : Nat) * 1) (((q.2 - q.1 : Nat) : Int) - (i : Nat)) 1) := by
  have W := Walks.range (prog := prog) (w := w) hh I (q.1 : Int) 1 (q.2 - q.1)
  refine ⟨W.sub, W.frame, fun i s Q E hi st hQ => W.item i s Q E hi st fun v h' tk hP => ?_, W.done, W.self⟩
  obtain ⟨t, rfl⟩ := hP
  exact hQ _ h' tk ⟨_, t, rInts_get q i hi, by rw [Int.mul_one]⟩
theorem range_small (q : Nat × Nat) (h1 : q.1 ≤ 1000) (h2 : q.2 ≤ 1000) : Builtin.Range.small (q.1 : Int) (q.2 : Int) 1 = true ∧ Builtin.Range.rangeSize (q.1 : Int) (q.2 : Int) 1 = ((q.2 - q.1 : Nat) : Int) := by
  have e := rangeSize_one (q.1 : Int) (q.2 : Int)
  have e2 : Builtin.Range.rangeSize (q.1 : Int) (q.2 : Int) 1 = ((q.2 - q.1 : Nat) : Int) := by
    rw [e]
    split <;> omega
  refine ⟨?_, e2⟩
  unfold Builtin.Range.small Builtin.Range.rangeFitsLong
  rw [e2]
  simp
  omega
end
end Mine
end

section
open PySem PySem.W PyProof.Rows
set_option maxRecDepth 100000
set_option maxHeartbeats 400000
namespace Mine
section
variable {prog : Program} {w : World} {A : Around} {s : Shared} {env : Env} {E : Value → Shared → Prop}
abbrev nStart : Str := Str.ofString "start"
abbrev nEnd : Str := Str.ofString "end"
abbrev nI : Str := Str.ofString "i"
abbrev tSE (p p' tp : Pos) : Expr := .Tuple [.Name nStart p, .Name nEnd p'] 0 tp

theorem foldl_cat_take {S : List (Nat × Nat)} {p : Nat × Nat → Bool} {f : Nat × Nat → List Int} {i : Nat} {q : Nat × Nat} (h : S[i]? = some q) :
    ((S.take (i + 1)).filter p).flatMap f = ((S.take i).filter p).flatMap f ++ (if p q then f q else []) := by
  rw [List.take_add_one, h, List.filter_append, List.flatMap_append]
  cases hp : p q <;> simp [hp]
theorem cat_le {S : List (Nat × Nat)} {p : Nat × Nat → Bool} {f : Nat × Nat → List Int} (i : Nat) : (((S.take i).filter p).flatMap f).length ≤ ((S.filter p).flatMap f).length := by
  conv => rhs; rw [← List.take_append_drop i S, List.filter_append, List.flatMap_append, List.length_append]
  omega

theorem outer_ev {iter iter1 : Expr} {ifs : List Expr} {pe px p1 p2 tp pos : Pos} {scope : Scope} {I D l : Addr} {vs : Array Value} {S : List (Nat × Nat)} {p : Nat × Nat → Bool} {g : Nat × Nat → Nat × Nat} {m : Str → Option Value} {R : Result → Shared → Prop}
    (hh : A.handled = none) (hk : env.scope.kind = .function) (k1 : env.kindOf nStart = some .local) (k2 : env.kindOf nEnd = some .local) (k3 : env.kindOf nI = some .local)
    (hl : s.heap.PlainList l vs) (hS : SpansAre s.heap S vs.toList) (hI : s.heap.IsListIter I l 0) (hD : s.heap.PlainList D #[]) (hn : s.heap.Ns env.locals m)
    (hDl : D ≠ l) (hDT : ∀ v ∈ vs.toList, v ≠ .ref D)
    (hsz : ((S.filter p).flatMap fun q => rInts (g q)).length ≤ 9000) (hg : ∀ q ∈ S, (g q).1 ≤ 1000 ∧ (g q).2 ≤ 1000)
    (htests : ∀ s₃ m₃ q t u, q ∈ S → s₃.heap.Ns env.locals m₃ → m₃ nStart = some (.int (q.1 : Int) t) → m₃ nEnd = some (.int (q.2 : Int) u) → (∀ b o, b ≠ env.locals → b ≠ I → b ≠ D → s.heap.get? b = some o → s₃.heap.get? b = some o) →
      wpAny (model prog w) A (forIn ifs true fun c r => if r = true then do let ok ← isTrue c env (eval c env); pure (ForInStep.yield ok) else pure (ForInStep.yield r)) (fun ok s₄ => ok = p q ∧ Keeps s₃ s₄) NoE s₃)
    (hiter : ∀ s₃ m₃ q t u, q ∈ S → p q = true → s₃.heap.Ns env.locals m₃ → m₃ nStart = some (.int (q.1 : Int) t) → m₃ nEnd = some (.int (q.2 : Int) u) → (∀ b o, b ≠ env.locals → b ≠ I → b ≠ D → s.heap.get? b = some o → s₃.heap.get? b = some o) →
      wpAny (model prog w) A (eval iter1 env) (fun v s₄ => (∃ r t u x, v = .ref r ∧ IsRange s₄.heap r ((g q).1 : Int) ((g q).2 : Int) 1 t u x) ∧ Keeps s₃ s₄) NoE s₃)
    (hR : ∀ h' tk m' ys, h'.Ns env.locals m' → h'.PlainList D ys → IntsAre ys.toList ((S.filter p).flatMap fun q => rInts (g q)) → (∀ b o, b ≠ env.locals → b ≠ I → b ≠ D → s.heap.get? b = some o → h'.get? b = some o) → R (.ok .next) { s with heap := h', toks := tk })
    (hs1 : ∀ x, foldedSetIterable iter1 env x = pure x := by intro _; rfl) (kn : (nI == ("__debug__" : Str)) = false := by decide) :
    codeAny (model prog w) A (.compLoop (comp2 (.Name nI pe) (tSE p1 p2 tp) iter ifs (.Name nI px) iter1 scope pos) 0 (.ref I) (.ref D) env) R s := by
  have hID : I ≠ D := by
    obtain ⟨o, ho, hc, hd⟩ := hI
    obtain ⟨n, e⟩ := hD
    rintro rfl
    rw [ho] at e; cases e; cases hd
  have hIL : env.locals ≠ I := ns_listiter_ne hn hI
  have hIl : I ≠ l := by
    obtain ⟨o, ho, hc, hd⟩ := hI
    obtain ⟨n, e⟩ := hl
    rintro rfl
    rw [ho] at e; cases e; cases hd
  have hDL : env.locals ≠ D := ns_plain_ne hn hD
  have hlL : env.locals ≠ l := ns_plain_ne hn hl
  have hlen : S.length = vs.size := by rw [paired_len hS, Array.length_toList]
  refine codeAny_loop rfl (fun k s' => ∃ h' tk m' ys i, s' = { s with heap := h', toks := tk } ∧ i ≤ vs.size ∧ k = vs.size + 1 - i ∧ h'.IsListIter I l i ∧ h'.Ns env.locals m' ∧ h'.PlainList D ys ∧ IntsAre ys.toList (((S.take i).filter p).flatMap fun q => rInts (g q)) ∧
    (∀ b o, b ≠ env.locals → b ≠ I → b ≠ D → s.heap.get? b = some o → h'.get? b = some o)) ?_ (vs.size + 1) ⟨_, _, _, _, 0, rfl, Nat.zero_le _, rfl, hI, hn, hD, .nil, fun _ _ _ _ _ e => e⟩
  rintro k s' ⟨h', tk, m', ys, i, rfl, hi, rfl, hI', hn', hD', hys, hkeep⟩
  show wpAny _ _ ((compTurn (comp2 (.Name nI pe) (tSE p1 p2 tp) iter ifs (.Name nI px) iter1 scope pos) 0 (.ref I) (.ref D) env).onRaise (fun x => do noteFrame x env; theTreesLotGoes x)) _ _ _
  refine wpAny_noted ?_
  show wpAny _ _ (standAt iter.pos >>= fun _ => pyNext (.ref I) >>= _) _ _ _
  refine wpAny_bind (wpAny_standAt (wpAny_bind ?_))
  have hl' : h'.PlainList l vs := hl.at fun o e => hkeep l o (Ne.symm hlL) (Ne.symm hIl) (Ne.symm hDl) e
  by_cases hlt : i < vs.size
  · have hv : vs[i]? = some vs[i] := by simp [hlt]
    refine wpAny_pyNext_list_item hI' hl'.isList hv fun h₁ hI₁ hs₁ => ?_
    obtain ⟨q, hq, a, t, u, hva, hT⟩ := paired_get hS i vs[i] (by rw [Array.getElem?_toList]; exact hv)
    rw [hva]
    have hqS : q ∈ S := List.mem_of_getElem? hq
    have haD : a ≠ D := fun e => hDT (.ref a) (hva ▸ (by simp)) (by rw [e])
    have haI : a ≠ I := by
      obtain ⟨o, ho, hc, hd⟩ := hI
      obtain ⟨o', ho', hc', n, hd'⟩ := hT
      rintro rfl
      rw [ho] at ho'; cases ho'; injection (hc.symm.trans hc') with h; exact absurd h (by decide)
    have haL : a ≠ env.locals := Ne.symm (ns_tuple_ne hn hT)
    have hT₁ : h₁.IsTuple a #[.int (q.1 : Int) t, .int (q.2 : Int) u] := tuple_at hT fun o e => hs₁.extBut a o haI (hkeep a o haL haI haD e)
    refine wpAny_bind (go_listiter hI₁ (wpAny_bind ?_))
    refine wpAny_assign_Tuple hh hT₁ rfl rfl fun h₂ hx₂ => ?_
    have hx₂' : Ext h₁ h₂ := fun b o e => hx₂ b o (Nat.ne_of_lt (Heap.lt_size e)) e
    have hn₂ : h₂.Ns env.locals m' := (hn'.extBut hs₁.extBut hIL).keeps hx₂'
    show wpAny _ A (assignInOrder [assign (.Name nStart p1) env, assign (.Name nEnd p2) env] [.int (q.1 : Int) t, .int (q.2 : Int) u]) _ _ _
    refine wpAny_assignInOrder_more (wpAny_assign_Name (wpAny_storeName_local k1 hn₂ (fun h₃ hn₃ hs₃ => ?_) (by rw [hk]; rfl)))
    refine wpAny_assignInOrder_more (wpAny_assign_Name (wpAny_storeName_local k2 hn₃ (fun h₄ hn₄ hs₄ => ?_) (by rw [hk]; rfl)))
    refine wpAny_assignInOrder_none ?_
    have keep₄ : ∀ b o, b ≠ env.locals → b ≠ I → h'.get? b = some o → h₄.get? b = some o := fun b o h1 h2 e => hs₄.extBut b o h1 (hs₃.extBut b o h1 (hx₂' b o (hs₁.extBut b o h2 e)))
    refine wpAny_bind (noted_err (wpAny_mono (htests _ _ q t u hqS hn₄ ((if_neg (by decide)).trans (if_pos rfl)) (if_pos rfl) fun b o h1 h2 h3 e => keep₄ b o h1 h2 (hkeep b o h1 h2 h3 e)) (fun ok s₅ h₅ => ?_) fun _ _ f => f))
    obtain ⟨rfl, h₅, tk₅, rfl, hk₅⟩ := h₅
    have hI₄ : h₄.IsListIter I l (i + 1) := ((hI₁.at fun o e => hx₂' _ o e).extBut hs₃.extBut (Ne.symm hIL)).extBut hs₄.extBut (Ne.symm hIL)
    have hcat := foldl_cat_take (p := p) (f := fun q => rInts (g q)) hq
    have hD₅ : h₅.PlainList D ys := hD'.at fun o e => hk₅ _ o (keep₄ D o (Ne.symm hDL) (Ne.symm hID) e)
    cases hp : p q with
    | false =>
      rw [hp, if_neg Bool.false_ne_true, List.append_nil] at hcat
      exact wpAny_pure ⟨rfl, vs.size + 1 - (i + 1), by omega, h₅, tk₅, _, ys, i + 1, rfl, hlt, rfl, hI₄.at fun o e => hk₅ _ o e, hn₄.keeps hk₅, hD₅, hcat ▸ hys, fun b o h1 h2 h3 e => hk₅ b o (keep₄ b o h1 h2 (hkeep b o h1 h2 h3 e))⟩
    | true =>
      rw [hp, if_pos rfl] at hcat
      refine wpAny_bind (noted_err (wpAny_mono (hiter _ _ q t u hqS hp (hn₄.keeps hk₅) ((if_neg (by decide)).trans (if_pos rfl)) (if_pos rfl) fun b o h1 h2 h3 e => hk₅ b o (keep₄ b o h1 h2 (hkeep b o h1 h2 h3 e))) (fun v s₆ h₆ => ?_) fun _ _ f => f))
      obtain ⟨⟨r, t', u', x', rfl, hr⟩, h₆, tk₆, rfl, hk₆⟩ := h₆
      refine wpAny_bind (wpAny_standAt ?_)
      rw [hs1]
      refine wpAny_bind (wpAny_pure ?_)
      have hgq := hg q hqS
      obtain ⟨hsm, hrs⟩ := range_small (g q) hgq.1 hgq.2
      refine wpAny_bind (wpAny_holding (wpAny_pyIter_range hr hsm ?_))
      dsimp only
      rw [hrs]
      refine wpAny_bind (wpAny_runOwn ?_)
      rw [Around.mark_none]
      have hW := walks_rInts (prog := prog) (w := w) (A := A) hh h₆.objs.size (g q)
      have hI₆ : IsRangeIter (h₆.push { cls := .type "range_iterator", data := .fields #[rawInt ((g q).1 : Int), rawInt (((g q).2 - (g q).1 : Nat) : Int), rawInt 1] }) h₆.objs.size (((g q).1 : Int) + ((0 : Nat) : Int) * 1) ((((g q).2 - (g q).1 : Nat) : Int) - ((0 : Nat) : Int)) 1 := by
        simpa using Heap.get?_push_size h₆ rfl
      have hn₆ : h₆.Ns env.locals _ := (hn₄.keeps hk₅).keeps hk₆
      have hD₆ : h₆.PlainList D ys := hD₅.at fun o e => hk₆ _ o e
      have hle := cat_le (S := S) (p := p) (f := fun q => rInts (g q)) (i + 1)
      rw [hcat, List.length_append, rInts_len] at hle
      refine start1_ev (fun Q E hQ => hW.self 0 _ Q E hI₆ hQ) (inner_ev (n := (g q).2 - (g q).1) (ks := rInts (g q)) hW (rInts_len _) hk k3 kn (Ne.symm hDL) ?_ ?_ hI₆ (hD₆.at fun o e => Heap.get?_push_of_some _ e) hys (hn₆.keeps (Ext.push _ _)) (by omega) ?_)
      · intro hm
        obtain ⟨n, e⟩ := hD₆
        exact Nat.lt_irrefl _ (List.mem_singleton.mp hm ▸ Heap.lt_size e)
      · intro hm
        exact Nat.lt_irrefl _ (List.mem_singleton.mp hm ▸ hn₆.lt)
      · intro h₇ tk₇ m₇ ys₇ hn₇ hD₇ hys₇ hk₇
        have up : ∀ b o, b ≠ env.locals → b ≠ D → h₆.get? b = some o → h₇.get? b = some o := fun b o h1 h3 e => hk₇ b o h1 (Nat.ne_of_lt (Heap.lt_size e)) h3 (Heap.get?_push_of_some _ e)
        exact wpAny_pure ⟨rfl, vs.size + 1 - (i + 1), by omega, h₇, tk₇, _, ys₇, i + 1, rfl, hlt, rfl, ((hI₄.at fun o e => hk₅ _ o e).at fun o e => hk₆ _ o e).at fun o e => up I o (Ne.symm hIL) hID e, hn₇, hD₇, hcat ▸ hys₇,
          fun b o h1 h2 h3 e => up b o h1 h3 (hk₆ b o (hk₅ b o (keep₄ b o h1 h2 (hkeep b o h1 h2 h3 e))))⟩
  · obtain rfl : i = vs.size := by omega
    refine wpAny_pyNext_list_end hh hI' hl'.isList (by simp) fun h₁ he₁ => wpAny_pure ?_
    rw [← hlen, List.take_length] at hys
    exact hR h₁ tk _ _ (hn'.extBut he₁ hIL) (hD'.extBut he₁ (Ne.symm hID)) hys fun b o h1 h2 h3 e => he₁ b o h2 (hkeep b o h1 h2 h3 e)
end
end Mine
end

section
open PySem PySem.W PyProof.Rows
set_option maxRecDepth 100000
set_option maxHeartbeats 400000
namespace Mine
section
variable {prog : Program} {w : World} {A : Around} {s : Shared} {env : Env} {E : Value → Shared → Prop}

theorem ne_lt {a b n : Nat} (h : a < n) (hn : n ≤ b) : a ≠ b := by omega
theorem comp2_ev {iter1 : Expr} {ifs : List Expr} {pe px p1 p2 p3 tp pos : Pos} {scope : Scope} {cl : List (Str × Addr)} {l : Addr} {vs : Array Value} {S : List (Nat × Nat)} {p : Nat × Nat → Bool} {g : Nat × Nat → Nat × Nat} {m : Str → Option Value} {P : Value → Shared → Prop}
    (hh : A.handled = none) (hn : s.heap.Ns env.locals m) (hm : m (Str.ofString "spans") = some (.ref l)) (hl : s.heap.PlainList l vs) (hS : SpansAre s.heap S vs.toList)
    (hclos : closureFor scope env = pure cl) (hkind : scope.kind = .function) (hcell : ∀ y ∈ scope.names, y.2 ≠ .cell) (hnames : ∀ y ∈ scope.names, y.2 = .local → scope.names.lookup y.1 = some .local)
    (k1 : scope.names.lookup nStart = some .local) (k2 : scope.names.lookup nEnd = some .local) (k3 : scope.names.lookup nI = some .local)
    (hsz : ((S.filter p).flatMap fun q => rInts (g q)).length ≤ 9000) (hg : ∀ q ∈ S, (g q).1 ≤ 1000 ∧ (g q).2 ≤ 1000)
    (htests : ∀ C s₃ m₃ q t u, q ∈ S → s₃.heap.Ns C m₃ → m₃ nStart = some (.int (q.1 : Int) t) → m₃ nEnd = some (.int (q.2 : Int) u) → Ext s.heap s₃.heap →
      wpAny (model prog w) A (forIn ifs true fun c r => if r = true then do let ok ← isTrue c (compEnvC scope cl C env) (eval c (compEnvC scope cl C env)); pure (ForInStep.yield ok) else pure (ForInStep.yield r)) (fun ok s₄ => ok = p q ∧ Keeps s₃ s₄) NoE s₃)
    (hiter : ∀ C s₃ m₃ q t u, q ∈ S → p q = true → s₃.heap.Ns C m₃ → m₃ nStart = some (.int (q.1 : Int) t) → m₃ nEnd = some (.int (q.2 : Int) u) → Ext s.heap s₃.heap →
      wpAny (model prog w) A (eval iter1 (compEnvC scope cl C env)) (fun v s₄ => (∃ r t u x, v = .ref r ∧ IsRange s₄.heap r ((g q).1 : Int) ((g q).2 : Int) 1 t u x) ∧ Keeps s₃ s₄) NoE s₃)
    (hP : ∀ D s' ys, s.heap.get? D = none → Keeps s s' → s'.heap.PlainList D ys → IntsAre ys.toList ((S.filter p).flatMap fun q => rInts (g q)) → P (.ref D) s')
    (hk : env.scope.kind = .function := by rfl) (hk1 : env.kindOf (Str.ofString "spans") = some .local := by rfl)
    (hs1 : ∀ env' x, foldedSetIterable iter1 env' x = pure x := by intro _ _; rfl) :
    wpAny (model prog w) A (eval (comp2 (.Name nI pe) (tSE p1 p2 tp) (.Name (Str.ofString "spans") p3) ifs (.Name nI px) iter1 scope pos) env) P E s := by
  rw [eval_ListComp]
  refine wpAny_comprehension_free (use := none) rfl (by intro _; rfl) hclos hkind hnames ?_
  refine wpAny_Name (wpAny_loadName_local hk hk1 hn hm ?_) (by decide)
  refine wpAny_pyIter_list hl.isList ?_
  refine wpAny_newObj_type (wpAny_newFunctionEnv hcell (by intro y hy; simp at hy) (fun h₁ hns₁ hsb₁ => ?_) hkind)
  dsimp only at hns₁ hsb₁ ⊢
  generalize hH1 : s.heap.push { cls := .type "list_iterator", data := .fields #[.ref l, .int 0 0] } = H1 at hns₁ hsb₁ ⊢
  generalize hH2 : H1.push { cls := .type "list", dict := none, data := .seq ([] : List Value).toArray } = H2 at hns₁ hsb₁ ⊢
  have hD : H1.objs.size = s.heap.objs.size + 1 := by rw [← hH1, Heap.size_push]
  have hC : H2.objs.size = s.heap.objs.size + 2 := by rw [← hH2, Heap.size_push, hD]
  have x2 : Ext s.heap H2 := by rw [← hH2, ← hH1]; exact (Ext.push _ _).trans (Ext.push _ _)
  have x1 : Ext H2 h₁ := fun b o e => hsb₁.extBut b o (Nat.ne_of_lt (Heap.lt_size e)) (Heap.get?_push_of_some _ e)
  have hI₁ : h₁.IsListIter s.heap.objs.size l 0 := by
    have e : H2.get? s.heap.objs.size = some { cls := .type "list_iterator", data := .fields #[.ref l, .int 0 0] } := by
      rw [← hH2]; exact Heap.get?_push_of_some _ (by rw [← hH1]; exact Heap.get?_push_size _ rfl)
    exact ⟨_, x1 _ _ e, rfl, rfl⟩
  have hD₁ : h₁.PlainList H1.objs.size #[] := ⟨_, x1 _ _ (by rw [← hH2]; exact Heap.get?_push_size _ rfl)⟩
  have hx : Ext s.heap h₁ := x2.trans x1
  have hlN : l < s.heap.objs.size := let ⟨_, e⟩ := hl; Heap.lt_size e
  have up : ∀ (s₃ : Shared), (∀ b o, b ≠ (compEnvC scope cl H2.objs.size env).locals → b ≠ s.heap.objs.size → b ≠ H1.objs.size → h₁.get? b = some o → s₃.heap.get? b = some o) → Ext s.heap s₃.heap := fun s₃ hk b o e => by
    have hb := Heap.lt_size e
    exact hk b o (ne_lt hb (by show _ ≤ H2.objs.size; omega)) (ne_lt hb (Nat.le_refl _)) (ne_lt hb (by omega)) (hx b o e)
  have loop : ∀ tk, codeAny (model prog w) A (.compLoop (comp2 (.Name nI pe) (tSE p1 p2 tp) (.Name (Str.ofString "spans") p3) ifs (.Name nI px) iter1 scope pos) 0 (.ref s.heap.objs.size) (.ref H1.objs.size) (compEnvC scope cl H2.objs.size env))
      (compPost (model prog w) A E none P (.ref H1.objs.size) H2.objs.size) { s with heap := h₁, toks := tk } := fun tk => by
    refine outer_ev (env := compEnvC scope cl H2.objs.size env) (s := { s with heap := h₁, toks := tk }) (S := S) (p := p) (g := g) (vs := vs) (l := l) hh hkind (lookup_relabel_local k1) (lookup_relabel_local k2) (lookup_relabel_local k3) (hl.at fun o e => hx _ o e) (hS.mono fun a _ o _ e => hx a o e) hI₁ hD₁ hns₁ (Ne.symm (ne_lt hlN (by omega))) ?_ hsz hg
      (fun s₃ m₃ q t u hq hn₃ h1 h2 hk₃ => htests _ s₃ m₃ q t u hq hn₃ h1 h2 (up s₃ hk₃)) (fun s₃ m₃ q t u hq hp hn₃ h1 h2 hk₃ => hiter _ s₃ m₃ q t u hq hp hn₃ h1 h2 (up s₃ hk₃)) ?_ (fun x => hs1 _ x)
    · intro v hv e
      obtain ⟨q, hq, a, t, u, rfl, ⟨o, ho, _⟩⟩ := paired_mem hS v hv
      have ha : a < s.heap.objs.size := Heap.lt_size ho
      exact ne_lt ha (show s.heap.objs.size ≤ H1.objs.size by omega) (by injection e)
    · intro h' tk' m' ys hn' hpl hys hk'
      refine ⟨m', hn', fun h'' hs'' => ?_⟩
      have hne : H1.objs.size ≠ H2.objs.size := by omega
      refine hP _ _ ys (none_of_le (by omega)) (Keeps.mk s ?_) (hpl.extBut hs''.extBut hne) hys
      exact fun b o e => hs''.extBut b o (ne_lt (Heap.lt_size e) (by show _ ≤ H2.objs.size; omega)) (up { s with heap := h' } hk' b o e)
  exact codeAny_compStart_list (loop _) (wpAny_pyIter_listiter hI₁ (loop _))
end
end Mine
end

section
open PySem PySem.W PyProof.Rows
set_option maxRecDepth 100000
set_option maxHeartbeats 400000
namespace Mine
def lawParts : { x : List Stmt × Scope // ∃ n a d r t ts bd p, (PySem.Challenge.pw_pe0044_01.main.body.drop 9).head? = some (.FunctionDef n a x.1 d r t x.2 ts bd p) } := ⟨(_, _), _, _, _, _, _, _, _, _, rfl⟩
abbrev lawBody : List Stmt := lawParts.1.1
abbrev lawScope : Scope := lawParts.1.2
abbrev lawEnv (L fa : Addr) (cd : Value) : Env := envOfC (Str.ofString "law") lawScope L fa cd

/-- a list of ints -/
def IL (h : Heap) (a : Addr) (zs : List Int) : Prop := ∃ vs, h.PlainList a vs ∧ IntsAre vs.toList zs
theorem IL.ext {h h' : Heap} {a : Addr} {zs : List Int} (x : IL h a zs) (k : Ext h h') : IL h' a zs := let ⟨vs, p, q⟩ := x; ⟨vs, p.at fun o e => k _ o e, q⟩
theorem IL.at {h h' : Heap} {a : Addr} {zs : List Int} (x : IL h a zs) (k : ∀ o, h.get? a = some o → h'.get? a = some o) : IL h' a zs := let ⟨vs, p, q⟩ := x; ⟨vs, p.at fun o e => k o e, q⟩

/-- the frame of law with its six cells -/
structure LC (h₀ h : Heap) (L : Addr) (m : Str → Option Value) (a b c d e f : Option Value) : Prop where
  ns : h.Ns L m
  ext : Ext h₀ h
  fr : h₀.objs.size ≤ L
  c1 : h.IsCell (L + 1) a
  c2 : h.IsCell (L + 2) b
  c3 : h.IsCell (L + 3) c
  c4 : h.IsCell (L + 4) d
  c5 : h.IsCell (L + 5) e
  c6 : h.IsCell (L + 6) f
abbrev W0 (L : Addr) : List Addr := [L, L + 1, L + 2, L + 3, L + 4, L + 5, L + 6]
theorem cell_plain_ne {h : Heap} {a b : Addr} {v : Option Value} {xs : Array Value} (x : h.IsCell a v) (y : h.PlainList b xs) : a ≠ b := by
  rintro rfl
  obtain ⟨o, ho, hd⟩ := x
  obtain ⟨n, e⟩ := y
  rw [ho] at e; cases e; cases hd
theorem cell_tuple_ne {h : Heap} {a b : Addr} {v : Option Value} {xs : Array Value} (x : h.IsCell a v) (y : h.IsTuple b xs) : a ≠ b := by
  rintro rfl
  obtain ⟨o, ho, hd⟩ := x
  obtain ⟨o', ho', _, n, e⟩ := y
  rw [ho] at ho'; cases ho'; rw [hd] at e; cases e
theorem cell_same {h h' : Heap} {a b : Addr} {v : Option Value} (x : h.IsCell b v) (hs : Heap.SameBut a h h') (hne : b ≠ a) : h'.IsCell b v := x.sameBut hs hne
section
variable {h₀ h h' : Heap} {L : Addr} {m : Str → Option Value} {a b c d e f : Option Value}
theorem LC.plain (x : LC h₀ h L m a b c d e f) {l : Addr} {xs : Array Value} (y : h.PlainList l xs) : l ∉ W0 L := by
  intro hm
  simp only [List.mem_cons, List.not_mem_nil, or_false] at hm
  rcases hm with rfl | rfl | rfl | rfl | rfl | rfl | rfl
  · exact ns_plain_ne x.ns y rfl
  · exact cell_plain_ne x.c1 y rfl
  · exact cell_plain_ne x.c2 y rfl
  · exact cell_plain_ne x.c3 y rfl
  · exact cell_plain_ne x.c4 y rfl
  · exact cell_plain_ne x.c5 y rfl
  · exact cell_plain_ne x.c6 y rfl
theorem LC.tuple (x : LC h₀ h L m a b c d e f) {l : Addr} {xs : Array Value} (y : h.IsTuple l xs) : l ∉ W0 L := by
  intro hm
  simp only [List.mem_cons, List.not_mem_nil, or_false] at hm
  rcases hm with rfl | rfl | rfl | rfl | rfl | rfl | rfl
  · exact ns_tuple_ne x.ns y rfl
  · exact cell_tuple_ne x.c1 y rfl
  · exact cell_tuple_ne x.c2 y rfl
  · exact cell_tuple_ne x.c3 y rfl
  · exact cell_tuple_ne x.c4 y rfl
  · exact cell_tuple_ne x.c5 y rfl
  · exact cell_tuple_ne x.c6 y rfl
theorem LC.il (x : LC h₀ h L m a b c d e f) {l : Addr} {zs : List Int} (y : IL h l zs) (k : But (W0 L) h h') : IL h' l zs :=
  let ⟨vs, p, q⟩ := y; ⟨vs, p.at fun o e => k _ o (x.plain p) e, q⟩
theorem LC.sl (x : LC h₀ h L m a b c d e f) {l : Addr} {S : List (Nat × Nat)} (y : ∃ vs, h.PlainList l vs ∧ SpansAre h S vs.toList) (k : But (W0 L) h h') : ∃ vs, h'.PlainList l vs ∧ SpansAre h' S vs.toList :=
  let ⟨vs, p, q⟩ := y; ⟨vs, p.at fun o e => k _ o (x.plain p) e, q.mono fun a _ o ht e => k a o (x.tuple ht) e⟩
theorem LC.grow (x : LC h₀ h L m a b c d e f) (k : Ext h h') : LC h₀ h' L m a b c d e f where
  ns := x.ns.keeps k
  ext := x.ext.trans k
  fr := x.fr
  c1 := x.c1.keeps k
  c2 := x.c2.keeps k
  c3 := x.c3.keeps k
  c4 := x.c4.keeps k
  c5 := x.c5.keeps k
  c6 := x.c6.keeps k
theorem LC.none (x : LC h₀ h L m a b c d e f) (k : Nat) : h₀.get? (L + k) = none := none_of_le (Nat.le_trans x.fr (Nat.le_add_right _ _))
theorem LC.frNone (hf : h₀.objs.size ≤ L) (k : Nat) : h₀.get? (L + k) = .none := none_of_le (Nat.le_trans hf (Nat.le_add_right _ _))
theorem add_ne {L k : Nat} (hk : k ≠ 0) : L + k ≠ L := by omega
theorem add_ne' {L j k : Nat} (hk : j ≠ k) : L + j ≠ L + k := by omega
theorem LC.setL {m' : Str → Option Value} (x : LC h₀ h L m a b c d e f) (hn : h'.Ns L m') (hs : Heap.SameBut L h h') : LC h₀ h' L m' a b c d e f where
  ns := hn
  ext := x.ext.same hs.extBut (none_of_le x.fr)
  fr := x.fr
  c1 := x.c1.sameBut hs (add_ne (by decide))
  c2 := x.c2.sameBut hs (add_ne (by decide))
  c3 := x.c3.sameBut hs (add_ne (by decide))
  c4 := x.c4.sameBut hs (add_ne (by decide))
  c5 := x.c5.sameBut hs (add_ne (by decide))
  c6 := x.c6.sameBut hs (add_ne (by decide))
/-- a store into another object -/
theorem LC.but {l : Addr} (x : LC h₀ h L m a b c d e f) (hl : l ∉ W0 L) (h0 : h₀.get? l = .none) (hs : Heap.SameBut l h h') : LC h₀ h' L m a b c d e f := by
  simp only [List.mem_cons, List.not_mem_nil, or_false, not_or] at hl
  obtain ⟨n0, n1, n2, n3, n4, n5, n6⟩ := hl
  exact ⟨x.ns.sameBut hs (Ne.symm n0), x.ext.same hs.extBut h0, x.fr, x.c1.sameBut hs (Ne.symm n1), x.c2.sameBut hs (Ne.symm n2), x.c3.sameBut hs (Ne.symm n3), x.c4.sameBut hs (Ne.symm n4), x.c5.sameBut hs (Ne.symm n5), x.c6.sameBut hs (Ne.symm n6)⟩
theorem LC.set1 {v : Option Value} (x : LC h₀ h L m a b c d e f) (hc : h'.IsCell (L + 1) v) (hs : Heap.SameBut (L + 1) h h') : LC h₀ h' L m v b c d e f :=
  ⟨x.ns.sameBut hs (Ne.symm (add_ne (by decide))), x.ext.same hs.extBut (LC.frNone x.fr _), x.fr, hc, x.c2.sameBut hs (add_ne' (by decide)), x.c3.sameBut hs (add_ne' (by decide)), x.c4.sameBut hs (add_ne' (by decide)), x.c5.sameBut hs (add_ne' (by decide)), x.c6.sameBut hs (add_ne' (by decide))⟩
theorem LC.set2 {v : Option Value} (x : LC h₀ h L m a b c d e f) (hc : h'.IsCell (L + 2) v) (hs : Heap.SameBut (L + 2) h h') : LC h₀ h' L m a v c d e f :=
  ⟨x.ns.sameBut hs (Ne.symm (add_ne (by decide))), x.ext.same hs.extBut (LC.frNone x.fr _), x.fr, x.c1.sameBut hs (add_ne' (by decide)), hc, x.c3.sameBut hs (add_ne' (by decide)), x.c4.sameBut hs (add_ne' (by decide)), x.c5.sameBut hs (add_ne' (by decide)), x.c6.sameBut hs (add_ne' (by decide))⟩
theorem LC.set3 {v : Option Value} (x : LC h₀ h L m a b c d e f) (hc : h'.IsCell (L + 3) v) (hs : Heap.SameBut (L + 3) h h') : LC h₀ h' L m a b v d e f :=
  ⟨x.ns.sameBut hs (Ne.symm (add_ne (by decide))), x.ext.same hs.extBut (LC.frNone x.fr _), x.fr, x.c1.sameBut hs (add_ne' (by decide)), x.c2.sameBut hs (add_ne' (by decide)), hc, x.c4.sameBut hs (add_ne' (by decide)), x.c5.sameBut hs (add_ne' (by decide)), x.c6.sameBut hs (add_ne' (by decide))⟩
theorem LC.set4 {v : Option Value} (x : LC h₀ h L m a b c d e f) (hc : h'.IsCell (L + 4) v) (hs : Heap.SameBut (L + 4) h h') : LC h₀ h' L m a b c v e f :=
  ⟨x.ns.sameBut hs (Ne.symm (add_ne (by decide))), x.ext.same hs.extBut (LC.frNone x.fr _), x.fr, x.c1.sameBut hs (add_ne' (by decide)), x.c2.sameBut hs (add_ne' (by decide)), x.c3.sameBut hs (add_ne' (by decide)), hc, x.c5.sameBut hs (add_ne' (by decide)), x.c6.sameBut hs (add_ne' (by decide))⟩
theorem LC.set5 {v : Option Value} (x : LC h₀ h L m a b c d e f) (hc : h'.IsCell (L + 5) v) (hs : Heap.SameBut (L + 5) h h') : LC h₀ h' L m a b c d v f :=
  ⟨x.ns.sameBut hs (Ne.symm (add_ne (by decide))), x.ext.same hs.extBut (LC.frNone x.fr _), x.fr, x.c1.sameBut hs (add_ne' (by decide)), x.c2.sameBut hs (add_ne' (by decide)), x.c3.sameBut hs (add_ne' (by decide)), x.c4.sameBut hs (add_ne' (by decide)), hc, x.c6.sameBut hs (add_ne' (by decide))⟩
theorem LC.set6 {v : Option Value} (x : LC h₀ h L m a b c d e f) (hc : h'.IsCell (L + 6) v) (hs : Heap.SameBut (L + 6) h h') : LC h₀ h' L m a b c d e v :=
  ⟨x.ns.sameBut hs (Ne.symm (add_ne (by decide))), x.ext.same hs.extBut (LC.frNone x.fr _), x.fr, x.c1.sameBut hs (add_ne' (by decide)), x.c2.sameBut hs (add_ne' (by decide)), x.c3.sameBut hs (add_ne' (by decide)), x.c4.sameBut hs (add_ne' (by decide)), x.c5.sameBut hs (add_ne' (by decide)), hc⟩
end
section
variable {prog : Program} {w : World} {A : Around} {s : Shared} {env : Env} {E : Value → Shared → Prop}
theorem il_nums : ∀ {vs : List Value} {zs : List Int}, IntsAre vs zs → numsOf vs = zs
  | _, _, .nil => rfl
  | _, _, .cons _ _ h => by rw [numsOf, il_nums h]
theorem il_all : ∀ {vs : List Value} {zs : List Int}, IntsAre vs zs → ∀ v ∈ vs, ∃ a t, v = .int a t
  | _, _, .cons _ _ h, v, hv => by
    rcases List.mem_cons.mp hv with rfl | hv
    · exact ⟨_, _, rfl⟩
    · exact il_all h v hv
def isK (k : Int) : Value → Bool
  | .int i _ => i == k
  | _ => false
theorem any_isK (k : Int) : ∀ {vs : List Value} {zs : List Int}, IntsAre vs zs → vs.any (isK k) = zs.contains k
  | _, _, .nil => rfl
  | _, _, .cons _ _ h => by
    rw [List.any_cons, any_isK k h, List.contains_cons, Bool.beq_comm]; rfl
theorem in_il {l : Addr} {zs : List Int} {k : Int} {t : Tok} {Q : Value → Shared → Prop} (hl : IL s.heap l zs) (h : Q (.bool (zs.contains k)) s) : wpAny (model prog w) A (compareOp .In (.int k t) (.ref l)) Q E s := by
  obtain ⟨vs, ⟨n, hp⟩, hi⟩ := hl
  refine SeqRoads2.in_list (items := vs) (n := n) (isK k) (fun y hy => ?_) hp ?_
  · obtain ⟨a, u, rfl⟩ := il_all hi y (by simpa using hy)
    exact MeetsSeq.EqGives.int a k u t
  · rw [← Array.any_toList, any_isK k hi]; exact h
theorem notIn_il {l : Addr} {zs : List Int} {k : Int} {t : Tok} {Q : Value → Shared → Prop} (hl : IL s.heap l zs) (h : Q (.bool (!zs.contains k)) s) : wpAny (model prog w) A (compareOp .NotIn (.int k t) (.ref l)) Q E s := by
  obtain ⟨vs, ⟨n, hp⟩, hi⟩ := hl
  refine SeqRoads2.notIn_list (items := vs) (n := n) (isK k) (fun y hy => ?_) hp ?_
  · obtain ⟨a, u, rfl⟩ := il_all hi y (by simpa using hy)
    exact MeetsSeq.EqGives.int a k u t
  · rw [← Array.any_toList, any_isK k hi]; exact h
theorem min_nat {a b : Nat} {t u : Tok} {x y : Int} {Q : Value → Shared → Prop} (hh : A.handled = none) (hx : x = a) (hy : y = b)
    (h : ∀ h' tk t', Ext s.heap h' → Q (.int ((min a b : Nat) : Int) t') { s with heap := h', toks := tk }) :
    wpAny (model prog w) A (call (.builtin "min") [.int x t, .int y u]) Q E s := by
  subst hx hy
  refine min_two_ints hh fun h' tk hk => ?_
  by_cases hc : (b : Int) < a
  · rw [if_pos hc]
    have : min a b = b := by omega
    have := this ▸ h h' tk u hk
    exact this
  · rw [if_neg hc]
    have : min a b = a := by omega
    have := this ▸ h h' tk t hk
    exact this
end
end Mine
end

section
open PySem PySem.W PyProof.Rows
set_option maxRecDepth 100000
set_option maxHeartbeats 400000
namespace Mine
theorem spansM_le : ∀ (t : List Nat) (i : Nat) (m : Mode) (q : Nat × Nat), q ∈ spansM t i m → (match m with | .O => True | .I st => st ≤ i + t.length | .E st => st ≤ i + t.length) → q.1 ≤ i + t.length ∧ q.2 ≤ i + t.length + 1
  | [], i, .O, q, h, _ => by simp [spansM] at h
  | [], i, .I st, q, h, hm => by simp [spansM] at h; subst h; simp at hm ⊢; omega
  | [], i, .E st, q, h, hm => by simp [spansM] at h; subst h; simp at hm ⊢; omega
  | c :: r, i, .O, q, h, _ => by
    simp only [spansM] at h
    split at h
    · have := spansM_le r (i + 1) (.I i) q h (by simp only; omega)
      simp at this ⊢; omega
    · have := spansM_le r (i + 1) .O q h trivial
      simp at this ⊢; omega
  | c :: r, i, .I st, q, h, hm => by
    simp only [List.length_cons] at hm
    simp only [spansM] at h
    split at h
    · rcases List.mem_cons.mp h with rfl | h
      · simp; omega
      · have := spansM_le r (i + 1) .O q h trivial
        simp at this ⊢; omega
    · split at h
      · have := spansM_le r (i + 1) (.E st) q h (by simp only; omega)
        simp at this ⊢; omega
      · have := spansM_le r (i + 1) (.I st) q h (by simp only; omega)
        simp at this ⊢; omega
  | c :: r, i, .E st, q, h, hm => by
    simp only [List.length_cons] at hm
    simp only [spansM] at h
    have := spansM_le r (i + 1) (.I st) q h (by simp only; omega)
    simp at this ⊢; omega
theorem cat_bound {α β : Type} (f : α → List β) (K : Nat) : ∀ (l : List α), (∀ q ∈ l, (f q).length ≤ K) → (l.flatMap f).length ≤ l.length * K
  | [], _ => by simp
  | a :: r, h => by
    rw [List.flatMap_cons, List.length_append, List.length_cons, Nat.add_mul, Nat.one_mul]
    have := cat_bound f K r fun q hq => h q (.tail _ hq)
    have := h a (.head _)
    omega
abbrev gIns (N : Nat) (q : Nat × Nat) : Nat × Nat := (q.1, min (q.2 + 1) N)
abbrev gInn (N : Nat) (q : Nat × Nat) : Nat × Nat := (q.1 + 1, min q.2 N)
abbrev gShu (q : Nat × Nat) : Nat × Nat := (q.1, q.2 + 1)
def insideL (S : List (Nat × Nat)) (N : Nat) : List Int := (S.filter fun _ => true).flatMap fun q => rInts (gIns N q)
def innerL (S : List (Nat × Nat)) (N : Nat) : List Int := (S.filter fun _ => true).flatMap fun q => rInts (gInn N q)
def shutL (S : List (Nat × Nat)) (N : Nat) : List Int := (S.filter fun q => decide (q.2 < N)).flatMap fun q => rInts (gShu q)
theorem cats_ok {t : List Nat} {p : Nat × Nat → Bool} {g : Nat × Nat → Nat × Nat} (ht : t.length ≤ 26) (hg : ∀ q, (g q).1 ≤ q.1 + 1 ∧ (g q).2 ≤ q.2 + 1) :
    (((spansM t 0 .O).filter p).flatMap fun q => rInts (g q)).length ≤ 9000 ∧ ∀ q ∈ spansM t 0 .O, (g q).1 ≤ 1000 ∧ (g q).2 ≤ 1000 := by
  have hb : ∀ q ∈ spansM t 0 .O, (g q).1 ≤ 27 ∧ (g q).2 ≤ 28 := fun q hq => by
    have := spansM_le t 0 .O q hq trivial
    have := hg q
    omega
  refine ⟨?_, fun q hq => by have := hb q hq; omega⟩
  have h1 := cat_bound (fun q => rInts (g q)) 28 ((spansM t 0 .O).filter p) fun q hq => by
    rw [rInts_len]
    have := hb q (List.mem_filter.mp hq).1
    omega
  have h2 := List.length_filter_le p (spansM t 0 .O)
  have h3 := spansM_len t 0 .O
  have : ((spansM t 0 .O).filter p).length * 28 ≤ 27 * 28 := Nat.mul_le_mul_right _ (by omega)
  omega

theorem cats_len {t : List Nat} {p : Nat × Nat → Bool} {g : Nat × Nat → Nat × Nat} (ht : t.length ≤ 26) (hg : ∀ q, (g q).1 ≤ q.1 + 1 ∧ (g q).2 ≤ q.2 + 1) :
    (((spansM t 0 .O).filter p).flatMap fun q => rInts (g q)).length ≤ 9000 := (cats_ok ht hg).1
theorem cats_bd {t : List Nat} {g : Nat × Nat → Nat × Nat} (ht : t.length ≤ 26) (hg : ∀ q, (g q).1 ≤ q.1 + 1 ∧ (g q).2 ≤ q.2 + 1) :
    ∀ q ∈ spansM t 0 .O, (g q).1 ≤ 1000 ∧ (g q).2 ≤ 1000 := (cats_ok (p := fun _ => true) ht hg).2
theorem gIns_le (N : Nat) (q : Nat × Nat) : (gIns N q).1 ≤ q.1 + 1 ∧ (gIns N q).2 ≤ q.2 + 1 := by simp only [gIns]; omega
theorem gInn_le (N : Nat) (q : Nat × Nat) : (gInn N q).1 ≤ q.1 + 1 ∧ (gInn N q).2 ≤ q.2 + 1 := by simp only [gInn]; omega
theorem gShu_le (q : Nat × Nat) : (gShu q).1 ≤ q.1 + 1 ∧ (gShu q).2 ≤ q.2 + 1 := by simp only [gShu]; omega
theorem dec_lt (a b : Nat) : decide ((a : Int) < (b : Int)) = decide (a < b) := by
  by_cases h : a < b
  · rw [decide_eq_true h, decide_eq_true (by omega)]
  · rw [decide_eq_false h, decide_eq_false (by omega)]

/-- law's state behind its first six statements -/
structure PA (h₀ h : Heap) (L : Addr) (m : Str → Option Value) (l : Addr) (x : Str) (tx tn : Tok) (lh li ln lu : Addr) : Prop where
  lc : LC h₀ h L m (some (.str x tx)) (some (.ref lh)) (some (.int ((x.cps.size : Nat) : Int) tn)) (some (.ref li)) (some (.ref ln)) (some (.ref lu))
  sc : m (Str.ofString "script") = some (.ref l)
  ok : TextOk x
  held : IL h lh ((heldM x.cps.toList 0 .O).map Int.ofNat)
  ins : IL h li (insideL (spansM x.cps.toList 0 .O) x.cps.size)
  inn : IL h ln (innerL (spansM x.cps.toList 0 .O) x.cps.size)
  shu : IL h lu (shutL (spansM x.cps.toList 0 .O) x.cps.size)

section
variable {prog : Program} {w : World} {A : Around} {s : Shared} {E : Value → Shared → Prop}

theorem callWith_own1 {pos : Pos} {f : Addr} {o : Obj} {fd : FuncData} {t : Sem Value} {Q : Value → Shared → Prop} (h : wpAny (model prog w) A t (fun v s₁ => (s₁.heap.get? f = some o ∧ o.data = .func fd) ∧ wpAny (model prog w) A (call (.ref f) [v]) Q E s₁) E s) :
    wpAny (model prog w) A (callWith pos (.ref f) [] [(false, t)] []) Q E s :=
  callWith_function_kw (Calls.evalArgs_plain (Calls.spliced_cons (wpAny_mono h (fun _ _ h₁ => Calls.spliced_nil h₁) fun _ _ e => e)))
theorem callWith_own2 {pos : Pos} {f : Addr} {o : Obj} {fd : FuncData} {t u : Sem Value} {Q : Value → Shared → Prop} (h : wpAny (model prog w) A t (fun v s₁ => wpAny (model prog w) A u (fun v' s₂ => (s₂.heap.get? f = some o ∧ o.data = .func fd) ∧ wpAny (model prog w) A (call (.ref f) [v, v']) Q E s₂) E s₁) E s) :
    wpAny (model prog w) A (callWith pos (.ref f) [] [(false, t), (false, u)] []) Q E s :=
  callWith_function_kw (Calls.evalArgs_plain (Calls.spliced_cons (wpAny_mono h (fun _ _ h₁ => Calls.spliced_cons (wpAny_mono h₁ (fun _ _ h₂ => Calls.spliced_nil h₂) fun _ _ e => e)) fun _ _ e => e)))
theorem callWith_bi2 {pos : Pos} {id : String} {t u : Sem Value} {Q : Value → Shared → Prop} (h : wpAny (model prog w) A t (fun v s₁ => wpAny (model prog w) A u (fun v' s₂ => wpAny (model prog w) A (call (.builtin id) [v, v']) Q E s₂) E s₁) E s) :
    wpAny (model prog w) A (callWith pos (.builtin id) [] [(false, t), (false, u)] []) Q E s :=
  Calls.callWith_builtin rfl (Calls.evalArgs_plain (Calls.spliced_cons (wpAny_mono h (fun _ _ h₁ => Calls.spliced_cons (wpAny_mono h₁ (fun _ _ h₂ => Calls.spliced_nil h₂) fun _ _ e => e)) fun _ _ e => e)))
theorem callWith_ty2 {pos : Pos} {T : String} {t u : Sem Value} {Q : Value → Shared → Prop} (h : wpAny (model prog w) A t (fun v s₁ => wpAny (model prog w) A u (fun v' s₂ => wpAny (model prog w) A (call (.type T) [v, v']) Q E s₂) E s₁) E s) :
    wpAny (model prog w) A (callWith pos (.type T) [] [(false, t), (false, u)] []) Q E s :=
  PyProof.Rows.callWith_type rfl (Calls.evalArgs_plain (Calls.spliced_cons (wpAny_mono h (fun _ _ h₁ => Calls.spliced_cons (wpAny_mono h₁ (fun _ _ h₂ => Calls.spliced_nil h₂) fun _ _ e => e)) fun _ _ e => e)))
/-- range(a, b) -/
theorem range_two {a b : Nat} {x y : Int} {t u : Tok} {Q : Value → Shared → Prop} (hx : x = a) (hy : y = b)
    (h : ∀ s' r t u v, Keeps s s' → IsRange s'.heap r (a : Int) (b : Int) 1 t u v → Q (.ref r) s') : wpAny (model prog w) A (call (.type "range") [.int x t, .int y u]) Q E s := by
  subst hx hy
  exact call_range_2 (h _ _ _ _ _ (Keeps.mk s (Ext.push _ _)) (Heap.get?_push_size _ rfl))
theorem law_a {h₀ : Heap} {L fa l : Addr} {cd : Value} {m : Str → Option Value} {vs : List Value} {ns : List Int} {n : Nat} {Q : Flow → Shared → Prop}
    (B : Base w h₀) (R : Room A (n + 1)) (hl : h₀.IsList l vs.toArray) (hi : IntsAre vs ns) (hlen : ns.length ≤ 63)
    (lc : LC h₀ s.heap L m none none none none none none) (sc : m (Str.ofString "script") = some (.ref l))
    (h : ∀ h' tk m' x tx tn lh li ln lu, PA h₀ h' L m' l x tx tn lh li ln lu → wpAny (model prog w) A (execs (lawBody.drop 6) (lawEnv L fa cd)) Q NoE { s with heap := h', toks := tk }) :
    wpAny (model prog w) A (execs lawBody (lawEnv L fa cd)) Q NoE s := by
  refine wpAny_execs_cons ?_
  refine wpAny_Assign_Name ?_
  refine wpAny_Call_NameR (wpAny_Name (ld_glob (B.ext lc.ext) rfl ?_))
  refine callWith_own1 (wpAny_Name (wpAny_loadName_local rfl rfl lc.ns sc ⟨⟨(B.ext lc.ext).K 56 _ rfl, rfl⟩, ?_⟩))
  refine Ev.use (law_text_ev (B.ext lc.ext) R (hl.at fun o e => lc.ext _ _ e) hi hlen) ?_
  rintro _ s₁ hk₁ ⟨x, tx, rfl, hx⟩
  obtain ⟨h₁, tk₁, rfl, hk₁⟩ := hk₁
  have lc₁ := lc.grow hk₁
  refine wpAny_storeName_cell rfl rfl rfl lc₁.c1 fun h₂ hc₂ hs₂ => ?_
  have lc₂ := lc₁.set1 hc₂ hs₂
  clear lc lc₁
  -- spans, held = _law_spans(text)
  refine wpAny_execs_cons (Assign_Tuple ?_)
  refine wpAny_Call_NameR (wpAny_Name (ld_glob (B.ext lc₂.ext) rfl ?_))
  refine callWith_own1 (wpAny_Name (wpAny_loadName_cell rfl rfl rfl lc₂.c1 ⟨⟨(B.ext lc₂.ext).K 63 _ rfl, rfl⟩, ?_⟩))
  refine Ev.use (law_spans_ev (B.ext lc₂.ext) R hx) ?_
  rintro _ s₃ hk₃ ⟨r, ls, lh, vs', hs', rfl, hT, hne, hls, hlh, pls, sls, plh, ilh⟩
  obtain ⟨h₃, tk₃, rfl, hk₃⟩ := hk₃
  have lc₃ := lc₂.grow hk₃
  refine wpAny_assign_Tuple R.hh hT rfl rfl fun h₄ hx₄ => ?_
  have hx₄' : Ext h₃ h₄ := fun b o e => hx₄ b o (Nat.ne_of_lt (Heap.lt_size e)) e
  have lc₄ := lc₃.grow hx₄'
  have SL₄ : ∃ vs, h₄.PlainList ls vs ∧ SpansAre h₄ (spansM x.cps.toList 0 .O) vs.toList := ⟨vs', pls.at fun o e => hx₄' _ o e, sls.mono fun a _ o _ e => hx₄' a o e⟩
  have HL₄ : IL h₄ lh ((heldM x.cps.toList 0 .O).map Int.ofNat) := ⟨hs', plh.at fun o e => hx₄' _ o e, ilh⟩
  clear hT pls sls plh ilh lc₃ lc₂
  refine wpAny_assignInOrder_more (wpAny_assign_Name (wpAny_storeName_local rfl lc₄.ns fun h₅ hn₅ hs₅ => ?_))
  have SL₅ := lc₄.sl SL₄ (But.one hs₅ (.head _))
  have HL₅ := lc₄.il HL₄ (But.one hs₅ (.head _))
  have lc₅ := lc₄.setL hn₅ hs₅
  clear lc₄ SL₄ HL₄
  refine wpAny_assignInOrder_more (wpAny_assign_Name (wpAny_storeName_cell rfl rfl rfl lc₅.c2 fun h₆ hc₆ hs₆ => ?_))
  have SL₆ := lc₅.sl SL₅ (But.one hs₆ (.tail _ (.tail _ (.head _))))
  have HL₆ := lc₅.il HL₅ (But.one hs₆ (.tail _ (.tail _ (.head _))))
  have lc₆ := lc₅.set2 hc₆ hs₆
  clear lc₅ SL₅ HL₅
  refine wpAny_assignInOrder_none ?_
  -- size = len(text)
  refine wpAny_execs_cons (wpAny_Assign_Name ?_)
  refine wpAny_Call_NameR (wpAny_Name (ld_blt (B.ext lc₆.ext) rfl rfl ?_))
  refine callWith_builtin1 (wpAny_Name (wpAny_loadName_cell rfl rfl rfl lc₆.c1 ?_))
  refine PyProof.Rows.len_str (len_ok hx) ?_
  refine wpAny_storeName_cell rfl rfl rfl lc₆.c3 fun h₇ hc₇ hs₇ => ?_
  have SL₇ := lc₆.sl SL₆ (But.one hs₇ (.tail _ (.tail _ (.tail _ (.head _)))))
  have HL₇ := lc₆.il HL₆ (But.one hs₇ (.tail _ (.tail _ (.tail _ (.head _)))))
  have lc₇ := lc₆.set3 hc₇ hs₇
  clear lc₆ SL₆ HL₆
  have ht : x.cps.toList.length ≤ 26 := by rw [Array.length_toList]; exact hx.2.1
  -- inside
  refine wpAny_execs_cons (wpAny_Assign_Name ?_)
  have SL₇' := SL₇
  obtain ⟨vs₇, pl₇, sp₇⟩ := SL₇'
  refine comp2_ev (S := spansM x.cps.toList 0 .O) (p := fun _ => true) (g := gIns x.cps.size) R.hh lc₇.ns (if_pos rfl) pl₇ sp₇ rfl rfl (by decide) (by decide) rfl rfl rfl
    (cats_len ht (gIns_le _)) (cats_bd ht (gIns_le _)) ?_ ?_ ?_
  · intro C s₃ m₃ q t u hq hn₃ h1 h2 hx₃
    exact wpAny_tests_nil ⟨rfl, Keeps.rfl' _⟩
  · intro C s₃ m₃ q t u hq _ hn₃ h1 h2 hx₃
    refine wpAny_Call_NameR (wpAny_Name (ld_blt (B.ext (lc₇.ext.trans hx₃)) rfl rfl ?_))
    refine callWith_ty2 (wpAny_Name (wpAny_loadName_local rfl rfl hn₃ h1 ?_))
    refine wpAny_Call_NameR (wpAny_Name (ld_blt (B.ext (lc₇.ext.trans hx₃)) rfl rfl ?_))
    refine callWith_bi2 (wpAny_BinOp ?_)
    refine wpAny_Name (wpAny_loadName_local rfl rfl hn₃ h2 ?_)
    refine wpAny_Constant_int (PyProof.Rows.add_int ?_)
    refine wpAny_Name (wpAny_loadName_cell rfl rfl rfl (lc₇.c3.keeps hx₃) ?_)
    refine min_nat (a := q.2 + 1) (b := x.cps.size) R.hh (by push_cast; rfl) rfl fun h' tk t' hx' => ?_
    refine range_two (a := (gIns x.cps.size q).1) (b := (gIns x.cps.size q).2) rfl rfl fun s' r t u v hk hr => ?_
    exact ⟨⟨r, t, u, v, rfl, hr⟩, Keeps.trans (Keeps.mk _ hx') hk⟩
  intro li s₈ ys₈ _ hk₈ pl₈ il₈
  obtain ⟨h₈, tk₈, rfl, hk₈⟩ := hk₈
  clear pl₇ sp₇
  have lc₈ := lc₇.grow hk₈
  have SL₈ := lc₇.sl SL₇ (But.ext hk₈)
  have HL₈ := HL₇.ext hk₈
  have I₈ : IL h₈ li (insideL (spansM x.cps.toList 0 .O) x.cps.size) := ⟨ys₈, pl₈, il₈⟩
  clear lc₇ SL₇ HL₇ pl₈ il₈
  refine wpAny_storeName_cell rfl rfl rfl lc₈.c4 fun h₉ hc₉ hs₉ => ?_
  have b₉ : But (W0 L) h₈ h₉ := But.one hs₉ (.tail _ (.tail _ (.tail _ (.tail _ (.head _)))))
  have SL₉ := lc₈.sl SL₈ b₉
  have HL₉ := lc₈.il HL₈ b₉
  have I₉ := lc₈.il I₈ b₉
  have lc₉ := lc₈.set4 hc₉ hs₉
  clear lc₈ SL₈ HL₈ I₈
  -- inner
  refine wpAny_execs_cons (wpAny_Assign_Name ?_)
  have SL₉' := SL₉
  obtain ⟨vs₉, pl₉, sp₉⟩ := SL₉'
  refine comp2_ev (S := spansM x.cps.toList 0 .O) (p := fun _ => true) (g := gInn x.cps.size) R.hh lc₉.ns (if_pos rfl) pl₉ sp₉ rfl rfl (by decide) (by decide) rfl rfl rfl
    (cats_len ht (gInn_le _)) (cats_bd ht (gInn_le _)) ?_ ?_ ?_
  · intro C s₃ m₃ q t u hq hn₃ h1 h2 hx₃
    exact wpAny_tests_nil ⟨rfl, Keeps.rfl' _⟩
  · intro C s₃ m₃ q t u hq _ hn₃ h1 h2 hx₃
    refine wpAny_Call_NameR (wpAny_Name (ld_blt (B.ext (lc₉.ext.trans hx₃)) rfl rfl ?_))
    refine callWith_ty2 (wpAny_BinOp (wpAny_Name (wpAny_loadName_local rfl rfl hn₃ h1 ?_)))
    refine wpAny_Constant_int (PyProof.Rows.add_int ?_)
    refine wpAny_Call_NameR (wpAny_Name (ld_blt (B.ext (lc₉.ext.trans hx₃)) rfl rfl ?_))
    refine callWith_bi2 ?_
    refine wpAny_Name (wpAny_loadName_local rfl rfl hn₃ h2 ?_)
    refine wpAny_Name (wpAny_loadName_cell rfl rfl rfl (lc₉.c3.keeps hx₃) ?_)
    refine min_nat (a := q.2) (b := x.cps.size) R.hh rfl rfl fun h' tk t' hx' => ?_
    refine range_two (a := (gInn x.cps.size q).1) (b := (gInn x.cps.size q).2) (by push_cast; rfl) rfl fun s' r t u v hk hr => ?_
    exact ⟨⟨r, t, u, v, rfl, hr⟩, Keeps.trans (Keeps.mk _ hx') hk⟩
  intro ln s₁₀ ys₁₀ _ hk₁₀ pl₁₀ il₁₀
  obtain ⟨h₁₀, tk₁₀, rfl, hk₁₀⟩ := hk₁₀
  clear pl₉ sp₉
  have lc₁₀ := lc₉.grow hk₁₀
  have SL₁₀ := lc₉.sl SL₉ (But.ext hk₁₀)
  have HL₁₀ := HL₉.ext hk₁₀
  have I₁₀ := I₉.ext hk₁₀
  have N₁₀ : IL h₁₀ ln (innerL (spansM x.cps.toList 0 .O) x.cps.size) := ⟨ys₁₀, pl₁₀, il₁₀⟩
  clear lc₉ SL₉ HL₉ I₉ pl₁₀ il₁₀
  refine wpAny_storeName_cell rfl rfl rfl lc₁₀.c5 fun h₁₁ hc₁₁ hs₁₁ => ?_
  have b₁₁ : But (W0 L) h₁₀ h₁₁ := But.one hs₁₁ (.tail _ (.tail _ (.tail _ (.tail _ (.tail _ (.head _))))))
  have SL₁₁ := lc₁₀.sl SL₁₀ b₁₁
  have HL₁₁ := lc₁₀.il HL₁₀ b₁₁
  have I₁₁ := lc₁₀.il I₁₀ b₁₁
  have N₁₁ := lc₁₀.il N₁₀ b₁₁
  have lc₁₁ := lc₁₀.set5 hc₁₁ hs₁₁
  clear lc₁₀ SL₁₀ HL₁₀ I₁₀ N₁₀
  -- shut
  refine wpAny_execs_cons (wpAny_Assign_Name ?_)
  have SL₁₁' := SL₁₁
  obtain ⟨vs₁₁, pl₁₁, sp₁₁⟩ := SL₁₁'
  refine comp2_ev (S := spansM x.cps.toList 0 .O) (p := fun q => decide (q.2 < x.cps.size)) (g := gShu) R.hh lc₁₁.ns (if_pos rfl) pl₁₁ sp₁₁ rfl rfl (by decide) (by decide) rfl rfl rfl
    (cats_len ht gShu_le) (cats_bd ht gShu_le) ?_ ?_ ?_
  · intro C s₃ m₃ q t u hq hn₃ h1 h2 hx₃
    refine wpAny_tests_one (wpAny_isTrue_Compare1 ?_)
    refine wpAny_Name (wpAny_loadName_local rfl rfl hn₃ h2 ?_)
    refine wpAny_Name (wpAny_loadName_cell rfl rfl rfl (lc₁₁.c3.keeps hx₃) ?_)
    refine PyProof.Rows.lt_int (wpAny_truthy_bool ⟨dec_lt _ _, Keeps.rfl' _⟩)
  · intro C s₃ m₃ q t u hq _ hn₃ h1 h2 hx₃
    refine wpAny_Call_NameR (wpAny_Name (ld_blt (B.ext (lc₁₁.ext.trans hx₃)) rfl rfl ?_))
    refine callWith_ty2 (wpAny_Name (wpAny_loadName_local rfl rfl hn₃ h1 ?_))
    refine wpAny_BinOp (wpAny_Name (wpAny_loadName_local rfl rfl hn₃ h2 ?_))
    refine wpAny_Constant_int (PyProof.Rows.add_int ?_)
    refine range_two (a := (gShu q).1) (b := (gShu q).2) rfl (by push_cast; rfl) fun s' r t u v hk hr => ?_
    exact ⟨⟨r, t, u, v, rfl, hr⟩, Keeps.trans (Keeps.mk s₃ (Ext.rfl' _)) hk⟩
  intro lu s₁₂ ys₁₂ _ hk₁₂ pl₁₂ il₁₂
  obtain ⟨h₁₂, tk₁₂, rfl, hk₁₂⟩ := hk₁₂
  clear pl₁₁ sp₁₁
  have lc₁₂ := lc₁₁.grow hk₁₂
  have HL₁₂ := HL₁₁.ext hk₁₂
  have I₁₂ := I₁₁.ext hk₁₂
  have N₁₂ := N₁₁.ext hk₁₂
  have U₁₂ : IL h₁₂ lu (shutL (spansM x.cps.toList 0 .O) x.cps.size) := ⟨ys₁₂, pl₁₂, il₁₂⟩
  clear lc₁₁ SL₁₁ HL₁₁ I₁₁ N₁₁ pl₁₂ il₁₂
  refine wpAny_storeName_cell rfl rfl rfl lc₁₂.c6 fun h₁₃ hc₁₃ hs₁₃ => ?_
  have b₁₃ : But (W0 L) h₁₂ h₁₃ := But.one hs₁₃ (.tail _ (.tail _ (.tail _ (.tail _ (.tail _ (.tail _ (.head _)))))))
  exact h h₁₃ _ _ x tx _ lh li ln lu ⟨lc₁₂.set6 hc₁₃ hs₁₃, (if_neg (by decide)).trans sc, hx, lc₁₂.il HL₁₂ b₁₃, lc₁₂.il I₁₂ b₁₃, lc₁₂.il N₁₂ b₁₃, lc₁₂.il U₁₂ b₁₃⟩
end
end Mine
end

section
open PySem PySem.W PyProof.Rows
set_option maxRecDepth 100000
set_option maxHeartbeats 400000
namespace Mine
section
variable {prog : Program} {w : World} {A : Around} {s : Shared} {env : Env} {E : Value → Shared → Prop}

/-- the tests and the element of a comprehension over range(q.1, q.2) -/
structure OnRange (prog : Program) (w : World) (A : Around) (env : Env) (scope : Scope) (cl : List (Str × Addr)) (x : Str) (ifs : List Expr) (elt : Expr) (q : Nat × Nat) (p : Nat → Bool) (f : Nat → Value → Prop) (h₀ : Heap) : Prop where
  tests : ∀ C i s₃ m₃ t, q.1 ≤ i → i < q.2 → s₃.heap.Ns C m₃ → m₃ x = some (.int (i : Int) t) → Ext h₀ s₃.heap →
    wpAny (model prog w) A (forIn ifs true fun c r => if r = true then do let ok ← isTrue c (compEnvC scope cl C env) (eval c (compEnvC scope cl C env)); pure (ForInStep.yield ok) else pure (ForInStep.yield r)) (fun ok s₄ => ok = p i ∧ Keeps s₃ s₄) NoE s₃
  elt : ∀ C i s₃ m₃ t, q.1 ≤ i → i < q.2 → p i = true → s₃.heap.Ns C m₃ → m₃ x = some (.int (i : Int) t) → Ext h₀ s₃.heap →
    wpAny (model prog w) A (eval elt (compEnvC scope cl C env)) (fun y s₄ => f i y ∧ Keeps s₃ s₄) NoE s₃

theorem rInts_nat {q : Nat × Nat} {i : Nat} {z : Int} (h : (rInts q)[i]? = some z) : ∃ k : Nat, z = k ∧ q.1 ≤ k ∧ k < q.2 ∧ (List.range' q.1 (q.2 - q.1))[i]? = some k := by
  unfold rInts at h
  rw [List.getElem?_map] at h
  cases e : (List.range' q.1 (q.2 - q.1))[i]? with
  | none => rw [e] at h; cases h
  | some k =>
    rw [e] at h; cases h
    have := List.mem_of_getElem? e
    rw [List.mem_range'_1] at this
    exact ⟨k, rfl, this.1, by omega, rfl⟩
def asNat : Value → Nat
  | .int z _ => z.toNat
  | _ => 0
theorem paired_range {q : Nat × Nat} {p : Nat → Bool} {f : Nat → Value → Prop} {vs : List Value} {ys : List Value} (hlen : vs.length = q.2 - q.1)
    (hP : ∀ (j : Nat) (v : Value), vs[j]? = some v → ∃ z t, (rInts q)[j]? = some z ∧ v = .int z t) (hF : Paired (fun v y => f (asNat v) y) (vs.filter fun v => p (asNat v)) ys) :
    Paired f ((List.range' q.1 (q.2 - q.1)).filter p) ys := by
  have e : vs.map asNat = List.range' q.1 (q.2 - q.1) := by
    apply List.ext_getElem?
    intro j
    rw [List.getElem?_map]
    cases ev : vs[j]? with
    | none =>
      have : vs.length ≤ j := by simpa using ev
      rw [List.getElem?_eq_none (by simp; omega)]; rfl
    | some v =>
      obtain ⟨z, t, hz, rfl⟩ := hP j v ev
      obtain ⟨k, rfl, _, _, hk⟩ := rInts_nat hz
      rw [hk]; rfl
  have e2 : (List.range' q.1 (q.2 - q.1)).filter p = (vs.filter fun v => p (asNat v)).map asNat := by
    rw [← e, List.filter_map]; rfl
  rw [e2]
  have : ∀ {xs : List Value} {ys : List Value}, Paired (fun v y => f (asNat v) y) xs ys → Paired f (xs.map asNat) ys := by
    intro xs ys h
    induction h with
    | nil => exact .nil
    | cons h _ ih => exact .cons h ih
  exact this hF

theorem range_core {elt iter : Expr} {x : Str} {ifs : List Expr} {scope : Scope} {cl : List (Str × Addr)} {q : Nat × Nat} {p : Nat → Bool} {f : Nat → Value → Prop} {Z : Value → Shared → Prop}
    (hh : A.handled = none) (hq : q.1 ≤ 1000 ∧ q.2 ≤ 1000) (O : OnRange prog w A env scope cl x ifs elt q p f s.heap)
    (hiter : wpAny (model prog w) A (eval iter env) (fun v s₁ => Keeps s s₁ ∧ ∃ r t u y, v = .ref r ∧ IsRange s₁.heap r (q.1 : Int) (q.2 : Int) 1 t u y) NoE s)
    (k : ∀ s₂ I (St : Nat → Heap → Prop), Keeps s s₂ → s.heap.get? I = none → I < s₂.heap.objs.size → Walks prog w A I [I] [I] (q.2 - q.1) (fun i v => ∃ z t, (rInts q)[i]? = some z ∧ v = .int z t) St → St 0 s₂.heap →
      QuietOnC prog w A env scope cl x ifs elt [I] (fun i v => ∃ z t, (rInts q)[i]? = some z ∧ v = .int z t) (fun v => p (asNat v)) (fun v y => f (asNat v) y) s₂ → Z (.ref I) s₂) :
    wpAny (model prog w) A (eval iter env) (fun xv s₁ => wpAny (model prog w) A (pyIter xv) Z E s₁) E s := by
  refine noted_err (wpAny_mono hiter (fun v s₁ h₁ => ?_) fun _ _ e => e)
  obtain ⟨hk₁, r, t, u, y, rfl, hr⟩ := h₁
  obtain ⟨hsm, hrs⟩ := range_small q hq.1 hq.2
  refine wpAny_pyIter_range hr hsm ?_
  rw [hrs]
  obtain ⟨h₁, tk₁, rfl, hk₁⟩ := hk₁
  have hW := walks_rInts (prog := prog) (w := w) (A := A) hh h₁.objs.size q
  have hfr : s.heap.get? h₁.objs.size = none := by
    cases e : s.heap.get? h₁.objs.size with
    | none => rfl
    | some o => exact absurd (Heap.lt_size (hk₁ _ _ e)) (Nat.lt_irrefl _)
  have hxx : Ext s.heap (h₁.push { cls := .type "range_iterator", data := .fields #[rawInt (q.1 : Int), rawInt ((q.2 - q.1 : Nat) : Int), rawInt 1] }) := fun b o e => Heap.get?_push_of_some _ (hk₁ b o e)
  have up : ∀ s₃ : Shared, (∀ b o, b ∉ [h₁.objs.size] → (h₁.push { cls := .type "range_iterator", data := .fields #[rawInt (q.1 : Int), rawInt ((q.2 - q.1 : Nat) : Int), rawInt 1] }).get? b = some o → s₃.heap.get? b = some o) → Ext s.heap s₃.heap :=
    fun s₃ hk b o e => hk b o (fun hb => by rw [List.mem_singleton.mp hb, hfr] at e; cases e) (hxx b o e)
  refine k _ h₁.objs.size _ (Keeps.mk s hxx) hfr (by show _ < (h₁.push _).objs.size; rw [Heap.size_push]; exact Nat.lt_succ_self _) hW (by simpa using Heap.get?_push_size h₁ rfl) ⟨?_, ?_⟩
  · rintro C i v s₃ m₃ E' _ ⟨z, t, hz, rfl⟩ hn₃ hm₃ hk₃ _
    obtain ⟨j, rfl, hj1, hj2, _⟩ := rInts_nat hz
    exact noted_err (O.tests C j s₃ m₃ t hj1 hj2 hn₃ hm₃ (up s₃ hk₃))
  · rintro C i v s₃ m₃ E' _ ⟨z, t, hz, rfl⟩ hp hn₃ hm₃ hk₃ _
    obtain ⟨j, rfl, hj1, hj2, _⟩ := rInts_nat hz
    exact noted_err (O.elt C j s₃ m₃ t hj1 hj2 hp hn₃ hm₃ (up s₃ hk₃))
theorem comp1_ev {elt iter : Expr} {x : Str} {px : Pos} {ifs : List Expr} {scope : Scope} {cl : List (Str × Addr)} {pos : Pos} {q : Nat × Nat} {p : Nat → Bool} {f : Nat → Value → Prop} {P : Value → Shared → Prop}
    (hh : A.handled = none) (hq : q.1 ≤ 1000 ∧ q.2 ≤ 1000) (hclos : closureFor scope env = pure cl) (hcell : ∀ y ∈ scope.names, y.2 ≠ .cell) (hkind : scope.kind = .function)
    (hnames : ∀ y ∈ scope.names, y.2 = .local → scope.names.lookup y.1 = some .local) (hx : scope.names.lookup x = some .local)
    (O : OnRange prog w A env scope cl x ifs elt q p f s.heap)
    (hiter : wpAny (model prog w) A (eval iter env) (fun v s₁ => Keeps s s₁ ∧ ∃ r t u y, v = .ref r ∧ IsRange s₁.heap r (q.1 : Int) (q.2 : Int) 1 t u y) NoE s)
    (hP : ∀ D s' ys, s.heap.get? D = none → Keeps s s' → s'.heap.PlainList D ys → Paired f ((List.range' q.1 (q.2 - q.1)).filter p) ys.toList → P (.ref D) s')
    (hs : ∀ x, foldedSetIterable iter env x = pure x := by intro _; rfl) :
    wpAny (model prog w) A (eval (.ListComp elt [⟨.Name x px, iter, ifs, 0⟩] scope pos) env) P E s := by
  refine wpAny_ListComp_free (fun v => p (asNat v)) (fun v y => f (asNat v) y) hclos hcell hkind hnames hx (range_core hh hq O hiter fun s₂ I St hks hI hIlt hW hst hQ => ?_) hs
  refine ⟨I, [I], [I], _, _, St, rfl, hW, by rw [sizeLine_eq]; omega, hst, fun b hb => by rw [List.mem_singleton.mp hb]; exact hIlt, hQ, ?_⟩
  intro D h' tk ys vs hD _ hpl hlen hPv hF hk
  have hx : Ext s.heap h' := fun b o e => hk b o (fun hb => by rw [List.mem_singleton.mp hb, hI] at e; cases e) (Keeps.ext hks b o e)
  obtain ⟨h₂, tk₂, rfl, hk₂⟩ := hks
  refine hP D _ ys ?_ (Keeps.mk s hx) hpl (paired_range hlen hPv hF)
  cases e : s.heap.get? D with
  | none => rfl
  | some o => exact absurd (hD.symm.trans (hk₂ D o e)) (by simp)
theorem comp1_assign {elt iter : Expr} {x y : Str} {px py : Pos} {ifs : List Expr} {scope : Scope} {cl : List (Str × Addr)} {pos spos : Pos} {q : Nat × Nat} {p : Nat → Bool} {f : Nat → Value → Prop} {m : Str → Option Value} {Q : Flow → Shared → Prop}
    (hh : A.handled = none) (hq : q.1 ≤ 1000 ∧ q.2 ≤ 1000)
    (hsw : swapsWith (.ListComp elt [⟨.Name x px, iter, ifs, 0⟩] scope pos) (some (.Name y py)) spos.line env = pure true)
    (hclos : closureFor scope env = pure cl) (hcell : ∀ y ∈ scope.names, y.2 ≠ .cell) (hkind : scope.kind = .function)
    (hnames : ∀ y ∈ scope.names, y.2 = .local → scope.names.lookup y.1 = some .local) (hx : scope.names.lookup x = some .local)
    (hy : env.kindOf y = some .local) (hp : (env.scope.kind == .class || (env.scope.kind == .module && env.locals != env.globals)) = false)
    (hn : s.heap.Ns env.locals m)
    (O : OnRange prog w A env scope cl x ifs elt q p f s.heap)
    (hiter : wpAny (model prog w) A (eval iter env) (fun v s₁ => Keeps s s₁ ∧ ∃ r t u y, v = .ref r ∧ IsRange s₁.heap r (q.1 : Int) (q.2 : Int) 1 t u y) NoE s)
    (hQ : ∀ D h' tk ys, s.heap.get? D = none → h'.Ns env.locals (fun z => if z = y then some (.ref D) else m z) → But [env.locals] s.heap h' → h'.PlainList D ys → Paired f ((List.range' q.1 (q.2 - q.1)).filter p) ys.toList → Q .next { s with heap := h', toks := tk })
    (hs : ∀ x, foldedSetIterable iter env x = pure x := by intro _; rfl) :
    wpAny (model prog w) A (exec (.Assign [.Name y py] (.ListComp elt [⟨.Name x px, iter, ifs, 0⟩] scope pos) spos) env) Q E s := by
  refine wpAny_Assign_ListComp_free (fun v => p (asNat v)) (fun v y => f (asNat v) y) hsw hclos hcell hkind hnames hx hy hp (range_core hh hq O hiter fun s₂ I St hks hI hIlt hW hst hQC => ?_) hs
  obtain ⟨h₂, tk₂, rfl, hk₂⟩ := hks
  have hLI : env.locals ≠ I := by
    rintro rfl
    obtain ⟨o, _, _, ho, _⟩ := hn
    rw [hI] at ho; cases ho
  refine ⟨I, [I], [I], _, _, St, m, rfl, hW, by rw [sizeLine_eq]; omega, hst, fun b hb => by rw [List.mem_singleton.mp hb]; exact hIlt, by simpa using hLI, hn.keeps hk₂, hQC, ?_⟩
  intro D h' tk ys vs hD _ hpl hlen hPv hF hn' hk
  refine hQ D h' tk ys ?_ hn' (fun b o hb e => hk b o (by simpa using hb) (fun hb' => by rw [List.mem_singleton.mp hb', hI] at e; cases e) (hk₂ b o e)) hpl (paired_range hlen hPv hF)
  cases e : s.heap.get? D with
  | none => rfl
  | some o => exact absurd (hD.symm.trans (hk₂ D o e)) (by simp)
end
end Mine
end

section
open PySem PySem.W PyProof.Rows
set_option maxRecDepth 100000
set_option maxHeartbeats 400000
namespace Mine
theorem glued_foldl : ∀ (l : List (List Nat)) (acc : Array Nat), (l.map sOf).foldl (fun acc p => acc ++ (#[] : Array Nat) ++ p.cps) acc = acc ++ l.flatten.toArray
  | [], acc => by simp
  | a :: r, acc => by
    rw [List.map_cons, List.foldl_cons, glued_foldl r]
    simp [sOf]
theorem join_sOf (l : List (List Nat)) : Txt.join (Str.ofString "") (l.map sOf) = sOf l.flatten := by
  rw [show Str.ofString "" = ⟨#[]⟩ from by decide +kernel]
  unfold Txt.join Builtin.Str.glued
  cases l with
  | nil => rfl
  | cons a r =>
    rw [List.map_cons, List.drop_one, List.tail_cons, List.headD_cons]
    show (⟨_⟩ : Str) = _
    rw [glued_foldl]
    simp [sOf]
theorem joinOk_foldl : ∀ (l : List (List Nat)) (k : Nat), (l.map sOf).foldl (fun a p => a + p.length + 0) k = k + l.flatten.length
  | [], k => by simp
  | a :: r, k => by
    rw [List.map_cons, List.foldl_cons, joinOk_foldl r, sOf_len]
    simp; omega
theorem joinOk_sOf {l : List (List Nat)} (h : l.flatten.length ≤ sizeLine) : JoinOk (Str.ofString "") (l.map sOf) = true := by
  unfold JoinOk
  have e : (Str.ofString "").length = 0 := by decide +kernel
  rw [e, List.foldl_toArray, joinOk_foldl]
  unfold Builtin.Str.tooLong
  rw [Nat.zero_add, Bool.not_eq_true', decide_eq_false_iff_not]
  omega
theorem strs_values : ∀ {l : List (List Nat)} {vs : List Value}, StrsAre l vs → ∃ ps : List (Str × Tok), strValues ps = vs ∧ ps.map (·.1) = l.map sOf
  | _, _, .nil => ⟨[], rfl, rfl⟩
  | _, _, .cons ⟨t, e⟩ h => by
    obtain ⟨ps, h1, h2⟩ := strs_values h
    exact ⟨(_, t) :: ps, by rw [e, ← h1]; rfl, by rw [List.map_cons, h2]; rfl⟩
theorem two_signs : Str.ofString "\"\\" = ⟨#[34, 92]⟩ := by decide +kernel
theorem in_two_fin : ∀ c : Fin 128, (!(Builtin.Str.occurrences ⟨#[34, 92]⟩ ⟨#[c.val]⟩ 0 2 1).isEmpty) = (c.val == 34 || c.val == 92) := by decide +kernel

section
variable {prog : Program} {w : World} {A : Around} {s : Shared} {env : Env} {E : Value → Shared → Prop}
theorem join_strs {D : Addr} {l : List (List Nat)} {vs : Array Value} {t : Tok} {Q : Value → Shared → Prop} (hl : s.heap.PlainList D vs) (hs : StrsAre l vs.toList) (hsz : l.flatten.length ≤ sizeLine)
    (h : ∀ t' k, Q (.str (sOf l.flatten) t') { s with toks := k }) : wpAny (model prog w) A (call (.builtin "str.join") [.str (Str.ofString "") t, .ref D]) Q E s := by
  obtain ⟨ps, h1, h2⟩ := strs_values hs
  refine SC.join (l := ps) (texts := l.map sOf) (by rw [h1, Array.toArray_toList]; exact hl.isList) h2 (joinOk_sOf hsz) fun t' k => ?_
  rw [join_sOf]; exact h t' k
theorem in_two {c : Nat} {t u : Tok} {Q : Value → Shared → Prop} (hc : c < 128) (h : Q (.bool (c == 34 || c == 92)) s) :
    wpAny (model prog w) A (compareOp .In (.str ⟨#[c]⟩ t) (.str (Str.ofString "\"\\") u)) Q E s := by
  rw [two_signs]
  refine PyProof.Rows.in_str ?_
  have := in_two_fin ⟨c, hc⟩
  show Q (.bool !(Builtin.Str.occurrences ⟨#[34, 92]⟩ ⟨#[c]⟩ 0 2 1).isEmpty) s
  rw [this]; exact h
/-- text[i] in a comprehension -/
theorem text_at {x : Str} {tx : Tok} {i : Nat} {t : Tok} {a : Addr} {m : Str → Option Value} {p1 p2 pos : Pos} {Q : Value → Shared → Prop} (hx : TextOk x) (hi : i < x.cps.size) (hc : s.heap.IsCell a (some (.str x tx))) (hn : s.heap.Ns env.locals m) (hm : m nI = some (.int (i : Int) t))
    (h : ∀ t' tk, Q (.str ⟨#[x.cps.toList.getD i 0]⟩ t') { s with toks := tk })
    (hk : env.scope.kind = .function := by rfl) (k1 : env.kindOf (Str.ofString "text") = some .cell := by rfl) (k2 : env.kindOf nI = some .local := by rfl) (ha : env.cells.lookup (Str.ofString "text") = some a := by rfl) :
    wpAny (model prog w) A (eval (.Subscript (.Name (Str.ofString "text") p1) (.Name nI p2) pos) env) Q E s := by
  refine Subscript_ ?_
  refine wpAny_Name (wpAny_loadName_cell hk k1 ha hc ?_) (by decide)
  refine wpAny_Name (wpAny_loadName_local hk k2 hn hm ?_) (by decide)
  have e : x.cps[(i : Int).toNat]? = some (x.cps.toList.getD i 0) := by
    rw [Int.toNat_natCast, List.getD_eq_getElem?_getD, Array.getElem?_toList]
    simp [hi]
  exact str_item (by omega) (text_small hx hi) e fun t' tk => h t' tk
theorem text_lt {x : Str} {i : Nat} (hx : TextOk x) (hi : i < x.cps.size) : x.cps.toList.getD i 0 < 128 := by
  have : x.cps.toList.getD i 0 ∈ x.cps.toList := by
    rw [List.getD_eq_getElem?_getD, List.getElem?_eq_getElem (by rw [Array.length_toList]; exact hi)]
    simp
  exact (hx.2.2 _ this).1
theorem sum_any {l : Addr} {vs : Array Value} {ns : List Int} {Q : Value → Shared → Prop} (hh : A.handled = none) (hl : s.heap.IsList l vs) (hi : IntsAre vs.toList ns)
    (h : ∀ h' tk z t, Ext s.heap h' → Q (.int z t) { s with heap := h', toks := tk }) : wpAny (model prog w) A (call (.builtin "sum") [.ref l]) Q E s := by
  refine call_sum_walkG (wpAny_pyIter_list hl ?_)
  have hlt : l < s.heap.objs.size := let ⟨_, e, _⟩ := hl; Heap.lt_size e
  refine ⟨_, _, _, _, _, _, fun i => ns.getD i 0, rfl, Walks.list (A := A.in1) hh s.heap.objs.size l (Nat.ne_of_lt hlt) vs, ⟨⟨_, Heap.get?_push_size _ rfl, rfl, rfl⟩, hl.push _⟩, ?_, ?_, ?_⟩
  · intro b hb
    show b < (s.heap.push _).objs.size
    rw [Heap.size_push]
    simp only [List.mem_cons, List.not_mem_nil, or_false] at hb
    rcases hb with rfl | rfl
    · exact Nat.lt_succ_self _
    · exact Nat.lt_succ_of_lt hlt
  · intro i v hv
    have hv' : vs.toList[i]? = some v := by simpa using hv
    have hlt : i < vs.toList.length := (List.getElem?_eq_some_iff.mp hv').1
    rw [hi.length] at hlt
    obtain ⟨t, ht⟩ := hi.get i ns[i] (by simp [hlt])
    rw [ht] at hv'
    refine ⟨t, ?_⟩
    have : ns.getD i 0 = ns[i] := by rw [List.getD_eq_getElem?_getD]; simp [hlt]
    show v = Value.int (ns.getD i 0) t
    rw [this]; exact (Option.some.inj hv').symm
  · intro h' tk t' hk
    refine h h' tk _ t' fun b o e => hk b o (fun hb => ?_) (Heap.get?_push_of_some _ e)
    have := Heap.lt_size e
    exact absurd (List.mem_singleton.mp hb) (Nat.ne_of_lt this)
end
end Mine
end

section
open PySem PySem.W PyProof.Rows
set_option maxRecDepth 100000
set_option maxHeartbeats 400000
namespace Mine
/-! what law makes of the text -/
def twPart (t : List Nat) (i : Nat) : List Nat :=
  if ((innerL (spansM t 0 .O) t.length).contains (i : Int) && (t.getD i 0 == 34 || t.getD i 0 == 92)) = true then [92, t.getD i 0] else [t.getD i 0]
def twiceL (t : List Nat) : List Nat := ((List.range' 0 t.length).map (twPart t)).flatten
def cuts0 (t : List Nat) : List Nat := (List.range' 0 t.length).filter fun i => t.getD i 0 == 44 && !(insideL (spansM t 0 .O) t.length).contains (i : Int)
def cutsL (t : List Nat) : List Nat := if ((cuts0 t).map Int.ofNat).contains ((t.length : Int) - 1) = true then cuts0 t else cuts0 t ++ [t.length]
theorem twPart_len (t : List Nat) (i : Nat) : (twPart t i).length ≤ 2 := by unfold twPart; split <;> simp
theorem flat_le {K : Nat} : ∀ (l : List (List Nat)), (∀ a ∈ l, a.length ≤ K) → l.flatten.length ≤ l.length * K
  | [], _ => by simp
  | a :: r, h => by
    have h1 := flat_le r fun b hb => h b (.tail _ hb)
    have h2 := h a (.head _)
    rw [List.flatten_cons, List.length_append, List.length_cons, Nat.add_mul, Nat.one_mul]; omega
theorem twPart_t {t : List Nat} {i : Nat} (h1 : (innerL (spansM t 0 .O) t.length).contains (i : Int) = true) (h2 : (t.getD i 0 == 34 || t.getD i 0 == 92) = true) : twPart t i = [92, t.getD i 0] := by
  unfold twPart; rw [h1, h2]; rfl
theorem twPart_f1 {t : List Nat} {i : Nat} (h1 : (innerL (spansM t 0 .O) t.length).contains (i : Int) = false) : twPart t i = [t.getD i 0] := by
  unfold twPart; rw [h1]; rfl
theorem twPart_f2 {t : List Nat} {i : Nat} (h2 : (t.getD i 0 == 34 || t.getD i 0 == 92) = false) : twPart t i = [t.getD i 0] := by
  unfold twPart; rw [h2, Bool.and_false]; rfl
theorem twiceL_len (t : List Nat) : (twiceL t).length ≤ t.length * 2 := by
  have := flat_le (K := 2) ((List.range' 0 t.length).map (twPart t)) fun a ha => by
    obtain ⟨i, _, rfl⟩ := List.mem_map.mp ha
    exact twPart_len t i
  simpa [twiceL] using this
theorem ints_of {l : List Nat} {ys : List Value} (h : Paired (fun (i : Nat) y => ∃ t, y = Value.int (i : Int) t) l ys) : IntsAre ys (l.map Int.ofNat) := by
  induction h with
  | nil => exact .nil
  | cons h _ ih => obtain ⟨t, rfl⟩ := h; exact .cons _ _ ih

theorem one_sign {p : List Nat} {c : Nat} (h : p = [c]) (t : Tok) : Value.str ⟨#[c]⟩ t = .str (sOf p) t := by rw [h]; rfl
theorem back_len {c : Nat} : (Str.ofString "\\").length + (⟨#[c]⟩ : Str).length ≤ sizeLine := by
  rw [back_str, sizeLine_eq]; show 1 + 1 ≤ 16777216; decide
theorem back_add {p : List Nat} {c : Nat} (h : p = [92, c]) (t : Tok) : Value.str (Str.ofString "\\" ++ ⟨#[c]⟩) t = .str (sOf p) t := by
  rw [h, back_str]
  exact congrArg (fun z => Value.str z t) (sOf_push [92] c)
theorem twice_of {t : List Nat} {ys : List Value} (h : Paired (fun i y => ∃ k, y = Value.str (sOf (twPart t i)) k) ((List.range' 0 (t.length - 0)).filter fun _ => true) ys) : StrsAre ((List.range' 0 t.length).map (twPart t)) ys := by
  rw [List.filter_eq_self.mpr (fun _ _ => rfl), Nat.sub_zero] at h
  have : ∀ {l : List Nat} {ys : List Value}, Paired (fun i y => ∃ k, y = Value.str (sOf (twPart t i)) k) l ys → StrsAre (l.map (twPart t)) ys := by
    intro l ys h
    induction h with
    | nil => exact .nil
    | cons h _ ih => exact .cons h ih
  exact this h
section
variable {h₀ h h' : Heap} {L : Addr} {m m' : Str → Option Value} {l lh li ln lu : Addr} {x : Str} {tx tn : Tok}
theorem PA.to (pa : PA h₀ h L m l x tx tn lh li ln lu) (k : But (W0 L) h h') (lc : LC h₀ h' L m' (some (.str x tx)) (some (.ref lh)) (some (.int ((x.cps.size : Nat) : Int) tn)) (some (.ref li)) (some (.ref ln)) (some (.ref lu)))
    (sc : m' (Str.ofString "script") = some (.ref l)) : PA h₀ h' L m' l x tx tn lh li ln lu :=
  ⟨lc, sc, pa.ok, pa.lc.il pa.held k, pa.lc.il pa.ins k, pa.lc.il pa.inn k, pa.lc.il pa.shu k⟩
theorem PA.ext (pa : PA h₀ h L m l x tx tn lh li ln lu) (k : Ext h h') : PA h₀ h' L m l x tx tn lh li ln lu := pa.to (But.ext k) (pa.lc.grow k) pa.sc
theorem PA.setL {y : Str} {v : Value} (pa : PA h₀ h L m l x tx tn lh li ln lu) (hn : h'.Ns L (fun z => if z = y then some v else m z)) (hs : Heap.SameBut L h h') (hy : Str.ofString "script" ≠ y := by decide) :
    PA h₀ h' L (fun z => if z = y then some v else m z) l x tx tn lh li ln lu := pa.to (But.one hs (.head _)) (pa.lc.setL hn hs) ((if_neg hy).trans pa.sc)
theorem PA.setBut {y : Str} {v : Value} (pa : PA h₀ h L m l x tx tn lh li ln lu) (hn : h'.Ns L (fun z => if z = y then some v else m z)) (hs : But [L] h h') (hy : Str.ofString "script" ≠ y := by decide) :
    PA h₀ h' L (fun z => if z = y then some v else m z) l x tx tn lh li ln lu := by
  have cell : ∀ {a : Addr} {v : Option Value}, a ≠ L → h.IsCell a v → h'.IsCell a v := fun hne ⟨o, ho, hd⟩ => ⟨o, hs _ o (by simpa using hne) ho, hd⟩
  have lc := pa.lc
  refine pa.to (fun b o hb e => hs b o (fun q => hb (by rw [List.mem_singleton.mp q]; exact .head _)) e) ⟨hn, fun b o e => hs b o (fun q => ?_) (lc.ext b o e), lc.fr, cell (add_ne (by decide)) lc.c1, cell (add_ne (by decide)) lc.c2, cell (add_ne (by decide)) lc.c3, cell (add_ne (by decide)) lc.c4, cell (add_ne (by decide)) lc.c5, cell (add_ne (by decide)) lc.c6⟩ ((if_neg hy).trans pa.sc)
  have e2 := none_of_le lc.fr
  rw [List.mem_singleton.mp q, e2] at e; cases e
/-- a list that is not law's own changes -/
theorem PA.more {a : Addr} {xs : Array Value} (pa : PA h₀ h L m l x tx tn lh li ln lu) (hp : h.PlainList a xs) (h0 : h₀.get? a = .none) (hs : Heap.SameBut a h h') (n1 : lh ≠ a) (n2 : li ≠ a) (n3 : ln ≠ a) (n4 : lu ≠ a) : PA h₀ h' L m l x tx tn lh li ln lu :=
  ⟨pa.lc.but (pa.lc.plain hp) h0 hs, pa.sc, pa.ok, pa.held.at fun o e => hs.extBut _ o n1 e, pa.ins.at fun o e => hs.extBut _ o n2 e, pa.inn.at fun o e => hs.extBut _ o n3 e, pa.shu.at fun o e => hs.extBut _ o n4 e⟩
theorem IL.lt {zs : List Int} {a : Addr} (x : IL h a zs) : a < h.objs.size := let ⟨_, ⟨_, e⟩, _⟩ := x; Heap.lt_size e
end
section
variable {prog : Program} {w : World} {A : Around} {s : Shared} {E : Value → Shared → Prop}

/-- law's state ahead of its first loop -/
structure PB (h₀ h : Heap) (L : Addr) (m : Str → Option Value) (l : Addr) (x : Str) (tx tn : Tok) (lh li ln lu lc : Addr) (z : Int) : Prop where
  pa : PA h₀ h L m l x tx tn lh li ln lu
  tw : ∃ t, m (Str.ofString "twice") = some (.str (sOf (twiceL x.cps.toList)) t)
  cu : m (Str.ofString "cuts") = some (.ref lc)
  cl : IL h lc ((cutsL x.cps.toList).map Int.ofNat)
  fi : ∃ t, m (Str.ofString "first") = some (.int z t)

theorem range_size {env : Env} {N : Nat} {a : Addr} {tn : Tok} {p1 p2 pos : Pos} {h₀ : Heap} (B : Base w h₀) (hx : Ext h₀ s.heap) (hc : s.heap.IsCell a (some (.int (N : Int) tn)))
    (e1 : nsIn (hd.heap_39 w.params) env.globals (Str.ofString "range") = some none := by rfl) (hbl : env.builtins = builtinsNs := by rfl) (hk : env.scope.kind = .function := by rfl) (k1 : env.kindOf (Str.ofString "range") = some .globalImplicit := by rfl)
    (k2 : env.kindOf (Str.ofString "size") = some .cell := by rfl) (ha : env.cells.lookup (Str.ofString "size") = some a := by rfl) :
    wpAny (model prog w) A (eval (.Call (.Name (Str.ofString "range") p1) [.Name (Str.ofString "size") p2] [] pos) env) (fun v s₁ => Keeps s s₁ ∧ ∃ r t u y, v = .ref r ∧ IsRange s₁.heap r (((0, N) : Nat × Nat).1 : Int) (((0, N) : Nat × Nat).2 : Int) 1 t u y) NoE s := by
  refine wpAny_Call_NameR (wpAny_Name (ld_blt (B.ext hx) e1 rfl ?_ (by decide) hbl hk k1) (by decide))
  refine PySem.callWith_type1 (wpAny_Name (wpAny_loadName_cell hk k2 ha hc ?_) (by decide))
  exact call_range_1 ⟨Keeps.mk s (Ext.push _ _), _, _, _, _, rfl, Heap.get?_push_size _ rfl⟩
theorem law_b1 {h₀ : Heap} {L fa l lh li ln lu : Addr} {cd : Value} {m : Str → Option Value} {x : Str} {tx tn : Tok} {n : Nat} {Q : Flow → Shared → Prop}
    (B : Base w h₀) (R : Room A (n + 1)) (pa : PA h₀ s.heap L m l x tx tn lh li ln lu)
    (h : ∀ h' tk m' t, PA h₀ h' L m' l x tx tn lh li ln lu → m' (Str.ofString "twice") = some (.str (sOf (twiceL x.cps.toList)) t) → wpAny (model prog w) A (execs (lawBody.drop 7) (lawEnv L fa cd)) Q NoE { s with heap := h', toks := tk }) :
    wpAny (model prog w) A (execs (lawBody.drop 6) (lawEnv L fa cd)) Q NoE s := by
  have hN : x.cps.toList.length = x.cps.size := Array.length_toList
  have hx := pa.ok
  refine wpAny_execs_cons ?_
  refine wpAny_Assign_Name (meth1 (T := "str") F.plainAttrs_str F.slot_str_join F.type_str_join ?_)
  refine wpAny_Constant_str ⟨has_str _ _ _, ?_⟩
  refine comp1_ev (q := (0, x.cps.size)) (p := fun _ => true) (f := fun i y => ∃ t, y = .str (sOf (twPart x.cps.toList i)) t) R.hh ⟨by omega, by have := hx.2.1; simp only; omega⟩ rfl (by decide) rfl (by decide) rfl ⟨?_, ?_⟩ (range_size B pa.lc.ext pa.lc.c3) ?_
  · intro C i s₃ m₃ t _ _ hn₃ hm₃ hx₃
    exact wpAny_tests_nil ⟨rfl, Keeps.rfl' _⟩
  · intro C i s₃ m₃ t _ hi _ hn₃ hm₃ hx₃
    have hlt := text_lt hx hi
    refine IfExp2 (And2 (wpAny_isTrue_Compare1 ?_))
    refine wpAny_Name (wpAny_loadName_local rfl rfl hn₃ hm₃ ?_)
    refine wpAny_Name (wpAny_loadName_cell rfl rfl rfl (pa.lc.c5.keeps hx₃) ?_)
    refine in_il (pa.inn.ext hx₃) (wpAny_truthy_bool ⟨fun h1 => ?_, fun h1 => ⟨fun q => (Bool.false_ne_true q).elim, fun _ => ?_⟩⟩)
    · refine wpAny_isTrue_Compare1 ?_
      refine text_at hx hi (pa.lc.c1.keeps hx₃) hn₃ hm₃ fun t' tk => ?_
      refine wpAny_Constant_str (in_two hlt (wpAny_truthy_bool ⟨fun h2 => ?_, fun h2 => ?_⟩))
      · refine wpAny_BinOp (wpAny_Constant_str ?_)
        refine text_at hx hi (pa.lc.c1.keeps hx₃) hn₃ hm₃ fun t' tk => ?_
        refine PyProof.Rows.add_str (fun t'' tk => ?_) back_len
        exact ⟨⟨t'', back_add (twPart_t (by rw [hN]; exact h1) h2) _⟩, Keeps.mk s₃ (Ext.rfl' _)⟩
      · refine text_at hx hi (pa.lc.c1.keeps hx₃) hn₃ hm₃ fun t' tk => ?_
        exact ⟨⟨t', one_sign (twPart_f2 h2) _⟩, Keeps.mk s₃ (Ext.rfl' _)⟩
    · refine text_at hx hi (pa.lc.c1.keeps hx₃) hn₃ hm₃ fun t' tk => ?_
      exact ⟨⟨t', one_sign (twPart_f1 (by rw [hN]; exact h1)) _⟩, Keeps.mk s₃ (Ext.rfl' _)⟩
  · intro D s' ys _ hks hpl hF
    obtain ⟨h', tk', rfl, hk'⟩ := hks
    have hF' := twice_of (t := x.cps.toList) hF
    refine join_strs hpl hF' ?_ fun t' k => ?_
    · have := twiceL_len x.cps.toList
      have := hx.2.1
      show (twiceL x.cps.toList).length ≤ _
      rw [sizeLine_eq]; omega
    · refine wpAny_storeName_local rfl (pa.lc.grow hk').ns fun h'' hn'' hs'' => ?_
      exact h h'' _ _ t' ((pa.ext hk').setL hn'' hs'') (if_pos rfl)
end
end Mine
end

section
open PySem PySem.W PyProof.Rows
set_option maxRecDepth 100000
set_option maxHeartbeats 400000
namespace Mine
section
variable {prog : Program} {w : World} {A : Around} {s : Shared} {E : Value → Shared → Prop}
theorem cuts_of {t : List Nat} {N : Nat} {ys : List Value} (hN : t.length = N) (h : Paired (fun (i : Nat) y => ∃ k, y = Value.int (i : Int) k) ((List.range' 0 (N - 0)).filter fun i => t.getD i 0 == 44 && !(insideL (spansM t 0 .O) N).contains (i : Int)) ys) : IntsAre ys ((cuts0 t).map Int.ofNat) := by
  subst hN
  exact ints_of h
theorem cuts_len (t : List Nat) : (cuts0 t).length ≤ t.length := by
  have := List.length_filter_le (fun i => t.getD i 0 == 44 && !(insideL (spansM t 0 .O) t.length).contains (i : Int)) (List.range' 0 t.length)
  simpa [cuts0] using this
theorem cutsL_yes {t : List Nat} {N : Nat} (hN : t.length = N) (h : (!((cuts0 t).map Int.ofNat).contains ((N : Int) - 1)) = true) : cutsL t = cuts0 t ++ [N] := by
  subst hN
  unfold cutsL
  rw [if_neg (by rw [Bool.not_eq_true'] at h; rw [h]; exact Bool.false_ne_true)]
theorem cutsL_no {t : List Nat} {N : Nat} (hN : t.length = N) (h : (!((cuts0 t).map Int.ofNat).contains ((N : Int) - 1)) = false) : cutsL t = cuts0 t := by
  subst hN
  unfold cutsL
  rw [Bool.not_eq_false'] at h
  rw [if_pos h]
theorem is44 {c : Nat} {b : Bool} (h : ((⟨#[c]⟩ : Str) == Str.ofString ",") = b) : (c == 44) = b := by
  rw [comma_str, eq_one] at h
  rw [← h]
  by_cases hc : c = 44
  · subst hc; rfl
  · rw [decide_eq_false hc]; exact beq_eq_false_iff_ne.mpr hc
theorem il_fits {zs : List Int} {vs : Array Value} (hi : IntsAre vs.toList zs) (hz : zs.length ≤ 1000) : vs.size ≤ sizeLine := by
  have := hi.length
  rw [Array.length_toList] at this
  rw [sizeLine_eq]; omega
theorem law_b2 {h₀ : Heap} {L fa l lh li ln lu : Addr} {cd : Value} {m : Str → Option Value} {x : Str} {tx tn tw : Tok} {n : Nat} {Q : Flow → Shared → Prop}
    (B : Base w h₀) (R : Room A (n + 1)) (pa : PA h₀ s.heap L m l x tx tn lh li ln lu) (htw : m (Str.ofString "twice") = some (.str (sOf (twiceL x.cps.toList)) tw))
    (h : ∀ h' tk m' lc, PA h₀ h' L m' l x tx tn lh li ln lu → m' (Str.ofString "twice") = some (.str (sOf (twiceL x.cps.toList)) tw) → m' (Str.ofString "cuts") = some (.ref lc) → IL h' lc ((cutsL x.cps.toList).map Int.ofNat) → wpAny (model prog w) A (execs (lawBody.drop 9) (lawEnv L fa cd)) Q NoE { s with heap := h', toks := tk }) :
    wpAny (model prog w) A (execs (lawBody.drop 7) (lawEnv L fa cd)) Q NoE s := by
  have hN : x.cps.toList.length = x.cps.size := Array.length_toList
  have hx := pa.ok
  have hx26 := hx.2.1
  refine wpAny_execs_cons ?_
  refine comp1_assign (q := (0, x.cps.size)) (p := fun i => x.cps.toList.getD i 0 == 44 && !(insideL (spansM x.cps.toList 0 .O) x.cps.size).contains (i : Int)) (f := fun i y => ∃ t, y = .int (i : Int) t) R.hh ⟨by omega, by simp only; omega⟩ rfl rfl (by decide) rfl (by decide) rfl rfl rfl pa.lc.ns ⟨?_, ?_⟩ (range_size B pa.lc.ext pa.lc.c3) ?_
  · intro C i s₃ m₃ t _ hi hn₃ hm₃ hx₃
    refine wpAny_tests_one (And2 (wpAny_isTrue_Compare1 ?_))
    refine text_at hx hi (pa.lc.c1.keeps hx₃) hn₃ hm₃ fun t' tk => ?_
    refine wpAny_Constant_str (PyProof.Rows.eq_str (wpAny_truthy_bool ⟨fun h1 => ?_, fun h1 => ⟨by rw [is44 h1]; rfl, Keeps.mk s₃ (Ext.rfl' _)⟩⟩))
    refine wpAny_isTrue_Compare1 ?_
    refine wpAny_Name (wpAny_loadName_local rfl rfl hn₃ hm₃ ?_)
    refine wpAny_Name (wpAny_loadName_cell rfl rfl rfl (pa.lc.c4.keeps hx₃) ?_)
    exact notIn_il (pa.ins.ext hx₃) (wpAny_truthy_bool ⟨by rw [is44 h1, Bool.true_and], Keeps.mk s₃ (Ext.rfl' _)⟩)
  · intro C i s₃ m₃ t _ hi _ hn₃ hm₃ hx₃
    exact wpAny_Name (wpAny_loadName_local rfl rfl hn₃ hm₃ ⟨⟨t, rfl⟩, Keeps.rfl' _⟩)
  · intro D h' tk ys hD hn' hb hpl hF
    have pa' := pa.setBut hn' hb
    have hil : IL h' D ((cuts0 x.cps.toList).map Int.ofNat) := ⟨ys, hpl, cuts_of hN hF⟩
    have hD0 : h₀.get? D = none := by
      cases e : h₀.get? D with
      | none => rfl
      | some o => rw [pa.lc.ext _ _ e] at hD; cases hD
    refine wpAny_execs_cons (If2 (wpAny_isTrue_Compare1 (wpAny_BinOp ?_)))
    refine wpAny_Name (wpAny_loadName_cell rfl rfl rfl pa'.lc.c3 ?_)
    refine wpAny_Constant_int (PyProof.Rows.sub_int ?_)
    refine wpAny_Name (wpAny_loadName_local rfl rfl pa'.lc.ns (if_pos rfl) ?_)
    refine notIn_il hil (wpAny_truthy_bool ⟨fun h1 => ?_, fun h1 => ?_⟩)
    · have hlen := cuts_len x.cps.toList
      have hil' := hil
      obtain ⟨vs, p1, p2⟩ := hil'
      refine wpAny_execs_cons (append_stmt (l := D) (xs := vs) ?_)
      refine wpAny_Name (wpAny_loadName_local rfl rfl pa'.lc.ns (if_pos rfl) ⟨rfl, p1, ?_⟩)
      refine wpAny_Name (wpAny_loadName_cell rfl rfl rfl pa'.lc.c3 ⟨p1, il_fits p2 (by rw [List.length_map]; omega), fun h₂ hp₂ hs₂ => ?_⟩)
      have ne : ∀ {a zs}, IL s.heap a zs → a ≠ D := fun {a zs} y e => by obtain ⟨_, ⟨_, e'⟩, _⟩ := y; rw [e, hD] at e'; cases e'
      refine wpAny_execs_nil ?_
      refine h h₂ _ _ D (pa'.more p1 hD0 hs₂ (ne pa.held) (ne pa.ins) (ne pa.inn) (ne pa.shu)) ((if_neg (by decide)).trans htw) (if_pos rfl) ⟨_, hp₂, ?_⟩
      rw [cutsL_yes hN h1, List.map_append, Array.toList_push]
      exact ints_snoc p2
    · refine wpAny_execs_nil ?_
      refine h h' _ _ D pa' ((if_neg (by decide)).trans htw) (if_pos rfl) ?_
      rw [cutsL_no hN h1]; exact hil
end
end Mine
end

section
open PySem PySem.W PyProof.Rows
set_option maxRecDepth 100000
set_option maxHeartbeats 400000
namespace Mine
abbrev TrimAre : List (List Nat) → List Value → Prop := Paired fun l v => ∃ t, v = .str (Txt.strip (sOf l)) t
abbrev lawNames : List Str := [Str.ofString "script", Str.ofString "twice", Str.ofString "cuts", Str.ofString "first", Str.ofString "raw", Str.ofString "plain", Str.ofString "depths", Str.ofString "begin", Str.ofString "depth"]
/-- law's own names in its first loop -/
structure LN (m : Str → Option Value) (l lc lr lp ld : Addr) (tw : List Nat) (z : Int) (bg : Nat) (d : Int) : Prop where
  sc : m (Str.ofString "script") = some (.ref l)
  tw : ∃ t, m (Str.ofString "twice") = some (.str (sOf tw) t)
  cu : m (Str.ofString "cuts") = some (.ref lc)
  fi : ∃ t, m (Str.ofString "first") = some (.int z t)
  ra : m (Str.ofString "raw") = some (.ref lr)
  pl : m (Str.ofString "plain") = some (.ref lp)
  de : m (Str.ofString "depths") = some (.ref ld)
  be : ∃ t, m (Str.ofString "begin") = some (.int (bg : Int) t)
  dp : ∃ t, m (Str.ofString "depth") = some (.int d t)
theorem LN.set {m : Str → Option Value} {l lc lr lp ld : Addr} {tw : List Nat} {z : Int} {bg : Nat} {d : Int} {y : Str} {v : Value} (n : LN m l lc lr lp ld tw z bg d) (hy : y ∉ lawNames := by decide) :
    LN (fun k => if k = y then some v else m k) l lc lr lp ld tw z bg d := by
  have ne : ∀ k ∈ lawNames, (fun k => if k = y then some v else m k) k = m k := fun k hk => if_neg (fun e : k = y => hy (by rw [← e]; exact hk))
  exact ⟨(ne _ (by decide)).trans n.sc, let ⟨t, e⟩ := n.tw; ⟨t, (ne _ (by decide)).trans e⟩, (ne _ (by decide)).trans n.cu, let ⟨t, e⟩ := n.fi; ⟨t, (ne _ (by decide)).trans e⟩, (ne _ (by decide)).trans n.ra, (ne _ (by decide)).trans n.pl, (ne _ (by decide)).trans n.de,
    let ⟨t, e⟩ := n.be; ⟨t, (ne _ (by decide)).trans e⟩, let ⟨t, e⟩ := n.dp; ⟨t, (ne _ (by decide)).trans e⟩⟩
theorem LN.setBe {m : Str → Option Value} {l lc lr lp ld : Addr} {tw : List Nat} {z : Int} {bg : Nat} {d : Int} {bg' : Nat} {t : Tok} {i : Int} (n : LN m l lc lr lp ld tw z bg d) (hi : i = (bg' : Int)) :
    LN (fun k => if k = Str.ofString "begin" then some (.int i t) else m k) l lc lr lp ld tw z bg' d :=
  ⟨(if_neg (by decide)).trans n.sc, let ⟨t, e⟩ := n.tw; ⟨t, (if_neg (by decide)).trans e⟩, (if_neg (by decide)).trans n.cu, let ⟨t, e⟩ := n.fi; ⟨t, (if_neg (by decide)).trans e⟩, (if_neg (by decide)).trans n.ra, (if_neg (by decide)).trans n.pl, (if_neg (by decide)).trans n.de,
    ⟨t, by rw [← hi]; exact if_pos rfl⟩, let ⟨t, e⟩ := n.dp; ⟨t, (if_neg (by decide)).trans e⟩⟩
theorem LN.setDp {m : Str → Option Value} {l lc lr lp ld : Addr} {tw : List Nat} {z : Int} {bg : Nat} {d d' : Int} {t : Tok} (n : LN m l lc lr lp ld tw z bg d) :
    LN (fun k => if k = Str.ofString "depth" then some (.int d' t) else m k) l lc lr lp ld tw z bg d' :=
  ⟨(if_neg (by decide)).trans n.sc, let ⟨t, e⟩ := n.tw; ⟨t, (if_neg (by decide)).trans e⟩, (if_neg (by decide)).trans n.cu, let ⟨t, e⟩ := n.fi; ⟨t, (if_neg (by decide)).trans e⟩, (if_neg (by decide)).trans n.ra, (if_neg (by decide)).trans n.pl, (if_neg (by decide)).trans n.de,
    let ⟨t, e⟩ := n.be; ⟨t, (if_neg (by decide)).trans e⟩, ⟨t, if_pos rfl⟩⟩

/-- the four lists of ints, law's frame, the made lists -/
structure LQ (h₀ h : Heap) (L : Addr) (m : Str → Option Value) (l : Addr) (x : Str) (tx tn : Tok) (lh li ln lu lc lr lp ld : Addr) (z : Int) (Ra Pl : List (List Nat)) (De : List Int) (bg : Nat) (d : Int) : Prop where
  pa : PA h₀ h L m l x tx tn lh li ln lu
  nm : LN m l lc lr lp ld (twiceL x.cps.toList) z bg d
  cl : IL h lc ((cutsL x.cps.toList).map Int.ofNat)
  rl : ∃ vs, h.PlainList lr vs ∧ TrimAre Ra vs.toList
  pll : ∃ vs, h.PlainList lp vs ∧ TrimAre Pl vs.toList
  dl : IL h ld De
  z1 : h₀.get? lr = none
  z2 : h₀.get? lp = none
  z3 : h₀.get? ld = none
  n1 : lr ≠ lp
  n2 : lr ≠ ld
  n3 : lp ≠ ld
  ne : ∀ a ∈ [lh, li, ln, lu, lc], a ≠ lr ∧ a ≠ lp ∧ a ≠ ld
section
variable {h₀ h h' : Heap} {L : Addr} {m m' : Str → Option Value} {l : Addr} {x : Str} {tx tn : Tok} {lh li ln lu lc lr lp ld : Addr} {z : Int} {Ra Pl : List (List Nat)} {De : List Int} {bg bg' : Nat} {d d' : Int}
theorem LQ.to (f : LQ h₀ h L m l x tx tn lh li ln lu lc lr lp ld z Ra Pl De bg d) (k : But (W0 L) h h') (pa : PA h₀ h' L m' l x tx tn lh li ln lu) (nm : LN m' l lc lr lp ld (twiceL x.cps.toList) z bg' d') :
    LQ h₀ h' L m' l x tx tn lh li ln lu lc lr lp ld z Ra Pl De bg' d' :=
  ⟨pa, nm, f.pa.lc.il f.cl k, let ⟨vs, p, q⟩ := f.rl; ⟨vs, p.at fun o e => k _ o (f.pa.lc.plain p) e, q⟩, let ⟨vs, p, q⟩ := f.pll; ⟨vs, p.at fun o e => k _ o (f.pa.lc.plain p) e, q⟩, f.pa.lc.il f.dl k, f.z1, f.z2, f.z3, f.n1, f.n2, f.n3, f.ne⟩
theorem LQ.ext (f : LQ h₀ h L m l x tx tn lh li ln lu lc lr lp ld z Ra Pl De bg d) (k : Ext h h') : LQ h₀ h' L m l x tx tn lh li ln lu lc lr lp ld z Ra Pl De bg d := f.to (But.ext k) (f.pa.ext k) f.nm
theorem LQ.setL {y : Str} {v : Value} (f : LQ h₀ h L m l x tx tn lh li ln lu lc lr lp ld z Ra Pl De bg d) (hn : h'.Ns L (fun k => if k = y then some v else m k)) (hs : Heap.SameBut L h h') (nm : LN (fun k => if k = y then some v else m k) l lc lr lp ld (twiceL x.cps.toList) z bg' d') (hy : Str.ofString "script" ≠ y := by decide) :
    LQ h₀ h' L (fun k => if k = y then some v else m k) l x tx tn lh li ln lu lc lr lp ld z Ra Pl De bg' d' := f.to (But.one hs (.head _)) (f.pa.setL hn hs hy) nm
theorem LQ.setBut {y : Str} {v : Value} (f : LQ h₀ h L m l x tx tn lh li ln lu lc lr lp ld z Ra Pl De bg d) (hn : h'.Ns L (fun k => if k = y then some v else m k)) (hs : But [L] h h') (nm : LN (fun k => if k = y then some v else m k) l lc lr lp ld (twiceL x.cps.toList) z bg' d') (hy : Str.ofString "script" ≠ y := by decide) :
    LQ h₀ h' L (fun k => if k = y then some v else m k) l x tx tn lh li ln lu lc lr lp ld z Ra Pl De bg' d' :=
  f.to (fun b o hb e => hs b o (fun q => hb (by rw [List.mem_singleton.mp q]; exact .head _)) e) (f.pa.setBut hn hs hy) nm
theorem LQ.addR {vs : Array Value} {r : List Nat} {t : Tok} (f : LQ h₀ h L m l x tx tn lh li ln lu lc lr lp ld z Ra Pl De bg d) (p : h.PlainList lr vs) (q : TrimAre Ra vs.toList) (hp : h'.PlainList lr (vs.push (.str (Txt.strip (sOf r)) t))) (hs : Heap.SameBut lr h h') :
    LQ h₀ h' L m l x tx tn lh li ln lu lc lr lp ld z (Ra ++ [r]) Pl De bg d :=
  ⟨f.pa.more p f.z1 hs (f.ne _ (by simp)).1 (f.ne _ (by simp)).1 (f.ne _ (by simp)).1 (f.ne _ (by simp)).1, f.nm, f.cl.at fun o e => hs.extBut _ o (f.ne _ (by simp)).1 e, ⟨_, hp, by rw [Array.toList_push]; exact Paired.snoc q ⟨t, rfl⟩⟩,
    let ⟨vs, p, q⟩ := f.pll; ⟨vs, p.extBut hs.extBut (Ne.symm f.n1), q⟩, f.dl.at fun o e => hs.extBut _ o (Ne.symm f.n2) e, f.z1, f.z2, f.z3, f.n1, f.n2, f.n3, f.ne⟩
theorem LQ.addP {vs : Array Value} {r : List Nat} {t : Tok} (f : LQ h₀ h L m l x tx tn lh li ln lu lc lr lp ld z Ra Pl De bg d) (p : h.PlainList lp vs) (q : TrimAre Pl vs.toList) (hp : h'.PlainList lp (vs.push (.str (Txt.strip (sOf r)) t))) (hs : Heap.SameBut lp h h') :
    LQ h₀ h' L m l x tx tn lh li ln lu lc lr lp ld z Ra (Pl ++ [r]) De bg d :=
  ⟨f.pa.more p f.z2 hs (f.ne _ (by simp)).2.1 (f.ne _ (by simp)).2.1 (f.ne _ (by simp)).2.1 (f.ne _ (by simp)).2.1, f.nm, f.cl.at fun o e => hs.extBut _ o (f.ne _ (by simp)).2.1 e, let ⟨vs, p, q⟩ := f.rl; ⟨vs, p.extBut hs.extBut f.n1, q⟩,
    ⟨_, hp, by rw [Array.toList_push]; exact Paired.snoc q ⟨t, rfl⟩⟩, f.dl.at fun o e => hs.extBut _ o (Ne.symm f.n3) e, f.z1, f.z2, f.z3, f.n1, f.n2, f.n3, f.ne⟩
theorem LQ.addD {vs : Array Value} {i : Int} {t : Tok} (f : LQ h₀ h L m l x tx tn lh li ln lu lc lr lp ld z Ra Pl De bg d) (p : h.PlainList ld vs) (q : IntsAre vs.toList De) (hp : h'.PlainList ld (vs.push (.int i t))) (hs : Heap.SameBut ld h h') :
    LQ h₀ h' L m l x tx tn lh li ln lu lc lr lp ld z Ra Pl (De ++ [i]) bg d :=
  ⟨f.pa.more p f.z3 hs (f.ne _ (by simp)).2.2 (f.ne _ (by simp)).2.2 (f.ne _ (by simp)).2.2 (f.ne _ (by simp)).2.2, f.nm, f.cl.at fun o e => hs.extBut _ o (f.ne _ (by simp)).2.2 e, let ⟨vs, p, q⟩ := f.rl; ⟨vs, p.extBut hs.extBut f.n2, q⟩,
    let ⟨vs, p, q⟩ := f.pll; ⟨vs, p.extBut hs.extBut f.n3, q⟩, ⟨_, hp, by rw [Array.toList_push]; exact ints_snoc q⟩, f.z1, f.z2, f.z3, f.n1, f.n2, f.n3, f.ne⟩
end

section
variable {prog : Program} {w : World} {A : Around} {s : Shared} {E : Value → Shared → Prop}
theorem get_push3 (h : Heap) (a b c : Obj) (hc : c.isFreed = false := by rfl) : (((h.push a).push b).push c).get? (h.objs.size + 2) = some c := by
  have := Heap.get?_push_size ((h.push a).push b) hc
  rwa [Heap.size_push, Heap.size_push] at this
theorem law_b3 {h₀ : Heap} {L fa l lh li ln lu lc : Addr} {cd : Value} {m : Str → Option Value} {x : Str} {tx tn tw : Tok} {n : Nat} {vs : List Value} {ns : List Int} {Q : Flow → Shared → Prop}
    (B : Base w h₀) (R : Room A (n + 1)) (hl : h₀.IsList l vs.toArray) (hi : IntsAre vs ns) (hlen : ns.length ≤ 63)
    (pa : PA h₀ s.heap L m l x tx tn lh li ln lu) (htw : m (Str.ofString "twice") = some (.str (sOf (twiceL x.cps.toList)) tw)) (hcu : m (Str.ofString "cuts") = some (.ref lc)) (hcl : IL s.heap lc ((cutsL x.cps.toList).map Int.ofNat))
    (h : ∀ h' tk m' lr lp ld z, LQ h₀ h' L m' l x tx tn lh li ln lu lc lr lp ld z [] [] [] 0 z → wpAny (model prog w) A (execs (lawBody.drop 12) (lawEnv L fa cd)) Q NoE { s with heap := h', toks := tk }) :
    wpAny (model prog w) A (execs (lawBody.drop 9) (lawEnv L fa cd)) Q NoE s := by
  refine wpAny_execs_cons (wpAny_Assign_Name (wpAny_BinOp (wpAny_BinOp ?_)))
  refine wpAny_Call_NameR (wpAny_Name (ld_blt (B.ext pa.lc.ext) rfl rfl ?_))
  refine callWith_builtin1 (wpAny_Subscript_list_slice ?_)
  refine wpAny_Name (wpAny_loadName_local rfl rfl pa.lc.ns pa.sc ?_)
  refine wpAny_evalPart_none ?_
  refine wpAny_evalPart_some (wpAny_Constant_int ?_)
  refine ⟨l, vs.toArray, none, some 3, rfl, hl.at (fun o e => pa.lc.ext _ _ e), ?_, .none, .int _ _, ?_⟩
  · rw [List.size_toArray, hi.length, sizeLine_eq]; omega
  have hI := slice_ints_uptoW hi (y := 3) (by decide)
  generalize slicePick vs.toArray none (some 3) none = items at hI ⊢
  refine sum_any R.hh ⟨_, get_push2 _ _ _, rfl, _, rfl⟩ hI fun h₁ tk₁ z tz hx₁ => ?_
  have hx₁' : Ext s.heap h₁ := ((Ext.push _ _).trans (Ext.push _ _)).trans hx₁
  have pa₁ := pa.ext hx₁'
  have hcl₁ := hcl.ext hx₁'
  refine wpAny_Constant_int (mod_int (by decide) ?_)
  refine wpAny_Constant_int (PyProof.Rows.sub_int ?_)
  refine wpAny_storeName_local rfl pa₁.lc.ns fun h₂ hn₂ hs₂ => ?_
  have pa₂ := pa₁.setL hn₂ hs₂
  have hcl₂ := pa₁.lc.il hcl₁ (But.one hs₂ (.head _))
  generalize z.fmod 7 - 3 = z' at pa₂ hn₂
  refine wpAny_execs_cons (tuple_assign R.hh ?_)
  refine Calls.spliced_cons (List_ (Calls.spliced_nil (wpAny_newList ?_)))
  refine Calls.spliced_cons (List_ (Calls.spliced_nil (wpAny_newList ?_)))
  refine Calls.spliced_cons (List_ (Calls.spliced_nil (wpAny_newList (Calls.spliced_nil ?_))))
  refine ⟨rfl, by size_fits, fun h₃ hx₃ => ?_⟩
  dsimp only at hx₃
  have e1 : ∀ (k : Heap) (o : Obj), (k.push o).objs.size = k.objs.size + 1 := fun k o => Heap.size_push ..
  have g1 : h₃.PlainList h₂.objs.size #[] := ⟨_, hx₃ _ _ (Heap.get?_push_of_some _ (Heap.get?_push_of_some _ (Heap.get?_push_size _ rfl)))⟩
  have g2 : h₃.PlainList (h₂.objs.size + 1) #[] := ⟨_, hx₃ _ _ (Heap.get?_push_of_some _ (get_push2 _ _ _))⟩
  have g3 : h₃.PlainList (h₂.objs.size + 2) #[] := ⟨_, hx₃ _ _ (get_push3 _ _ _ _)⟩
  have hx₃' : Ext h₂ h₃ := (((Ext.push _ _).trans (Ext.push _ _)).trans (Ext.push _ _)).trans hx₃
  have pa₃ := pa₂.ext hx₃'
  have hcl₃ := hcl₂.ext hx₃'
  clear hx₃
  refine bind_local pa₃.lc.ns fun h₄ _ hn₄ hs₄ => ?_
  have pa₄ := pa₃.setL hn₄ hs₄
  refine bind_local hn₄ fun h₅ _ hn₅ hs₅ => ?_
  have pa₅ := pa₄.setL hn₅ hs₅
  refine bind_local hn₅ fun h₆ _ hn₆ hs₆ => ?_
  have pa₆ := pa₅.setL hn₆ hs₆
  refine wpAny_assignInOrder_none ?_
  refine wpAny_execs_cons (tuple_assign R.hh ?_)
  refine Calls.spliced_cons ?_
  refine wpAny_Constant_int (k := 0) (pos := ⟨69, 20, 69, 21⟩) ?_
  refine Calls.spliced_cons ?_
  refine wpAny_Name (wpAny_loadName_local rfl rfl pa₆.lc.ns rfl (Calls.spliced_nil ?_))
  refine ⟨rfl, by size_fits, fun h₇ hx₇ => ?_⟩
  have pa₇ := pa₆.ext hx₇
  refine bind_local pa₇.lc.ns fun h₈ _ hn₈ hs₈ => ?_
  have pa₈ := pa₇.setL hn₈ hs₈
  refine bind_local hn₈ fun h₉ _ hn₉ hs₉ => ?_
  have pa₉ := pa₈.setL hn₉ hs₉
  refine wpAny_assignInOrder_none ?_
  have hb : But (W0 L) h₃ h₉ := (((But.one hs₄ (.head _)).trans (But.one hs₅ (.head _))).trans (But.one hs₆ (.head _))).trans ((But.ext hx₇).trans ((But.one hs₈ (.head _)).trans (But.one hs₉ (.head _))))
  have up : ∀ {a xs}, h₃.PlainList a xs → h₉.PlainList a xs := fun {a xs} p => p.at fun o e => hb _ o (pa₃.lc.plain p) e
  have fr : ∀ k, h₀.get? (h₂.objs.size + k) = none := fun k => none_of_le (Nat.le_trans pa.lc.fr (Nat.le_trans (Nat.le_of_lt pa₂.lc.ns.lt) (Nat.le_add_right _ _)))
  have old : ∀ {a zs}, IL h₂ a zs → a ≠ h₂.objs.size ∧ a ≠ h₂.objs.size + 1 ∧ a ≠ h₂.objs.size + 2 := fun {a zs} y => by
    have : (a : Nat) < h₂.objs.size := y.lt
    exact ⟨ne_lt this (Nat.le_refl _), ne_lt this (Nat.le_succ _), ne_lt this (by omega)⟩
  refine h h₉ _ _ h₂.objs.size (h₂.objs.size + 1) (h₂.objs.size + 2) z' ⟨pa₉, ?_, pa₃.lc.il hcl₃ hb, ⟨_, up g1, .nil⟩, ⟨_, up g2, .nil⟩, ⟨_, up g3, .nil⟩, fr 0, fr 1, fr 2, ne_lt (Nat.lt_succ_self _) (Nat.le_refl _), ne_lt (Nat.lt_succ_self _) (Nat.le_succ _), ne_lt (Nat.lt_succ_self _) (Nat.le_refl _), ?_⟩
  · refine ⟨pa₉.sc, ⟨tw, ?_⟩, ?_, ⟨_, rfl⟩, rfl, ?_, ?_, ⟨_, rfl⟩, ⟨_, rfl⟩⟩
    · exact htw
    · exact hcu
    · exact congrArg (fun a => some (Value.ref a)) (e1 _ _)
    · exact congrArg (fun a => some (Value.ref a)) ((e1 _ _).trans (congrArg (· + 1) (e1 _ _)))
  · intro a ha
    simp only [List.mem_cons, List.not_mem_nil, or_false] at ha
    rcases ha with rfl | rfl | rfl | rfl | rfl
    · exact old pa₂.held
    · exact old pa₂.ins
    · exact old pa₂.inn
    · exact old pa₂.shu
    · exact old hcl₂
end
end Mine
end

section
open PySem PySem.W PyProof.Rows
set_option maxRecDepth 100000
set_option maxHeartbeats 400000
namespace Mine
/-! the plain pieces -/
def heldZ (t : List Nat) : List Int := (heldM t 0 .O).map Int.ofNat
def seg (t : List Nat) (b c : Nat) : List Nat := (t.drop b).take (c - b)
def plainOf (t : List Nat) (b c : Nat) : List Nat := ((List.range' b (c - b)).filter fun i : Nat => !(heldZ t).contains (i : Int)).map (t.getD · 0)
def bareOf (t : List Nat) (b c : Nat) : List Nat := ((List.range' b (c - b)).filter fun i : Nat => !(shutL (spansM t 0 .O) t.length).contains (i : Int)).map (t.getD · 0)
def cnt (l : List Nat) : Int := (l.count 40 : Int) - (l.count 41 : Int)
def segR (t : List Nat) : List Nat → Nat → List (List Nat)
  | [], _ => []
  | c :: cs, b => seg t b c :: segR t cs (c + 1)
def segP (t : List Nat) : List Nat → Nat → List (List Nat)
  | [], _ => []
  | c :: cs, b => plainOf t b c :: segP t cs (c + 1)
def segD (t : List Nat) : List Nat → Nat → Int → List Int
  | [], _, _ => []
  | c :: cs, b, d => (d + cnt (bareOf t b c)) :: segD t cs (c + 1) (d + cnt (bareOf t b c))
/-- cuts in order -/
def InOrder (N : Nat) : Nat → List Nat → Prop
  | _, [] => True
  | b, c :: cs => b ≤ c ∧ c ≤ N ∧ InOrder N (c + 1) cs
theorem inOrder_filter (p : Nat → Bool) (e : List Nat) : ∀ (n k b : Nat), b ≤ k → (∀ b', b' ≤ k + n → InOrder (k + n) b' e) → InOrder (k + n) b ((List.range' k n).filter p ++ e)
  | 0, k, b, hb, he => by simpa using he b (by omega)
  | n + 1, k, b, hb, he => by
    rw [List.range'_succ]
    have e1 : k + (n + 1) = (k + 1) + n := by omega
    rw [e1] at he ⊢
    cases hp : p k with
    | false =>
      rw [List.filter_cons_of_neg (by rw [hp]; exact Bool.false_ne_true)]
      exact inOrder_filter p e n (k + 1) b (by omega) he
    | true =>
      rw [List.filter_cons_of_pos hp, List.cons_append]
      exact ⟨hb, by omega, inOrder_filter p e n (k + 1) (k + 1) (Nat.le_refl _) he⟩
theorem cutsL_order (t : List Nat) : InOrder t.length 0 (cutsL t) := by
  unfold cutsL cuts0
  split
  · have := inOrder_filter (fun i => t.getD i 0 == 44 && !(insideL (spansM t 0 .O) t.length).contains (i : Int)) [] t.length 0 0 (Nat.le_refl _) (fun _ _ => trivial)
    simpa using this
  · have := inOrder_filter (fun i => t.getD i 0 == 44 && !(insideL (spansM t 0 .O) t.length).contains (i : Int)) [t.length] t.length 0 0 (Nat.le_refl _) (fun b' hb => ⟨by omega, by omega, trivial⟩)
    simpa using this
theorem plainOf_len (t : List Nat) (b c : Nat) : (plainOf t b c).length ≤ c - b := by
  unfold plainOf
  rw [List.length_map]
  exact Nat.le_trans (List.length_filter_le _ _) (by rw [List.length_range']; exact Nat.le_refl _)

/-- what is left of the loop behind i cuts -/
structure LI (t : List Nat) (z : Int) (i : Nat) (Ra Pl : List (List Nat)) (De : List Int) (b : Nat) (d : Int) : Prop where
  r : Ra ++ segR t ((cutsL t).drop i) b = segR t (cutsL t) 0
  p : Pl ++ segP t ((cutsL t).drop i) b = segP t (cutsL t) 0
  d : De ++ segD t ((cutsL t).drop i) b d = segD t (cutsL t) 0 z
  o : InOrder t.length b ((cutsL t).drop i)
  rn : Ra.length = i
  pn : Pl.length = i
  dn : De.length = i
theorem LI.step {t : List Nat} {z : Int} {i : Nat} {Ra Pl : List (List Nat)} {De : List Int} {b c : Nat} {d : Int} (x : LI t z i Ra Pl De b d) (hc : (cutsL t)[i]? = some c) :
    b ≤ c ∧ c ≤ t.length ∧ LI t z (i + 1) (Ra ++ [seg t b c]) (Pl ++ [plainOf t b c]) (De ++ [d + cnt (bareOf t b c)]) (c + 1) (d + cnt (bareOf t b c)) := by
  have hd := drop_cons hc
  have ho := x.o
  rw [hd] at ho
  refine ⟨ho.1, ho.2.1, ?_, ?_, ?_, ho.2.2, by simp [x.rn], by simp [x.pn], by simp [x.dn]⟩
  · have := x.r; rw [hd] at this; simpa [segR] using this
  · have := x.p; rw [hd] at this; simpa [segP] using this
  · have := x.d; rw [hd] at this; simpa [segD] using this
theorem LI.zero (t : List Nat) (z : Int) : LI t z 0 [] [] [] 0 z := ⟨rfl, rfl, rfl, cutsL_order t, rfl, rfl, rfl⟩
theorem cutsL_len (t : List Nat) : (cutsL t).length ≤ t.length + 1 := by
  have := cuts_len t
  unfold cutsL
  split
  · omega
  · simp; omega
theorem seg_sOf {x : Str} {a b : Nat} (h1 : a ≤ b) (h2 : b ≤ x.cps.size) : Txt.slice x (some (a : Int)) (some (b : Int)) = sOf (seg x.cps.toList a b) := by
  have hp := StrLaws.sliced_plain x h1 (show b ≤ x.length from h2)
  unfold Txt.slice
  split
  · rename_i hc
    rw [beq_self_eq_true, Bool.true_and, StrLaws.strSliceIndices_plain h1 (show b ≤ x.length from h2), beq_iff_eq, List.length_map, List.length_range] at hc
    have hc' : b - a = x.cps.size := hc
    have e : seg x.cps.toList a b = x.cps.toList := by
      unfold seg
      obtain rfl : a = 0 := by omega
      rw [List.drop_zero]
      exact List.take_of_length_le (by rw [Array.length_toList]; omega)
    rw [e, sOf_cps]
  · rw [hp]; rfl
theorem seg_len (t : List Nat) (a b : Nat) : (seg t a b).length ≤ b - a := by unfold seg; rw [List.length_take]; omega

section
variable {prog : Program} {w : World} {A : Around} {s : Shared} {env : Env} {E : Value → Shared → Prop}
theorem text_slice {x : Str} {tx : Tok} {a b : Nat} {value lower upper : Expr} {p pos : Pos} {Q : Value → Shared → Prop} (h1 : a ≤ b) (h2 : b ≤ x.cps.size) (hsz : x.cps.size ≤ 1000)
    (h : wpAny (model prog w) A (eval value env) (fun o s₁ => wpAny (model prog w) A (eval lower env) (fun vl s₂ => wpAny (model prog w) A (eval upper env) (fun vu s₃ =>
      ∃ ta tb, o = .str x tx ∧ vl = .int (a : Int) ta ∧ vu = .int (b : Int) tb ∧ ∀ s' t', Keeps s₃ s' → Q (.str (sOf (seg x.cps.toList a b)) t') s') E s₂) E s₁) E s)
    (ht : ∀ o r, letTemporaryGo value o r = pure () := by intro _ _; rfl) :
    wpAny (model prog w) A (eval (.Subscript value (.Slice (some lower) (some upper) none p) pos) env) Q E s := by
  refine wpAny_Subscript_Slice (T := "str") F.slot_str_getitem.lookup (wpAny_mono h (fun o s₁ h₁ => wpAny_Slice (wpAny_evalPart_some (wpAny_mono h₁ (fun vl s₂ h₂ => wpAny_evalPart_some (wpAny_mono h₂ (fun vu s₃ h₃ => ?_) fun _ _ e => e)) fun _ _ e => e))) fun _ _ e => e) ht
  obtain ⟨ta, tb, rfl, rfl, rfl, hq⟩ := h₃
  refine wpAny_evalPart_none ⟨typeIs_str _ _ _, ?_⟩
  refine wpAny_getItem_str_slice (l := some ((a : Int), ta)) (u := some ((b : Int), tb)) (st := none) ⟨_, Heap.get?_push_size _ rfl, rfl, rfl⟩ rfl ?_
  refine post_val_or_str (y := x) (z := ⟨((Builtin.Str.strSliceIndices (some (a : Int)) (some (b : Int)) 1 x.length).filterMap (x.cps[·]?)).toArray⟩) ⟨?_, fun t' k => ?_⟩
  · refine Nat.le_trans (Txt.slice_le x (some (a : Int)) (some (b : Int))) ?_
    show x.cps.size ≤ _
    rw [sizeLine_eq]; omega
  · have e : (if ((1 : Int) == 1 && (Builtin.Str.strSliceIndices (some (a : Int)) (some (b : Int)) 1 x.length).length == x.length) = true then x else ⟨((Builtin.Str.strSliceIndices (some (a : Int)) (some (b : Int)) 1 x.length).filterMap (x.cps[·]?)).toArray⟩) = sOf (seg x.cps.toList a b) := seg_sOf h1 h2
    have := hq { s₃ with heap := s₃.heap.push { cls := .type "slice", data := .fields #[.int (a : Int) ta, .int (b : Int) tb, .none] }, toks := k } t' (Keeps.mk s₃ (Ext.push _ _))
    rw [← e] at this
    exact this
def isS (k : Nat) : Value → Bool
  | .str x _ => x.cps.toList == [k]
  | _ => false
theorem count_isS (k : Nat) : ∀ {cs : List Nat} {vs : List Value}, Paired (fun c v => ∃ t, v = Value.str (sOf [c]) t) cs vs → vs.countP (isS k) = cs.count k
  | _, _, .nil => rfl
  | _, _, .cons ⟨t, e⟩ h => by
    rw [List.countP_cons, List.count_cons, count_isS k h, e]
    congr 1
    simp [isS, sOf]
theorem count_sign {D : Addr} {vs : Array Value} {cs : List Nat} {k : Nat} {u : Tok} {Q : Value → Shared → Prop} (hl : s.heap.PlainList D vs) (hs : Paired (fun c v => ∃ t, v = Value.str (sOf [c]) t) cs vs.toList)
    (h : ∀ t tk, Q (.int (cs.count k : Nat) t) { s with toks := tk }) : wpAny (model prog w) A (call (.builtin "list.count") [.ref D, .str ⟨#[k]⟩ u]) Q E s := by
  obtain ⟨n, ho⟩ := hl
  refine call_meets F.slot_list_count ⟨_, ho, rfl⟩ F.entry_list_count (F.args_list_count_2 _ _) (SeqAt.list_countAt D vs n none #[] (.str ⟨#[k]⟩ u) (isS k)) ⟨ho, fun y hy => ?_, ?_⟩
  · obtain ⟨c, _, t, rfl⟩ := paired_mem hs y (by simpa using hy)
    exact (SeqRoads2.EqGives.str (sOf [c]) ⟨#[k]⟩ t u).at _ _
  · rw [count_isS k hs]; exact h _ _
end
end Mine
end

section
open PySem PySem.W PyProof.Rows
set_option maxRecDepth 100000
set_option maxHeartbeats 1000000
namespace Mine
section
variable {h₀ h h' : Heap} {L I : Addr} {m : Str → Option Value}
theorem cell_iter_ne {a l : Addr} {i : Nat} {v : Option Value} (x : h.IsCell a v) (y : h.IsListIter I l i) : a ≠ I := by
  rintro rfl
  obtain ⟨o, ho, hd⟩ := x
  obtain ⟨o', ho', _, e⟩ := y
  rw [ho] at ho'; cases ho'; rw [hd] at e; cases e
theorem plain_iter_ne {a l : Addr} {i : Nat} {xs : Array Value} (x : h.PlainList a xs) (y : h.IsListIter I l i) : a ≠ I := by
  rintro rfl
  obtain ⟨n, e⟩ := x
  obtain ⟨o', ho', _, e'⟩ := y
  rw [e] at ho'; cases ho'; cases e'
theorem cell_ext {a : Addr} {v : Option Value} (x : h.IsCell a v) (k : Heap.ExtBut I h h') (hne : a ≠ I) : h'.IsCell a v := let ⟨o, ho, hd⟩ := x; ⟨o, k _ o hne ho, hd⟩
theorem IL.iter {a l : Addr} {i : Nat} {zs : List Int} (x : IL h a zs) (y : h.IsListIter I l i) (k : Heap.ExtBut I h h') : IL h' a zs := let ⟨vs, p, q⟩ := x; ⟨vs, p.extBut k (plain_iter_ne p y), q⟩
theorem LC.iter {a b c d e f : Option Value} {l : Addr} {i : Nat} (x : LC h₀ h L m a b c d e f) (y : h.IsListIter I l i) (k : Heap.ExtBut I h h') (h0 : h₀.get? I = .none) : LC h₀ h' L m a b c d e f :=
  ⟨x.ns.extBut k (ns_listiter_ne x.ns y), x.ext.same k h0, x.fr, cell_ext x.c1 k (cell_iter_ne x.c1 y), cell_ext x.c2 k (cell_iter_ne x.c2 y), cell_ext x.c3 k (cell_iter_ne x.c3 y), cell_ext x.c4 k (cell_iter_ne x.c4 y), cell_ext x.c5 k (cell_iter_ne x.c5 y), cell_ext x.c6 k (cell_iter_ne x.c6 y)⟩
theorem PA.iter {l l' : Addr} {x : Str} {tx tn : Tok} {lh li ln lu : Addr} {i : Nat} (f : PA h₀ h L m l x tx tn lh li ln lu) (y : h.IsListIter I l' i) (k : Heap.ExtBut I h h') (h0 : h₀.get? I = none) : PA h₀ h' L m l x tx tn lh li ln lu :=
  ⟨f.lc.iter y k h0, f.sc, f.ok, f.held.iter y k, f.ins.iter y k, f.inn.iter y k, f.shu.iter y k⟩
theorem LQ.iter {l l' : Addr} {x : Str} {tx tn : Tok} {lh li ln lu lc lr lp ld : Addr} {z : Int} {Ra Pl : List (List Nat)} {De : List Int} {bg : Nat} {d : Int} {i : Nat} (f : LQ h₀ h L m l x tx tn lh li ln lu lc lr lp ld z Ra Pl De bg d) (y : h.IsListIter I l' i) (k : Heap.ExtBut I h h') (h0 : h₀.get? I = none) :
    LQ h₀ h' L m l x tx tn lh li ln lu lc lr lp ld z Ra Pl De bg d :=
  ⟨f.pa.iter y k h0, f.nm, f.cl.iter y k, let ⟨vs, p, q⟩ := f.rl; ⟨vs, p.extBut k (plain_iter_ne p y), q⟩, let ⟨vs, p, q⟩ := f.pll; ⟨vs, p.extBut k (plain_iter_ne p y), q⟩, f.dl.iter y k, f.z1, f.z2, f.z3, f.n1, f.n2, f.n3, f.ne⟩
/-- all that the loop changes -/
abbrev W1 (L lr lp ld : Addr) : List Addr := W0 L ++ [lr, lp, ld]
theorem W1_0 {L lr lp ld : Addr} {h h' : Heap} (k : But (W0 L) h h') : But (W1 L lr lp ld) h h' := fun b o hb e => k b o (fun q => hb (List.mem_append_left _ q)) e
theorem W1_r {L lr lp ld : Addr} {h h' : Heap} (k : Heap.SameBut lr h h') : But (W1 L lr lp ld) h h' := But.one k (List.mem_append_right _ (.head _))
theorem W1_p {L lr lp ld : Addr} {h h' : Heap} (k : Heap.SameBut lp h h') : But (W1 L lr lp ld) h h' := But.one k (List.mem_append_right _ (.tail _ (.head _)))
theorem W1_d {L lr lp ld : Addr} {h h' : Heap} (k : Heap.SameBut ld h h') : But (W1 L lr lp ld) h h' := But.one k (List.mem_append_right _ (.tail _ (.tail _ (.head _))))
theorem W1_L {L lr lp ld : Addr} {h h' : Heap} (k : Heap.SameBut L h h') : But (W1 L lr lp ld) h h' := But.one k (List.mem_append_left _ (.head _))
theorem W1_b {L lr lp ld : Addr} {h h' : Heap} (k : But [L] h h') : But (W1 L lr lp ld) h h' := fun b o hb e => k b o (fun q => hb (List.mem_append_left _ (by rw [List.mem_singleton.mp q]; exact .head _))) e
end
theorem trim_fits {Ra : List (List Nat)} {vs : Array Value} {i : Nat} (q : TrimAre Ra vs.toList) (h : Ra.length = i) (hi : i ≤ 1000) : vs.size ≤ sizeLine := by
  have e1 := paired_len q
  have e2 : vs.toList.length = vs.size := Array.length_toList
  rw [sizeLine_eq]; omega
theorem cut_item {t : List Nat} {items : Array Value} (hI : IntsAre items.toList ((cutsL t).map Int.ofNat)) {i : Nat} {v : Value} (hv : items[i]? = some v) : ∃ (c : Nat) (k : Tok), v = .int (c : Int) k ∧ (cutsL t)[i]? = some c := by
  have hv' : items.toList[i]? = some v := by simpa using hv
  have hlt : i < items.toList.length := (List.getElem?_eq_some_iff.mp hv').1
  have hl := hI.length
  rw [List.length_map] at hl
  rw [hl] at hlt
  have hc : (cutsL t)[i]? = some (cutsL t)[i] := List.getElem?_eq_getElem hlt
  obtain ⟨k, hk⟩ := hI.get i ((cutsL t)[i] : Int) (by rw [List.getElem?_map, hc]; rfl)
  rw [hk] at hv'
  exact ⟨_, k, (Option.some.inj hv').symm, hc⟩
theorem par_open : Str.ofString "(" = ⟨#[40]⟩ := by decide +kernel
theorem par_shut : Str.ofString ")" = ⟨#[41]⟩ := by decide +kernel
theorem signs_of {t : List Nat} {l : List Nat} {ys : List Value} (h : Paired (fun (i : Nat) y => ∃ k, y = Value.str (sOf [t.getD i 0]) k) l ys) : Paired (fun c v => ∃ k, v = Value.str (sOf [c]) k) (l.map (t.getD · 0)) ys := by
  induction h with
  | nil => exact .nil
  | cons h _ ih => exact .cons h ih
theorem strs_of_signs {cs : List Nat} {ys : List Value} (h : Paired (fun c v => ∃ k, v = Value.str (sOf [c]) k) cs ys) : StrsAre (cs.map fun c => [c]) ys := by
  induction h with
  | nil => exact .nil
  | cons h _ ih => exact .cons h ih
theorem flat_one (cs : List Nat) : (cs.map fun c => [c]).flatten = cs := by induction cs <;> simp_all

section
variable {prog : Program} {w : World} {A : Around} {s : Shared} {E : Value → Shared → Prop}
theorem count_open {D : Addr} {vs : Array Value} {cs : List Nat} {u : Tok} {Q : Value → Shared → Prop} (hl : s.heap.PlainList D vs) (hs : Paired (fun c v => ∃ t, v = Value.str (sOf [c]) t) cs vs.toList)
    (h : ∀ t tk, Q (.int (cs.count 40 : Nat) t) { s with toks := tk }) : wpAny (model prog w) A (call (.builtin "list.count") [.ref D, .str (Str.ofString "(") u]) Q E s := by
  rw [par_open]; exact count_sign hl hs h
theorem count_shut {D : Addr} {vs : Array Value} {cs : List Nat} {u : Tok} {Q : Value → Shared → Prop} (hl : s.heap.PlainList D vs) (hs : Paired (fun c v => ∃ t, v = Value.str (sOf [c]) t) cs vs.toList)
    (h : ∀ t tk, Q (.int (cs.count 41 : Nat) t) { s with toks := tk }) : wpAny (model prog w) A (call (.builtin "list.count") [.ref D, .str (Str.ofString ")") u]) Q E s := by
  rw [par_shut]; exact count_sign hl hs h
theorem law_c {h₀ : Heap} {L fa l lh li ln lu lc lr lp ld : Addr} {cd : Value} {m : Str → Option Value} {x : Str} {tx tn : Tok} {n : Nat} {z : Int} {Q : Flow → Shared → Prop}
    (B : Base w h₀) (R : Room A (n + 1)) (f : LQ h₀ s.heap L m l x tx tn lh li ln lu lc lr lp ld z [] [] [] 0 z)
    (h : ∀ h' tk m' b d, LQ h₀ h' L m' l x tx tn lh li ln lu lc lr lp ld z (segR x.cps.toList (cutsL x.cps.toList) 0) (segP x.cps.toList (cutsL x.cps.toList) 0) (segD x.cps.toList (cutsL x.cps.toList) 0 z) b d → wpAny (model prog w) A (execs (lawBody.drop 13) (lawEnv L fa cd)) Q NoE { s with heap := h', toks := tk }) :
    wpAny (model prog w) A (execs (lawBody.drop 12) (lawEnv L fa cd)) Q NoE s := by
  have hN : x.cps.toList.length = x.cps.size := Array.length_toList
  have hx := f.pa.ok
  have hx26 := hx.2.1
  have hcl := f.cl
  obtain ⟨items, pit, iit⟩ := hcl
  refine wpAny_execs_cons ?_
  refine wpAny_For ?_
  refine wpAny_Name (wpAny_loadName_local rfl rfl f.pa.lc.ns f.nm.cu ?_)
  have hLs : L < s.heap.objs.size := f.pa.lc.ns.lt
  have hIn : h₀.get? s.heap.objs.size = none := none_of_le (Nat.le_trans f.pa.lc.fr (Nat.le_of_lt hLs))
  refine for_list (h₀ := h₀) (W := W1 L lr lp ld) (l := lc) (items := items) R.hh pit.isList
    (fun i h => ∃ m Ra Pl De b d, LQ h₀ h L m l x tx tn lh li ln lu lc lr lp ld z Ra Pl De b d ∧ LI x.cps.toList z i Ra Pl De b d)
    (fun h hh => ⟨m, [], [], [], 0, z, f.ext hh, LI.zero _ _⟩) f.pa.lc.ext (Nat.le_trans f.pa.lc.fr (Nat.le_of_lt hLs)) ?_ ?_ ?_ ?_
  · intro b hb
    refine ⟨?_, ?_, ?_⟩
    · rcases List.mem_append.mp hb with hb | hb
      · simp only [List.mem_cons, List.not_mem_nil, or_false] at hb
        rcases hb with rfl | rfl | rfl | rfl | rfl | rfl | rfl
        · exact none_of_le f.pa.lc.fr
        all_goals exact LC.frNone f.pa.lc.fr _
      · simp only [List.mem_cons, List.not_mem_nil, or_false] at hb
        rcases hb with rfl | rfl | rfl
        · exact f.z1
        · exact f.z2
        · exact f.z3
    · rcases List.mem_append.mp hb with hb | hb
      · intro e
        exact f.pa.lc.plain pit (by rw [← e]; exact hb)
      · have := f.ne lc (by simp)
        simp only [List.mem_cons, List.not_mem_nil, or_false] at hb
        rcases hb with rfl | rfl | rfl
        · exact Ne.symm this.1
        · exact Ne.symm this.2.1
        · exact Ne.symm this.2.2
    · rcases List.mem_append.mp hb with hb | hb
      · simp only [List.mem_cons, List.not_mem_nil, or_false] at hb
        rcases hb with rfl | rfl | rfl | rfl | rfl | rfl | rfl
        · exact f.pa.lc.ns.lt
        · exact f.pa.lc.c1.lt
        · exact f.pa.lc.c2.lt
        · exact f.pa.lc.c3.lt
        · exact f.pa.lc.c4.lt
        · exact f.pa.lc.c5.lt
        · exact f.pa.lc.c6.lt
      · simp only [List.mem_cons, List.not_mem_nil, or_false] at hb
        rcases hb with rfl | rfl | rfl
        · obtain ⟨_, ⟨_, e⟩, _⟩ := f.rl; exact Heap.lt_size e
        · obtain ⟨_, ⟨_, e⟩, _⟩ := f.pll; exact Heap.lt_size e
        · exact f.dl.lt
  · rintro i h h' hit ⟨m, Ra, Pl, De, b, d, fh, lh⟩ hk
    exact ⟨m, Ra, Pl, De, b, d, fh.iter hit hk hIn, lh⟩
  · rintro i v h tk hv hit hxh ⟨m, Ra, Pl, De, b, d, fh, lI⟩
    have hcv : ∃ (c : Nat) (k : Tok), v = .int (c : Int) k ∧ (cutsL x.cps.toList)[i]? = some c := cut_item iit hv
    obtain ⟨c, tc, rfl, hc⟩ := hcv
    have hst := lI.step hc
    obtain ⟨hbc, hcN, lI'⟩ := hst
    rw [hN] at hcN
    have hi27 : i ≤ 27 := by
      have h1 := (List.getElem?_eq_some_iff.mp hc).1
      have h2 := cutsL_len x.cps.toList
      omega
    refine wpAny_assign_Name (wpAny_storeName_local rfl fh.pa.lc.ns fun h₁ hn₁ hs₁ => ?_)
    have f₁ := fh.setL hn₁ hs₁ fh.nm.set
    have b₁ : But (W1 L lr lp ld) h h₁ := W1_L hs₁
    have hcut : (fun k => if k = Str.ofString "cut" then some (Value.int (c : Int) tc) else m k) (Str.ofString "cut") = some (.int (c : Int) tc) := if_pos rfl
    -- raw.append(text[begin:cut].strip())
    have q1 := f₁.rl
    obtain ⟨rs, pr, qr⟩ := q1
    have q2 := f₁.nm.be
    obtain ⟨tb, hbe⟩ := q2
    refine wpAny_execs_cons (append_stmt (l := lr) (xs := rs) ?_)
    refine wpAny_Name (wpAny_loadName_local rfl rfl f₁.pa.lc.ns f₁.nm.ra ⟨rfl, pr, ?_⟩)
    refine meth0 (T := "str") F.plainAttrs_str F.slot_str_strip F.type_str_strip ?_
    refine text_slice (x := x) (tx := tx) (a := b) (b := c) hbc hcN (by omega) ?_
    refine wpAny_Name (wpAny_loadName_cell rfl rfl rfl f₁.pa.lc.c1 ?_)
    refine wpAny_Name (wpAny_loadName_local rfl rfl f₁.pa.lc.ns hbe ?_)
    refine wpAny_Name (wpAny_loadName_local rfl rfl f₁.pa.lc.ns hcut ?_)
    refine ⟨tb, tc, rfl, rfl, rfl, fun s₂ t₂ hk₂ => ⟨has_str _ _ _, ?_⟩⟩
    obtain ⟨h₂, tk₂, rfl, hk₂⟩ := hk₂
    refine SC.strip (fun t₃ k₃ => ?_) (by rw [sOf_len, sizeLine_eq]; have := seg_len x.cps.toList b c; omega)
    refine ⟨pr.at fun o e => hk₂ _ o e, trim_fits qr lI.rn (by omega), fun h₃ hp₃ hs₃ => ?_⟩
    have f₃ := (f₁.ext hk₂).addR (pr.at fun o e => hk₂ _ o e) qr hp₃ hs₃
    have b₃ : But (W1 L lr lp ld) h h₃ := b₁.trans ((But.ext hk₂).trans (W1_r hs₃))
    clear f₁ b₁
    -- plain.append(''.join([..]).strip())
    have q3 := f₃.pll
    obtain ⟨ps, pp, qp⟩ := q3
    have q4 := f₃.nm.be
    obtain ⟨tb', hbe'⟩ := q4
    refine wpAny_execs_cons (append_stmt (l := lp) (xs := ps) ?_)
    refine wpAny_Name (wpAny_loadName_local rfl rfl f₃.pa.lc.ns f₃.nm.pl ⟨rfl, pp, ?_⟩)
    refine meth0 (T := "str") F.plainAttrs_str F.slot_str_strip F.type_str_strip ?_
    refine meth1 (T := "str") F.plainAttrs_str F.slot_str_join F.type_str_join ?_
    refine wpAny_Constant_str ⟨has_str _ _ _, ?_⟩
    refine comp1_ev (q := (b, c)) (p := fun i => !(heldZ x.cps.toList).contains (i : Int)) (f := fun i y => ∃ t, y = .str (sOf [x.cps.toList.getD i 0]) t) R.hh ⟨by simp only; omega, by simp only; omega⟩ rfl (by decide) rfl (by decide) rfl ⟨?_, ?_⟩ ?_ ?_
    · intro C j s₄ m₄ t _ hj hn₄ hm₄ hx₄
      refine wpAny_tests_one (wpAny_isTrue_Compare1 ?_)
      refine wpAny_Name (wpAny_loadName_local rfl rfl hn₄ hm₄ ?_)
      refine wpAny_Name (wpAny_loadName_cell rfl rfl rfl (f₃.pa.lc.c2.keeps hx₄) ?_)
      exact notIn_il (f₃.pa.held.ext hx₄) (wpAny_truthy_bool ⟨rfl, Keeps.mk s₄ (Ext.rfl' _)⟩)
    · intro C j s₄ m₄ t _ hj _ hn₄ hm₄ hx₄
      exact text_at hx (Nat.lt_of_lt_of_le hj hcN) (f₃.pa.lc.c1.keeps hx₄) hn₄ hm₄ fun t' tk => ⟨⟨t', rfl⟩, Keeps.mk s₄ (Ext.rfl' _)⟩
    · refine wpAny_Call_NameR (wpAny_Name (ld_blt (B.ext f₃.pa.lc.ext) rfl rfl ?_))
      refine callWith_ty2 (wpAny_Name (wpAny_loadName_local rfl rfl f₃.pa.lc.ns hbe' ?_))
      refine wpAny_Name (wpAny_loadName_local rfl rfl f₃.pa.lc.ns (if_pos rfl) ?_)
      exact range_two rfl rfl fun s' r t u v hk hr => ⟨Keeps.trans (Keeps.mk _ (Ext.rfl' _)) hk, r, t, u, v, rfl, hr⟩
    intro D s₄ ys hD hk₄ pD hF
    obtain ⟨h₄, tk₄, rfl, hk₄⟩ := hk₄
    refine join_strs pD (strs_of_signs (signs_of hF)) ?_ fun t₅ k₅ => ?_
    · have := plainOf_len x.cps.toList b c
      rw [flat_one, sizeLine_eq]
      show (plainOf x.cps.toList b c).length ≤ _
      omega
    rw [flat_one]
    refine ⟨has_str _ _ _, ?_⟩
    refine SC.strip (x := sOf (plainOf x.cps.toList b c)) (fun t₆ k₆ => ?_) (by rw [sOf_len, sizeLine_eq]; have := plainOf_len x.cps.toList b c; omega)
    refine ⟨pp.at fun o e => hk₄ _ o e, trim_fits qp lI.pn (by omega), fun h₅ hp₅ hs₅ => ?_⟩
    have f₅ := (f₃.ext hk₄).addP (pp.at fun o e => hk₄ _ o e) qp hp₅ hs₅
    have b₅ : But (W1 L lr lp ld) h h₅ := b₃.trans ((But.ext hk₄).trans (W1_p hs₅))
    clear f₃ b₃ hF pD
    -- bare = [..]
    have q5 := f₅.nm.be
    obtain ⟨tb'', hbe''⟩ := q5
    refine wpAny_execs_cons ?_
    refine comp1_assign (q := (b, c)) (p := fun i => !(shutL (spansM x.cps.toList 0 .O) x.cps.size).contains (i : Int)) (f := fun i y => ∃ t, y = .str (sOf [x.cps.toList.getD i 0]) t) R.hh ⟨by simp only; omega, by simp only; omega⟩ rfl rfl (by decide) rfl (by decide) rfl rfl rfl f₅.pa.lc.ns ⟨?_, ?_⟩ ?_ ?_
    · intro C j s₆ m₆ t _ hj hn₆ hm₆ hx₆
      refine wpAny_tests_one (wpAny_isTrue_Compare1 ?_)
      refine wpAny_Name (wpAny_loadName_local rfl rfl hn₆ hm₆ ?_)
      refine wpAny_Name (wpAny_loadName_cell rfl rfl rfl (f₅.pa.lc.c6.keeps hx₆) ?_)
      exact notIn_il (f₅.pa.shu.ext hx₆) (wpAny_truthy_bool ⟨rfl, Keeps.mk s₆ (Ext.rfl' _)⟩)
    · intro C j s₆ m₆ t _ hj _ hn₆ hm₆ hx₆
      exact text_at hx (Nat.lt_of_lt_of_le hj hcN) (f₅.pa.lc.c1.keeps hx₆) hn₆ hm₆ fun t' tk => ⟨⟨t', rfl⟩, Keeps.mk s₆ (Ext.rfl' _)⟩
    · refine wpAny_Call_NameR (wpAny_Name (ld_blt (B.ext f₅.pa.lc.ext) rfl rfl ?_))
      refine callWith_ty2 (wpAny_Name (wpAny_loadName_local rfl rfl f₅.pa.lc.ns hbe'' ?_))
      refine wpAny_Name (wpAny_loadName_local rfl rfl f₅.pa.lc.ns (if_pos rfl) ?_)
      exact range_two rfl rfl fun s' r t u v hk hr => ⟨Keeps.trans (Keeps.mk _ (Ext.rfl' _)) hk, r, t, u, v, rfl, hr⟩
    intro D' h₆ tk₆ ys' hD' hn₆ hb₆ pD' hF'
    have f₆ := f₅.setBut hn₆ hb₆ f₅.nm.set
    have b₆ : But (W1 L lr lp ld) h h₆ := b₅.trans (W1_b hb₆)
    have hsg : Paired (fun c v => ∃ k, v = Value.str (sOf [c]) k) (bareOf x.cps.toList b c) ys'.toList := by
      have := signs_of hF'
      rw [← hN] at this
      exact this
    clear f₅ b₅ hF'
    -- depth += ..
    have q6 := f₆.nm.dp
    obtain ⟨td, hdp⟩ := q6
    refine wpAny_execs_cons (wpAny_AugAssign_Name (wpAny_loadName_local rfl rfl f₆.pa.lc.ns hdp ?_))
    refine wpAny_BinOp ?_
    refine meth1 (T := "list") F.plainAttrs_list F.slot_list_count F.type_list_count ?_
    refine wpAny_Name (wpAny_loadName_local rfl rfl f₆.pa.lc.ns (if_pos rfl) ⟨has_list pD', ?_⟩)
    refine wpAny_Constant_str ?_
    refine count_open pD' hsg fun t₇ tk₇ => ?_
    refine meth1 (T := "list") F.plainAttrs_list F.slot_list_count F.type_list_count ?_
    refine wpAny_Name (wpAny_loadName_local rfl rfl f₆.pa.lc.ns (if_pos rfl) ⟨has_list pD', ?_⟩)
    refine wpAny_Constant_str ?_
    refine count_shut pD' hsg fun t₈ tk₈ => PyProof.Rows.sub_int (PyProof.Rows.iadd_int ?_)
    refine wpAny_storeName_local rfl f₆.pa.lc.ns fun h₉ hn₉ hs₉ => ?_
    have f₉ := f₆.setL hn₉ hs₉ f₆.nm.setDp
    have b₉ : But (W1 L lr lp ld) h h₉ := b₆.trans (W1_L hs₉)
    clear f₆ b₆
    -- depths.append(depth)
    have q7 := f₉.dl
    obtain ⟨ds, pd, qd⟩ := q7
    refine wpAny_execs_cons (append_stmt (l := ld) (xs := ds) ?_)
    refine wpAny_Name (wpAny_loadName_local rfl rfl f₉.pa.lc.ns f₉.nm.de ⟨rfl, pd, ?_⟩)
    refine wpAny_Name (wpAny_loadName_local rfl rfl f₉.pa.lc.ns (if_pos rfl) ⟨pd, il_fits qd (by rw [lI.dn]; omega), fun h₁₀ hp₁₀ hs₁₀ => ?_⟩)
    have f₁₀ := f₉.addD pd qd hp₁₀ hs₁₀
    have b₁₀ : But (W1 L lr lp ld) h h₁₀ := b₉.trans (W1_d hs₁₀)
    clear f₉ b₉
    -- begin = cut + 1
    refine wpAny_execs_cons (wpAny_Assign_Name (wpAny_BinOp ?_))
    refine wpAny_Name (wpAny_loadName_local rfl rfl f₁₀.pa.lc.ns ((if_neg (by decide)).trans ((if_neg (by decide)).trans (if_pos rfl))) ?_)
    refine wpAny_Constant_int (PyProof.Rows.add_int ?_)
    refine wpAny_storeName_local rfl f₁₀.pa.lc.ns fun h₁₁ hn₁₁ hs₁₁ => ?_
    have f₁₁ := f₁₀.setL hn₁₁ hs₁₁ (f₁₀.nm.setBe (bg' := c + 1) (by push_cast; rfl))
    exact wpAny_execs_nil ⟨.inl rfl, h₁₁, _, rfl, b₁₀.trans (W1_L hs₁₁), _, _, _, _, _, _, f₁₁, lI'⟩
  · rintro h₁ tk hxh ⟨m₁, Ra, Pl, De, b, d, fh, lI⟩
    have hlen : items.size = (cutsL x.cps.toList).length := by
      have := iit.length
      rw [Array.length_toList, List.length_map] at this
      exact this
    rw [hlen] at lI
    have e := List.drop_length (l := cutsL x.cps.toList)
    have r1 := lI.r
    have r2 := lI.p
    have r3 := lI.d
    rw [e] at r1 r2 r3
    simp only [segR, segP, segD, List.append_nil] at r1 r2 r3
    rw [r1, r2, r3] at fh
    exact h h₁ tk m₁ b d fh
end
end Mine
end

section
open PySem PySem.W PyProof.Rows
set_option maxRecDepth 100000
set_option maxHeartbeats 1000000
namespace Mine
abbrev bts (x : Str) : Array UInt8 := x.cps.map (·.toUInt8)
def toldL : List (List Nat) → Int → List Int
  | [], _ => []
  | r :: rs, d => (d + gain (bts (Txt.strip (sOf r)))) :: toldL rs (d + gain (bts (Txt.strip (sOf r))))
def lastD : List (List Nat) → Int → Int
  | [], d => d
  | r :: rs, d => lastD rs (d + gain (bts (Txt.strip (sOf r))))
/-- what is to be shown of the text, no program in sight -/
structure PlainLaw (t : List Nat) (z : Int) : Prop where
  p1 : parseM t [] .O = segP t (cutsL t) 0
  p2 : parseM (twiceL t) [] .O = segR t (cutsL t) 0
  p3 : toldL (segR t (cutsL t) 0) z = segD t (cutsL t) 0 z
  p4 : z + gain (bts (sOf t)) = lastD (segR t (cutsL t) 0) z
  p5 : gain (bts (sOf (twiceL t))) = lastD (segR t (cutsL t) 0) z - z
theorem sOf_list (l : List Nat) : (sOf l).cps.toList = l := by simp [sOf]

theorem eqvAll_strs : ∀ ys : List Str, PyData.eqvAll (ys.map PyData.str) (ys.map PyData.str) = true
  | [] => by simp [PyData.eqvAll]
  | y :: r => by simp [PyData.eqvAll, PyData.eqv, eqvAll_strs r]
theorem strip_mem {x : Str} {c : Nat} (h : c ∈ (Txt.strip x).cps) : c ∈ x.cps := by
  unfold Txt.strip Txt.stripBy at h
  split at h
  · exact h
  · have h' : c ∈ x.cps.extract _ _ := h
    obtain ⟨i, hi, e⟩ := Array.mem_iff_getElem.mp h'
    rw [Array.getElem_extract] at e
    rw [← e]; exact Array.getElem_mem _
theorem strip_small {l : List Nat} (h : ∀ c ∈ l, c < 128) : ∀ c ∈ (Txt.strip (sOf l)).cps, c < 128 := fun c hc => h c (by have := strip_mem hc; simpa [sOf] using this)
theorem getD_small {t : List Nat} (h : ∀ c ∈ t, c < 128) (i : Nat) : t.getD i 0 < 128 := by
  rw [List.getD_eq_getElem?_getD]
  cases e : t[i]? with
  | none => decide
  | some c => exact h c (List.mem_of_getElem? e)
theorem segR_small {t : List Nat} (h : ∀ c ∈ t, c < 128) : ∀ (cs : List Nat) (b : Nat) (r : List Nat), r ∈ segR t cs b → ∀ c ∈ r, c < 128
  | [], _, r, hr, _, _ => by cases hr
  | k :: cs, b, r, hr, c, hc => by
    rcases List.mem_cons.mp hr with rfl | hr
    · exact h c (List.mem_of_mem_drop (List.mem_of_mem_take hc))
    · exact segR_small h cs _ r hr c hc
theorem segP_small {t : List Nat} (h : ∀ c ∈ t, c < 128) : ∀ (cs : List Nat) (b : Nat) (r : List Nat), r ∈ segP t cs b → ∀ c ∈ r, c < 128
  | [], _, r, hr, _, _ => by cases hr
  | k :: cs, b, r, hr, c, hc => by
    rcases List.mem_cons.mp hr with rfl | hr
    · obtain ⟨i, _, rfl⟩ := List.mem_map.mp hc
      exact getD_small h i
    · exact segP_small h cs _ r hr c hc
theorem canLay_trims : ∀ {ls : List (List Nat)}, (∀ r ∈ ls, ∀ c ∈ r, c < 128) → PyData.canLayAll0 ((ls.map fun l => Txt.strip (sOf l)).map PyData.str) = true
  | [], _ => by simp [PyData.canLayAll0]
  | y :: r, h => by
    have ih := canLay_trims (ls := r) fun a ha => h a (.tail _ ha)
    have h1 : PyData.strOk (Txt.strip (sOf y)) = true := by
      unfold PyData.strOk
      rw [Array.all_eq_true']
      intro c hc
      have := strip_small (h y (.head _)) c hc
      exact decide_eq_true (by omega)
    simp only [List.map_cons, PyData.canLayAll0, PyData.canLay0, h1, ih, Bool.and_self]
theorem depth_strs : ∀ ys : List Str, PyData.depthAll (ys.map PyData.str) = 0
  | [] => by simp [PyData.depthAll]
  | y :: r => by simp [PyData.depthAll, PyData.depth, depth_strs r]
theorem shaped_trims {ls : List (List Nat)} (h : ∀ r ∈ ls, ∀ c ∈ r, c < 128) : SeqAt.shaped (.list ((ls.map fun l => Txt.strip (sOf l)).map PyData.str)) = true := by
  have h1 := canLay_trims h
  have h2 := depth_strs (ls.map fun l => Txt.strip (sOf l))
  unfold SeqAt.shaped
  simp only [PyData.canLay0, PyData.depth, h1, h2, Bool.true_and]
  exact decide_eq_true (by omega)
theorem reads_trim {h : Heap} : ∀ {ls : List (List Nat)} {vs : List Value}, TrimAre ls vs → ReadsAll h vs ((ls.map fun l => Txt.strip (sOf l)).map PyData.str) []
  | _, _, .nil => .nil
  | l :: _, _, .cons ⟨t, e⟩ r => by
    subst e
    have := ReadsAll.cons (Reads.str (h := h) (Txt.strip (sOf l)) t) (reads_trim (h := h) r)
    simpa using this
section
variable {prog : Program} {w : World} {A : Around} {s : Shared} {E : Value → Shared → Prop}
theorem ne_trims {a b : Addr} {vs us : Array Value} {ls : List (List Nat)} {Q : Value → Shared → Prop} (ha : s.heap.PlainList a vs) (hb : s.heap.PlainList b us) (h1 : TrimAre ls vs.toList) (h2 : TrimAre ls us.toList) (hs : ∀ r ∈ ls, ∀ c ∈ r, c < 128) (hu : A.units + 64 < cLine)
    (h : Q (.bool false) s) : wpAny (model prog w) A (compareOp .NotEq (.ref a) (.ref b)) Q E s := by
  obtain ⟨n, ha⟩ := ha
  obtain ⟨k, hb⟩ := hb
  refine ne_dataH (Reads.list ha rfl rfl (reads_trim h1)) (Reads.list hb rfl rfl (reads_trim h2)) (shaped_trims hs) (shaped_trims hs) hu ?_
  have e : PyData.eqv (.list ((ls.map fun l => Txt.strip (sOf l)).map PyData.str)) (.list ((ls.map fun l => Txt.strip (sOf l)).map PyData.str)) = true := by
    simp only [PyData.eqv]; exact eqvAll_strs _
  rw [e]; exact h
theorem eq_ils {a b : Addr} {zs : List Int} {Q : Value → Shared → Prop} (ha : IL s.heap a zs) (hb : IL s.heap b zs) (hu : A.units + 64 < cLine)
    (h : Q (.bool true) s) : wpAny (model prog w) A (compareOp .Eq (.ref a) (.ref b)) Q E s := by
  obtain ⟨vs, pa, ia⟩ := ha
  obtain ⟨us, pb, ib⟩ := hb
  refine eq_intsK (vs := vs.toList) (us := us.toList) (by rw [Array.toArray_toList]; exact pa.isList) ia (by rw [Array.toArray_toList]; exact pb.isList) ib hu ?_
  rw [decide_eq_true rfl]; exact h
theorem Or2 {env : Env} {a b : Expr} {pos : Pos} {whole : Sem Value} {Q : Bool → Shared → Prop}
    (h : wpAny (model prog w) A (isTrue a env (eval a env)) (fun x s₁ => (x = true → Q true s₁) ∧ (x = false → wpAny (model prog w) A (isTrue b env (eval b env)) Q E s₁)) E s) :
    wpAny (model prog w) A (isTrue (.BoolOp .Or [a, b] pos) env whole) Q E s := by
  refine wpAny_isTrue_BoolOp (wpAny_allTrue_Or_cons (wpAny_mono h (fun x s₁ h₁ => ?_) fun _ _ e => e))
  cases x with
  | true => exact h₁.1 rfl
  | false => exact wpAny_allTrue_Or_cons (wpAny_mono (h₁.2 rfl) (fun y s₂ h₂ => by cases y with | true => exact h₂ | false => exact wpAny_allTrue_Or_nil h₂) fun _ _ e => e)

/-- law's state ahead of its second loop -/
structure LZ (h₀ h : Heap) (L : Addr) (m : Str → Option Value) (x : Str) (tx tn : Tok) (lh li ln lu lD lt ld : Addr) (z : Int) (To : List Int) (d : Int) : Prop where
  lc : LC h₀ h L m (some (.str x tx)) (some (.ref lh)) (some (.int ((x.cps.size : Nat) : Int) tn)) (some (.ref li)) (some (.ref ln)) (some (.ref lu))
  tw : ∃ t, m (Str.ofString "twice") = some (.str (sOf (twiceL x.cps.toList)) t)
  fi : ∃ t, m (Str.ofString "first") = some (.int z t)
  de : m (Str.ofString "depths") = some (.ref ld)
  pi : m (Str.ofString "pieces") = some (.ref lD)
  tn : m (Str.ofString "told") = some (.ref lt)
  dp : ∃ t, m (Str.ofString "depth") = some (.int d t)
  pl : ∃ vs, h.PlainList lD vs ∧ TrimAre (segR x.cps.toList (cutsL x.cps.toList) 0) vs.toList
  dl : IL h ld (segD x.cps.toList (cutsL x.cps.toList) 0 z)
  tl : IL h lt To
  z1 : h₀.get? lt = none
  n1 : lD ≠ lt
  n2 : ld ≠ lt
theorem law_d {h₀ : Heap} {L fa l lh li ln lu lc lr lp ld : Addr} {cd : Value} {m : Str → Option Value} {x : Str} {tx tn : Tok} {n b : Nat} {z d : Int} {Q : Flow → Shared → Prop}
    (B : Base w h₀) (R : Room A (n + 20)) (PL : PlainLaw x.cps.toList z) (f : LQ h₀ s.heap L m l x tx tn lh li ln lu lc lr lp ld z (segR x.cps.toList (cutsL x.cps.toList) 0) (segP x.cps.toList (cutsL x.cps.toList) 0) (segD x.cps.toList (cutsL x.cps.toList) 0 z) b d)
    (h : ∀ h' tk m' lD lt, LZ h₀ h' L m' x tx tn lh li ln lu lD lt ld z [] z → wpAny (model prog w) A (execs (lawBody.drop 16) (lawEnv L fa cd)) Q NoE { s with heap := h', toks := tk }) :
    wpAny (model prog w) A (execs (lawBody.drop 13) (lawEnv L fa cd)) Q NoE s := by
  have hu : A.units + 64 < cLine := by have := R.un; omega
  have R1 : Room A (n + 19 + 1) := R
  have hx := f.pa.ok
  have hx26 := hx.2.1
  have q1 := f.nm.tw
  obtain ⟨tt, htw⟩ := q1
  refine wpAny_execs_cons (wpAny_Assign_Name ?_)
  refine wpAny_Call_NameR (wpAny_Name (ld_glob (B.ext f.pa.lc.ext) rfl ?_))
  refine callWith_own1 (wpAny_Name (wpAny_loadName_local rfl rfl f.pa.lc.ns htw ⟨⟨(B.ext f.pa.lc.ext).K 49 _ rfl, rfl⟩, ?_⟩))
  have htl := twiceL_len x.cps.toList
  have hN : x.cps.toList.length = x.cps.size := Array.length_toList
  refine Ev.use (parse_ev (x := sOf (twiceL x.cps.toList)) (B.ext f.pa.lc.ext) R1 (by show (sOf (twiceL x.cps.toList)).length ≤ 1000; rw [sOf_len]; omega)) ?_
  rintro _ s₁ hk₁ ⟨lD, vs₁, rfl, hD, p₁, t₁⟩
  obtain ⟨h₁, tk₁, rfl, hk₁⟩ := hk₁
  rw [sOf_list, PL.p2] at t₁
  have f₁ := f.ext hk₁
  refine wpAny_storeName_local rfl f₁.pa.lc.ns fun h₂ hn₂ hs₂ => ?_
  have f₂ := f₁.setL hn₂ hs₂ f₁.nm.set
  have p₂ : h₂.PlainList lD vs₁ := p₁.extBut hs₂.extBut (Ne.symm (ns_plain_ne f₁.pa.lc.ns p₁))
  clear f₁ p₁
  have hsm : ∀ c ∈ x.cps.toList, c < 128 := fun c hc => (hx.2.2 c hc).1
  refine wpAny_execs_cons (If2 (Or2 (wpAny_isTrue_Compare1 ?_)))
  refine wpAny_Call_NameR (wpAny_Name (ld_glob (B.ext f₂.pa.lc.ext) rfl ?_))
  refine callWith_own1 (wpAny_Name (wpAny_loadName_cell rfl rfl rfl f₂.pa.lc.c1 ⟨⟨(B.ext f₂.pa.lc.ext).K 49 _ rfl, rfl⟩, ?_⟩))
  refine Ev.use (parse_ev (x := x) (B.ext f₂.pa.lc.ext) R1 (by omega)) ?_
  rintro _ s₃ hk₃ ⟨lE, vs₃, rfl, _, p₃, t₃⟩
  obtain ⟨h₃, tk₃, rfl, hk₃⟩ := hk₃
  rw [PL.p1] at t₃
  have f₃ := f₂.ext hk₃
  have q2 := f₃.pll
  obtain ⟨ps, pp, qp⟩ := q2
  have q3 := f₃.rl
  obtain ⟨rs, pr, qr⟩ := q3
  refine wpAny_Name (wpAny_loadName_local rfl rfl f₃.pa.lc.ns f₃.nm.pl ?_)
  refine ne_trims p₃ pp t₃ qp (segP_small hsm _ _) hu (wpAny_truthy_bool ⟨fun e => (Bool.false_ne_true e).elim, fun _ => ?_⟩)
  refine wpAny_isTrue_Compare1 ?_
  refine wpAny_Name (wpAny_loadName_local rfl rfl f₃.pa.lc.ns (if_pos rfl) ?_)
  refine wpAny_Name (wpAny_loadName_local rfl rfl f₃.pa.lc.ns f₃.nm.ra ?_)
  refine ne_trims (p₂.at fun o e => hk₃ _ o e) pr t₁ qr (segR_small hsm _ _) hu (wpAny_truthy_bool ⟨fun e => (Bool.false_ne_true e).elim, fun _ => ?_⟩)
  refine wpAny_execs_nil ?_
  have q4 := f₃.nm.fi
  obtain ⟨tf, hfi⟩ := q4
  refine wpAny_execs_cons (tuple_assign R.hh ?_)
  refine Calls.spliced_cons (List_ (Calls.spliced_nil (wpAny_newList ?_)))
  have f₄ := f₃.ext (Ext.push h₃ { cls := .type "list", data := .seq ([] : List Value).toArray })
  refine Calls.spliced_cons ?_
  refine wpAny_Name (wpAny_loadName_local rfl rfl f₄.pa.lc.ns hfi (Calls.spliced_nil ?_))
  refine ⟨rfl, by size_fits, fun h₅ hx₅ => ?_⟩
  have f₅ := f₄.ext hx₅
  have g₅ : h₅.PlainList h₃.objs.size #[] := ⟨_, hx₅ _ _ (Heap.get?_push_size _ rfl)⟩
  have p₅ : h₅.PlainList lD vs₁ := p₂.at fun o e => hx₅ _ o (Heap.get?_push_of_some _ (hk₃ _ o e))
  refine bind_local f₅.pa.lc.ns fun h₆ _ hn₆ hs₆ => ?_
  refine bind_local hn₆ fun h₇ _ hn₇ hs₇ => ?_
  refine wpAny_assignInOrder_none ?_
  have lc₇ := (f₅.pa.lc.setL hn₆ hs₆).setL hn₇ hs₇
  have hb : But (W0 L) h₅ h₇ := (But.one hs₆ (.head _)).trans (But.one hs₇ (.head _))
  have q5 := f₅.nm.tw
  obtain ⟨t5, htw5⟩ := q5
  have hlt : h₃.objs.size ≠ L := fun e => by have := f₃.pa.lc.ns.lt; exact absurd (e ▸ this : L < L) (Nat.lt_irrefl _)
  refine h h₇ _ _ lD h₃.objs.size ⟨lc₇, ⟨t5, htw5⟩, ⟨tf, hfi⟩, f₅.nm.de, rfl, rfl, ⟨tf, rfl⟩, ⟨vs₁, p₅.at fun o e => hb _ o (f₅.pa.lc.plain p₅) e, t₁⟩, f₅.pa.lc.il f₅.dl hb, ⟨#[], g₅.at fun o e => hb _ o (f₅.pa.lc.plain g₅) e, .nil⟩, ?_, ?_, ?_⟩
  · exact none_of_le (Nat.le_trans f₃.pa.lc.fr (Nat.le_of_lt f₃.pa.lc.ns.lt))
  · obtain ⟨k, e⟩ := p₂
    exact Nat.ne_of_lt (Heap.lt_size (hk₃ _ _ e))
  · exact Nat.ne_of_lt f₃.dl.lt
end
end Mine
end

section
open PySem PySem.W PyProof.Rows
set_option maxRecDepth 100000
set_option maxHeartbeats 1000000
namespace Mine
theorem segR_len (t : List Nat) : ∀ (cs : List Nat) (b : Nat), (segR t cs b).length = cs.length
  | [], _ => rfl
  | _ :: cs, b => by simp [segR, segR_len t cs]
section
variable {h₀ h h' : Heap} {L : Addr} {m : Str → Option Value} {x : Str} {tx tn : Tok} {lh li ln lu lD lt ld : Addr} {z : Int} {To : List Int} {d d' : Int}
theorem LZ.ext (f : LZ h₀ h L m x tx tn lh li ln lu lD lt ld z To d) (k : Ext h h') : LZ h₀ h' L m x tx tn lh li ln lu lD lt ld z To d :=
  ⟨f.lc.grow k, f.tw, f.fi, f.de, f.pi, f.tn, f.dp, let ⟨vs, p, q⟩ := f.pl; ⟨vs, p.at fun o e => k _ o e, q⟩, f.dl.ext k, f.tl.ext k, f.z1, f.n1, f.n2⟩
theorem LZ.iter {I l' : Addr} {i : Nat} (f : LZ h₀ h L m x tx tn lh li ln lu lD lt ld z To d) (y : h.IsListIter I l' i) (k : Heap.ExtBut I h h') (h0 : h₀.get? I = none) : LZ h₀ h' L m x tx tn lh li ln lu lD lt ld z To d :=
  ⟨f.lc.iter y k h0, f.tw, f.fi, f.de, f.pi, f.tn, f.dp, let ⟨vs, p, q⟩ := f.pl; ⟨vs, p.extBut k (plain_iter_ne p y), q⟩, f.dl.iter y k, f.tl.iter y k, f.z1, f.n1, f.n2⟩
theorem LZ.setPiece {v : Value} (f : LZ h₀ h L m x tx tn lh li ln lu lD lt ld z To d) (hn : h'.Ns L (fun k => if k = Str.ofString "piece" then some v else m k)) (hs : Heap.SameBut L h h') : LZ h₀ h' L (fun k => if k = Str.ofString "piece" then some v else m k) x tx tn lh li ln lu lD lt ld z To d :=
  ⟨f.lc.setL hn hs, let ⟨t, e⟩ := f.tw; ⟨t, (if_neg (by decide)).trans e⟩, let ⟨t, e⟩ := f.fi; ⟨t, (if_neg (by decide)).trans e⟩, (if_neg (by decide)).trans f.de, (if_neg (by decide)).trans f.pi, (if_neg (by decide)).trans f.tn, let ⟨t, e⟩ := f.dp; ⟨t, (if_neg (by decide)).trans e⟩,
    let ⟨vs, p, q⟩ := f.pl; ⟨vs, p.extBut hs.extBut (Ne.symm (ns_plain_ne f.lc.ns p)), q⟩, f.lc.il f.dl (But.one hs (.head _)), f.lc.il f.tl (But.one hs (.head _)), f.z1, f.n1, f.n2⟩
theorem LZ.setDp {t : Tok} (f : LZ h₀ h L m x tx tn lh li ln lu lD lt ld z To d) (hn : h'.Ns L (fun k => if k = Str.ofString "depth" then some (.int d' t) else m k)) (hs : Heap.SameBut L h h') : LZ h₀ h' L (fun k => if k = Str.ofString "depth" then some (.int d' t) else m k) x tx tn lh li ln lu lD lt ld z To d' :=
  ⟨f.lc.setL hn hs, let ⟨t, e⟩ := f.tw; ⟨t, (if_neg (by decide)).trans e⟩, let ⟨t, e⟩ := f.fi; ⟨t, (if_neg (by decide)).trans e⟩, (if_neg (by decide)).trans f.de, (if_neg (by decide)).trans f.pi, (if_neg (by decide)).trans f.tn, ⟨t, if_pos rfl⟩,
    let ⟨vs, p, q⟩ := f.pl; ⟨vs, p.extBut hs.extBut (Ne.symm (ns_plain_ne f.lc.ns p)), q⟩, f.lc.il f.dl (But.one hs (.head _)), f.lc.il f.tl (But.one hs (.head _)), f.z1, f.n1, f.n2⟩
theorem LZ.addT {vs : Array Value} {i : Int} {t : Tok} (f : LZ h₀ h L m x tx tn lh li ln lu lD lt ld z To d) (p : h.PlainList lt vs) (q : IntsAre vs.toList To) (hp : h'.PlainList lt (vs.push (.int i t))) (hs : Heap.SameBut lt h h') : LZ h₀ h' L m x tx tn lh li ln lu lD lt ld z (To ++ [i]) d :=
  ⟨f.lc.but (f.lc.plain p) f.z1 hs, f.tw, f.fi, f.de, f.pi, f.tn, f.dp, let ⟨vs, p, q⟩ := f.pl; ⟨vs, p.extBut hs.extBut f.n1, q⟩, f.dl.at fun o e => hs.extBut _ o f.n2 e, ⟨_, hp, by rw [Array.toList_push]; exact ints_snoc q⟩, f.z1, f.n1, f.n2⟩
end
structure LJ (P : List (List Nat)) (z : Int) (i : Nat) (To : List Int) (d : Int) : Prop where
  t : To ++ toldL (P.drop i) d = toldL P z
  l : lastD (P.drop i) d = lastD P z
  n : To.length = i
theorem dropC {P : List (List Nat)} {i : Nat} {c : List Nat} (h : P[i]? = some c) : P.drop i = c :: P.drop (i + 1) := by
  obtain ⟨hi, e⟩ := List.getElem?_eq_some_iff.mp h
  rw [List.drop_eq_getElem_cons hi, e]
theorem LJ.step {P : List (List Nat)} {z : Int} {i : Nat} {To : List Int} {d : Int} {r : List Nat} (x : LJ P z i To d) (hr : P[i]? = some r) :
    LJ P z (i + 1) (To ++ [d + gain (bts (Txt.strip (sOf r)))]) (d + gain (bts (Txt.strip (sOf r)))) := by
  have e := dropC hr
  refine ⟨?_, ?_, by simp [x.n]⟩
  · have := x.t; rw [e] at this; simpa [toldL] using this
  · have := x.l; rw [e] at this; simpa [lastD] using this
theorem strip_len {x : Str} : (Txt.strip x).cps.size ≤ x.cps.size := by
  unfold Txt.strip Txt.stripBy
  split
  · exact Nat.le_refl _
  · show (x.cps.extract _ _).size ≤ _
    rw [Array.size_extract]
    omega
theorem eq_yes {a b : Int} (h : a = b) : (a == b) = true := beq_iff_eq.mpr h
theorem twice_small {t : List Nat} (h : ∀ c ∈ t, c < 128) : ∀ c ∈ twiceL t, c < 128 := by
  intro c hc
  unfold twiceL at hc
  obtain ⟨p, hp, hcp⟩ := List.mem_flatten.mp hc
  obtain ⟨i, _, rfl⟩ := List.mem_map.mp hp
  unfold twPart at hcp
  have := getD_small h i
  split at hcp
  · simp only [List.mem_cons, List.not_mem_nil, or_false] at hcp
    rcases hcp with rfl | rfl
    · decide
    · exact this
  · rw [List.mem_singleton.mp hcp]; exact this
theorem segR_seglen {t : List Nat} : ∀ (cs : List Nat) (b : Nat) (r : List Nat), r ∈ segR t cs b → r.length ≤ t.length
  | [], _, r, hr => by cases hr
  | k :: cs, b, r, hr => by
    rcases List.mem_cons.mp hr with rfl | hr
    · unfold seg; rw [List.length_take, List.length_drop]; omega
    · exact segR_seglen cs _ r hr
section
variable {prog : Program} {w : World} {A : Around} {s : Shared} {E : Value → Shared → Prop}
theorem type_str_encode : typeOf (.builtin "str.encode") = pure (.type "method_descriptor") := by show builtinType _ = _; rw [builtinType_eq_fast]; kernel_rfl
theorem own2 {pos : Pos} {f : Addr} {o : Obj} {fd : FuncData} {t u : Sem Value} {Q : Value → Shared → Prop} (ho : (hd.heap_39 w.params).lookup f = some o) (hfd : o.data = .func fd)
    (h : wpAny (model prog w) A t (fun v s₁ => wpAny (model prog w) A u (fun v' s₂ => Base w s₂.heap ∧ wpAny (model prog w) A (call (.ref f) [v, v']) Q E s₂) E s₁) E s) :
    wpAny (model prog w) A (callWith pos (.ref f) [] [(false, t), (false, u)] []) Q E s :=
  callWith_own2 (wpAny_mono h (fun _ _ h₁ => wpAny_mono h₁ (fun _ _ h₂ => ⟨⟨h₂.1.K f o ho, hfd⟩, h₂.2⟩) fun _ _ e => e) fun _ _ e => e)
theorem own1 {pos : Pos} {f : Addr} {o : Obj} {fd : FuncData} {t : Sem Value} {Q : Value → Shared → Prop} (ho : (hd.heap_39 w.params).lookup f = some o) (hfd : o.data = .func fd)
    (h : wpAny (model prog w) A t (fun v s₁ => Base w s₁.heap ∧ wpAny (model prog w) A (call (.ref f) [v]) Q E s₁) E s) :
    wpAny (model prog w) A (callWith pos (.ref f) [] [(false, t)] []) Q E s :=
  callWith_own1 (wpAny_mono h (fun _ _ h₁ => ⟨⟨h₁.1.K f o ho, hfd⟩, h₁.2⟩) fun _ _ e => e)
theorem law_e {h₀ : Heap} {L fa : Addr} {cd : Value} {m : Str → Option Value} {x : Str} {tx tn : Tok} {lh li ln lu lD lt ld : Addr} {n : Nat} {z : Int} {Q : Flow → Shared → Prop}
    (B : Base w h₀) (R : Room A (n + 20)) (hx : TextOk x) (PL : PlainLaw x.cps.toList z) (f : LZ h₀ s.heap L m x tx tn lh li ln lu lD lt ld z [] z)
    (h : ∀ h' tk, Ext h₀ h' → Q (.ret (.bool true)) { s with heap := h', toks := tk }) :
    wpAny (model prog w) A (execs (lawBody.drop 16) (lawEnv L fa cd)) Q NoE s := by
  have hu : A.units + 64 < cLine := by have := R.un; omega
  have R1 : Room A (n + 19 + 1) := R
  have hx26 := hx.2.1
  have hN : x.cps.toList.length = x.cps.size := Array.length_toList
  have hsm : ∀ c ∈ x.cps.toList, c < 128 := fun c hc => (hx.2.2 c hc).1
  have hpl := f.pl
  obtain ⟨items, pit, tit⟩ := hpl
  have hLs : L < s.heap.objs.size := f.lc.ns.lt
  have hIn : h₀.get? s.heap.objs.size = none := none_of_le (Nat.le_trans f.lc.fr (Nat.le_of_lt hLs))
  have hPlen : (segR x.cps.toList (cutsL x.cps.toList) 0).length ≤ 27 := by
    rw [segR_len]; have := cutsL_len x.cps.toList; omega
  refine wpAny_execs_cons (wpAny_For ?_)
  refine wpAny_Name (wpAny_loadName_local rfl rfl f.lc.ns f.pi ?_)
  refine for_list (h₀ := h₀) (W := [L, lt]) (l := lD) (items := items) R.hh pit.isList
    (fun i h => ∃ m To d, LZ h₀ h L m x tx tn lh li ln lu lD lt ld z To d ∧ LJ (segR x.cps.toList (cutsL x.cps.toList) 0) z i To d)
    (fun h hh => ⟨m, [], z, f.ext hh, ⟨rfl, rfl, rfl⟩⟩) f.lc.ext (Nat.le_trans f.lc.fr (Nat.le_of_lt hLs)) ?_ ?_ ?_ ?_
  · intro b hb
    simp only [List.mem_cons, List.not_mem_nil, or_false] at hb
    rcases hb with rfl | rfl
    · exact ⟨none_of_le f.lc.fr, ns_plain_ne f.lc.ns pit, hLs⟩
    · exact ⟨f.z1, Ne.symm f.n1, f.tl.lt⟩
  · rintro i h h' hit ⟨m, To, d, fh, lj⟩ hk
    exact ⟨m, To, d, fh.iter hit hk hIn, lj⟩
  · rintro i v h tk hv hit hxh ⟨m, To, d, fh, lj⟩
    have hr0 : ∃ r, (segR x.cps.toList (cutsL x.cps.toList) 0)[i]? = some r ∧ ∃ t, v = .str (Txt.strip (sOf r)) t := paired_get tit i v (by rw [Array.getElem?_toList]; exact hv)
    obtain ⟨r, hr, tv, rfl⟩ := hr0
    have hrm := List.mem_of_getElem? hr
    have hrs := segR_small hsm _ _ r hrm
    have hrl := segR_seglen _ _ r hrm
    have hsl := strip_len (x := sOf r)
    have hso : (sOf r).cps.size = r.length := sOf_len r
    have hi27 : i ≤ 27 := Nat.le_trans (Nat.le_of_lt (List.getElem?_eq_some_iff.mp hr).1) hPlen
    refine wpAny_assign_Name (wpAny_storeName_local rfl fh.lc.ns fun h₁ hn₁ hs₁ => ?_)
    have f₁ := fh.setPiece hn₁ hs₁
    have q1 := f₁.dp
    obtain ⟨td, hdp⟩ := q1
    refine wpAny_execs_cons (wpAny_Assign_Name ?_)
    refine wpAny_Call_NameR (wpAny_Name (ld_glob (B.ext f₁.lc.ext) rfl ?_))
    refine own2 rfl rfl (meth0 (T := "str") F.plainAttrs_str F.slot_str_encode type_str_encode ?_)
    refine wpAny_Name (wpAny_loadName_local rfl rfl f₁.lc.ns (if_pos rfl) ⟨has_str _ _ _, ?_⟩)
    refine encode_call (fun c hc => strip_small hrs c (by simpa using hc)) (by rw [sizeLine_eq]; omega) fun t₂ k₂ => ?_
    refine wpAny_Name (wpAny_loadName_local rfl rfl f₁.lc.ns hdp ⟨B.ext f₁.lc.ext, ?_⟩)
    refine Ev.use (paren_ev (B.ext f₁.lc.ext) R1 (by rw [Array.size_map]; omega)) ?_
    rintro _ s₃ hk₃ ⟨t₃, rfl⟩
    obtain ⟨h₃, tk₃, rfl, hk₃⟩ := hk₃
    have f₃ := f₁.ext hk₃
    refine wpAny_storeName_local rfl f₃.lc.ns fun h₄ hn₄ hs₄ => ?_
    have f₄ := f₃.setDp hn₄ hs₄
    have q2 := f₄.tl
    obtain ⟨ts, pt, qt⟩ := q2
    refine wpAny_execs_cons (append_stmt (l := lt) (xs := ts) ?_)
    refine wpAny_Name (wpAny_loadName_local rfl rfl f₄.lc.ns f₄.tn ⟨rfl, pt, ?_⟩)
    refine wpAny_Name (wpAny_loadName_local rfl rfl f₄.lc.ns (if_pos rfl) ⟨pt, il_fits qt (by rw [lj.n]; omega), fun h₅ hp₅ hs₅ => ?_⟩)
    have f₅ := f₄.addT pt qt hp₅ hs₅
    exact wpAny_execs_nil ⟨.inl rfl, h₅, _, rfl, (But.one hs₁ (.head _)).trans ((But.ext hk₃).trans ((But.one hs₄ (.head _)).trans (But.one hs₅ (.tail _ (.head _))))), _, _, _, f₅, lj.step hr⟩
  · rintro h₁ tk hxh ⟨m₁, To, d, fh, lj⟩
    have hlen : items.size = (segR x.cps.toList (cutsL x.cps.toList) 0).length := by
      have e1 := paired_len tit
      have e2 : items.toList.length = items.size := Array.length_toList
      omega
    have e := List.drop_length (l := segR x.cps.toList (cutsL x.cps.toList) 0)
    have r1 := lj.t
    have r2 := lj.l
    rw [hlen, e] at r1 r2
    simp only [toldL, lastD, List.append_nil] at r1 r2
    rw [PL.p3] at r1
    have htl := fh.tl
    rw [r1] at htl
    have q1 := fh.dp
    obtain ⟨td, hdp⟩ := q1
    have q2 := fh.fi
    obtain ⟨tf, hfi⟩ := q2
    have q3 := fh.tw
    obtain ⟨tw, htw⟩ := q3
    have htwl := twiceL_len x.cps.toList
    refine wpAny_execs_cons (wpAny_Return_some (BoolOp_and (wpAny_Compare1 ?_)))
    refine wpAny_Name (wpAny_loadName_local rfl rfl fh.lc.ns fh.tn ?_)
    refine wpAny_Name (wpAny_loadName_local rfl rfl fh.lc.ns fh.de ?_)
    refine eq_ils htl fh.dl hu (wpAny_truthy_bool ?_)
    rw [if_pos rfl]
    refine BoolOp_and (wpAny_Compare1 ?_)
    refine wpAny_Call_NameR (wpAny_Name (ld_glob (B.ext fh.lc.ext) rfl ?_))
    refine own2 rfl rfl (meth0 (T := "str") F.plainAttrs_str F.slot_str_encode type_str_encode ?_)
    refine wpAny_Name (wpAny_loadName_cell rfl rfl rfl fh.lc.c1 ⟨has_str _ _ _, ?_⟩)
    refine encode_call hsm (by rw [sizeLine_eq]; omega) fun t₂ k₂ => ?_
    refine wpAny_Name (wpAny_loadName_local rfl rfl fh.lc.ns hfi ⟨B.ext fh.lc.ext, ?_⟩)
    refine Ev.use (paren_ev (B.ext fh.lc.ext) R1 (by rw [Array.size_map]; omega)) ?_
    rintro _ s₃ hk₃ ⟨t₃, rfl⟩
    obtain ⟨h₃, tk₃, rfl, hk₃⟩ := hk₃
    have f₃ := fh.ext hk₃
    refine wpAny_Name (wpAny_loadName_local rfl rfl f₃.lc.ns hdp ?_)
    have p4 := PL.p4
    rw [sOf_cps] at p4
    refine PyProof.Rows.eq_int (wpAny_truthy_bool ?_)
    rw [eq_yes (p4.trans r2.symm), if_pos rfl]
    refine BoolOp_one (wpAny_Compare1 ?_)
    refine wpAny_Call_NameR (wpAny_Name (ld_glob (B.ext f₃.lc.ext) rfl ?_))
    refine own1 rfl rfl (meth0 (T := "str") F.plainAttrs_str F.slot_str_encode type_str_encode ?_)
    refine wpAny_Name (wpAny_loadName_local rfl rfl f₃.lc.ns htw ⟨has_str _ _ _, ?_⟩)
    have hts : (sOf (twiceL x.cps.toList)).cps.size = (twiceL x.cps.toList).length := sOf_len _
    refine encode_call (x := sOf (twiceL x.cps.toList)) (fun c hc => twice_small hsm c (by rw [sOf_list] at hc; exact hc)) (by rw [sizeLine_eq]; omega) fun t₄ k₄ => ⟨B.ext f₃.lc.ext, ?_⟩
    refine Ev.use (paren0_ev (B.ext f₃.lc.ext) R1 (by rw [Array.size_map]; omega)) ?_
    rintro _ s₅ hk₅ ⟨t₅, rfl⟩
    obtain ⟨h₅, tk₅, rfl, hk₅⟩ := hk₅
    have f₅ := f₃.ext hk₅
    refine wpAny_BinOp (wpAny_Name (wpAny_loadName_local rfl rfl f₅.lc.ns hdp ?_))
    refine wpAny_Name (wpAny_loadName_local rfl rfl f₅.lc.ns hfi (PyProof.Rows.sub_int (PyProof.Rows.eq_int ?_)))
    rw [eq_yes (PL.p5.trans (by rw [r2]))]
    exact h _ _ f₅.lc.ext
end
end Mine
end

section
namespace Mine
/-! the plain law, first part: each sign with its kind -/
inductive Kd where
  | out
  | opn (sh : Bool)
  | bod (sh : Bool)
  | hld (sh : Bool)
  | esc (sh : Bool)
  | cls (sh : Bool)
inductive Sq where
  | O
  | I (sh : Bool)
  | E (sh : Bool)
def Kd.isIn : Kd → Bool
  | .out => false
  | _ => true
def Kd.isInner : Kd → Bool
  | .bod _ => true
  | .hld _ => true
  | .esc _ => true
  | _ => false
def Kd.isHld : Kd → Bool
  | .hld _ => true
  | _ => false
def Kd.isShut : Kd → Bool
  | .out => false
  | .opn s => s
  | .bod s => s
  | .hld s => s
  | .esc s => s
  | .cls s => s
/-- quotes are shut further on; ahead of a sign that a backslash holds: true -/
def closes : List Nat → Bool → Bool
  | [], _ => false
  | _ :: r, true => closes r false
  | c :: r, false => if c = 34 then true else if c = 92 then closes r true else closes r false
def tags : List Nat → Sq → List (Nat × Kd)
  | [], _ => []
  | c :: r, .O => if c = 34 then (c, .opn (closes r false)) :: tags r (.I (closes r false)) else (c, .out) :: tags r .O
  | c :: r, .I sh => if c = 34 then (c, .cls sh) :: tags r .O else if c = 92 then (c, .hld sh) :: tags r (.E sh) else (c, .bod sh) :: tags r (.I sh)
  | c :: r, .E sh => (c, .esc sh) :: tags r (.I sh)
theorem tags_fst : ∀ (t : List Nat) (q : Sq), (tags t q).map (·.1) = t
  | [], _ => by simp [tags]
  | c :: r, .O => by simp only [tags]; split <;> simp [tags_fst r]
  | c :: r, .I sh => by
    simp only [tags]
    split
    · simp [tags_fst r]
    · split <;> simp [tags_fst r]
  | c :: r, .E sh => by simp [tags, tags_fst r]
theorem tags_len (t : List Nat) (q : Sq) : (tags t q).length = t.length := by
  have := congrArg List.length (tags_fst t q)
  simpa using this

/-- the first span of a text that begins in quotes -/
theorem first_span : ∀ (t : List Nat) (i st : Nat),
    (∃ e, i ≤ e ∧ (closes t false = decide (e < i + t.length)) ∧ (∀ p, p ∈ spansM t i (.I st) ↔ p = (st, e) ∨ p ∈ spansM (t.drop (e + 1 - i)) (e + 1) .O)) ∧
    (∃ e, i + 1 ≤ e ∧ (closes t true = decide (e < i + t.length)) ∧ (∀ p, p ∈ spansM t i (.E st) ↔ p = (st, e) ∨ p ∈ spansM (t.drop (e + 1 - i)) (e + 1) .O))
  | [], i, st => ⟨⟨i, Nat.le_refl _, by simp [closes], fun p => by simp [spansM]⟩, ⟨i + 1, Nat.le_refl _, by simp [closes], fun p => by simp [spansM]⟩⟩
  | c :: r, i, st => by
    have ih := first_span r (i + 1) st
    obtain ⟨⟨e1, h1, h2, h3⟩, ⟨e2, g1, g2, g3⟩⟩ := ih
    have d1 : ∀ e, i + 1 ≤ e → (c :: r).drop (e + 1 - i) = r.drop (e + 1 - (i + 1)) := fun e he => by
      rw [show e + 1 - i = (e + 1 - (i + 1)) + 1 by omega, List.drop_succ_cons]
    refine ⟨?_, ?_⟩
    · by_cases hc : c = 34
      · refine ⟨i, Nat.le_refl _, by simp [closes, hc], fun p => ?_⟩
        simp only [spansM, if_pos hc, List.mem_cons]
        rw [show i + 1 - i = 1 by omega, List.drop_one, List.tail_cons]
      · by_cases hb : c = 92
        · refine ⟨e2, by omega, ?_, fun p => ?_⟩
          · simp only [closes, if_neg hc, if_pos hb, g2, List.length_cons]
            congr 1; rw [Nat.add_assoc, Nat.add_comm 1]
          · simp only [spansM, if_neg hc, if_pos hb]
            rw [g3, d1 e2 (by omega)]
        · refine ⟨e1, by omega, ?_, fun p => ?_⟩
          · simp only [closes, if_neg hc, if_neg hb, h2, List.length_cons]
            congr 1; rw [Nat.add_assoc, Nat.add_comm 1]
          · simp only [spansM, if_neg hc, if_neg hb]
            rw [h3, d1 e1 h1]
    · refine ⟨e1, h1, ?_, fun p => ?_⟩
      · simp only [closes, h2, List.length_cons]
        congr 1; rw [Nat.add_assoc, Nat.add_comm 1]
      · simp only [spansM]
        rw [h3, d1 e1 h1]
theorem spans_low' : ∀ (t : List Nat) (i : Nat) (m : Mode) (p : Nat × Nat), p ∈ spansM t i m → match m with
    | .O => i ≤ p.1
    | .I st => p.1 = st ∨ i ≤ p.1
    | .E st => p.1 = st ∨ i ≤ p.1
  | [], i, .O, p, h => by simp [spansM] at h
  | [], i, .I st, p, h => by simp [spansM] at h; subst h; exact .inl rfl
  | [], i, .E st, p, h => by simp [spansM] at h; subst h; exact .inl rfl
  | c :: r, i, .O, p, h => by
    simp only [spansM] at h
    split at h
    · have := spans_low' r (i + 1) (.I i) p h
      simp only at this ⊢; omega
    · have := spans_low' r (i + 1) .O p h
      simp only at this ⊢; omega
  | c :: r, i, .I st, p, h => by
    simp only [spansM] at h
    split at h
    · rcases List.mem_cons.mp h with rfl | h
      · exact .inl rfl
      · have := spans_low' r (i + 1) .O p h
        simp only at this ⊢; omega
    · split at h
      · have := spans_low' r (i + 1) (.E st) p h
        simp only at this ⊢; omega
      · have := spans_low' r (i + 1) (.I st) p h
        simp only at this ⊢; omega
  | c :: r, i, .E st, p, h => by
    simp only [spansM] at h
    have := spans_low' r (i + 1) (.I st) p h
    simp only at this ⊢; omega
theorem spans_low {t : List Nat} {i : Nat} {p : Nat × Nat} (h : p ∈ spansM t i .O) : i ≤ p.1 := spans_low' t i .O p h
theorem held_low : ∀ (t : List Nat) (i : Nat) (m : Mode) (j : Nat), j ∈ heldM t i m → i ≤ j
  | [], i, m, j, h => by cases m <;> simp [heldM] at h
  | c :: r, i, .O, j, h => by
    simp only [heldM] at h
    split at h
    · have := held_low r (i + 1) _ j h; omega
    · have := held_low r (i + 1) _ j h; omega
  | c :: r, i, .I st, j, h => by
    simp only [heldM] at h
    split at h
    · have := held_low r (i + 1) _ j h; omega
    · split at h
      · rcases List.mem_cons.mp h with rfl | h
        · exact Nat.le_refl _
        · have := held_low r (i + 1) _ j h; omega
      · have := held_low r (i + 1) _ j h; omega
  | c :: r, i, .E st, j, h => by
    simp only [heldM] at h
    have := held_low r (i + 1) _ j h; omega

/-- the four sets of places -/
def inP (S : List (Nat × Nat)) (N j : Nat) : Prop := ∃ p ∈ S, p.1 ≤ j ∧ j < min (p.2 + 1) N
def innP (S : List (Nat × Nat)) (N j : Nat) : Prop := ∃ p ∈ S, p.1 + 1 ≤ j ∧ j < min p.2 N
def shP (S : List (Nat × Nat)) (N j : Nat) : Prop := ∃ p ∈ S, p.2 < N ∧ p.1 ≤ j ∧ j < p.2 + 1
structure Says (S : List (Nat × Nat)) (H : List Nat) (N j : Nat) (k : Kd) : Prop where
  a : inP S N j ↔ k.isIn = true
  b : innP S N j ↔ k.isInner = true
  c : shP S N j ↔ k.isShut = true
  d : j ∈ H ↔ k.isHld = true
theorem Says.at {t : List Nat} {i N j : Nat} {k : Kd} (hj : i = j) (h1 : ¬ k.isIn = true) (h2 : ¬ k.isInner = true) (h3 : ¬ k.isShut = true) (h4 : ¬ k.isHld = true) : Says (spansM t (i + 1) .O) (heldM t (i + 1) .O) N j k := by
  subst hj
  refine ⟨⟨fun ⟨p, hp, h, _⟩ => ?_, fun h => (h1 h).elim⟩, ⟨fun ⟨p, hp, h, _⟩ => ?_, fun h => (h2 h).elim⟩, ⟨fun ⟨p, hp, _, h, _⟩ => ?_, fun h => (h3 h).elim⟩, ⟨fun h => ?_, fun h => (h4 h).elim⟩⟩
  · have := spans_low hp; omega
  · have := spans_low hp; omega
  · have := spans_low hp; omega
  · have := held_low _ _ _ _ h; omega
theorem first_says {S R : List (Nat × Nat)} {H : List Nat} {st e i N : Nat} {k : Kd} (hS : ∀ p, p ∈ S ↔ p = (st, e) ∨ p ∈ R) (hR : ∀ p ∈ R, e + 1 ≤ p.1) (h1 : st ≤ i) (h2 : i ≤ e) (hN : i < N)
    (ha : k.isIn = true) (hb : k.isInner = true ↔ st + 1 ≤ i ∧ i < e) (hc : k.isShut = decide (e < N)) (hd : i ∈ H ↔ k.isHld = true) : Says S H N i k := by
  refine ⟨⟨fun _ => ha, fun _ => ⟨(st, e), (hS _).mpr (.inl rfl), h1, by simp only; omega⟩⟩, ⟨fun ⟨p, hp, h3, h4⟩ => ?_, fun h => ⟨(st, e), (hS _).mpr (.inl rfl), (hb.mp h).1, by have := (hb.mp h).2; simp only; omega⟩⟩, ⟨fun ⟨p, hp, h3, h4, h5⟩ => ?_, fun h => ?_⟩, hd⟩
  · rcases (hS p).mp hp with rfl | hp
    · simp only at h3 h4
      exact hb.mpr ⟨h3, by omega⟩
    · have := hR p hp; omega
  · rcases (hS p).mp hp with rfl | hp
    · simp only at h3
      rw [hc]; exact decide_eq_true h3
    · have := hR p hp; omega
  · rw [hc] at h
    exact ⟨(st, e), (hS _).mpr (.inl rfl), of_decide_eq_true h, h1, by simp only; omega⟩
theorem Says.cons {S : List (Nat × Nat)} {H : List Nat} {st i N j : Nat} {k : Kd} (x : Says S H N j k) (hj : i + 1 ≤ j) : Says ((st, i) :: S) H N j k := by
  refine ⟨Iff.trans ⟨?_, ?_⟩ x.a, Iff.trans ⟨?_, ?_⟩ x.b, Iff.trans ⟨?_, ?_⟩ x.c, x.d⟩
  · rintro ⟨p, hp, h1, h2⟩
    rcases List.mem_cons.mp hp with rfl | hp
    · simp only at h2; omega
    · exact ⟨p, hp, h1, h2⟩
  · rintro ⟨p, hp, h⟩; exact ⟨p, .tail _ hp, h⟩
  · rintro ⟨p, hp, h1, h2⟩
    rcases List.mem_cons.mp hp with rfl | hp
    · simp only at h2; omega
    · exact ⟨p, hp, h1, h2⟩
  · rintro ⟨p, hp, h⟩; exact ⟨p, .tail _ hp, h⟩
  · rintro ⟨p, hp, h1, h2, h3⟩
    rcases List.mem_cons.mp hp with rfl | hp
    · simp only at h3; omega
    · exact ⟨p, hp, h1, h2, h3⟩
  · rintro ⟨p, hp, h⟩; exact ⟨p, .tail _ hp, h⟩
theorem Says.consH {S : List (Nat × Nat)} {H : List Nat} {i N j : Nat} {k : Kd} (x : Says S H N j k) (hj : i + 1 ≤ j) : Says S (i :: H) N j k :=
  ⟨x.a, x.b, x.c, by rw [List.mem_cons]; exact Iff.trans ⟨fun h => h.resolve_left (by omega), .inr⟩ x.d⟩
theorem idx_cons {α : Type} {a : α} {l : List α} {i j : Nat} {k : α} (hj : i ≤ j) (h : (a :: l)[j - i]? = some k) : (j = i ∧ k = a) ∨ (i + 1 ≤ j ∧ l[j - (i + 1)]? = some k) := by
  by_cases e : j = i
  · subst e; rw [Nat.sub_self] at h; exact .inl ⟨rfl, by simpa using h.symm⟩
  · have : j - i = (j - (i + 1)) + 1 := by omega
    rw [this, List.getElem?_cons_succ] at h
    exact .inr ⟨by omega, h⟩
theorem tags_say : ∀ (t : List Nat) (i N : Nat), N = i + t.length →
    (∀ j k, i ≤ j → (tags t .O)[j - i]? = some k → Says (spansM t i .O) (heldM t i .O) N j k.2) ∧
    (∀ st sh, st < i → sh = closes t false → ∀ j k, i ≤ j → (tags t (.I sh))[j - i]? = some k → Says (spansM t i (.I st)) (heldM t i (.I st)) N j k.2) ∧
    (∀ st sh, st < i → sh = closes t true → ∀ j k, i ≤ j → (tags t (.E sh))[j - i]? = some k → Says (spansM t i (.E st)) (heldM t i (.E st)) N j k.2)
  | [], i, N, _ => ⟨fun j k _ h => by simp [tags] at h, fun _ _ _ _ j k _ h => by simp [tags] at h, fun _ _ _ _ j k _ h => by simp [tags] at h⟩
  | c :: r, i, N, hN => by
    rw [List.length_cons] at hN
    have hN' : N = (i + 1) + r.length := by omega
    obtain ⟨ihO, ihI, ihE⟩ := tags_say r (i + 1) N hN'
    have low : ∀ {l : List Nat} {e : Nat} (p : Nat × Nat), p ∈ spansM l (e + 1) .O → e + 1 ≤ p.1 := fun p hp => spans_low hp
    have hl : ∀ {m : Mode}, i ∉ heldM r (i + 1) m := fun h => by have := held_low _ _ _ _ h; omega
    refine ⟨fun j k hj h => ?_, fun st sh hst hsh j k hj h => ?_, fun st sh hst hsh j k hj h => ?_⟩
    · by_cases hc : c = 34
      · simp only [tags, if_pos hc] at h
        simp only [spansM, heldM, if_pos hc]
        rcases idx_cons hj h with ⟨rfl, rfl⟩ | ⟨hj', h⟩
        · obtain ⟨⟨e, h1, h2, h3⟩, _⟩ := first_span r (j + 1) j
          exact first_says h3 (fun p hp => low p hp) (Nat.le_refl _) (by omega) (by omega) rfl ⟨fun h => by simp [Kd.isInner] at h, fun h => by omega⟩ (by simp only [Kd.isShut]; rw [h2, hN']) ⟨fun h => (hl h).elim, fun h => by simp [Kd.isHld] at h⟩
        · exact ihI i _ (by omega) rfl j k hj' h
      · simp only [tags, if_neg hc] at h
        simp only [spansM, heldM, if_neg hc]
        rcases idx_cons hj h with ⟨rfl, rfl⟩ | ⟨hj', h⟩
        · exact Says.at rfl (by simp [Kd.isIn]) (by simp [Kd.isInner]) (by simp [Kd.isShut]) (by simp [Kd.isHld])
        · exact ihO j k hj' h
    · by_cases hc : c = 34
      · simp only [tags, if_pos hc] at h
        simp only [spansM, heldM, if_pos hc]
        rcases idx_cons hj h with ⟨rfl, rfl⟩ | ⟨hj', h⟩
        · refine first_says (st := st) (e := j) (R := spansM r (j + 1) .O) (fun p => by simp) (fun p hp => low p hp) (by omega) (Nat.le_refl _) (by omega) rfl ⟨fun h => by simp [Kd.isInner] at h, fun h => by omega⟩ ?_ ⟨fun h => (hl h).elim, fun h => by simp [Kd.isHld] at h⟩
          simp only [Kd.isShut]
          rw [hsh, decide_eq_true (by omega)]
          simp [closes, hc]
        · exact (ihO j k hj' h).cons hj'
      · by_cases hb : c = 92
        · simp only [tags, if_neg hc, if_pos hb] at h
          simp only [spansM, heldM, if_neg hc, if_pos hb]
          have hsh' : sh = closes r true := by rw [hsh]; simp [closes, hc, hb]
          rcases idx_cons hj h with ⟨rfl, rfl⟩ | ⟨hj', h⟩
          · obtain ⟨_, ⟨e, h1, h2, h3⟩⟩ := first_span r (j + 1) st
            exact first_says h3 (fun p hp => low p hp) (by omega) (by omega) (by omega) rfl ⟨fun _ => by omega, fun _ => rfl⟩ (by simp only [Kd.isShut]; rw [hsh', h2, hN']) ⟨fun _ => rfl, fun _ => .head _⟩
          · exact (ihE st sh (by omega) hsh' j k hj' h).consH hj'
        · simp only [tags, if_neg hc, if_neg hb] at h
          simp only [spansM, heldM, if_neg hc, if_neg hb]
          have hsh' : sh = closes r false := by rw [hsh]; simp [closes, hc, hb]
          rcases idx_cons hj h with ⟨rfl, rfl⟩ | ⟨hj', h⟩
          · obtain ⟨⟨e, h1, h2, h3⟩, _⟩ := first_span r (j + 1) st
            exact first_says h3 (fun p hp => low p hp) (by omega) (by omega) (by omega) rfl ⟨fun _ => by omega, fun _ => rfl⟩ (by simp only [Kd.isShut]; rw [hsh', h2, hN']) ⟨fun h => (hl h).elim, fun h => by simp [Kd.isHld] at h⟩
          · exact ihI st sh (by omega) hsh' j k hj' h
    · simp only [tags] at h
      simp only [spansM, heldM]
      have hsh' : sh = closes r false := by rw [hsh]; simp [closes]
      rcases idx_cons hj h with ⟨rfl, rfl⟩ | ⟨hj', h⟩
      · obtain ⟨⟨e, h1, h2, h3⟩, _⟩ := first_span r (j + 1) st
        exact first_says h3 (fun p hp => low p hp) (by omega) (by omega) (by omega) rfl ⟨fun _ => by omega, fun _ => rfl⟩ (by simp only [Kd.isShut]; rw [hsh', h2, hN']) ⟨fun h => (hl h).elim, fun h => by simp [Kd.isHld] at h⟩
      · exact ihI st sh (by omega) hsh' j k hj' h
theorem tags_at {t : List Nat} {j : Nat} {k : Nat × Kd} (h : (tags t .O)[j]? = some k) : Says (spansM t 0 .O) (heldM t 0 .O) t.length j k.2 :=
  (tags_say t 0 t.length (by omega)).1 j k (Nat.zero_le _) (by simpa using h)
end Mine
end

section
open PySem PySem.W PyProof.Rows
set_option maxRecDepth 100000
set_option maxHeartbeats 400000
namespace Mine
def isCut (a : Nat × Kd) : Bool := a.1 == 44 && !a.2.isIn
def tw1 (a : Nat × Kd) : List Nat := if (a.2.isInner && (a.1 == 34 || a.1 == 92)) = true then [92, a.1] else [a.1]
def plainG (g : List (Nat × Kd)) : List Nat := (g.filter fun a => !a.2.isHld).map (·.1)
def bareG (g : List (Nat × Kd)) : List Nat := (g.filter fun a => !a.2.isShut).map (·.1)
def splitU : List (Nat × Kd) → List (Nat × Kd) → List (List (Nat × Kd))
  | [], cur => if cur = [] then [] else [cur]
  | a :: u, cur => if isCut a = true then cur :: splitU u [] else splitU u (cur ++ [a])
def cutsU : List (Nat × Kd) → Nat → Nat → List Nat
  | [], p, b => if b = p then [] else [p]
  | a :: u, p, b => if isCut a = true then p :: cutsU u (p + 1) (p + 1) else cutsU u (p + 1) b
def idxs : List (Nat × Kd) → Nat → List Nat
  | [], _ => []
  | a :: u, p => if isCut a = true then p :: idxs u (p + 1) else idxs u (p + 1)

theorem mem_rInts {q : Nat × Nat} {j : Nat} : (j : Int) ∈ rInts q ↔ q.1 ≤ j ∧ j < q.2 := by
  unfold rInts
  rw [List.mem_map]
  constructor
  · rintro ⟨k, hk, e⟩
    have e' : k = j := by have : (k : Int) = (j : Int) := e; omega
    rw [List.mem_range'_1] at hk
    omega
  · rintro ⟨h1, h2⟩
    exact ⟨j, by rw [List.mem_range'_1]; omega, rfl⟩
theorem bool_iff {a b : Bool} (h : a = true ↔ b = true) : a = b := by cases a <;> cases b <;> simp_all
theorem inside_says {t : List Nat} {j : Nat} {k : Nat × Kd} (h : (tags t .O)[j]? = some k) : (insideL (spansM t 0 .O) t.length).contains (j : Int) = k.2.isIn := by
  refine bool_iff (Iff.trans ?_ (tags_at h).a)
  rw [List.contains_iff_mem]
  unfold insideL inP
  rw [List.mem_flatMap]
  constructor
  · rintro ⟨q, hq, hj⟩
    have := mem_rInts.mp hj
    exact ⟨q, (List.mem_filter.mp hq).1, this.1, this.2⟩
  · rintro ⟨q, hq, h1, h2⟩
    exact ⟨q, List.mem_filter.mpr ⟨hq, rfl⟩, mem_rInts.mpr ⟨h1, h2⟩⟩
theorem inner_says {t : List Nat} {j : Nat} {k : Nat × Kd} (h : (tags t .O)[j]? = some k) : (innerL (spansM t 0 .O) t.length).contains (j : Int) = k.2.isInner := by
  refine bool_iff (Iff.trans ?_ (tags_at h).b)
  rw [List.contains_iff_mem]
  unfold innerL innP
  rw [List.mem_flatMap]
  constructor
  · rintro ⟨q, hq, hj⟩
    have := mem_rInts.mp hj
    exact ⟨q, (List.mem_filter.mp hq).1, this.1, this.2⟩
  · rintro ⟨q, hq, h1, h2⟩
    exact ⟨q, List.mem_filter.mpr ⟨hq, rfl⟩, mem_rInts.mpr ⟨h1, h2⟩⟩
theorem shut_says {t : List Nat} {j : Nat} {k : Nat × Kd} (h : (tags t .O)[j]? = some k) : (shutL (spansM t 0 .O) t.length).contains (j : Int) = k.2.isShut := by
  refine bool_iff (Iff.trans ?_ (tags_at h).c)
  rw [List.contains_iff_mem]
  unfold shutL shP
  rw [List.mem_flatMap]
  constructor
  · rintro ⟨q, hq, hj⟩
    have := mem_rInts.mp hj
    have hq' := List.mem_filter.mp hq
    exact ⟨q, hq'.1, of_decide_eq_true hq'.2, this.1, this.2⟩
  · rintro ⟨q, hq, h0, h1, h2⟩
    exact ⟨q, List.mem_filter.mpr ⟨hq, decide_eq_true h0⟩, mem_rInts.mpr ⟨h1, h2⟩⟩
theorem held_says {t : List Nat} {j : Nat} {k : Nat × Kd} (h : (tags t .O)[j]? = some k) : (heldZ t).contains (j : Int) = k.2.isHld := by
  refine bool_iff (Iff.trans ?_ (tags_at h).d)
  rw [List.contains_iff_mem]
  unfold heldZ
  rw [List.mem_map]
  constructor
  · rintro ⟨i, hi, e⟩
    have e' : i = j := by have : (i : Int) = (j : Int) := e; omega
    exact e' ▸ hi
  · intro h; exact ⟨j, h, rfl⟩
theorem sign_says {t : List Nat} {j : Nat} {k : Nat × Kd} (h : (tags t .O)[j]? = some k) : t.getD j 0 = k.1 := by
  have e := congrArg (fun l => l[j]?) (tags_fst t .O)
  simp only [List.getElem?_map, h, Option.map_some] at e
  rw [List.getD_eq_getElem?_getD, ← e]; rfl
theorem range_filter {α β : Type} (P : Nat → Bool) (P' : α → Bool) (F : Nat → β) (G : α → β) : ∀ (u : List α) (b : Nat), (∀ k a, u[k]? = some a → P (b + k) = P' a ∧ F (b + k) = G a) →
    ((List.range' b u.length).filter P).map F = (u.filter P').map G
  | [], b, _ => rfl
  | a :: u, b, h => by
    have h0 := h 0 a rfl
    rw [Nat.add_zero] at h0
    have ih := range_filter P P' F G u (b + 1) fun k a hk => by
      have := h (k + 1) a (by simpa using hk)
      rwa [show b + (k + 1) = b + 1 + k by omega] at this
    rw [List.length_cons, List.range'_succ]
    cases hp : P' a with
    | true =>
      rw [List.filter_cons_of_pos (by rw [h0.1, hp]), List.filter_cons_of_pos hp, List.map_cons, List.map_cons, ih, h0.2]
    | false =>
      rw [List.filter_cons_of_neg (by rw [h0.1, hp]; exact Bool.false_ne_true), List.filter_cons_of_neg (by rw [hp]; exact Bool.false_ne_true), ih]
theorem filter_yes' {α : Type} (l : List α) : l.filter (fun _ => true) = l := by simp
theorem twice_tags (t : List Nat) : twiceL t = (tags t .O).flatMap tw1 := by
  unfold twiceL
  have := range_filter (fun _ => true) (fun _ => true) (twPart t) tw1 (tags t .O) 0 fun k a hk => ⟨rfl, by
    rw [Nat.zero_add]
    unfold twPart tw1
    rw [inner_says hk, sign_says hk]⟩
  rw [filter_yes', filter_yes', tags_len] at this
  rw [this, List.flatMap_def]
theorem idxs_filter : ∀ (u : List (Nat × Kd)) (b : Nat) (P : Nat → Bool), (∀ k a, u[k]? = some a → P (b + k) = isCut a) → (List.range' b u.length).filter P = idxs u b
  | [], _, _, _ => rfl
  | a :: u, b, P, h => by
    have h0 := h 0 a rfl
    rw [Nat.add_zero] at h0
    have ih := idxs_filter u (b + 1) P fun k a hk => by
      have := h (k + 1) a (by simpa using hk)
      rwa [show b + (k + 1) = b + 1 + k by omega] at this
    rw [List.length_cons, List.range'_succ]
    unfold idxs
    cases hp : isCut a with
    | true => rw [List.filter_cons_of_pos (by rw [h0, hp]), if_pos rfl, ih]
    | false => rw [List.filter_cons_of_neg (by rw [h0, hp]; exact Bool.false_ne_true), if_neg Bool.false_ne_true, ih]
theorem cuts0_tags (t : List Nat) : cuts0 t = idxs (tags t .O) 0 := by
  unfold cuts0
  rw [← tags_len t .O]
  refine idxs_filter _ _ _ fun k a hk => ?_
  rw [Nat.zero_add, tags_len, inside_says hk, sign_says hk]
  rfl
def LastCut (u : List (Nat × Kd)) (p b : Nat) : Prop := (p + u.length - 1 ∈ idxs u p ∧ 0 < p + u.length) ∨ b = p + u.length
theorem cutsU_idxs : ∀ (u : List (Nat × Kd)) (p b : Nat), b ≤ p → (LastCut u p b → cutsU u p b = idxs u p) ∧ (¬ LastCut u p b → cutsU u p b = idxs u p ++ [p + u.length])
  | [], p, b, hb => by
    refine ⟨fun h => ?_, fun h => ?_⟩
    · rcases h with ⟨h, _⟩ | h
      · cases h
      · exact if_pos h
    · exact if_neg fun e => h (.inr e)
  | a :: u, p, b, hb => by
    have e1 : p + (a :: u).length = p + 1 + u.length := by rw [List.length_cons]; omega
    by_cases hc : isCut a = true
    · have hi : idxs (a :: u) p = p :: idxs u (p + 1) := if_pos hc
      have hu : cutsU (a :: u) p b = p :: cutsU u (p + 1) (p + 1) := if_pos hc
      have ih := cutsU_idxs u (p + 1) (p + 1) (Nat.le_refl _)
      have hL : LastCut (a :: u) p b ↔ LastCut u (p + 1) (p + 1) := by
        unfold LastCut
        rw [e1, hi, List.mem_cons]
        constructor
        · rintro (⟨h1 | h1, h2⟩ | h)
          · exact .inr (by omega)
          · exact .inl ⟨h1, h2⟩
          · omega
        · rintro (⟨h1, h2⟩ | h)
          · exact .inl ⟨.inr h1, h2⟩
          · exact .inl ⟨.inl (by omega), by omega⟩
      rw [hL, hi, hu, e1]
      exact ⟨fun h => by rw [ih.1 h], fun h => by rw [ih.2 h]; rfl⟩
    · have hi : idxs (a :: u) p = idxs u (p + 1) := if_neg hc
      have hu : cutsU (a :: u) p b = cutsU u (p + 1) b := if_neg hc
      have ih := cutsU_idxs u (p + 1) b (by omega)
      have hL : LastCut (a :: u) p b ↔ LastCut u (p + 1) b := by
        unfold LastCut
        rw [e1, hi]
      rw [hL, hi, hu, e1]
      exact ih
theorem cutsL_tags {t : List Nat} (ht : t ≠ []) : cutsL t = cutsU (tags t .O) 0 0 := by
  have hpos : 0 < t.length := by cases t with | nil => exact absurd rfl ht | cons => simp
  have hU := cutsU_idxs (tags t .O) 0 0 (Nat.le_refl _)
  unfold LastCut at hU
  rw [← cuts0_tags, tags_len, Nat.zero_add] at hU
  unfold cutsL
  have e : ((cuts0 t).map Int.ofNat).contains ((t.length : Int) - 1) = true ↔ (t.length - 1 ∈ cuts0 t ∧ 0 < t.length) ∨ 0 = t.length := by
    rw [List.contains_iff_mem, List.mem_map]
    constructor
    · rintro ⟨i, hi, e⟩
      have e' : (i : Int) = (t.length : Int) - 1 := e
      exact .inl ⟨by have : t.length - 1 = i := by omega
                     rw [this]; exact hi, hpos⟩
    · rintro (⟨h, _⟩ | h)
      · exact ⟨t.length - 1, h, by show ((t.length - 1 : Nat) : Int) = _; omega⟩
      · omega
  by_cases h : ((cuts0 t).map Int.ofNat).contains ((t.length : Int) - 1) = true
  · rw [if_pos h, hU.1 (e.mp h)]
  · rw [if_neg h, hU.2 (fun q => h (e.mpr q))]
end Mine
end

section
open PySem PySem.W PyProof.Rows
set_option maxRecDepth 100000
set_option maxHeartbeats 400000
namespace Mine
def segG {β : Type} (F : Nat → Nat → β) : List Nat → Nat → List β
  | [], _ => []
  | c :: cs, b => F b c :: segG F cs (c + 1)
theorem segR_G (t : List Nat) : ∀ (cs : List Nat) (b : Nat), segR t cs b = segG (seg t) cs b
  | [], _ => rfl
  | c :: cs, b => by rw [segR, segG, segR_G t cs]
theorem segP_G (t : List Nat) : ∀ (cs : List Nat) (b : Nat), segP t cs b = segG (plainOf t) cs b
  | [], _ => rfl
  | c :: cs, b => by rw [segP, segG, segP_G t cs]
def acc : List Int → Int → List Int
  | [], _ => []
  | g :: gs, d => (d + g) :: acc gs (d + g)
theorem segD_G (t : List Nat) : ∀ (cs : List Nat) (b : Nat) (d : Int), segD t cs b d = acc ((segG (bareOf t) cs b).map cnt) d
  | [], _, _ => rfl
  | c :: cs, b, d => by rw [segD, segG, List.map_cons, acc, segD_G t cs]
theorem toldL_acc : ∀ (rs : List (List Nat)) (d : Int), toldL rs d = acc (rs.map fun r => gain (bts (Txt.strip (sOf r)))) d
  | [], _ => rfl
  | r :: rs, d => by rw [toldL, List.map_cons, acc, toldL_acc rs]
theorem lastD_sum : ∀ (rs : List (List Nat)) (d : Int), lastD rs d = d + (rs.map fun r => gain (bts (Txt.strip (sOf r)))).sum
  | [], d => by simp [lastD]
  | r :: rs, d => by rw [lastD, List.map_cons, List.sum_cons, lastD_sum rs, Int.add_assoc]

theorem take_more {α : Type} {U : List α} {p b : Nat} {a : α} {u : List α} (h : U.drop p = a :: u) (hb : b ≤ p) : (U.drop b).take (p + 1 - b) = (U.drop b).take (p - b) ++ [a] := by
  have e : p + 1 - b = (p - b) + 1 := by omega
  have hp : U[p]? = some a := by
    have := congrArg (fun l => l[0]?) h
    simpa using this
  rw [e, List.take_add_one, List.getElem?_drop, show b + (p - b) = p by omega, hp]
  rfl
theorem split_segG {β : Type} {F : Nat → Nat → β} {G : List (Nat × Kd) → β} {U : List (Nat × Kd)} (hF : ∀ b c, b ≤ c → c ≤ U.length → F b c = G ((U.drop b).take (c - b))) :
    ∀ (u : List (Nat × Kd)) (p b : Nat), b ≤ p → U.drop p = u → p + u.length = U.length → segG F (cutsU u p b) b = (splitU u ((U.drop b).take (p - b))).map G
  | [], p, b, hb, hu, hl => by
    simp only [List.length_nil, Nat.add_zero] at hl
    unfold cutsU splitU
    by_cases h : b = p
    · subst h
      rw [if_pos rfl, Nat.sub_self, List.take_zero, if_pos rfl]; rfl
    · have hne : (U.drop b).take (p - b) ≠ [] := by
        intro e
        have := congrArg List.length e
        rw [List.length_take, List.length_drop, List.length_nil] at this
        omega
      rw [if_neg h, if_neg hne]
      show [F b p] = [G _]
      rw [hF b p hb (by omega)]
  | a :: u, p, b, hb, hu, hl => by
    have hu' : U.drop (p + 1) = u := by
      rw [show p + 1 = p + 1 from rfl, ← List.drop_drop, hu]; rfl
    have hl' : (p + 1) + u.length = U.length := by rw [← hl, List.length_cons]; omega
    have hpl : p ≤ U.length := by omega
    unfold cutsU splitU
    by_cases hc : isCut a = true
    · rw [if_pos hc, if_pos hc]
      have ih := split_segG hF u (p + 1) (p + 1) (Nat.le_refl _) hu' hl'
      rw [Nat.sub_self, List.take_zero] at ih
      rw [segG, List.map_cons, ih, hF b p hb hpl]
    · rw [if_neg hc, if_neg hc]
      have ih := split_segG hF u (p + 1) b (by omega) hu' hl'
      rw [take_more hu hb] at ih
      exact ih
theorem seg_all {β : Type} {F : Nat → Nat → β} {G : List (Nat × Kd) → β} {t : List Nat} (ht : t ≠ []) (hF : ∀ b c, b ≤ c → c ≤ t.length → F b c = G (((tags t .O).drop b).take (c - b))) :
    segG F (cutsL t) 0 = (splitU (tags t .O) []).map G := by
  rw [cutsL_tags ht]
  have := split_segG (U := tags t .O) (by rw [tags_len]; exact hF) (tags t .O) 0 0 (Nat.le_refl _) rfl (by omega)
  simpa using this
theorem seg_tags (t : List Nat) (b c : Nat) : seg t b c = (((tags t .O).drop b).take (c - b)).map (·.1) := by
  unfold seg
  rw [List.map_take, List.map_drop, tags_fst]
theorem part_range {t : List Nat} {b c : Nat} (h2 : c ≤ t.length) (P : Nat → Bool) (P' : Nat × Kd → Bool) (hP : ∀ j k, (tags t .O)[j]? = some k → P j = P' k) :
    ((List.range' b (c - b)).filter P).map (t.getD · 0) = ((((tags t .O).drop b).take (c - b)).filter P').map (·.1) := by
  have hlen : (((tags t .O).drop b).take (c - b)).length = c - b := by
    rw [List.length_take, List.length_drop, tags_len]; omega
  have := range_filter P P' (t.getD · 0) (fun a : Nat × Kd => a.1) (((tags t .O).drop b).take (c - b)) b fun k a hk => by
    have hk' : (tags t .O)[b + k]? = some a := by
      rw [List.getElem?_take] at hk
      split at hk
      · rwa [List.getElem?_drop] at hk
      · cases hk
    exact ⟨hP _ _ hk', sign_says hk'⟩
  rw [hlen] at this
  exact this
theorem plain_tags {t : List Nat} {b c : Nat} (h2 : c ≤ t.length) : plainOf t b c = plainG (((tags t .O).drop b).take (c - b)) :=
  part_range h2 _ _ fun j k h => by rw [held_says h]
theorem bare_tags {t : List Nat} {b c : Nat} (h2 : c ≤ t.length) : bareOf t b c = bareG (((tags t .O).drop b).take (c - b)) :=
  part_range h2 _ _ fun j k h => by rw [shut_says h]

/-! the two readers of parse_http_list -/
def Sq.pm : Sq → PM
  | .O => .O
  | .I _ => .I
  | .E _ => .E
def Sq.pm2 : Sq → PM
  | .O => .O
  | .I _ => .I
  | .E _ => .I
theorem plain_snoc (g : List (Nat × Kd)) (a : Nat × Kd) : plainG (g ++ [a]) = plainG g ++ (if a.2.isHld = true then [] else [a.1]) := by
  unfold plainG
  rw [List.filter_append, List.map_append]
  cases h : a.2.isHld <;> simp [h]
/-- no piece begins with a backslash that holds a sign -/
def Good (q : Sq) (g : List (Nat × Kd)) : Prop := plainG g = [] → g = [] ∧ q = .O
theorem good_snoc {q : Sq} {g : List (Nat × Kd)} {a : Nat × Kd} (h : a.2.isHld = false) : Good q (g ++ [a]) := fun e => by
  rw [plain_snoc, h] at e
  simp at e
theorem parse_tags : ∀ (t : List Nat) (q : Sq) (cur : List (Nat × Kd)), Good q cur → parseM t (plainG cur) q.pm = (splitU (tags t q) cur).map plainG
  | [], q, cur, hg => by
    have e : tags [] q = [] := by cases q <;> rfl
    rw [e]
    unfold parseM splitU
    by_cases h : cur = []
    · subst h; rfl
    · rw [if_neg h, if_neg (fun e => h (hg e).1)]; rfl
  | c :: r, .O, cur, hg => by
    by_cases hc : c = 34
    · subst hc
      have e : tags (34 :: r) .O = (34, .opn (closes r false)) :: tags r (.I (closes r false)) := rfl
      rw [e]
      show parseM r (plainG cur ++ [34]) .I = _
      have := parse_tags r (.I (closes r false)) (cur ++ [(34, .opn (closes r false))]) (good_snoc rfl)
      rw [plain_snoc] at this
      exact this
    · have e : tags (c :: r) .O = (c, .out) :: tags r .O := if_neg hc
      rw [e]
      by_cases h44 : c = 44
      · subst h44
        show plainG cur :: parseM r [] .O = (cur :: splitU (tags r .O) []).map plainG
        rw [List.map_cons, ← parse_tags r .O [] (fun _ => ⟨rfl, rfl⟩)]; rfl
      · have hcut : isCut (c, .out) = false := by simp [isCut, h44]
        have hs : splitU ((c, .out) :: tags r .O) cur = splitU (tags r .O) (cur ++ [(c, .out)]) := by rw [splitU, hcut]; rfl
        have hp : parseM (c :: r) (plainG cur) .O = parseM r (plainG cur ++ [c]) .O := by simp only [parseM, if_neg h44, if_neg hc]
        show parseM (c :: r) (plainG cur) .O = _
        rw [hs, hp]
        have := parse_tags r .O (cur ++ [(c, .out)]) (good_snoc rfl)
        rw [plain_snoc] at this
        exact this
  | c :: r, .I sh, cur, hg => by
    have hne : plainG cur ≠ [] := fun e => by have := (hg e).2; cases this
    by_cases hc : c = 34
    · subst hc
      have e : tags (34 :: r) (.I sh) = (34, .cls sh) :: tags r .O := rfl
      rw [e]
      show parseM r (plainG cur ++ [34]) .O = _
      have := parse_tags r .O (cur ++ [(34, .cls sh)]) (good_snoc rfl)
      rw [plain_snoc] at this
      exact this
    · by_cases hb : c = 92
      · subst hb
        have e : tags (92 :: r) (.I sh) = (92, .hld sh) :: tags r (.E sh) := rfl
        rw [e]
        show parseM r (plainG cur) .E = _
        have hpl : plainG (cur ++ [(92, .hld sh)]) = plainG cur := by rw [plain_snoc]; exact List.append_nil _
        have := parse_tags r (.E sh) (cur ++ [(92, .hld sh)]) (fun e => by rw [hpl] at e; exact absurd e hne)
        rw [hpl] at this
        exact this
      · have e : tags (c :: r) (.I sh) = (c, .bod sh) :: tags r (.I sh) := by simp only [tags, if_neg hc, if_neg hb]
        rw [e]
        have hp : parseM (c :: r) (plainG cur) .I = parseM r (plainG cur ++ [c]) .I := by simp only [parseM, if_neg hb, if_neg hc]
        show parseM (c :: r) (plainG cur) .I = _
        rw [hp]
        have := parse_tags r (.I sh) (cur ++ [(c, .bod sh)]) (good_snoc rfl)
        rw [plain_snoc] at this
        exact this.trans (by rw [show splitU ((c, Kd.bod sh) :: tags r (.I sh)) cur = splitU (tags r (.I sh)) (cur ++ [(c, .bod sh)]) from by rw [splitU, show isCut (c, .bod sh) = false from by simp [isCut, Kd.isIn]]; rfl])
  | c :: r, .E sh, cur, hg => by
    have e : tags (c :: r) (.E sh) = (c, .esc sh) :: tags r (.I sh) := rfl
    rw [e]
    show parseM r (plainG cur ++ [c]) .I = _
    have := parse_tags r (.I sh) (cur ++ [(c, .esc sh)]) (good_snoc rfl)
    rw [plain_snoc] at this
    exact this.trans (by rw [show splitU ((c, Kd.esc sh) :: tags r (.I sh)) cur = splitU (tags r (.I sh)) (cur ++ [(c, .esc sh)]) from by rw [splitU, show isCut (c, .esc sh) = false from by simp [isCut, Kd.isIn]]; rfl])
theorem law_p1 {t : List Nat} (ht : t ≠ []) : parseM t [] .O = segP t (cutsL t) 0 := by
  rw [segP_G, seg_all ht (G := plainG) fun b c _ h2 => plain_tags h2]
  exact parse_tags t .O [] fun _ => ⟨rfl, rfl⟩
end Mine
end

section
open PySem PySem.W PyProof.Rows
set_option maxRecDepth 100000
set_option maxHeartbeats 400000
namespace Mine
abbrev fsts (g : List (Nat × Kd)) : List Nat := g.map (·.1)
theorem fsts_snoc (g : List (Nat × Kd)) (a : Nat × Kd) : fsts (g ++ [a]) = fsts g ++ [a.1] := by simp
theorem split_no {a : Nat × Kd} {u cur : List (Nat × Kd)} (h : isCut a = false) : splitU (a :: u) cur = splitU u (cur ++ [a]) := by rw [splitU, h]; rfl
theorem cut_in {c : Nat} {k : Kd} (h : k.isIn = true) : isCut (c, k) = false := by simp [isCut, h]
theorem tw_no {c : Nat} {k : Kd} (h : k.isInner = false) : tw1 (c, k) = [c] := by simp [tw1, h]
theorem tw_yes {c : Nat} {k : Kd} (h : k.isInner = true) (hc : c = 34 ∨ c = 92) : tw1 (c, k) = [92, c] := by
  rcases hc with rfl | rfl <;> simp [tw1, h]
theorem tw_plain {c : Nat} {k : Kd} (h1 : c ≠ 34) (h2 : c ≠ 92) : tw1 (c, k) = [c] := by simp [tw1, h1, h2]
theorem pI_back {x part : List Nat} : parseM (92 :: x) part .I = parseM x part .E := rfl
theorem pE {c : Nat} {x part : List Nat} : parseM (c :: x) part .E = parseM x (part ++ [c]) .I := rfl
theorem pI_shut {x part : List Nat} : parseM (34 :: x) part .I = parseM x (part ++ [34]) .O := rfl
theorem pI {c : Nat} {x part : List Nat} (h1 : c ≠ 34) (h2 : c ≠ 92) : parseM (c :: x) part .I = parseM x (part ++ [c]) .I := by simp only [parseM, if_neg h1, if_neg h2]
theorem pO_open {x part : List Nat} : parseM (34 :: x) part .O = parseM x (part ++ [34]) .I := rfl
theorem pO_cut {x part : List Nat} : parseM (44 :: x) part .O = part :: parseM x [] .O := rfl
theorem pO {c : Nat} {x part : List Nat} (h1 : c ≠ 34) (h2 : c ≠ 44) : parseM (c :: x) part .O = parseM x (part ++ [c]) .O := by simp only [parseM, if_neg h1, if_neg h2]
theorem parse_twice : ∀ (t : List Nat) (q : Sq) (cur : List (Nat × Kd)), parseM ((tags t q).flatMap tw1) (fsts cur) q.pm2 = (splitU (tags t q) cur).map fsts
  | [], q, cur => by
    have e : tags [] q = [] := by cases q <;> rfl
    rw [e]
    show (if fsts cur = [] then _ else _) = _
    unfold splitU
    by_cases h : cur = []
    · subst h; rfl
    · rw [if_neg h, if_neg (by simpa using h)]; rfl
  | c :: r, .O, cur => by
    by_cases hc : c = 34
    · subst hc
      have e : tags (34 :: r) .O = (34, .opn (closes r false)) :: tags r (.I (closes r false)) := rfl
      rw [e, List.flatMap_cons, tw_no rfl, split_no (cut_in rfl), ← parse_twice r, fsts_snoc]
      rfl
    · have e : tags (c :: r) .O = (c, .out) :: tags r .O := if_neg hc
      rw [e, List.flatMap_cons, tw_no rfl]
      by_cases h44 : c = 44
      · subst h44
        show fsts cur :: parseM _ [] .O = (cur :: splitU (tags r .O) []).map fsts
        rw [List.map_cons, ← parse_twice r .O []]; rfl
      · rw [split_no (by simp [isCut, h44]), ← parse_twice r, fsts_snoc]
        exact pO hc h44
  | c :: r, .I sh, cur => by
    by_cases hc : c = 34
    · subst hc
      have e : tags (34 :: r) (.I sh) = (34, .cls sh) :: tags r .O := rfl
      rw [e, List.flatMap_cons, tw_no rfl, split_no (cut_in rfl), ← parse_twice r, fsts_snoc]
      rfl
    · by_cases hb : c = 92
      · subst hb
        have e : tags (92 :: r) (.I sh) = (92, .hld sh) :: tags r (.E sh) := rfl
        rw [e, List.flatMap_cons, tw_yes rfl (.inr rfl), split_no (cut_in rfl), ← parse_twice r, fsts_snoc]
        rfl
      · have e : tags (c :: r) (.I sh) = (c, .bod sh) :: tags r (.I sh) := by simp only [tags, if_neg hc, if_neg hb]
        rw [e, List.flatMap_cons, tw_plain hc hb, split_no (cut_in rfl), ← parse_twice r, fsts_snoc]
        exact pI hc hb
  | c :: r, .E sh, cur => by
    have e : tags (c :: r) (.E sh) = (c, .esc sh) :: tags r (.I sh) := rfl
    rw [e, List.flatMap_cons, split_no (cut_in rfl), ← parse_twice r, fsts_snoc]
    by_cases h : c = 34 ∨ c = 92
    · rw [tw_yes rfl h]; rfl
    · have h1 : c ≠ 34 := fun e => h (.inl e)
      have h2 : c ≠ 92 := fun e => h (.inr e)
      rw [tw_plain h1 h2]
      exact pI h1 h2
theorem law_p2 {t : List Nat} (ht : t ≠ []) : parseM (twiceL t) [] .O = segR t (cutsL t) 0 := by
  rw [segR_G, seg_all ht (G := fsts) fun b c _ _ => seg_tags t b c, twice_tags]
  exact parse_twice t .O []
end Mine
end

section
open PySem PySem.W PyProof.Rows
set_option maxRecDepth 100000
set_option maxHeartbeats 400000
namespace Mine
def bareL (l : List Nat) : List Nat := bareG (tags l .O)
theorem bare_cons (a : Nat × Kd) (g : List (Nat × Kd)) : bareG (a :: g) = (if a.2.isShut = true then [] else [a.1]) ++ bareG g := by
  unfold bareG
  cases h : a.2.isShut <;> simp [h]
theorem getD_arr {l : List Nat} {p c : Nat} (h : l[p]? = some c) : l.toArray.getD p 0 = c := by
  obtain ⟨hp, e⟩ := List.getElem?_eq_some_iff.mp h
  simp [Array.getD, hp, e]
theorem stop_says {l : List Nat} (hn : ∀ c ∈ l, c ≠ 10) : ∀ (k p : Nat), l.length - p ≤ k →
    (closes (l.drop p) false = true → stopP l.toArray k p < l.length ∧ l.toArray.getD (stopP l.toArray k p) 0 = 34 ∧ bareG (tags (l.drop p) (.I true)) = bareG (tags (l.drop (stopP l.toArray k p + 1)) .O)) ∧
    (closes (l.drop p) false = false → ¬ (stopP l.toArray k p < l.length ∧ l.toArray.getD (stopP l.toArray k p) 0 = 34))
  | 0, p, h => by
    rw [List.drop_eq_nil_of_le (by omega)]
    refine ⟨fun h => by simp [closes] at h, fun _ => ?_⟩
    show ¬ (p < l.length ∧ _)
    omega
  | k + 1, p, h => by
    have hsz : l.toArray.size = l.length := by simp
    by_cases hp : p ≥ l.length
    · have e : turnP l.toArray p = none := by unfold turnP; rw [if_pos (by rw [hsz]; exact hp)]
      have es : stopP l.toArray (k + 1) p = p := by unfold stopP; rw [e]
      rw [es, List.drop_eq_nil_of_le hp]
      exact ⟨fun h => by simp [closes] at h, fun _ => by omega⟩
    · have hlt : p < l.length := by omega
      have hc : l[p]? = some l[p] := List.getElem?_eq_getElem hlt
      have hg := getD_arr hc
      have hd := drop_cons hc
      generalize l[p] = c at hc hg hd
      by_cases hb : c = 92
      · subst hb
        by_cases hp1 : p + 1 ≥ l.length
        · have e : turnP l.toArray p = none := by unfold turnP; rw [if_neg (by rw [hsz]; exact hp), if_pos hg, if_pos (by rw [hsz]; exact hp1)]
          have es : stopP l.toArray (k + 1) p = p := by unfold stopP; rw [e]
          rw [es, hd, List.drop_eq_nil_of_le hp1, hg]
          exact ⟨fun h => by simp [closes] at h, fun _ => by omega⟩
        · have hlt1 : p + 1 < l.length := by omega
          have hc1 : l[p + 1]? = some l[p + 1] := List.getElem?_eq_getElem hlt1
          have hg1 := getD_arr hc1
          have hd1 := drop_cons hc1
          have h10 : l[p + 1] ≠ 10 := hn _ (List.mem_of_getElem? hc1)
          generalize l[p + 1] = d at hc1 hg1 hd1 h10
          have e : turnP l.toArray p = some (p + 2) := by unfold turnP; rw [if_neg (by rw [hsz]; exact hp), if_pos hg, if_neg (by rw [hsz]; exact hp1), if_neg (by rw [hg1]; exact h10)]
          have es : stopP l.toArray (k + 1) p = stopP l.toArray k (p + 2) := by
            show (match turnP l.toArray p with | none => p | some q => stopP l.toArray k q) = _
            rw [e]
          have ih := stop_says hn k (p + 2) (by omega)
          rw [es, hd, hd1]
          have e1 : closes (92 :: d :: l.drop (p + 1 + 1)) false = closes (l.drop (p + 2)) false := rfl
          have e2 : bareG (tags (92 :: d :: l.drop (p + 1 + 1)) (.I true)) = bareG (tags (l.drop (p + 2)) (.I true)) := by
            show bareG ((92, .hld true) :: (d, .esc true) :: tags (l.drop (p + 2)) (.I true)) = _
            rw [bare_cons, bare_cons]; rfl
          rw [e1, e2]
          exact ih
      · by_cases hq : c = 34
        · subst hq
          have e : turnP l.toArray p = none := by unfold turnP; rw [if_neg (by rw [hsz]; exact hp), if_neg (by rw [hg]; decide), if_pos hg]
          have es : stopP l.toArray (k + 1) p = p := by unfold stopP; rw [e]
          rw [es, hd, hg]
          refine ⟨fun _ => ⟨hlt, rfl, ?_⟩, fun h => by simp [closes] at h⟩
          show bareG ((34, .cls true) :: tags (l.drop (p + 1)) .O) = _
          rw [bare_cons]; rfl
        · have e : turnP l.toArray p = some (p + 1) := by unfold turnP; rw [if_neg (by rw [hsz]; exact hp), if_neg (by rw [hg]; exact hb), if_neg (by rw [hg]; exact hq)]
          have es : stopP l.toArray (k + 1) p = stopP l.toArray k (p + 1) := by
            show (match turnP l.toArray p with | none => p | some q => stopP l.toArray k q) = _
            rw [e]
          have ih := stop_says hn k (p + 1) (by omega)
          rw [es, hd]
          have e1 : closes (c :: l.drop (p + 1)) false = closes (l.drop (p + 1)) false := by simp only [closes, if_neg hq, if_neg hb]
          have e2 : bareG (tags (c :: l.drop (p + 1)) (.I true)) = bareG (tags (l.drop (p + 1)) (.I true)) := by
            have : tags (c :: l.drop (p + 1)) (.I true) = (c, .bod true) :: tags (l.drop (p + 1)) (.I true) := by simp only [tags, if_neg hq, if_neg hb]
            rw [this, bare_cons]; rfl
          rw [e1, e2]
          exact ih
theorem match_other {l : List Nat} {s : Nat} (h : l[s]? ≠ some 34) : matchAt l.toArray s = none := by
  unfold matchAt
  split
  · rfl
  · rename_i hs
    have hs' : s < l.length := by simpa using hs
    have hc : l[s]? = some l[s] := List.getElem?_eq_getElem hs'
    rw [if_neg (by rw [getD_arr hc]; intro e; rw [hc, e] at h; exact h rfl)]
theorem match_no {l : List Nat} {s : Nat} (hn : ∀ c ∈ l, c ≠ 10) (h : l[s]? = some 34) (hc : closes (l.drop (s + 1)) false = false) : matchAt l.toArray s = none := by
  have hs := (List.getElem?_eq_some_iff.mp h).1
  have hsz : l.toArray.size = l.length := by simp
  have st := (stop_says hn l.length (s + 1) (by omega)).2 hc
  unfold matchAt
  rw [hsz, if_neg (by omega), if_pos (getD_arr h)]
  by_cases h1 : stopP l.toArray l.length (s + 1) ≥ l.length
  · rw [if_pos h1]
  · rw [if_neg h1, if_neg (fun e => st ⟨by omega, e⟩)]
theorem match_yes {l : List Nat} {s : Nat} (hn : ∀ c ∈ l, c ≠ 10) (h : l[s]? = some 34) (hc : closes (l.drop (s + 1)) false = true) : ∃ e, matchAt l.toArray s = some e ∧ bareL (l.drop s) = bareL (l.drop e) := by
  have hs := (List.getElem?_eq_some_iff.mp h).1
  have hsz : l.toArray.size = l.length := by simp
  obtain ⟨h1, h2, h3⟩ := (stop_says hn l.length (s + 1) (by omega)).1 hc
  refine ⟨stopP l.toArray l.length (s + 1) + 1, ?_, ?_⟩
  · unfold matchAt
    rw [hsz, if_neg (by omega), if_pos (getD_arr h), if_neg (by omega), if_pos h2]
  · unfold bareL
    rw [drop_cons h, ← h3]
    show bareG ((34, .opn (closes (l.drop (s + 1)) false)) :: tags (l.drop (s + 1)) (.I (closes (l.drop (s + 1)) false))) = _
    rw [hc, bare_cons]; rfl
/-- behind quotes that are never shut nothing is taken -/
theorem first_no {l : List Nat} (hn : ∀ c ∈ l, c ≠ 10) : ∀ (k p : Nat) (b : Bool), closes (l.drop p) b = false → firstP l.toArray k p = none := by
  have one : ∀ (p : Nat) (b : Bool), closes (l.drop p) b = false → matchAt l.toArray p = none ∧ ∃ b', closes (l.drop (p + 1)) b' = false := by
    intro p b h
    by_cases hp : p < l.length
    · have hc : l[p]? = some l[p] := List.getElem?_eq_getElem hp
      have hd := drop_cons hc
      generalize l[p] = c at hc hd
      rw [hd] at h
      cases b with
      | true =>
        have h' : closes (l.drop (p + 1)) false = false := h
        refine ⟨?_, false, h'⟩
        by_cases e : c = 34
        · subst e; exact match_no hn hc h'
        · exact match_other (by rw [hc]; intro q; exact e (Option.some.inj q))
      | false =>
        by_cases e : c = 34
        · subst e; simp [closes] at h
        · refine ⟨match_other (by rw [hc]; intro q; exact e (Option.some.inj q)), ?_⟩
          by_cases e2 : c = 92
          · subst e2; exact ⟨true, by simpa [closes] using h⟩
          · exact ⟨false, by simpa [closes, e, e2] using h⟩
    · refine ⟨match_other ?_, false, ?_⟩
      · rw [List.getElem?_eq_none (by omega)]; simp
      · rw [List.drop_eq_nil_of_le (by omega)]; rfl
  intro k
  induction k with
  | zero =>
    intro p b h
    unfold firstP
    rw [(one p b h).1]; rfl
  | succ k ih =>
    intro p b h
    obtain ⟨h1, b', h2⟩ := one p b h
    unfold firstP
    rw [h1]
    exact ih (p + 1) b' h2
theorem bare_open : ∀ (u : List Nat) (b : Bool), closes u b = false → bareG (tags u (if b = true then .E false else .I false)) = u
  | [], b, _ => by cases b <;> rfl
  | c :: r, true, h => by
    have h' : closes r false = false := h
    have ih := bare_open r false h'
    show bareG ((c, .esc false) :: tags r (.I false)) = _
    rw [bare_cons]
    exact congrArg (c :: ·) ih
  | c :: r, false, h => by
    by_cases hc : c = 34
    · subst hc; simp [closes] at h
    · by_cases hb : c = 92
      · subst hb
        have ih := bare_open r true (by simpa [closes] using h)
        show bareG ((92, .hld false) :: tags r (.E false)) = _
        rw [bare_cons]
        exact congrArg (92 :: ·) ih
      · have ih := bare_open r false (by simpa [closes, hc, hb] using h)
        have e : tags (c :: r) (.I false) = (c, .bod false) :: tags r (.I false) := by simp only [tags, if_neg hc, if_neg hb]
        show bareG (tags (c :: r) (.I false)) = _
        rw [e, bare_cons]
        exact congrArg (c :: ·) ih
theorem bareL_out {c : Nat} {r : List Nat} (h : c ≠ 34) : bareL (c :: r) = c :: bareL r := by
  unfold bareL
  have e : tags (c :: r) .O = (c, .out) :: tags r .O := if_neg h
  rw [e, bare_cons]; rfl
theorem bareL_open {r : List Nat} (h : closes r false = false) : bareL (34 :: r) = 34 :: r := by
  unfold bareL
  show bareG ((34, .opn (closes r false)) :: tags r (.I (closes r false))) = _
  rw [h, bare_cons]
  exact congrArg (34 :: ·) (bare_open r false h)
theorem first_says' {l : List Nat} (hn : ∀ c ∈ l, c ≠ 10) : ∀ (k p : Nat), l.length - p ≤ k →
    (∀ se, firstP l.toArray k p = some se → bareL (l.drop p) = (l.drop p).take (se.1 - p) ++ bareL (l.drop se.2)) ∧ (firstP l.toArray k p = none → bareL (l.drop p) = l.drop p) := by
  have stop : ∀ p, l.length ≤ p → ∀ k, firstP l.toArray k p = none ∧ bareL (l.drop p) = l.drop p := fun p hp k => by
    refine ⟨first_no hn k p false (by rw [List.drop_eq_nil_of_le hp]; rfl), ?_⟩
    rw [List.drop_eq_nil_of_le hp]; rfl
  intro k
  induction k with
  | zero =>
    intro p h
    obtain ⟨h1, h2⟩ := stop p (by omega) 0
    exact ⟨fun se e => (by rw [h1] at e; cases e), fun _ => h2⟩
  | succ k ih =>
    intro p h
    by_cases hp : l.length ≤ p
    · obtain ⟨h1, h2⟩ := stop p hp (k + 1)
      exact ⟨fun se e => (by rw [h1] at e; cases e), fun _ => h2⟩
    · have hc : l[p]? = some l[p] := List.getElem?_eq_getElem (by omega)
      have hd := drop_cons hc
      generalize l[p] = c at hc hd
      by_cases h34 : c = 34
      · subst h34
        cases hcl : closes (l.drop (p + 1)) false with
        | true =>
          obtain ⟨e, he, hb⟩ := match_yes hn hc hcl
          have hf : firstP l.toArray (k + 1) p = some (p, e) := by unfold firstP; rw [he]
          refine ⟨fun se q => ?_, fun q => by rw [hf] at q; cases q⟩
          rw [hf] at q; cases q
          rw [Nat.sub_self, List.take_zero, List.nil_append]
          exact hb
        | false =>
          have hm := match_no hn hc hcl
          have hf : firstP l.toArray (k + 1) p = none := by
            unfold firstP; rw [hm]; exact first_no hn k (p + 1) false hcl
          refine ⟨fun se q => (by rw [hf] at q; cases q), fun _ => ?_⟩
          rw [hd]; exact bareL_open hcl
      · have hm : matchAt l.toArray p = none := match_other (by rw [hc]; intro q; exact h34 (Option.some.inj q))
        have hf : firstP l.toArray (k + 1) p = firstP l.toArray k (p + 1) := by
          show (match matchAt l.toArray p with | some e => some (p, e) | none => firstP l.toArray k (p + 1)) = _
          rw [hm]
        have ih' := ih (p + 1) (by omega)
        rw [hf, hd, bareL_out h34]
        refine ⟨fun se q => ?_, fun q => by rw [ih'.2 q]⟩
        have hin := firstP_in q
        rw [ih'.1 se q, show se.1 - p = (se.1 - (p + 1)) + 1 by omega, List.take_succ_cons]
        rfl
end Mine
end

section
open PySem PySem.W PyProof.Rows
set_option maxRecDepth 100000
set_option maxHeartbeats 400000
namespace Mine
theorem bareL_short {u : List Nat} (h : u.length < 2) : bareL u = u := by
  match u, h with
  | [], _ => rfl
  | [c], _ =>
    by_cases hc : c = 34
    · subst hc; exact bareL_open rfl
    · rw [bareL_out hc]; rfl
  | _ :: _ :: _, h => simp at h; omega
theorem sub_says {l : List Nat} (hn : ∀ c ∈ l, c ≠ 10) : ∀ (k p : Nat), l.length - p < k → p ≤ l.length → (subP l.toArray k p).toList = bareL (l.drop p)
  | 0, p, h, _ => by omega
  | k + 1, p, h, hp => by
    have hsz : l.toArray.size = l.length := by simp
    cases e : nextP l.toArray p with
    | none =>
      rw [subP_none e]
      have e1 : (l.toArray.extract p l.toArray.size).toList = l.drop p := by
        simp
        exact List.take_of_length_le (by simp)
      rw [e1]
      by_cases h2 : l.toArray.size - p < 2
      · rw [bareL_short]
        rw [List.length_drop]; omega
      · have e2 : firstP l.toArray l.toArray.size p = none := by
          unfold nextP at e; rwa [if_neg h2] at e
        exact ((first_says' hn l.toArray.size p (by omega)).2 e2).symm
    | some se =>
      have hin := nextP_in e
      rw [hsz] at hin
      rw [subP_some e, Array.toList_append, sub_says hn k se.2 (by omega) hin.2.2]
      have e1 : (l.toArray.extract p se.1).toList = (l.drop p).take (se.1 - p) := by simp [List.extract]
      rw [e1]
      have e2 : firstP l.toArray l.toArray.size p = some se := by
        unfold nextP at e
        split at e
        · cases e
        · exact e
      exact ((first_says' hn l.toArray.size p (by omega)).1 se e2).symm
theorem count_u8 {l : List Nat} (h : ∀ c ∈ l, c < 256) (k : Nat) (hk : k < 256) : (l.map (·.toUInt8)).count k.toUInt8 = l.count k := by
  induction l with
  | nil => rfl
  | cons a r ih =>
    rw [List.map_cons, List.count_cons, List.count_cons, ih fun c hc => h c (.tail _ hc)]
    congr 1
    have ha := h a (.head _)
    by_cases e : a = k
    · subst e; simp
    · have : a.toUInt8 ≠ k.toUInt8 := fun q => e (by
        have := congrArg UInt8.toNat q
        simp only [Nat.toUInt8, UInt8.toNat_ofNat'] at this
        omega)
      simp [e, this]
theorem bareG_mem {g : List (Nat × Kd)} {c : Nat} (h : c ∈ bareG g) : c ∈ fsts g := by
  unfold bareG at h
  obtain ⟨a, ha, rfl⟩ := List.mem_map.mp h
  exact List.mem_map.mpr ⟨a, (List.mem_filter.mp ha).1, rfl⟩
theorem bareL_mem {l : List Nat} {c : Nat} (h : c ∈ bareL l) : c ∈ l := by
  have := bareG_mem h
  rwa [fsts, tags_fst] at this
theorem back_nat {l : List Nat} (h : ∀ c ∈ l, c < 256) : (bts (sOf l)).map (·.toNat) = l.toArray := by
  unfold bts sOf
  apply Array.ext'
  simp only [Array.toList_map, List.map_map]
  conv => rhs; rw [← List.map_id l]
  refine List.map_congr_left fun c hc => ?_
  have := h c hc
  simp only [Function.comp, Nat.toUInt8, UInt8.toNat_ofNat', id]
  omega
theorem gain_says {l : List Nat} (h : ∀ c ∈ l, c < 128) (hn : ∀ c ∈ l, c ≠ 10) : gain (bts (sOf l)) = cnt (bareL l) := by
  have h' : ∀ c ∈ l, c < 256 := fun c hc => by have := h c hc; omega
  have hb := back_nat h'
  have hz : (bts (sOf l)).size = l.length := by
    have := congrArg Array.size hb
    simpa using this
  have hs := sub_says hn (l.length + 1) 0 (by omega) (Nat.zero_le _)
  unfold gain
  rw [hb, hz, Array.toList_map, hs, List.drop_zero]
  have hm : ∀ c ∈ bareL l, c < 256 := fun c hc => h' c (bareL_mem hc)
  have e1 := count_u8 hm 40 (by omega)
  have e2 := count_u8 hm 41 (by omega)
  show (((bareL l).map (·.toUInt8)).count (40 : UInt8) : Int) - (((bareL l).map (·.toUInt8)).count (41 : UInt8) : Int) = _
  rw [show (40 : UInt8) = Nat.toUInt8 40 from rfl, show (41 : UInt8) = Nat.toUInt8 41 from rfl, e1, e2]
  rfl

/-! white space at the ends -/
theorem cnt_app (a b : List Nat) : cnt (a ++ b) = cnt a + cnt b := by
  unfold cnt
  rw [List.count_append, List.count_append]; omega
theorem cnt_one {c : Nat} (h1 : c ≠ 40) (h2 : c ≠ 41) : cnt [c] = 0 := by
  unfold cnt
  rw [List.count_singleton, List.count_singleton]
  simp [h1, h2]
theorem closes_snoc {c : Nat} (hc : c ≠ 34) : ∀ (l : List Nat) (b : Bool), closes (l ++ [c]) b = closes l b
  | [], true => rfl
  | [], false => by
    show closes [c] false = false
    simp only [closes, if_neg hc]
    split <;> rfl
  | a :: r, true => closes_snoc hc r false
  | a :: r, false => by
    simp only [List.cons_append, closes]
    rw [closes_snoc hc r true, closes_snoc hc r false]
theorem tags_snoc {c : Nat} (hc : c ≠ 34) : ∀ (l : List Nat) (q : Sq), ∃ k, tags (l ++ [c]) q = tags l q ++ [(c, k)]
  | [], .O => ⟨.out, by show tags [c] .O = _; simp only [tags, if_neg hc]; rfl⟩
  | [], .I sh => by
    show ∃ k, tags [c] (.I sh) = [(c, k)]
    simp only [tags, if_neg hc]
    split
    · exact ⟨_, rfl⟩
    · exact ⟨_, rfl⟩
  | [], .E sh => ⟨.esc sh, rfl⟩
  | a :: r, .O => by
    by_cases ha : a = 34
    · subst ha
      obtain ⟨k, hk⟩ := tags_snoc hc r (.I (closes r false))
      refine ⟨k, ?_⟩
      show (34, Kd.opn (closes (r ++ [c]) false)) :: tags (r ++ [c]) (.I (closes (r ++ [c]) false)) = (34, Kd.opn (closes r false)) :: (tags r (.I (closes r false)) ++ [(c, k)])
      rw [closes_snoc hc, hk]
    · obtain ⟨k, hk⟩ := tags_snoc hc r .O
      exact ⟨k, by simp only [List.cons_append, tags, if_neg ha, hk]⟩
  | a :: r, .I sh => by
    by_cases ha : a = 34
    · obtain ⟨k, hk⟩ := tags_snoc hc r .O
      exact ⟨k, by simp only [List.cons_append, tags, if_pos ha, hk]⟩
    · by_cases hb : a = 92
      · obtain ⟨k, hk⟩ := tags_snoc hc r (.E sh)
        exact ⟨k, by simp only [List.cons_append, tags, if_neg ha, if_pos hb, hk]⟩
      · obtain ⟨k, hk⟩ := tags_snoc hc r (.I sh)
        exact ⟨k, by simp only [List.cons_append, tags, if_neg ha, if_neg hb, hk]⟩
  | a :: r, .E sh => by
    obtain ⟨k, hk⟩ := tags_snoc hc r (.I sh)
    exact ⟨k, by simp only [List.cons_append, tags, hk]⟩
theorem bareG_app (a b : List (Nat × Kd)) : bareG (a ++ b) = bareG a ++ bareG b := by unfold bareG; rw [List.filter_append, List.map_append]
theorem cnt_snoc {l : List Nat} {c : Nat} (h0 : c ≠ 34) (h1 : c ≠ 40) (h2 : c ≠ 41) : cnt (bareL (l ++ [c])) = cnt (bareL l) := by
  obtain ⟨k, hk⟩ := tags_snoc h0 l .O
  unfold bareL
  rw [hk, bareG_app, cnt_app]
  have : cnt (bareG [(c, k)]) = 0 := by
    rw [bare_cons]
    split
    · rfl
    · exact cnt_one h1 h2
  rw [this]; omega
theorem cnt_front {c : Nat} {r : List Nat} (h0 : c ≠ 34) (h1 : c ≠ 40) (h2 : c ≠ 41) : cnt (bareL (c :: r)) = cnt (bareL r) := by
  rw [bareL_out h0]
  have := cnt_app [c] (bareL r)
  rw [cnt_one h1 h2] at this
  simpa using this
theorem cnt_trim {s : List Nat} (sp : Nat → Prop) (hsp : ∀ c, sp c → c ≠ 34 ∧ c ≠ 40 ∧ c ≠ 41) : ∀ (a b : List Nat), (∀ c ∈ a, sp c) → (∀ c ∈ b, sp c) → cnt (bareL (a ++ s ++ b)) = cnt (bareL s) := by
  have back : ∀ (b l : List Nat), (∀ c ∈ b, sp c) → cnt (bareL (l ++ b)) = cnt (bareL l) := by
    intro b
    induction b with
    | nil => intro l _; rw [List.append_nil]
    | cons c r ih =>
      intro l h
      have hc := hsp c (h c (.head _))
      rw [show l ++ c :: r = (l ++ [c]) ++ r by simp, ih _ fun d hd => h d (.tail _ hd), cnt_snoc hc.1 hc.2.1 hc.2.2]
  intro a
  induction a with
  | nil => intro b _ hb; rw [List.nil_append, back b s hb]
  | cons c r ih =>
    intro b ha hb
    have hc := hsp c (ha c (.head _))
    rw [List.cons_append, List.cons_append, cnt_front hc.1 hc.2.1 hc.2.2]
    exact ih b (fun d hd => ha d (.tail _ hd)) hb
theorem while_mem {α : Type} {p : α → Bool} {c : α} : ∀ {l : List α}, c ∈ l.takeWhile p → p c = true
  | [], h => by simp at h
  | a :: r, h => by
    rw [List.takeWhile_cons] at h
    cases ha : p a with
    | true =>
      rw [ha, if_pos rfl] at h
      rcases List.mem_cons.mp h with rfl | h
      · exact ha
      · exact while_mem h
    | false => rw [ha] at h; simp at h
theorem tail_while {α : Type} (p : α → Bool) (r : List α) : ∃ b, r = r.take (r.length - (r.reverse.takeWhile p).length) ++ b ∧ ∀ c ∈ b, p c = true := by
  refine ⟨r.drop (r.length - (r.reverse.takeWhile p).length), (List.take_append_drop _ r).symm, ?_⟩
  have e : r.drop (r.length - (r.reverse.takeWhile p).length) = (r.reverse.takeWhile p).reverse := by
    have h1 : r.reverse.takeWhile p ++ r.reverse.dropWhile p = r.reverse := List.takeWhile_append_dropWhile
    have h2 := congrArg List.reverse h1
    rw [List.reverse_append, List.reverse_reverse] at h2
    have h3 : r.length = (r.reverse.dropWhile p).reverse.length + (r.reverse.takeWhile p).reverse.length := by
      rw [← List.length_append, h2]
    have h4 : r.length - (r.reverse.takeWhile p).length = (r.reverse.dropWhile p).reverse.length := by
      rw [List.length_reverse (as := r.reverse.takeWhile p)] at h3
      omega
    rw [h4]
    have h5 := congrArg (List.drop (r.reverse.dropWhile p).reverse.length) h2
    rw [List.drop_left] at h5
    exact h5.symm
  rw [e]
  intro c hc
  rw [List.mem_reverse] at hc
  exact while_mem hc
theorem strip_parts (l : List Nat) : ∃ a b, l = a ++ (Txt.strip (sOf l)).cps.toList ++ b ∧ (∀ c ∈ a, Unicode.isSpace c = true) ∧ ∀ c ∈ b, Unicode.isSpace c = true := by
  unfold Txt.strip Txt.stripBy
  split
  · exact ⟨[], [], by simp [sOf], by simp, by simp⟩
  · have hcps : (sOf l).cps.toList = l := sOf_list l
    have hlen : (sOf l).length = l.length := sOf_len l
    have hlo : stripLo Unicode.isSpace true (sOf l) = (l.takeWhile Unicode.isSpace).length := by
      unfold stripLo; rw [if_pos rfl, hcps]
    have hsplit : l.takeWhile Unicode.isSpace ++ l.dropWhile Unicode.isSpace = l := List.takeWhile_append_dropWhile
    have hdrop : l.drop (l.takeWhile Unicode.isSpace).length = l.dropWhile Unicode.isSpace := by
      have h5 := congrArg (List.drop (l.takeWhile Unicode.isSpace).length) hsplit
      rw [List.drop_left] at h5
      exact h5.symm
    obtain ⟨b, hb, hbs⟩ := tail_while Unicode.isSpace (l.dropWhile Unicode.isSpace)
    have hhi : stripHi Unicode.isSpace true (sOf l) (l.takeWhile Unicode.isSpace).length = l.length - ((l.dropWhile Unicode.isSpace).reverse.takeWhile Unicode.isSpace).length := by
      unfold stripHi; rw [if_pos rfl, hcps, hlen, hdrop]
    refine ⟨l.takeWhile Unicode.isSpace, b, ?_, fun c hc => while_mem hc, hbs⟩
    have hmid : (PySem.stripped Unicode.isSpace true true (sOf l)).cps.toList = (l.dropWhile Unicode.isSpace).take ((l.dropWhile Unicode.isSpace).length - ((l.dropWhile Unicode.isSpace).reverse.takeWhile Unicode.isSpace).length) := by
      unfold PySem.stripped
      rw [hlo, hhi]
      show ((sOf l).cps.extract _ _).toList = _
      have : ∀ (i j : Nat), ((sOf l).cps.extract i j).toList = (l.drop i).take (j - i) := fun i j => by simp [sOf, List.extract]
      rw [this, hdrop]
      congr 1
      have h5 := congrArg List.length hsplit
      rw [List.length_append] at h5
      omega
    rw [hmid, List.append_assoc, ← hb]
    exact hsplit.symm
theorem space_not {c : Nat} (h : Unicode.isSpace c = true) : c ≠ 34 ∧ c ≠ 40 ∧ c ≠ 41 := by
  refine ⟨?_, ?_, ?_⟩
  · rintro rfl; exact absurd h (by decide +kernel)
  · rintro rfl; exact absurd h (by decide +kernel)
  · rintro rfl; exact absurd h (by decide +kernel)
theorem gain_strip {l : List Nat} (h : ∀ c ∈ l, c < 128) (hn : ∀ c ∈ l, c ≠ 10) : gain (bts (Txt.strip (sOf l))) = cnt (bareL l) := by
  obtain ⟨a, b, e, ha, hb⟩ := strip_parts l
  have hm : ∀ c ∈ (Txt.strip (sOf l)).cps.toList, c ∈ l := fun c hc => by rw [e]; simp [hc]
  have := gain_says (l := (Txt.strip (sOf l)).cps.toList) (fun c hc => h c (hm c hc)) (fun c hc => hn c (hm c hc))
  rw [sOf_cps] at this
  rw [this]
  conv => rhs; rw [e]
  exact (cnt_trim (fun c => Unicode.isSpace c = true) (fun c hc => space_not hc) a b ha hb).symm
end Mine
end

section
open PySem PySem.W PyProof.Rows
set_option maxRecDepth 100000
set_option maxHeartbeats 400000
namespace Mine
def endS : List Nat → PM → PM
  | [], q => q
  | c :: r, .O => if c = 34 then endS r .I else endS r .O
  | c :: r, .I => if c = 34 then endS r .O else if c = 92 then endS r .E else endS r .I
  | _ :: r, .E => endS r .I
theorem endS_app : ∀ (a b : List Nat) (q : PM), endS (a ++ b) q = endS b (endS a q)
  | [], _, _ => rfl
  | c :: r, b, .O => by
    simp only [List.cons_append, endS]
    split
    · exact endS_app r b .I
    · exact endS_app r b .O
  | c :: r, b, .I => by
    simp only [List.cons_append, endS]
    split
    · exact endS_app r b .O
    · split
      · exact endS_app r b .E
      · exact endS_app r b .I
  | c :: r, b, .E => endS_app r b .I
theorem closes_end : ∀ (l l2 : List Nat), (endS l .I = .O → closes (l ++ l2) false = true) ∧ (endS l .E = .O → closes (l ++ l2) true = true)
  | [], l2 => ⟨fun h => (by cases h), fun h => (by cases h)⟩
  | c :: r, l2 => by
    have ih := closes_end r l2
    refine ⟨fun h => ?_, fun h => ih.1 h⟩
    simp only [endS] at h
    simp only [List.cons_append, closes]
    split
    · rfl
    · rename_i hc
      rw [if_neg hc] at h
      split
      · rename_i hb; rw [if_pos hb] at h; exact ih.2 h
      · rename_i hb; rw [if_neg hb] at h; exact ih.1 h
theorem tags_app : ∀ (l l2 : List Nat) (q : Sq), endS l q.pm = .O → tags (l ++ l2) q = tags l q ++ tags l2 .O
  | [], l2, .O, _ => rfl
  | [], l2, .I sh, h => by cases h
  | [], l2, .E sh, h => by cases h
  | c :: r, l2, .O, h => by
    by_cases hc : c = 34
    · subst hc
      have h' : endS r .I = .O := h
      have c1 := (closes_end r l2).1 h'
      have c2 := (closes_end r []).1 h'
      rw [List.append_nil] at c2
      show (34, Kd.opn (closes (r ++ l2) false)) :: tags (r ++ l2) (.I (closes (r ++ l2) false)) = (34, Kd.opn (closes r false)) :: (tags r (.I (closes r false)) ++ tags l2 .O)
      rw [c1, c2, tags_app r l2 (.I true) h']
    · have h' : endS r .O = .O := by
        have : endS (c :: r) .O = .O := h
        simpa only [endS, if_neg hc] using this
      simp only [List.cons_append, tags, if_neg hc, tags_app r l2 .O h']
  | c :: r, l2, .I sh, h => by
    have h0 : endS (c :: r) .I = .O := h
    by_cases hc : c = 34
    · have h' : endS r .O = .O := by simpa only [endS, if_pos hc] using h0
      simp only [List.cons_append, tags, if_pos hc, tags_app r l2 .O h']
    · by_cases hb : c = 92
      · have h' : endS r .E = .O := by simpa only [endS, if_neg hc, if_pos hb] using h0
        simp only [List.cons_append, tags, if_neg hc, if_pos hb, tags_app r l2 (.E sh) h']
      · have h' : endS r .I = .O := by simpa only [endS, if_neg hc, if_neg hb] using h0
        simp only [List.cons_append, tags, if_neg hc, if_neg hb, tags_app r l2 (.I sh) h']
  | c :: r, l2, .E sh, h => by
    have h' : endS r .I = .O := h
    simp only [List.cons_append, tags, tags_app r l2 (.I sh) h']
theorem tags_step (c : Nat) (r : List Nat) (q : Sq) : ∃ a q', tags (c :: r) q = a :: tags r q' ∧ a.1 = c ∧ endS [c] q.pm = q'.pm ∧ (isCut a = true → q = .O ∧ q' = .O) := by
  cases q with
  | O =>
    by_cases hc : c = 34
    · subst hc
      exact ⟨(34, .opn (closes r false)), .I (closes r false), rfl, rfl, rfl, fun h => by simp [isCut, Kd.isIn] at h⟩
    · exact ⟨(c, .out), .O, by simp only [tags, if_neg hc], rfl, by simp only [endS, Sq.pm, if_neg hc], fun _ => ⟨rfl, rfl⟩⟩
  | I sh =>
    by_cases hc : c = 34
    · exact ⟨(c, .cls sh), .O, by simp only [tags, if_pos hc], rfl, by simp only [endS, Sq.pm, if_pos hc], fun h => by simp [isCut, Kd.isIn] at h⟩
    · by_cases hb : c = 92
      · exact ⟨(c, .hld sh), .E sh, by simp only [tags, if_neg hc, if_pos hb], rfl, by simp only [endS, Sq.pm, if_neg hc, if_pos hb], fun h => by simp [isCut, Kd.isIn] at h⟩
      · exact ⟨(c, .bod sh), .I sh, by simp only [tags, if_neg hc, if_neg hb], rfl, by simp only [endS, Sq.pm, if_neg hc, if_neg hb], fun h => by simp [isCut, Kd.isIn] at h⟩
  | E sh => exact ⟨(c, .esc sh), .I sh, rfl, rfl, rfl, fun h => by simp [isCut, Kd.isIn] at h⟩
theorem split_tags : ∀ (t : List Nat) (q : Sq) (cur : List (Nat × Kd)), endS (fsts cur) .O = q.pm → tags (fsts cur ++ t) .O = cur ++ tags t q → ∀ g ∈ splitU (tags t q) cur, tags (fsts g) .O = g
  | [], q, cur, _, h2, g, hg => by
    have e : tags [] q = [] := by cases q <;> rfl
    rw [e] at hg h2
    unfold splitU at hg
    split at hg
    · cases hg
    · rw [List.mem_singleton.mp hg]
      rw [List.append_nil, List.append_nil] at h2
      exact h2
  | c :: r, q, cur, h1, h2, g, hg => by
    obtain ⟨a, q', e, ha, he, hcut⟩ := tags_step c r q
    rw [e] at hg h2
    by_cases hc : isCut a = true
    · obtain ⟨hq, hq'⟩ := hcut hc
      subst hq hq'
      rw [splitU, if_pos hc] at hg
      rcases List.mem_cons.mp hg with rfl | hg
      · have h3 := tags_app (fsts g) (c :: r) .O h1
        rw [e, h2] at h3
        exact (List.append_cancel_right h3).symm
      · exact split_tags r .O [] rfl rfl g hg
    · rw [splitU, if_neg hc] at hg
      refine split_tags r q' (cur ++ [a]) ?_ ?_ g hg
      · rw [fsts_snoc, endS_app, h1, ha, he]
      · rw [fsts_snoc, ha, List.append_assoc, List.append_assoc]
        exact h2
def cb (g : List (Nat × Kd)) : Int := cnt (bareG g)
theorem cb_cons (a : Nat × Kd) (g : List (Nat × Kd)) : cb (a :: g) = (if a.2.isShut = true then 0 else cnt [a.1]) + cb g := by
  unfold cb
  rw [bare_cons, cnt_app]
  split <;> rfl
theorem cb_app (a b : List (Nat × Kd)) : cb (a ++ b) = cb a + cb b := by unfold cb; rw [bareG_app, cnt_app]
theorem sum_split : ∀ (u cur : List (Nat × Kd)), ((splitU u cur).map cb).sum = cb cur + cb u
  | [], cur => by
    unfold splitU
    split
    · rename_i h; subst h; rfl
    · show cb cur + 0 = cb cur + 0
      rfl
  | a :: u, cur => by
    unfold splitU
    by_cases hc : isCut a = true
    · rw [if_pos hc, List.map_cons, List.sum_cons, sum_split u [], cb_cons]
      have h44 : a.1 = 44 := by
        unfold isCut at hc
        simp only [Bool.and_eq_true, beq_iff_eq] at hc
        exact hc.1
      have e : (if a.2.isShut = true then (0 : Int) else cnt [a.1]) = 0 := by
        split
        · rfl
        · rw [h44]; rfl
      rw [e]; show cb cur + (0 + cb u) = _; omega
    · rw [if_neg hc, sum_split u (cur ++ [a]), cb_app, cb_cons a u]
      have : cb [a] = (if a.2.isShut = true then 0 else cnt [a.1]) + 0 := cb_cons a []
      omega

/-! the text written once more -/
theorem tw_closes : ∀ (r : List Nat) (sh : Bool), closes ((tags r (.I sh)).flatMap tw1) false = closes r false ∧ closes ((tags r (.E sh)).flatMap tw1) false = closes r true
  | [], sh => ⟨rfl, rfl⟩
  | c :: r, sh => by
    have ih := tw_closes r sh
    refine ⟨?_, ?_⟩
    · by_cases hc : c = 34
      · subst hc
        have e : tags (34 :: r) (.I sh) = (34, .cls sh) :: tags r .O := rfl
        rw [e, List.flatMap_cons, tw_no rfl]; rfl
      · by_cases hb : c = 92
        · subst hb
          have e : tags (92 :: r) (.I sh) = (92, .hld sh) :: tags r (.E sh) := rfl
          rw [e, List.flatMap_cons, tw_yes rfl (.inr rfl)]
          exact ih.2
        · have e : tags (c :: r) (.I sh) = (c, .bod sh) :: tags r (.I sh) := by simp only [tags, if_neg hc, if_neg hb]
          rw [e, List.flatMap_cons, tw_plain hc hb]
          show closes (c :: _) false = _
          simp only [closes, if_neg hc, if_neg hb]
          exact ih.1
    · have e : tags (c :: r) (.E sh) = (c, .esc sh) :: tags r (.I sh) := rfl
      rw [e, List.flatMap_cons]
      by_cases h : c = 34 ∨ c = 92
      · rw [tw_yes rfl h]
        exact ih.1
      · have h1 : c ≠ 34 := fun e => h (.inl e)
        have h2 : c ≠ 92 := fun e => h (.inr e)
        rw [tw_plain h1 h2]
        show closes (c :: _) false = closes r false
        simp only [closes, if_neg h1, if_neg h2]
        exact ih.1
theorem tw_cb : ∀ (t : List Nat), cb (tags ((tags t .O).flatMap tw1) .O) = cb (tags t .O) ∧
    ∀ sh, cb (tags ((tags t (.I sh)).flatMap tw1) (.I sh)) = cb (tags t (.I sh)) ∧ cb (tags ((tags t (.E sh)).flatMap tw1) (.I sh)) = cb (tags t (.E sh))
  | [] => ⟨rfl, fun _ => ⟨rfl, rfl⟩⟩
  | c :: r => by
    obtain ⟨ihO, ih⟩ := tw_cb r
    refine ⟨?_, fun sh => ⟨?_, ?_⟩⟩
    · by_cases hc : c = 34
      · subst hc
        have e : tags (34 :: r) .O = (34, .opn (closes r false)) :: tags r (.I (closes r false)) := rfl
        rw [e, List.flatMap_cons, tw_no rfl]
        have e2 : tags ([34] ++ (tags r (.I (closes r false))).flatMap tw1) .O = (34, .opn (closes r false)) :: tags ((tags r (.I (closes r false))).flatMap tw1) (.I (closes r false)) := by
          show (34, Kd.opn (closes ((tags r (.I (closes r false))).flatMap tw1) false)) :: tags _ (.I (closes ((tags r (.I (closes r false))).flatMap tw1) false)) = _
          rw [(tw_closes r _).1]
          rfl
        rw [e2, cb_cons, cb_cons, (ih _).1]
      · have e : tags (c :: r) .O = (c, .out) :: tags r .O := if_neg hc
        rw [e, List.flatMap_cons, tw_no rfl]
        have e2 : tags ([c] ++ (tags r .O).flatMap tw1) .O = (c, .out) :: tags ((tags r .O).flatMap tw1) .O := if_neg hc
        rw [e2, cb_cons, cb_cons, ihO]
    · by_cases hc : c = 34
      · subst hc
        have e : tags (34 :: r) (.I sh) = (34, .cls sh) :: tags r .O := rfl
        rw [e, List.flatMap_cons, tw_no rfl]
        show cb ((34, .cls sh) :: tags ((tags r .O).flatMap tw1) .O) = _
        rw [cb_cons, cb_cons, ihO]
      · by_cases hb : c = 92
        · subst hb
          have e : tags (92 :: r) (.I sh) = (92, .hld sh) :: tags r (.E sh) := rfl
          rw [e, List.flatMap_cons, tw_yes rfl (.inr rfl)]
          show cb ((92, .hld sh) :: (92, .esc sh) :: tags ((tags r (.E sh)).flatMap tw1) (.I sh)) = _
          rw [cb_cons, cb_cons, cb_cons, (ih sh).2]
          have c92 : cnt [92] = 0 := rfl
          simp only [c92, ite_self]; omega
        · have e : tags (c :: r) (.I sh) = (c, .bod sh) :: tags r (.I sh) := by simp only [tags, if_neg hc, if_neg hb]
          rw [e, List.flatMap_cons, tw_plain hc hb]
          have e2 : tags ([c] ++ (tags r (.I sh)).flatMap tw1) (.I sh) = (c, .bod sh) :: tags ((tags r (.I sh)).flatMap tw1) (.I sh) := by
            show tags (c :: _) (.I sh) = _
            simp only [tags, if_neg hc, if_neg hb]
            rfl
          rw [e2, cb_cons, cb_cons, (ih sh).1]
    · have e : tags (c :: r) (.E sh) = (c, .esc sh) :: tags r (.I sh) := rfl
      rw [e, List.flatMap_cons]
      by_cases h : c = 34 ∨ c = 92
      · rw [tw_yes rfl h]
        show cb ((92, .hld sh) :: (c, .esc sh) :: tags ((tags r (.I sh)).flatMap tw1) (.I sh)) = _
        rw [cb_cons, cb_cons, cb_cons, (ih sh).1]
        have c92 : cnt [92] = 0 := rfl
        simp only [c92, ite_self, Kd.isShut]; omega
      · have h1 : c ≠ 34 := fun e => h (.inl e)
        have h2 : c ≠ 92 := fun e => h (.inr e)
        rw [tw_plain h1 h2]
        have e2 : tags ([c] ++ (tags r (.I sh)).flatMap tw1) (.I sh) = (c, .bod sh) :: tags ((tags r (.I sh)).flatMap tw1) (.I sh) := by
          show tags (c :: _) (.I sh) = _
          simp only [tags, if_neg h1, if_neg h2]
          rfl
        rw [e2, cb_cons, cb_cons, (ih sh).1]
        rfl
theorem segR_mem {t : List Nat} : ∀ (cs : List Nat) (b : Nat) (r : List Nat), r ∈ segR t cs b → ∀ c ∈ r, c ∈ t
  | [], _, r, hr, _, _ => by cases hr
  | k :: cs, b, r, hr, c, hc => by
    rcases List.mem_cons.mp hr with rfl | hr
    · exact List.mem_of_mem_drop (List.mem_of_mem_take hc)
    · exact segR_mem cs _ r hr c hc
theorem twice_mem {t : List Nat} {c : Nat} (h : c ∈ twiceL t) : c = 92 ∨ c ∈ t := by
  rw [twice_tags] at h
  obtain ⟨a, ha, hc⟩ := List.mem_flatMap.mp h
  have hm : a.1 ∈ t := by
    have : a.1 ∈ (tags t .O).map (·.1) := List.mem_map.mpr ⟨a, ha, rfl⟩
    rwa [tags_fst] at this
  unfold tw1 at hc
  split at hc
  · simp only [List.mem_cons, List.not_mem_nil, or_false] at hc
    rcases hc with rfl | rfl
    · exact .inl rfl
    · exact .inr hm
  · rw [List.mem_singleton.mp hc]; exact .inr hm
theorem plain_law (x : Str) (z : Int) (h : TextOk x) : PlainLaw x.cps.toList z := by
  have ht := h.1
  have hs : ∀ c ∈ x.cps.toList, c < 128 := fun c hc => (h.2.2 c hc).1
  have hn : ∀ c ∈ x.cps.toList, c ≠ 10 := fun c hc => (h.2.2 c hc).2
  generalize x.cps.toList = t at ht hs hn
  have hR : segR t (cutsL t) 0 = (splitU (tags t .O) []).map fsts := by
    rw [segR_G, seg_all ht (G := fsts) fun b c _ _ => seg_tags t b c]
  have hG : (segR t (cutsL t) 0).map (fun r => gain (bts (Txt.strip (sOf r)))) = (splitU (tags t .O) []).map cb := by
    have h1 : (segR t (cutsL t) 0).map (fun r => gain (bts (Txt.strip (sOf r)))) = (segR t (cutsL t) 0).map fun r => cnt (bareL r) :=
      List.map_congr_left fun r hr => gain_strip (fun c hc => hs c (segR_mem _ _ r hr c hc)) fun c hc => hn c (segR_mem _ _ r hr c hc)
    rw [h1, hR, List.map_map]
    refine List.map_congr_left fun g hg => ?_
    show cnt (bareG (tags (fsts g) .O)) = cnt (bareG g)
    rw [split_tags t .O [] rfl rfl g hg]
  have hsum : ((segR t (cutsL t) 0).map (fun r => gain (bts (Txt.strip (sOf r))))).sum = cnt (bareL t) := by
    rw [hG, sum_split]
    show 0 + cnt (bareG (tags t .O)) = cnt (bareL t)
    rw [Int.zero_add]; rfl
  refine ⟨law_p1 ht, law_p2 ht, ?_, ?_, ?_⟩
  · rw [toldL_acc, hG, segD_G, seg_all ht (G := bareG) fun b c _ h2 => bare_tags h2, List.map_map]
    rfl
  · rw [lastD_sum, hsum, gain_says hs hn]
  · rw [lastD_sum, hsum, gain_says (l := twiceL t) (fun c hc => ?_) fun c hc => ?_]
    · have := (tw_cb t).1
      rw [← twice_tags] at this
      have e : cnt (bareL (twiceL t)) = cnt (bareL t) := this
      rw [e]; omega
    · rcases twice_mem hc with rfl | hc
      · decide
      · exact hs c hc
    · rcases twice_mem hc with rfl | hc
      · decide
      · exact hn c hc
end Mine
end

section
open PySem PySem.W PyProof.Rows
set_option maxRecDepth 100000
set_option maxHeartbeats 8000000
namespace Mine
theorem law_body {prog : Program} {w : World} {A : Around} {s : Shared} {h₀ : Heap} {L fa l : Addr} {cd : Value} {m : Str → Option Value} {vs : List Value} {ns : List Int} {n : Nat} {Q : Flow → Shared → Prop}
    (PL : ∀ x z, TextOk x → PlainLaw x.cps.toList z)
    (B : Base w h₀) (R : Room A (n + 20)) (hl : h₀.IsList l vs.toArray) (hi : IntsAre vs ns) (hlen : ns.length ≤ 63)
    (lc : LC h₀ s.heap L m none none none none none none) (sc : m (Str.ofString "script") = some (.ref l))
    (h : ∀ h' tk, Ext h₀ h' → Q (.ret (.bool true)) { s with heap := h', toks := tk }) :
    wpAny (model prog w) A (execs lawBody (lawEnv L fa cd)) Q NoE s := by
  have R1 : Room A (n + 19 + 1) := R
  refine law_a B R1 hl hi hlen lc sc fun h₁ tk₁ m₁ x tx tn lh li ln lu pa => ?_
  have hx := pa.ok
  refine law_b1 B R1 pa fun h₂ tk₂ m₂ t₂ pa₂ htw => ?_
  refine law_b2 B R1 pa₂ htw fun h₃ tk₃ m₃ lc₃ pa₃ htw₃ hcu hcl => ?_
  refine law_b3 B R1 hl hi hlen pa₃ htw₃ hcu hcl fun h₄ tk₄ m₄ lr lp ld z lq => ?_
  refine law_c B R1 lq fun h₅ tk₅ m₅ b d lq₅ => ?_
  refine law_d B R (PL x z hx) lq₅ fun h₆ tk₆ m₆ lD lt lz => ?_
  exact law_e B R hx (PL x z hx) lz fun h₇ tk₇ hx₇ => h h₇ tk₇ hx₇
theorem law_fin {prog : Program} {w : World} {A : Around} {s s₁ : Shared} {L fa l : Addr} {cd : Value} {m mg mb : Str → Option Value} {vs : List Value} {ns : List Int} {Q : Flow → Shared → Prop} {p : Program} {loose : List Str} {mean : ExcName → Option Value}
    {o1 o2 o3 o4 o5 o6 : Obj} {v1 v2 v3 v4 v5 v6 : Option Value} (PL : ∀ x z, TextOk x → PlainLaw x.cps.toList z)
    (T : Top p loose mean mg mb s₁.heap) (K : (hd.heap_39 w.params).In s₁.heap) (hl : s₁.heap.IsList l vs.toArray) (hi : IntsAre vs ns) (hlen : ¬ ((63 : Nat) : Int) < (ns.length : Int)) (R : Room A 20)
    (F : Fr s₁.heap L s.heap m) (N : News s₁.heap L s.heap [(L + 6, o6), (L + 5, o5), (L + 4, o4), (L + 3, o3), (L + 2, o2), (L + 1, o1)])
    (d6 : o6.data = .cell v6) (d5 : o5.data = .cell v5) (d4 : o4.data = .cell v4) (d3 : o3.data = .cell v3) (d2 : o2.data = .cell v2) (d1 : o1.data = .cell v1)
    (e6 : v6 = none) (e5 : v5 = none) (e4 : v4 = none) (e3 : v3 = none) (e2 : v2 = none) (e1 : v1 = none)
    (sc : m (Str.ofString "script") = some (.ref l))
    (h : ∀ h' tk, Ext s₁.heap h' → Q (.ret (.bool true)) { s with heap := h', toks := tk }) :
    wpAny (model prog w) A (execs lawBody (lawEnv L fa cd)) Q NoE s := by
  subst e1 e2 e3 e4 e5 e6
  refine law_body (n := 0) PL ⟨K, ⟨mb, T.b, T.builtins⟩, T.nolimit⟩ R hl hi (by omega) ⟨F.ns, F.keep, F.above, ⟨o1, N.get (by simp), d1⟩, ⟨o2, N.get (by simp), d2⟩, ⟨o3, N.get (by simp), d3⟩, ⟨o4, N.get (by simp), d4⟩, ⟨o5, N.get (by simp), d5⟩, ⟨o6, N.get (by simp), d6⟩⟩ sc h
theorem room_law (env : Env) : Room (callerA.deeper env) 20 := by
  refine ⟨rfl, ?_, ?_⟩
  · show callerA.depth + 1 + 20 < recursionLimit
    decide
  · show callerA.units + 3 + 3 * 20 + 10 < cLine
    decide
end Mine
end

open PySem PySem.W PyProof.Rows
set_option maxRecDepth 100000 in
set_option maxHeartbeats 8000000 in
theorem PySem.Challenge.cw_pe0044_01_holds : PySem.Challenge.rw_pe0044_01.Holds :=
  Mine.hd (by
  k_go0
  refine (?_ : wpAny _ _ (execs Mine.lawBody (Mine.lawEnv _ _ _)) _ _ _)
  refine wpAny_mono (Mine.law_fin Mine.plain_law (by assumption) (by assumption) (by assumption) (by assumption) (by assumption) ?_ (by assumption) (by assumption) (by assumption) (by assumption) (by assumption) (by assumption) (by assumption) (by assumption) rfl rfl rfl rfl rfl rfl ?_ ?_) (fun _ _ q => q) (fun _ _ f => f.elim)
  · exact Mine.room_law _
  · rfl
  · intro h' tk hx
    have hg := ‹Shared.gens _ = #[]›
    refine ⟨.inl ⟨.bool true, .bool true, [], rfl, ?_, .bool true, ?_, unshared_nil⟩, hx, rfl, hg⟩
    · exact fun _ => rfl
    · exact postW_of (by wrow_shape) (w_eq_bool (w_res rfl) w_lit) rfl)
