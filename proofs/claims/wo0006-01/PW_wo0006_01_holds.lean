import PyProof.Rows.All
import Wide.All
import OpenK.AllK
import Wide.FinOn
import Lean
import PySem.Challenge.RW_wo0006_01
set_option Elab.async false

section
open PySem PySem.W PyProof.Rows PySem.Calls
set_option Elab.async false
set_option maxRecDepth 100000
set_option maxHeartbeats 4000000
namespace Mine
abbrev P₀ : Program := PySem.Challenge.pw_wo0006_01
def stm (k : Nat) : Stmt := P₀.main.body.getD k (.Pass ⟨0, 0, 0, 0⟩)
def nameK (k : Nat) : Str := match stm k with | .FunctionDef n _ _ _ _ _ _ _ _ _ => n | _ => Str.empty
def parK (k : Nat) : Arguments := match stm k with | .FunctionDef _ a _ _ _ _ _ _ _ _ => a | _ => ⟨[], [], none, [], [], none, []⟩
def bodyK (k : Nat) : List Stmt := match stm k with | .FunctionDef _ _ b _ _ _ _ _ _ _ => b | _ => []
def scopeK (k : Nat) : Scope := match stm k with | .FunctionDef _ _ _ _ _ _ sc _ _ _ => sc | _ => ⟨.function, [], false, false, []⟩

def Keep (h h' : Heap) : Prop := ∀ b o, h.get? b = some o → h'.get? b = some o
theorem Keep.rfl {h : Heap} : Keep h h := fun _ _ e => e
theorem Keep.trans {a b c : Heap} (x : Keep a b) (y : Keep b c) : Keep a c := fun _ _ e => y _ _ (x _ _ e)

def FnAt (mg : Str → Option Value) (h : Heap) (k : Nat) : Prop :=
  ∃ a o pm code doc, mg (nameK k) = some (.ref a) ∧ h.get? a = some o ∧ o.data = .func (docDef (nameK k) (parK k) (bodyK k) (scopeK k) pm code doc) ∧ h.CodeRec code (nameK k)

structure Gd (mg mb : Str → Option Value) (h : Heap) : Prop where
  g : h.Ns mainGlobals mg
  b : h.Ns builtinsNs mb
  lim : h.NoLimit
  told : ∃ mc, h.Ns cStatics mc ∧ mc sharingNotToldKey = none
  bi : ∀ x : Str, x ≠ "__name__" → mb x = bootBuiltins x
  free : ∀ x ∈ (["len", "range", "bytes", "bytearray", "sorted", "enumerate", "sum", "TypeError", "AttributeError"] : List Str), mg x = none
  fn : ∀ k ∈ [1, 3, 4, 5, 6, 8, 9, 11, 12, 13, 14, 15], FnAt mg h k

theorem Gd.keeps {mg mb : Str → Option Value} {h h' : Heap} (G : Gd mg mb h) (k : Keep h h') : Gd mg mb h' where
  g := G.g.keeps k
  b := G.b.keeps k
  lim := G.lim.keeps k
  told := let ⟨mc, h1, h2⟩ := G.told; ⟨mc, h1.keeps k, h2⟩
  bi := G.bi
  free := G.free
  fn := fun i hi => let ⟨a, o, pm, code, doc, h1, h2, h3, h4⟩ := G.fn i hi; ⟨a, o, pm, code, doc, h1, k _ _ h2, h3, h4.keeps k⟩

example : nameK 15 = "law" := by rfl
example : nameK 1 = "_byteswap" := by rfl
example : nameK 3 = "eq" := by rfl
example : nameK 8 = "_raise_serialization_error" := by rfl

end Mine
end

section
open PySem PySem.W PyProof.Rows PySem.Calls
set_option Elab.async false
set_option maxRecDepth 100000
set_option maxHeartbeats 4000000
namespace Mine
section
variable {w : World} {A : Around} {E : Value → Shared → Prop} {R : Result → Shared → Prop} {s : Shared}

/-- one comprehension's loop, the target of any kind -/
theorem compLoop_go {elt target iter : PySem.Expr} {ifs : List PySem.Expr} {scope : Scope} {pos : Pos} {it acc : Value} {env : Env} (I : Nat → Shared → Prop)
    (turn : ∀ n s, I n s → wpAny (model P₀ w) A (pyNext it) (fun r s₁ => match r with
      | none => R (.ok .next) s₁
      | some v => wpAny (model P₀ w) A (letOwnedTupleGo target it v) (fun _ s₀ => wpAny (model P₀ w) A (assign target env v) (fun _ s₂ =>
          wpAny (model P₀ w) A (forIn ifs true fun c r => if r = true then do let ok ← isTrue c env (eval c env); pure (ForInStep.yield ok) else pure (ForInStep.yield r)) (fun ok s₃ =>
            if ok = true then wpAny (model P₀ w) A (eval elt env) (fun x s₄ =>
              wpAny (model P₀ w) A (call (.builtin "list.append") [acc, x]) (fun _ s₅ => ∃ m, m < n ∧ I m s₅) (notedBy (model P₀ w) A env fun e s' => R (.error e) s') s₄) (notedBy (model P₀ w) A env fun e s' => R (.error e) s') s₃
            else ∃ m, m < n ∧ I m s₃) (notedBy (model P₀ w) A env fun e s' => R (.error e) s') s₂) (notedBy (model P₀ w) A env fun e s' => R (.error e) s') s₀) (notedBy (model P₀ w) A env fun e s' => R (.error e) s') s₁) (notedBy (model P₀ w) A env fun e s' => R (.error e) s') s)
    (n : Nat) (h : I n s) :
    codeAny (model P₀ w) A (.compLoop (.ListComp elt [⟨target, iter, ifs, 0⟩] scope pos) 0 it acc env) R s := by
  refine codeAny_loop rfl I (fun n s hI => ?_) n h
  show wpAny _ A ((compTurn (.ListComp elt [⟨target, iter, ifs, 0⟩] scope pos) 0 it acc env).onRaise (fun x => do noteFrame x env; theTreesLotGoes x)) _ _ s
  refine wpAny_noted ?_
  rw [compTurn_list]
  refine wpAny_bind (wpAny_standAt (wpAny_bind (wpAny_mono (turn n s hI) (fun r s₁ h₁ => ?_) fun _ _ h' => h')))
  cases r with
  | none => exact wpAny_pure h₁
  | some v =>
    refine wpAny_bind (wpAny_mono h₁ (fun _ s₀ h₀ => ?_) fun _ _ h' => h')
    refine wpAny_bind (wpAny_mono h₀ (fun _ s₂ h₂ => wpAny_bind (wpAny_mono h₂ (fun ok s₃ h₃ => ?_) fun _ _ h' => h')) fun _ _ h' => h')
    cases ok with
    | false => exact wpAny_pure ⟨rfl, h₃⟩
    | true =>
      exact wpAny_bind (wpAny_bind (wpAny_mono h₃ (fun x s₄ h₄ => wpAny_bind (wpAny_mono h₄ (fun _ s₅ h₅ => wpAny_pure (wpAny_pure ⟨rfl, h₅⟩)) fun _ _ h' => h')) fun _ _ h' => h'))

structure Feed (w : World) (A : Around) (target : PySem.Expr) (cenv : Env) (I : Addr) (fp wr : List Addr) (n : Nat) (B : Nat → (Str → Option Value) → Prop) (St : Nat → Heap → Prop) : Prop where
  sub : ∀ b ∈ wr, b ∈ fp
  frame : ∀ i h h', St i h → (∀ b ∈ fp, ∀ o, h.get? b = some o → h'.get? b = some o) → St i h'
  turn : ∀ i (s : Shared) (m : Str → Option Value) (Q : Unit → Shared → Prop) (E : Value → Shared → Prop), i < n → St i s.heap → s.heap.Ns cenv.locals m → cenv.locals ∉ fp →
    (∀ h' tk m', St (i + 1) h' → h'.Ns cenv.locals m' → B i m' → (∀ b o, b ≠ cenv.locals → b ∉ wr → s.heap.get? b = some o → h'.get? b = some o) → Q () { s with heap := h', toks := tk }) →
    wpAny (model P₀ w) A (pyNext (.ref I)) (fun r s₁ => ∃ v, r = some v ∧ wpAny (model P₀ w) A (letOwnedTupleGo target (.ref I) v) (fun _ s₂ => wpAny (model P₀ w) A (assign target cenv v) Q E s₂) E s₁) E s
  done : ∀ (s : Shared) (Q : Option Value → Shared → Prop) (E : Value → Shared → Prop), St n s.heap →
    (∀ h' tk, (∀ b o, b ∉ wr → s.heap.get? b = some o → h'.get? b = some o) → Q none { s with heap := h', toks := tk }) → wpAny (model P₀ w) A (pyNext (.ref I)) Q E s
  self : ∀ i (s : Shared) (Q : Value → Shared → Prop) (E : Value → Shared → Prop), St i s.heap → Q (.ref I) s → wpAny (model P₀ w) A (pyIter (.ref I)) Q E s

theorem Feed.name {x : Str} {px : Pos} {cenv : Env} {I : Addr} {fp wr : List Addr} {n : Nat} {P : Nat → Value → Prop} {St : Nat → Heap → Prop} (W : Walks P₀ w A I fp wr n P St)
    (hx : cenv.kindOf x = some .local) (hp : (cenv.scope.kind == .class || (cenv.scope.kind == .module && cenv.locals != cenv.globals)) = false) :
    Feed w A (.Name x px) cenv I fp wr n (fun i m => ∃ v, P i v ∧ m x = some v) St where
  sub := W.sub
  frame := W.frame
  turn := fun i s m Q E hi hst hn hC hQ => by
    refine W.item i _ _ _ hi hst fun v h₁ tk₁ hPv hst₁ hk₁ => ⟨v, rfl, ?_⟩
    refine wpAny_of_eq (show letOwnedTupleGo (.Name x px) (.ref I) v = pure () from rfl) ?_
    refine wpAny_assign_Name (wpAny_storeName_local hx (hn.at' fun o e => hk₁ _ o (fun h => hC (W.sub _ h)) e) (fun h₂ hn₂ hs₂ => ?_) hp)
    exact hQ h₂ _ _ (W.frame _ _ _ hst₁ fun b hb o e => hs₂.extBut b o (fun h => hC (h ▸ hb)) e) hn₂ ⟨v, hPv, by simp⟩ fun b o hbC hbf e => hs₂.extBut b o hbC (hk₁ b o hbf e)
  done := W.done
  self := W.self

abbrev lstO (ys : List Value) : Obj := LCg.lst ys

def Mono (J : Nat → List Value → Nat → Prop) : Prop := ∀ i ys t t', t ≤ t' → J i ys t → J i ys t'

/-- what a comprehension's body must do, for every state that it may be met in -/
structure Body (w : World) (A : Around) (env : Env) (scope : Scope) (cl : List (Str × Addr)) (ifs : List PySem.Expr) (elt : PySem.Expr) (n : Nat) (B : Nat → (Str → Option Value) → Prop) (J : Nat → List Value → Nat → Prop) (h₁ : Heap) : Prop where
  go : ∀ C i ys (s₃ : Shared) m₃ (E' : Value → Shared → Prop), i < n → B i m₃ → J i ys s₃.toks → s₃.heap.Ns C m₃ → Keep h₁ s₃.heap →
    wpAny (model P₀ w) A (forIn ifs true fun c r => if r = true then do let ok ← isTrue c (compEnvC scope cl C env) (eval c (compEnvC scope cl C env)); pure (ForInStep.yield ok) else pure (ForInStep.yield r))
      (fun ok s₄ => Keeps s₃ s₄ ∧ (if ok = true then wpAny (model P₀ w) A (eval elt (compEnvC scope cl C env)) (fun y s₅ => Keeps s₄ s₅ ∧ J (i + 1) (ys ++ [y]) s₅.toks) E' s₄ else J (i + 1) ys s₄.toks)) E' s₃

theorem comp_block {elt target iter : PySem.Expr} {ifs : List PySem.Expr} {scope : Scope} {cl : List (Str × Addr)} {pos : Pos} {env : Env} {s₁ s₂ : Shared} {I : Addr} {fp wr : List Addr} {n : Nat} {B : Nat → (Str → Option Value) → Prop}
    {St : Nat → Heap → Prop} {J : Nat → List Value → Nat → Prop} (W : ∀ C, Feed w A target (compEnvC scope cl C env) I fp wr n B St) (hsz : n ≤ sizeLine) {RR : Value → Addr → Result → Shared → Prop}
    (hcell : ∀ y ∈ scope.names, y.2 ≠ .cell) (hkind : scope.kind = .function) (hst : St 0 s₂.heap) (hfp : ∀ b ∈ fp, b < s₂.heap.objs.size) (hk12 : Keep s₁.heap s₂.heap) (hwr : ∀ b ∈ wr, s₁.heap.get? b = none)
    (hJm : Mono J) (hJl : ∀ i ys t, J i ys t → ys.length ≤ i) (hJ0 : J 0 [] s₂.toks) (hb : Body w A env scope cl ifs elt n B J s₁.heap)
    (hRR : ∀ D C h' tk m' ys, s₁.heap.get? D = none → s₁.heap.get? C = none → D ≠ C → h'.Ns C m' → h'.get? D = some (lstO ys) → J n ys tk →
      Keep s₁.heap h' → RR (.ref D) C (.ok .next) { s₂ with heap := h', toks := tk }) :
    wpAny (model P₀ w) A (newList []) (fun acc s₃ => wpAny (model P₀ w) A (newFunctionEnv scope env.globals cl [] env.qual none .none (some env)) (fun cenv s₄ =>
      codeAny (model P₀ w) A (.compStart (.ListComp elt [⟨target, iter, ifs, 0⟩] scope pos) 0 (.ref I) acc { cenv with scope := relabel scope env }) (RR acc cenv.locals) s₄) E s₃) E s₂ := by
  refine wpAny_newObj_type (wpAny_newFunctionEnv hcell (by intro y hy; simp at hy) (fun h₁ hns₁ hsb₁ => ?_) hkind)
  dsimp only at hns₁ hsb₁ ⊢
  generalize hH2 : s₂.heap.push { cls := .type "list", dict := none, data := .seq ([] : List Value).toArray } = H2 at hns₁ hsb₁ ⊢
  have hC : H2.objs.size = s₂.heap.objs.size + 1 := by rw [← hH2, Heap.size_push]
  have hDC : s₂.heap.objs.size ≠ H2.objs.size := by rw [hC]; exact Nat.ne_of_lt (Nat.lt_succ_self _)
  have below : ∀ b, b < s₂.heap.objs.size → b ≠ H2.objs.size ∧ b ≠ s₂.heap.objs.size := fun b hb => ⟨by rw [hC]; exact Nat.ne_of_lt (Nat.lt_succ_of_lt hb), Nat.ne_of_lt hb⟩
  have hDf : s₂.heap.objs.size ∉ fp := fun hm => Nat.lt_irrefl _ (hfp _ hm)
  have hCf : H2.objs.size ∉ fp := fun hm => by have := hfp _ hm; rw [hC] at this; exact Nat.lt_irrefl _ (Nat.lt_of_succ_lt this)
  have old : ∀ b o, s₂.heap.get? b = some o → h₁.get? b = some o := fun b o e => hsb₁.extBut b o (below b (Heap.lt_size e)).1 (Heap.get?_push_of_some _ (hH2 ▸ Heap.get?_push_of_some _ e))
  have hacc : h₁.get? s₂.heap.objs.size = some (lstO []) := hsb₁.extBut _ _ hDC (Heap.get?_push_of_some _ (hH2 ▸ Heap.get?_push_size _ rfl))
  have hst₁ : St 0 h₁ := (W 0).frame _ _ _ hst fun b _ o e => old b o e
  have fresh : ∀ a, s₂.heap.objs.size ≤ a → s₂.heap.get? a = none := fun a ha => by
    cases e : s₂.heap.get? a with
    | none => rfl
    | some o' => exact absurd (Heap.lt_size e) (Nat.not_lt.mpr ha)
  have fresh₁ : ∀ a, s₂.heap.objs.size ≤ a → s₁.heap.get? a = none := fun a ha => by
    cases e : s₁.heap.get? a with
    | none => rfl
    | some o' => have := hk12 _ _ e; rw [fresh a ha] at this; cases this
  have hD₀ : s₁.heap.get? s₂.heap.objs.size = none := fresh₁ _ (Nat.le_refl _)
  have hC₀ : s₁.heap.get? H2.objs.size = none := fresh₁ _ (by rw [hC]; exact Nat.le_succ _)
  have hk1 : ∀ b o, s₁.heap.get? b = some o → b ≠ H2.objs.size ∧ b ≠ s₂.heap.objs.size ∧ b ∉ wr := fun b o e => ⟨fun q => (by rw [q, hC₀] at e; cases e), fun q => (by rw [q, hD₀] at e; cases e), fun q => (by rw [hwr b q] at e; cases e)⟩
  have hDw : s₂.heap.objs.size ∉ wr := fun h => hDf ((W 0).sub _ h)
  have hCw : H2.objs.size ∉ wr := fun h => hCf ((W 0).sub _ h)
  have loop : ∀ s₃ : Shared, s₃ = { s₂ with heap := h₁, toks := s₂.toks + ([] : List (Str × Value)).length } →
      codeAny (model P₀ w) A (.compLoop (.ListComp elt [⟨target, iter, ifs, 0⟩] scope pos) 0 (.ref I) (.ref s₂.heap.objs.size) (compEnvC scope cl H2.objs.size env))
        (RR (.ref s₂.heap.objs.size) H2.objs.size) s₃ := by
    rintro s₃ rfl
    have W' := W H2.objs.size
    have hCl : (compEnvC scope cl H2.objs.size env).locals = H2.objs.size := rfl
    refine compLoop_go
      (fun k s' => ∃ h' tk i ys m', s' = { s₂ with heap := h', toks := tk } ∧ i ≤ n ∧ k = n + 1 - i ∧ St i h' ∧ h'.Ns H2.objs.size m' ∧ h'.get? s₂.heap.objs.size = some (lstO ys) ∧ J i ys tk ∧ Keep s₁.heap h') ?_ (n + 1)
      ⟨h₁, _, 0, [], _, rfl, Nat.zero_le _, rfl, hst₁, hns₁, hacc, hJ0, fun b o e => old b o (hk12 b o e)⟩
    rintro k s' ⟨h', tk, i, ys, m', rfl, hi, rfl, hst', hn', hD', hJ', hK'⟩
    by_cases hlt : i < n
    · refine wpAny_with_toks (n := tk) (Nat.le_refl _) (wpAny_mono (W'.turn i { s₂ with heap := h', toks := tk } m' (fun _ s₂' => tk ≤ s₂'.toks → wpAny (model P₀ w) A (forIn ifs true fun c r => if r = true then do let ok ← isTrue c (compEnvC scope cl H2.objs.size env) (eval c (compEnvC scope cl H2.objs.size env)); pure (ForInStep.yield ok) else pure (ForInStep.yield r)) (fun ok s₃ =>
            if ok = true then wpAny (model P₀ w) A (eval elt (compEnvC scope cl H2.objs.size env)) (fun x s₄ =>
              wpAny (model P₀ w) A (call (.builtin "list.append") [.ref s₂.heap.objs.size, x]) (fun _ s₅ => ∃ m, m < n + 1 - i ∧ (∃ h' tk i ys m', s₅ = { s₂ with heap := h', toks := tk } ∧ i ≤ n ∧ m = n + 1 - i ∧ St i h' ∧ h'.Ns H2.objs.size m' ∧ h'.get? s₂.heap.objs.size = some (lstO ys) ∧ J i ys tk ∧ Keep s₁.heap h')) (notedBy (model P₀ w) A (compEnvC scope cl H2.objs.size env) fun e s' => RR (.ref s₂.heap.objs.size) H2.objs.size (.error e) s') s₄) (notedBy (model P₀ w) A (compEnvC scope cl H2.objs.size env) fun e s' => RR (.ref s₂.heap.objs.size) H2.objs.size (.error e) s') s₃
            else ∃ m, m < n + 1 - i ∧ (∃ h' tk i ys m', s₃ = { s₂ with heap := h', toks := tk } ∧ i ≤ n ∧ m = n + 1 - i ∧ St i h' ∧ h'.Ns H2.objs.size m' ∧ h'.get? s₂.heap.objs.size = some (lstO ys) ∧ J i ys tk ∧ Keep s₁.heap h')) (notedBy (model P₀ w) A (compEnvC scope cl H2.objs.size env) fun e s' => RR (.ref s₂.heap.objs.size) H2.objs.size (.error e) s') s₂') (notedBy (model P₀ w) A (compEnvC scope cl H2.objs.size env) fun e s' => RR (.ref s₂.heap.objs.size) H2.objs.size (.error e) s') hlt hst' hn' hCf ?_) ?_ ?_)
      · intro h₂ tk₂ m₂ hst₂ hn₂ hB₂ hk₂ htk₂
        have hD₂ : h₂.get? s₂.heap.objs.size = some (lstO ys) := hk₂ _ _ hDC hDw hD'
        have hK₂ : Keep s₁.heap h₂ := fun b o e => hk₂ b o (hk1 b o e).1 (hk1 b o e).2.2 (hK' b o e)
        refine wpAny_mono (wpAny_toks (hb.go H2.objs.size i ys { s₂ with heap := h₂, toks := tk₂ } m₂ (notedBy (model P₀ w) A (compEnvC scope cl H2.objs.size env) fun e s' => RR (.ref s₂.heap.objs.size) H2.objs.size (.error e) s') hlt hB₂ (hJm _ _ _ _ htk₂ hJ') hn₂ hK₂)) (fun ok s₃ h₃ => ?_) fun _ _ e => e.2
        obtain ⟨htk₃, ⟨h₃', tk₃, rfl, hk₃⟩, hok⟩ := h₃
        cases ok with
        | false =>
          simp only [Bool.false_eq_true, if_false] at hok ⊢
          exact ⟨n + 1 - (i + 1), by omega, h₃', tk₃, i + 1, ys, m₂, rfl, hlt, rfl, W'.frame _ _ _ hst₂ fun b _ o e => hk₃ b o e, hn₂.keeps hk₃, hk₃ _ _ hD₂, hok, fun b o e => hk₃ b o (hK₂ b o e)⟩
        | true =>
          simp only [if_true] at hok ⊢
          refine wpAny_mono hok (fun y s₄ h₄ => ?_) fun _ _ e => e
          obtain ⟨⟨h₄', tk₄, rfl, hk₄⟩, hJ₄⟩ := h₄
          have hD₄ : h₄'.get? s₂.heap.objs.size = some (lstO ys) := hk₄ _ _ (hk₃ _ _ hD₂)
          have hyl : ys.length ≤ i := hJl _ _ _ hJ'
          refine append_at (hsz := by show ys.toArray.size ≤ sizeLine; rw [List.size_toArray]; exact Nat.le_trans hyl (Nat.le_trans (Nat.le_of_lt hlt) hsz)) hD₄ fun h₅ hs₅ hD₅ => ?_
          refine ⟨n + 1 - (i + 1), by omega, h₅, tk₄, i + 1, ys ++ [y], m₂, rfl, hlt, rfl, ?_, ((hn₂.keeps hk₃).keeps hk₄).sameBut hs₅ (Ne.symm hDC), hD₅.trans (congrArg some (LCg.lst_snoc ys y)), hJ₄, fun b o e => hs₅.extBut b o (hk1 b o e).2.1 (hk₄ b o (hk₃ b o (hK₂ b o e)))⟩
          exact W'.frame _ _ _ hst₂ fun b hb' o e => hs₅.extBut b o (fun q => hDf (q ▸ hb')) (hk₄ b o (hk₃ b o e))
      · rintro r s₁' ⟨v, rfl, hv⟩ htk
        dsimp only
        refine wpAny_mono (wpAny_toks_of htk hv) (fun _ s₀ h₀ => ?_) fun _ _ e => e.2
        refine wpAny_mono (wpAny_toks_of h₀.1 h₀.2) (fun _ s₀ h₀ => h₀.2 h₀.1) fun _ _ e => e.2
      · exact fun _ _ e _ => e
    · obtain rfl : i = n := Nat.le_antisymm hi (Nat.not_lt.mp hlt)
      refine wpAny_with_toks (n := tk) (Nat.le_refl _) (W'.done { s₂ with heap := h', toks := tk } _ _ hst' fun h₂ tk₂ hk₂ htk => ?_)
      exact hRR _ _ h₂ tk₂ m' ys hD₀ hC₀ hDC (hn'.at' fun o e => hk₂ _ o hCw e) (hk₂ _ _ hDw hD') (hJm _ _ _ _ htk hJ') fun b o e => hk₂ b o (hk1 b o e).2.2 (hK' b o e)
  exact codeAny_compStart_list (loop _ rfl) ((W H2.objs.size).self 0 _ _ _ hst₁ (loop _ rfl))
end
end Mine
end

section
open PySem PySem.W PyProof.Rows PySem.Calls
set_option Elab.async false
set_option maxRecDepth 100000
set_option maxHeartbeats 4000000
namespace Mine
section
variable {w : World} {A : Around} {E : Value → Shared → Prop} {s : Shared} {env : Env} {h₀ : Heap}

/-- a loop's state: Inv (turn, locals, heap, tokens); it stands when L and the iterator's own objects change -/
def Stable (L : Addr) (wr : List Addr) (Inv : Nat → (Str → Option Value) → Heap → Nat → Prop) : Prop :=
  ∀ i m h h' tk tk', (∀ b o, b ≠ L → b ∉ wr → h.get? b = some o → h'.get? b = some o) → tk ≤ tk' → Inv i m h tk → Inv i m h' tk'

/-- the end of a loop's turn -/
def TurnEnd (h₀ : Heap) (L : Addr) (fp : List Addr) (Inv : Nat → (Str → Option Value) → Heap → Nat → Prop) (i : Nat) (s₁ : Shared) (Q : Flow → Shared → Prop) (f : Flow) (s₂ : Shared) : Prop :=
  match f with
  | .ret v => Q (.ret v) s₂
  | .brk => Q .next s₂
  | _ => ∃ h' tk' m', s₂ = { s₁ with heap := h', toks := tk' } ∧ Fr h₀ L h' m' ∧ (∀ b ∈ fp, ∀ o, s₁.heap.get? b = some o → h'.get? b = some o) ∧ Inv (i + 1) m' h' tk'

theorem forLoop_inv {R : Result → Shared → Prop} {x : Str} {px : Pos} {body : List Stmt} {I : Addr} {fp wr : List Addr} {n : Nat} {P : Nat → Value → Prop} {St : Nat → Heap → Prop} {m : Str → Option Value}
    (W : Walks P₀ w A I fp wr n P St) (hx : env.kindOf x = some .local)
    (hp : (env.scope.kind == .class || (env.scope.kind == .module && env.locals != env.globals)) = false)
    (hLf : env.locals ∉ fp) (hwr : ∀ b ∈ wr, h₀.get? b = none)
    (hst : St 0 s.heap) (F : Fr h₀ env.locals s.heap m)
    (Inv : Nat → (Str → Option Value) → Heap → Nat → Prop) (hS : Stable env.locals wr Inv) (h0 : Inv 0 m s.heap s.toks)
    (step : ∀ i v m₁ h tk, i < n → P i v → Inv i m₁ h tk → Fr h₀ env.locals h (fun y => if y = x then some v else m₁ y) → St (i + 1) h →
      wpAny (model P₀ w) A (execs body env) (TurnEnd h₀ env.locals fp Inv i { s with heap := h, toks := tk } (fun f s' => R (.ok f) s'))
        (notedBy (model P₀ w) A env fun e s' => R (.error e) s') { s with heap := h, toks := tk })
    (hR : ∀ h' tk m', Fr h₀ env.locals h' m' → Inv n m' h' tk → R (.ok .next) { s with heap := h', toks := tk }) :
    codeAny (model P₀ w) A (.forLoop (.Name x px) (.ref I) body [] env) R s := by
  have hLw : env.locals ∉ wr := fun h => hLf (W.sub _ h)
  have old : ∀ b o, h₀.get? b = some o → b ∉ wr := fun b o e hb => by rw [hwr b hb] at e; cases e
  refine codeAny_forLoop
    (fun k s' => ∃ h' tk m' i, s' = { s with heap := h', toks := tk } ∧ St i h' ∧ Fr h₀ env.locals h' m' ∧ Inv i m' h' tk ∧ i ≤ n ∧ k = n + 1 - i) ?_ (n + 1)
    ⟨s.heap, s.toks, m, 0, rfl, hst, F, h0, Nat.zero_le _, rfl⟩
  rintro k s' ⟨h', tk, m', i, rfl, hst', F', hJ, hi, rfl⟩
  have next : ∀ h₁ : Heap, (∀ b o, b ∉ wr → h'.get? b = some o → h₁.get? b = some o) → Fr h₀ env.locals h₁ m' := fun h₁ hk₁ =>
    ⟨F'.ns.at' fun o e => hk₁ _ o hLw e, fun b o e => hk₁ b o (old b o e) (F'.keep b o e), F'.above⟩
  by_cases hlt : i < n
  · refine wpAny_with_toks (n := tk) (Nat.le_refl _) (W.item i _ _ _ hlt hst' fun v h₁ tk₁ hP hst₁ hk₁ htk₁ => ?_)
    have F₁ := next h₁ hk₁
    refine wpAny_assign_Name (wpAny_storeName_local hx F₁.ns (fun h₂ hn₂ hs₂ => ?_) hp)
    have F₂ := F₁.set hn₂ hs₂
    have hst₂ : St (i + 1) h₂ := W.frame _ _ _ hst₁ fun b hb o e => (hs₂.2 b fun q => hLf (q ▸ hb)).trans e
    have I₂ : Inv i m' h₂ (tk₁ + 1) := hS _ _ _ _ _ _ (fun b o hb hw e => hs₂.extBut b o hb (hk₁ b o hw e)) (Nat.le_succ_of_le htk₁) hJ
    refine wpAny_mono (step i v m' h₂ (tk₁ + 1) hlt hP I₂ F₂ hst₂) (fun f s₃ h₃ => ?_) fun _ _ e => e
    have fin : (∃ h' tk' m', s₃ = { s with heap := h', toks := tk' } ∧ Fr h₀ env.locals h' m' ∧ (∀ b ∈ fp, ∀ o, h₂.get? b = some o → h'.get? b = some o) ∧ Inv (i + 1) m' h' tk') →
        ∃ m_1, m_1 < n + 1 - i ∧ ∃ h' tk m' i, s₃ = { s with heap := h', toks := tk } ∧ St i h' ∧ Fr h₀ env.locals h' m' ∧ Inv i m' h' tk ∧ i ≤ n ∧ m_1 = n + 1 - i := by
      rintro ⟨h₃', tk₃, m₂, rfl, F₃, hk₃, hJ₃⟩
      exact ⟨n + 1 - (i + 1), by omega, h₃', tk₃, m₂, i + 1, rfl, W.frame _ _ _ hst₂ hk₃, F₃, hJ₃, hlt, rfl⟩
    cases f with
    | ret v => exact h₃
    | brk => exact h₃
    | cont => exact fin h₃
    | next => exact fin h₃
  · have hin : i = n := by omega
    subst hin
    refine wpAny_with_toks (n := tk) (Nat.le_refl _) (W.done _ _ _ hst' fun h₁ tk₁ hk₁ htk => wpAny_execs_nil ?_)
    exact hR h₁ tk₁ m' (next h₁ hk₁) (hS _ _ _ _ _ _ (fun b o _ hw e => hk₁ b o hw e) htk hJ)

/-- a for statement whose iterable's iterator is a Walks -/
def LoopIn (w : World) (A : Around) (h₀ : Heap) (env : Env) (x : Str) (body : List Stmt) (Q : Flow → Shared → Prop) (it : Value) (s₂ : Shared) : Prop :=
  ∃ (I : Addr) (fp wr : List Addr) (n : Nat) (P : Nat → Value → Prop) (St : Nat → Heap → Prop) (m : Str → Option Value) (Inv : Nat → (Str → Option Value) → Heap → Nat → Prop),
    it = .ref I ∧ Walks P₀ w A I fp wr n P St ∧ env.locals ∉ fp ∧ (∀ b ∈ wr, h₀.get? b = none) ∧ St 0 s₂.heap ∧ Fr h₀ env.locals s₂.heap m ∧ Stable env.locals wr Inv ∧ Inv 0 m s₂.heap s₂.toks ∧
    (∀ i v m₁ h tk, i < n → P i v → Inv i m₁ h tk → Fr h₀ env.locals h (fun y => if y = x then some v else m₁ y) → St (i + 1) h →
      wpAny (model P₀ w) A (execs body env) (TurnEnd h₀ env.locals fp Inv i { s₂ with heap := h, toks := tk } Q) (fun _ _ => False) { s₂ with heap := h, toks := tk }) ∧
    ∀ h' tk m', Fr h₀ env.locals h' m' → Inv n m' h' tk → Q .next { s₂ with heap := h', toks := tk }

theorem For_in {Q : Flow → Shared → Prop} {x : Str} {px pos : Pos} {iter : PySem.Expr} {body : List Stmt} (hx : env.kindOf x = some .local)
    (hp : (env.scope.kind == .class || (env.scope.kind == .module && env.locals != env.globals)) = false)
    (h : wpAny (model P₀ w) A (eval iter env) (fun xv s₁ => wpAny (model P₀ w) A (pyIter xv) (LoopIn w A h₀ env x body Q) (fun _ _ => False) s₁) (fun _ _ => False) s)
    (hs : ∀ x, foldedSetIterable iter env x = pure x := by intro _; rfl) :
    wpAny (model P₀ w) A (exec (.For (.Name x px) iter body [] pos) env) Q (fun _ _ => False) s := by
  refine wpAny_For (wpAny_mono h (fun xv s₁ h₁ => wpAny_mono h₁ (fun it s₂ h₂ => ?_) fun _ _ e => e) fun _ _ e => e) hs
  obtain ⟨I, fp, wr, n, P, St, m, Inv, rfl, W, hLf, hwr, hst, F, hS, h0, step, hQ⟩ := h₂
  exact forLoop_inv (R := fun r s' => match r with | .ok f => Q f s' | .error e => cameBackBy (model P₀ w) A env (fun _ _ => False) e s') W hx hp hLf hwr hst F Inv hS h0
    (fun i v m₁ h tk hi hP hI F' hst' => wpAny_mono (step i v m₁ h tk hi hP hI F' hst') (fun _ _ q => q) fun _ _ e => e.elim) hQ

theorem fresh_of_size {h h₀ : Heap} (hk : Keep h₀ h) : h₀.get? h.objs.size = none := by
  cases e : h₀.get? h.objs.size with
  | none => rfl
  | some o => exact absurd (Heap.lt_size (hk _ _ e)) (Nat.lt_irrefl _)

theorem loop_list {Q : Flow → Shared → Prop} {x : Str} {body : List Stmt} {l : Addr} {items : Array Value} {m : Str → Option Value} (hh : A.handled = none) (hl : s.heap.IsList l items) (hlL : l ≠ env.locals)
    (F : Fr h₀ env.locals s.heap m) (Inv : Nat → (Str → Option Value) → Heap → Nat → Prop) (hS : ∀ I, s.heap.get? I = none → Stable env.locals [I] Inv) (h0 : Inv 0 m s.heap s.toks)
    (step : ∀ I i v m₁ h tk, s.heap.get? I = none → I ≠ env.locals → i < items.size → items[i]? = some v → Inv i m₁ h tk → Fr h₀ env.locals h (fun y => if y = x then some v else m₁ y) → (∃ o, h.get? I = some o) → h.IsList l items →
      wpAny (model P₀ w) A (execs body env) (TurnEnd h₀ env.locals [I, l] Inv i { s with heap := h, toks := tk } Q) (fun _ _ => False) { s with heap := h, toks := tk })
    (done : ∀ h' tk m', Fr h₀ env.locals h' m' → Inv items.size m' h' tk → Q .next { s with heap := h', toks := tk }) :
    wpAny (model P₀ w) A (pyIter (.ref l)) (LoopIn w A h₀ env x body Q) (fun _ _ => False) s := by
  have hI : s.heap.get? s.heap.objs.size = none := fresh_of_size Keep.rfl
  have hlt : l < s.heap.objs.size := by obtain ⟨o, e, _⟩ := hl; exact Heap.lt_size e
  refine wpAny_pyIter_list hl ?_
  have up : ∀ b o, s.heap.get? b = some o → (s.heap.push { cls := .type "list_iterator", data := .fields #[.ref l, .int 0 0] }).get? b = some o := fun b o e => Heap.get?_push_of_some _ e
  refine ⟨_, _, _, items.size, _, _, m, Inv, rfl, Walks.list hh s.heap.objs.size l (Nat.ne_of_lt hlt) items, ?_, ?_, ⟨⟨_, Heap.get?_push_size _ rfl, rfl, rfl⟩, hl.push _⟩, F.push _, hS _ hI, ?_, ?_, ?_⟩
  · intro hm
    rcases List.mem_cons.mp hm with e | hm
    · exact absurd F.ns.lt (e ▸ Nat.lt_irrefl _)
    · exact hlL (List.mem_singleton.mp hm).symm
  · intro b hb
    rw [List.mem_singleton.mp hb]
    exact fresh_of_size F.keep
  · exact hS _ hI _ _ _ _ _ _ (fun b o _ _ e => up b o e) (Nat.le_refl _) h0
  · intro i v m₁ h tk hi hP hJ F' hst'
    refine step s.heap.objs.size i v m₁ h tk hI (Ne.symm (Nat.ne_of_lt F.ns.lt)) hi hP hJ F' ?_ hst'.2
    obtain ⟨o, e, _⟩ := hst'.1
    exact ⟨o, e⟩
  · exact done

theorem loop_range {Q : Flow → Shared → Prop} {x : Str} {body : List Stmt} {r : Addr} {a b c : Int} {t u v : Tok} {n : Nat} {m : Str → Option Value} (hh : A.handled = none) (hr : IsRange s.heap r a b c t u v)
    (hsm : Builtin.Range.small a b c = true) (hn : Builtin.Range.rangeSize a b c = (n : Int))
    (F : Fr h₀ env.locals s.heap m) (Inv : Nat → (Str → Option Value) → Heap → Nat → Prop) (hS : ∀ I, s.heap.get? I = none → Stable env.locals [I] Inv) (h0 : Inv 0 m s.heap s.toks)
    (step : ∀ I i t m₁ h tk, s.heap.get? I = none → I ≠ env.locals → i < n → Inv i m₁ h tk → Fr h₀ env.locals h (fun y => if y = x then some (.int (a + (i : Int) * c) t) else m₁ y) → (∃ o, h.get? I = some o) →
      wpAny (model P₀ w) A (execs body env) (TurnEnd h₀ env.locals [I] Inv i { s with heap := h, toks := tk } Q) (fun _ _ => False) { s with heap := h, toks := tk })
    (done : ∀ h' tk m', Fr h₀ env.locals h' m' → Inv n m' h' tk → Q .next { s with heap := h', toks := tk }) :
    wpAny (model P₀ w) A (pyIter (.ref r)) (LoopIn w A h₀ env x body Q) (fun _ _ => False) s := by
  have hI : s.heap.get? s.heap.objs.size = none := fresh_of_size Keep.rfl
  refine wpAny_pyIter_range hr hsm ?_
  refine ⟨_, _, _, n, _, _, m, Inv, rfl, Walks.range hh s.heap.objs.size a c n, ?_, ?_, (by show IsRangeIter _ _ _ _ _; rw [hn]; simpa using Heap.get?_push_size _ rfl), F.push _, hS _ hI, ?_, ?_, ?_⟩
  · intro hm
    exact absurd F.ns.lt ((List.mem_singleton.mp hm) ▸ Nat.lt_irrefl _)
  · intro b hb
    rw [List.mem_singleton.mp hb]
    exact fresh_of_size F.keep
  · exact hS _ hI _ _ _ _ _ _ (fun b o _ _ e => Heap.get?_push_of_some _ e) (Nat.le_refl _) h0
  · rintro i v m₁ h tk hi ⟨t, rfl⟩ hJ F' hst'
    exact step s.heap.objs.size i t m₁ h tk hI (Ne.symm (Nat.ne_of_lt F.ns.lt)) hi hJ F' ⟨_, hst'⟩
  · exact done
end
end Mine
end

section
open PySem PySem.W PyProof.Rows PySem.Calls
set_option Elab.async false
set_option maxRecDepth 100000
set_option maxHeartbeats 4000000
namespace Mine
section
variable {w : World} {A : Around} {E : Value → Shared → Prop} {s : Shared} {env : Env} {h₀ : Heap}

def CompAt (w : World) (A : Around) (env : Env) (scope : Scope) (cl : List (Str × Addr)) (target : PySem.Expr) (ifs : List PySem.Expr) (elt : PySem.Expr) (s₁ : Shared) (Fin : List Value → Nat → Prop) (it : Value) (s₂ : Shared) : Prop :=
  ∃ (I : Addr) (fp wr : List Addr) (n : Nat) (B : Nat → (Str → Option Value) → Prop) (St : Nat → Heap → Prop) (J : Nat → List Value → Nat → Prop),
    it = .ref I ∧ (∀ C, Feed w A target (compEnvC scope cl C env) I fp wr n B St) ∧ n ≤ sizeLine ∧ St 0 s₂.heap ∧ (∀ b ∈ fp, b < s₂.heap.objs.size) ∧ Keep s₁.heap s₂.heap ∧ (∀ b ∈ wr, s₁.heap.get? b = none) ∧
    Mono J ∧ (∀ i ys t, J i ys t → ys.length ≤ i) ∧ J 0 [] s₂.toks ∧ Body w A env scope cl ifs elt n B J s₁.heap ∧ (∃ hh, s₂ = { s₁ with heap := hh }) ∧ ∀ ys tk, J n ys tk → Fin ys tk

theorem comp_eval {elt target iter : PySem.Expr} {ifs : List PySem.Expr} {scope : Scope} {cl : List (Str × Addr)} {pos : Pos} {Q : Value → Shared → Prop}
    (hclos : closureFor scope env = pure cl) (hcell : ∀ y ∈ scope.names, y.2 ≠ .cell) (hkind : scope.kind = .function)
    (hnames : ∀ y ∈ scope.names, y.2 = .local → scope.names.lookup y.1 = some .local)
    (h : wpAny (model P₀ w) A (eval iter env) (fun xv s₁ => wpAny (model P₀ w) A (pyIter xv) (CompAt w A env scope cl target ifs elt s₁
      (fun ys tk => ∀ D h', s₁.heap.get? D = none → h'.get? D = some (lstO ys) → Keep s₁.heap h' → Q (.ref D) { s₁ with heap := h', toks := tk })) E s₁) E s)
    (hs : ∀ x, foldedSetIterable iter env x = pure x := by intro _; rfl) :
    wpAny (model P₀ w) A (eval (.ListComp elt [⟨target, iter, ifs, 0⟩] scope pos) env) Q E s := by
  rw [eval_ListComp]
  refine wpAny_comprehension_free (use := none) rfl hs hclos hkind hnames (wpAny_mono h (fun xv s₁ h₁ => wpAny_mono h₁ (fun it s₂ h₂ => ?_) fun _ _ e => e) fun _ _ e => e)
  obtain ⟨I, fp, wr, n, B, St, J, rfl, W, hsz, hst, hfp, hk12, hwr, hJm, hJl, hJ0, hb, ⟨hh, rfl⟩, hQ⟩ := h₂
  refine comp_block (s₁ := s₁) (RR := fun acc C => compPost (model P₀ w) A E none Q acc C) W hsz hcell hkind hst hfp hk12 hwr hJm hJl hJ0 hb ?_
  intro D C h' tk m' ys hD hC hDC hn hl hJ hk
  exact ⟨m', hn, fun h'' hs'' => hQ ys tk hJ D h'' hD (hs''.extBut _ _ hDC hl) fun b o e => hs''.extBut b o (by rintro rfl; rw [hC] at e; cases e) (hk b o e)⟩

theorem comp_assign {elt target iter : PySem.Expr} {y : Str} {py : Pos} {ifs : List PySem.Expr} {scope : Scope} {cl : List (Str × Addr)} {pos spos : Pos} {Q : Flow → Shared → Prop}
    (hsw : swapsWith (.ListComp elt [⟨target, iter, ifs, 0⟩] scope pos) (some (.Name y py)) spos.line env = pure true)
    (hclos : closureFor scope env = pure cl) (hcell : ∀ z ∈ scope.names, z.2 ≠ .cell) (hkind : scope.kind = .function)
    (hnames : ∀ z ∈ scope.names, z.2 = .local → scope.names.lookup z.1 = some .local)
    (hy : env.kindOf y = some .local) (hp : (env.scope.kind == .class || (env.scope.kind == .module && env.locals != env.globals)) = false)
    (h : wpAny (model P₀ w) A (eval iter env) (fun xv s₁ => ∃ m news, Fr h₀ env.locals s₁.heap m ∧ News h₀ env.locals s₁.heap news ∧ wpAny (model P₀ w) A (pyIter xv) (CompAt w A env scope cl target ifs elt s₁
      (fun ys tk => ∀ D h', Fr h₀ env.locals h' (fun z => if z = y then some (.ref D) else m z) → News h₀ env.locals h' ((D, lstO ys) :: news) → s₁.heap.get? D = none → Q .next { s₁ with heap := h', toks := tk })) E s₁) E s)
    (hs : ∀ x, foldedSetIterable iter env x = pure x := by intro _; rfl) :
    wpAny (model P₀ w) A (exec (.Assign [.Name y py] (.ListComp elt [⟨target, iter, ifs, 0⟩] scope pos) spos) env) Q E s := by
  rw [exec_Assign_Name_used _ _ _ _ hsw]
  refine wpAny_bind (wpAny_standAt (wpAny_bind ?_))
  show wpAny _ A (do let _ ← comprehension (.ListComp elt [⟨target, iter, ifs, 0⟩] scope pos) scope env _ (newList []) false (eval iter env) (some (assign (.Name y py) env))) _ _ s
  refine wpAny_bind (wpAny_mono (wpAny_comprehension_free (use := some (assign (.Name y py) env)) (Q := fun _ s' => Q .next s') rfl hs hclos hkind hnames
    (wpAny_mono h (fun xv s₁ h₁ => ?_) fun _ _ e => e)) (fun _ s' hq => wpAny_pure (wpAny_pure hq)) fun _ _ e => e)
  obtain ⟨m, news, F, N, h₁⟩ := h₁
  refine wpAny_mono h₁ (fun it s₂ h₂ => ?_) fun _ _ e => e
  obtain ⟨I, fp, wr, n, B, St, J, rfl, W, hsz, hst, hfp, hk12, hwr, hJm, hJl, hJ0, hb, ⟨hh, rfl⟩, hQ⟩ := h₂
  refine comp_block (s₁ := s₁) (RR := fun acc C => compPost (model P₀ w) A E (some (assign (.Name y py) env)) (fun _ s' => Q .next s') acc C) W hsz hcell hkind hst hfp hk12 hwr hJm hJl hJ0 hb ?_
  intro D C h' tk m' ys hD hC hDC hnC hlD hJ hk
  have hn := F.ns
  have hLC : env.locals ≠ C := by rintro rfl; obtain ⟨o, _, _, ho, _⟩ := hn; rw [hC] at ho; cases ho
  have hLD : env.locals ≠ D := by rintro rfl; obtain ⟨o, _, _, ho, _⟩ := hn; rw [hD] at ho; cases ho
  have h0 : ∀ a, s₁.heap.get? a = none → h₀.get? a = none := fun a ha => by
    cases e : h₀.get? a with
    | none => rfl
    | some o => have := F.keep a o e; rw [ha] at this; cases this
  show wpAny _ A (assign (.Name y py) env (.ref D)) _ _ _
  refine wpAny_assign_Name (wpAny_storeName_local hy (hn.at' fun o e => hk _ o e) (fun h₂ hn₂ hs₂ => ?_) hp)
  refine ⟨m', hnC.sameBut hs₂ (Ne.symm hLC), fun h₃ hs₃ => ?_⟩
  have hL₀ : h₀.get? env.locals = none := Heap.get?_none_of_le F.above
  have up : ∀ b o, b ≠ env.locals → s₁.heap.get? b = some o → h₃.get? b = some o := fun b o hbL e =>
    hs₃.extBut b o (by rintro rfl; rw [hC] at e; cases e) (hs₂.extBut b o hbL (hk b o e))
  refine hQ ys _ (hJm _ _ _ _ (Nat.le_succ _) hJ) D h₃ ?_ ?_ hD
  · exact ⟨hn₂.sameBut hs₃ hLC, fun b o e => up b o (fun q => by rw [q, hL₀] at e; cases e) (F.keep b o e), F.above⟩
  · intro p hp
    rcases List.mem_cons.mp hp with rfl | hp
    · exact ⟨hs₃.extBut _ _ hDC (hs₂.extBut _ _ (Ne.symm hLD) hlD), Ne.symm hLD, h0 _ hD⟩
    · exact ⟨up _ _ (N p hp).2.1 (N p hp).1, (N p hp).2⟩

-- the sources of a comprehension with one name
section
variable {scope : Scope} {cl : List (Str × Addr)} {x : Str} {px : Pos} {ifs : List PySem.Expr} {elt : PySem.Expr} {Fin : List Value → Nat → Prop} {J : Nat → List Value → Nat → Prop}

theorem name_kind {C : Addr} (hx : scope.names.lookup x = some .local) : (compEnvC scope cl C env).kindOf x = some .local := lookup_relabel_local hx
theorem name_class {C : Addr} (hk : scope.kind = .function) : ((compEnvC scope cl C env).scope.kind == .class || ((compEnvC scope cl C env).scope.kind == .module && (compEnvC scope cl C env).locals != (compEnvC scope cl C env).globals)) = false := by
  simp [compEnvC, relabel, hk]

theorem src_of {o : Obj} {fp : List Addr} {n : Nat} {P : Nat → Value → Prop} {St : Nat → Heap → Prop} (W : Walks P₀ w A s.heap.objs.size fp [s.heap.objs.size] n P St) (hst : St 0 (s.heap.push o)) (hfp : ∀ b ∈ fp, b < (s.heap.push o).objs.size)
    (hx : scope.names.lookup x = some .local) (hk : scope.kind = .function) (hsz : n ≤ sizeLine)
    (hJm : Mono J) (hJl : ∀ i ys t, J i ys t → ys.length ≤ i) (hJ0 : J 0 [] s.toks) (hb : Body w A env scope cl ifs elt n (fun i m => ∃ v, P i v ∧ m x = some v) J s.heap) (hF : ∀ ys tk, J n ys tk → Fin ys tk) :
    CompAt w A env scope cl (.Name x px) ifs elt s Fin (.ref s.heap.objs.size) { s with heap := s.heap.push o } :=
  ⟨_, fp, _, n, _, St, J, rfl, fun C => Feed.name W (name_kind hx) (name_class hk), hsz, hst, hfp, fun b o e => Heap.get?_push_of_some _ e, fun b hb => by rw [List.mem_singleton.mp hb]; exact fresh_of_size Keep.rfl,
    hJm, hJl, hJ0, hb, ⟨_, rfl⟩, hF⟩

theorem src_list {l : Addr} {items : Array Value} (hh : A.handled = none) (hl : s.heap.IsList l items) (hsz : items.size ≤ sizeLine) (hx : scope.names.lookup x = some .local) (hk : scope.kind = .function)
    (hJm : Mono J) (hJl : ∀ i ys t, J i ys t → ys.length ≤ i) (hJ0 : J 0 [] s.toks) (hb : Body w A env scope cl ifs elt items.size (fun i m => ∃ v, items[i]? = some v ∧ m x = some v) J s.heap) (hF : ∀ ys tk, J items.size ys tk → Fin ys tk) :
    wpAny (model P₀ w) A (pyIter (.ref l)) (CompAt w A env scope cl (.Name x px) ifs elt s Fin) E s := by
  have hlt : l < s.heap.objs.size := by obtain ⟨o, e, _⟩ := hl; exact Heap.lt_size e
  refine wpAny_pyIter_list hl ?_
  refine src_of (Walks.list hh s.heap.objs.size l (Nat.ne_of_lt hlt) items) ⟨⟨_, Heap.get?_push_size _ rfl, rfl, rfl⟩, hl.push _⟩ ?_ hx hk hsz hJm hJl hJ0 hb hF
  intro b hb
  rw [Heap.size_push]
  rcases List.mem_cons.mp hb with rfl | hb
  · exact Nat.lt_succ_self _
  · rw [List.mem_singleton.mp hb]; exact Nat.lt_succ_of_lt hlt

theorem src_range {r : Addr} {a b c : Int} {t u v : Tok} {n : Nat} (hh : A.handled = none) (hr : IsRange s.heap r a b c t u v) (hsm : Builtin.Range.small a b c = true) (hn : Builtin.Range.rangeSize a b c = (n : Int)) (hsz : n ≤ sizeLine)
    (hx : scope.names.lookup x = some .local) (hk : scope.kind = .function)
    (hJm : Mono J) (hJl : ∀ i ys t, J i ys t → ys.length ≤ i) (hJ0 : J 0 [] s.toks) (hb : Body w A env scope cl ifs elt n (fun i m => ∃ v, (∃ t, v = .int (a + i * c) t) ∧ m x = some v) J s.heap) (hF : ∀ ys tk, J n ys tk → Fin ys tk) :
    wpAny (model P₀ w) A (pyIter (.ref r)) (CompAt w A env scope cl (.Name x px) ifs elt s Fin) E s := by
  refine wpAny_pyIter_range hr hsm ?_
  refine src_of (Walks.range hh s.heap.objs.size a c n) (by show IsRangeIter _ _ _ _ _; rw [hn]; simpa using Heap.get?_push_size _ rfl) ?_ hx hk hsz hJm hJl hJ0 hb hF
  intro b hb
  rw [Heap.size_push, List.mem_singleton.mp hb]
  exact Nat.lt_succ_self _

theorem src_bytes {b : Array UInt8} {t : Tok} (hh : A.handled = none) (hsz : b.size ≤ sizeLine) (hx : scope.names.lookup x = some .local) (hk : scope.kind = .function)
    (hJm : Mono J) (hJl : ∀ i ys t, J i ys t → ys.length ≤ i) (hJ0 : J 0 [] s.toks) (hb : Body w A env scope cl ifs elt b.size (fun i m => ∃ v, (∃ c u, b[i]? = some c ∧ v = .int (c.toNat : Int) u) ∧ m x = some v) J s.heap) (hF : ∀ ys tk, J b.size ys tk → Fin ys tk) :
    wpAny (model P₀ w) A (pyIter (.bytes b t)) (CompAt w A env scope cl (.Name x px) ifs elt s Fin) E s := by
  refine KBw.pyIter_bytes ?_
  refine src_of (KBw.walks hh s.heap.objs.size b t) ⟨_, Heap.get?_push_size _ rfl, rfl, rfl⟩ ?_ hx hk hsz hJm hJl hJ0 hb hF
  intro b hb
  rw [Heap.size_push, List.mem_singleton.mp hb]
  exact Nat.lt_succ_self _

theorem src_str {z : Str} {t : Tok} (hh : A.handled = none) (hsz : z.cps.size ≤ sizeLine) (hx : scope.names.lookup x = some .local) (hk : scope.kind = .function)
    (hJm : Mono J) (hJl : ∀ i ys t, J i ys t → ys.length ≤ i) (hJ0 : J 0 [] s.toks) (hb : Body w A env scope cl ifs elt z.cps.size (fun i m => ∃ v, SignAt z i v ∧ m x = some v) J s.heap) (hF : ∀ ys tk, J z.cps.size ys tk → Fin ys tk) :
    wpAny (model P₀ w) A (pyIter (.str z t)) (CompAt w A env scope cl (.Name x px) ifs elt s Fin) E s := by
  refine wpAny_pyIter_str (fun o St W hst => ?_)
  refine src_of (W A hh) hst ?_ hx hk hsz hJm hJl hJ0 hb hF
  intro b hb
  rw [Heap.size_push, List.mem_singleton.mp hb]
  exact Nat.lt_succ_self _
end
end
end Mine
end

section
open PySem PySem.W PyProof.Rows PySem.Calls
set_option Elab.async false
set_option maxRecDepth 100000
set_option maxHeartbeats 4000000
namespace Mine
section
variable {w : World} {A : Around} {s : Shared} {mg mb : Str → Option Value}

/-- a local's store, load: what else is kept -/
theorem stS {env : Env} {h₀ : Heap} {m : Str → Option Value} {x : Str} {v : Value} {Q : Unit → Shared → Prop} {E : Value → Shared → Prop} (F : Fr h₀ env.locals s.heap m)
    (h : ∀ h', Fr h₀ env.locals h' (fun y => if y = x then some v else m y) → Heap.SameBut env.locals s.heap h' → Q () { s with heap := h', toks := s.toks + 1 })
    (hx : env.kindOf x = some .local := by rfl) (hp : (env.scope.kind == .class || (env.scope.kind == .module && env.locals != env.globals)) = false := by rfl) :
    wpAny (model P₀ w) A (storeName env x v) Q E s :=
  wpAny_storeName_local hx F.ns (fun h' hn hs => h h' (F.set hn hs) hs) hp
theorem ldS {env : Env} {h₀ : Heap} {m : Str → Option Value} {x : Str} {v : Value} {Q : Value → Shared → Prop} {E : Value → Shared → Prop} (F : Fr h₀ env.locals s.heap m) (hv : m x = some v) (h : Q v s)
    (hk : env.scope.kind = .function := by rfl) (hx : env.kindOf x = some .local := by rfl) : wpAny (model P₀ w) A (loadName env x) Q E s := wpAny_loadName_local hk hx F.ns hv h

abbrev defs : List Nat := [1, 3, 4, 5, 6, 8, 9, 11, 12, 13, 14, 15]

theorem call_in {k : Nat} {f : Addr} {args : List Value} {binds : List (Str × Value)} {Q : Value → Shared → Prop} {E : Value → Shared → Prop} (G : Gd mg mb s.heap) (hk : k ∈ defs) (hf : mg (nameK k) = some (.ref f))
    (hd : A.depth < recursionLimit)
    (hbind : ∀ pm code doc, bindArgs (docDef (nameK k) (parK k) (bodyK k) (scopeK k) pm code doc) ⟨args, []⟩ = pure binds)
    (hloc : (binds.all fun x => decide ((scopeK k).names.lookup x.1 = some .local)) = true)
    (h : ∀ L code h₁, Fr s.heap L h₁ (fun x => binds.reverse.lookup x) → L = s.heap.objs.size →
      wpAny (model P₀ w) (A.deeper (envX (nameK k) (scopeK k) L f code [])) (execs (bodyK k) (envX (nameK k) (scopeK k) L f code []))
        (fun fl s' => Q (match fl with | .ret v => v | _ => .none) s') (fun _ _ => False)
        { s with heap := h₁, toks := s.toks + binds.length })
    (hco : (scopeK k).isCoroutine = false := by rfl) (hgen : (scopeK k).isGenerator = false := by rfl) (hkd : (scopeK k).kind = .function := by rfl)
    (hcell : ∀ x ∈ (scopeK k).names, x.2 ≠ .cell := by decide) :
    wpAny (model P₀ w) A (call (.ref f) args) Q E s := by
  obtain ⟨a, o, pm, code, doc, h1, h2, h3, h4⟩ := G.fn k hk
  have e : a = f := by
    rw [hf] at h1
    exact (Value.ref.inj (Option.some.inj h1)).symm
  subst e
  refine wpAny_call (call_plain_ret hd h2 h3 G.lim h4 (hbind pm code doc) (locs hloc) (fun h₁ F => ?_) hco hgen hkd hcell)
  exact h _ _ h₁ F rfl

theorem call_inC {k : Nat} {f : Addr} {args : List Value} {binds : List (Str × Value)} {x : Str} {Q : Value → Shared → Prop} {E : Value → Shared → Prop} (G : Gd mg mb s.heap) (hk : k ∈ defs) (hf : mg (nameK k) = some (.ref f))
    (hd : A.depth < recursionLimit)
    (hbind : ∀ pm code doc, bindArgs (docDef (nameK k) (parK k) (bodyK k) (scopeK k) pm code doc) ⟨args, []⟩ = pure binds)
    (hloc : (binds.all fun y => (scopeK k).names.lookup y.1 == some .local || ((scopeK k).names.lookup y.1 == some .cell && y.1 == x)) = true)
    (hc : ∀ n, cellsFrom n (scopeK k).names [] = [(x, n)])
    (h : ∀ L code h₁ tk o, Fr s.heap L h₁ (bindL (envX (nameK k) (scopeK k) L f code [(x, L + 1)]).kindOf binds fun _ => none) → News s.heap L h₁ [(L + 1, o)] →
      o.data = .cell (bindC (envX (nameK k) (scopeK k) L f code [(x, L + 1)]).kindOf binds (fun _ => none) x) → L = s.heap.objs.size → s.toks ≤ tk →
      wpAny (model P₀ w) (A.deeper (envX (nameK k) (scopeK k) L f code [(x, L + 1)])) (execs (bodyK k) (envX (nameK k) (scopeK k) L f code [(x, L + 1)]))
        (fun fl s' => Q (match fl with | .ret v => v | _ => .none) s') (fun _ _ => False)
        { s with heap := h₁, toks := tk })
    (hco : (scopeK k).isCoroutine = false := by rfl) (hgen : (scopeK k).isGenerator = false := by rfl) (hkd : (scopeK k).kind = .function := by rfl) :
    wpAny (model P₀ w) A (call (.ref f) args) Q E s := by
  obtain ⟨a, o, pm, code, doc, h1, h2, h3, h4⟩ := G.fn k hk
  have e : a = f := by
    rw [hf] at h1
    exact (Value.ref.inj (Option.some.inj h1)).symm
  subst e
  refine wpAny_call (codeAny_call_function hd h2 h3 hco hgen rfl h4 ?_)
  rw [show bindArgs (docDef (nameK k) (parK k) (bodyK k) (scopeK k) pm code doc) ⟨args, []⟩ = pure binds from hbind pm code doc]
  refine wpAny_pure ?_
  refine wpAny_with_toks (n := s.toks) (Nat.le_refl _) (wpAny_newFunctionEnv_cells hkd (fun y hy => ?_) fun env' he s' X htk => ?_)
  · have := List.all_eq_true.mp hloc y hy
    rcases Bool.or_eq_true_iff.mp this with q | q
    · exact .inl (show (scopeK k).names.lookup y.1 = some .local from (by simpa using q))
    · obtain ⟨q1, q2⟩ := Bool.and_eq_true_iff.mp q
      refine .inr ⟨show (scopeK k).names.lookup y.1 = some .cell from (by simpa using q1), ?_⟩
      show ((cellsFrom (s.heap.objs.size + 1) (scopeK k).names []).lookup y.1).isSome = true
      rw [hc, beq_iff_eq.mp q2]
      simp [List.lookup]
  · have he' : env' = envX (nameK k) (scopeK k) s.heap.objs.size a code [(x, s.heap.objs.size + 1)] := by
      rw [he]
      show newEnv (scopeK k) s.heap.objs.size mainGlobals (cellsFrom (s.heap.objs.size + 1) (scopeK k).names []) _ _ _ _ _ = _
      rw [hc]
      rfl
    subst he'
    clear he
    refine ⟨G.lim.keeps X.toInCall.keep, codeAny_func ?_⟩
    obtain ⟨h₁, tk, rfl, _⟩ := X.done
    have hcx : (([(x, s.heap.objs.size + 1)] : List (Str × Addr)).lookup x) = some (s.heap.objs.size + 1) := by simp [List.lookup]
    obtain ⟨oc, hoc, hod⟩ := X.cell x (s.heap.objs.size + 1) hcx
    refine wpAny_mono (h s.heap.objs.size code h₁ tk oc ⟨X.toInCall.ns, X.toInCall.keep, X.toInCall.fresh⟩ (fun p hp => ?_) hod rfl htk) (fun _ _ q => q) fun _ _ f => f.elim
    rw [List.mem_singleton.mp hp]
    refine ⟨hoc, Nat.succ_ne_self _, ?_⟩
    exact Heap.get?_none_of_le (Nat.le_succ _)
end
end Mine
end

section
open PySem PySem.W PyProof.Rows PySem.Calls
set_option Elab.async false
set_option maxRecDepth 100000
set_option maxHeartbeats 4000000
namespace Mine
section
variable {w : World} {A : Around} {s : Shared} {mg mb : Str → Option Value} {E : Value → Shared → Prop}

/-- a global def's name, a built-in's name -/
theorem nm_def {env : Env} {x : Str} {v : Value} {pos : Pos} {Q : Value → Shared → Prop} (G : Gd mg mb s.heap) (hv : mg x = some v) (h : Q v s)
    (hg : env.globals = mainGlobals := by rfl) (hk : env.scope.kind = .function := by rfl) (hx : env.kindOf x = some .globalImplicit := by rfl) (hd : (x == ("__debug__" : Str)) = false := by decide) :
    wpAny (model P₀ w) A (eval (.Name x pos) env) Q E s :=
  Name_function_global hk hx (loadGlobal_global (env := env) (by rw [hg]; exact G.g) hv h) hd
theorem nm_boot {env : Env} {x : Str} {v : Value} {pos : Pos} {Q : Value → Shared → Prop} (G : Gd mg mb s.heap) (hv : bootBuiltins x = some v) (h : Q v s)
    (hf : x ∈ (["len", "range", "bytes", "bytearray", "sorted", "enumerate", "sum", "TypeError", "AttributeError"] : List Str) := by decide) (hn : x ≠ "__name__" := by decide)
    (hg : env.globals = mainGlobals := by rfl) (hb : env.builtins = builtinsNs := by rfl) (hk : env.scope.kind = .function := by rfl) (hx : env.kindOf x = some .globalImplicit := by rfl) (hd : (x == ("__debug__" : Str)) = false := by decide) :
    wpAny (model P₀ w) A (eval (.Name x pos) env) Q E s :=
  Name_function_global hk hx (loadGlobal_builtin (env := env) (by rw [hg]; exact G.g) (G.free x hf) (by rw [hb]; exact G.b) ((G.bi x hn).trans hv) h) hd

/-- a call of a def by its name -/
theorem call_def {env : Env} {x : Str} {p pos : Pos} {e : PySem.Expr} {rest : List PySem.Expr} {f : Addr} {k : Nat} {Q : Value → Shared → Prop} (G : Gd mg mb s.heap) (hk : k ∈ defs) (hn : nameK k = x) (hf : mg x = some (.ref f))
    (h : wpAny (model P₀ w) A (spliced (backTo pos (starEach (e :: rest) env))) (fun vs s₁ => Keep s.heap s₁.heap ∧ wpAny (model P₀ w) A (call (.ref f) vs) Q E s₁) E s)
    (hg : env.globals = mainGlobals := by rfl) (hkf : env.scope.kind = .function := by rfl) (hx : env.kindOf x = some .globalImplicit := by rfl) (hd : (x == ("__debug__" : Str)) = false := by decide)
    (he : starEach (e :: rest) env = (false, eval e env) :: starEach rest env := by rfl) :
    wpAny (model P₀ w) A (eval (.Call (.Name x p) (e :: rest) [] pos) env) Q E s := by
  refine Call_Name rfl (nm_def G hf ?_ hg hkf hx hd)
  obtain ⟨a, o, pm, code, doc, h1, h2, h3, _⟩ := G.fn k hk
  have e1 : a = f := by
    rw [hn, hf] at h1
    exact (Value.ref.inj (Option.some.inj h1)).symm
  subst e1
  exact callWith_meth (h₀ := s.heap) (first := []) h3 h2 h he

theorem eq_ok {f : Addr} {a b : Str} {ta tb : Tok} {Q : Value → Shared → Prop} (G : Gd mg mb s.heap) (hf : mg "eq" = some (.ref f)) (hd : A.depth < 900)
    (h : ∀ h' tk, Keep s.heap h' → Q (.bool (a == b)) { s with heap := h', toks := tk }) :
    wpAny (model P₀ w) A (call (.ref f) [.str a ta, .str b tb]) Q E s := by
  refine call_in (k := 3) (binds := [("a", .str a ta), ("b", .str b tb)]) G (by decide) hf (Nat.lt_trans hd (by decide)) (fun _ _ _ => rfl) (by rfl) (fun L code h₁ F hL => ?_)
  refine wpAny_execs_cons ?_
  refine wpAny_Return_some ?_
  refine wpAny_Compare1 ?_
  refine nameX_L F (by rfl) ?_
  refine nameX_L F (by rfl) ?_
  refine PyProof.Rows.eq_str ?_
  exact h _ _ F.keep

theorem add_ok {f : Addr} {a b : Str} {ta tb : Tok} {Q : Value → Shared → Prop} (G : Gd mg mb s.heap) (hf : mg "add" = some (.ref f)) (hd : A.depth < 900) (hz : a.length + b.length ≤ sizeLine)
    (h : ∀ h' t tk, Keep s.heap h' → s.toks ≤ tk → ((t = ta ∧ b.length = 0) ∨ (t = tb ∧ a.length = 0) ∨ (s.toks ≤ t ∧ t < tk)) → Q (.str (a ++ b) t) { s with heap := h', toks := tk }) :
    wpAny (model P₀ w) A (call (.ref f) [.str a ta, .str b tb]) Q E s := by
  refine call_in (k := 4) (binds := [("a", .str a ta), ("b", .str b tb)]) G (by decide) hf (Nat.lt_trans hd (by decide)) (fun _ _ _ => rfl) (by rfl) (fun L code h₁ F hL => ?_)
  refine wpAny_execs_cons ?_
  refine wpAny_Return_some ?_
  refine wpAny_BinOp ?_
  refine nameX_L F (by rfl) ?_
  refine nameX_L F (by rfl) ?_
  refine PySem.P.add_str ?_
  have e0 : ∀ z : Str, z.length = 0 → z = ⟨#[]⟩ := fun z hz => by
    cases z with | mk c =>
    have : c.size = 0 := hz
    rw [Array.eq_empty_of_size_eq_zero this]
  by_cases ha : a.length = 0
  · rw [if_pos (by simpa using ha)]
    have := h h₁ tb (s.toks + 2) F.keep (by omega) (.inr (.inl ⟨rfl, ha⟩))
    have e : a ++ b = b := by rw [e0 a ha]; show Str.append ⟨#[]⟩ b = b; cases b; simp [Str.append]
    rw [e] at this
    exact this
  · rw [if_neg (by simpa using ha)]
    by_cases hb : b.length = 0
    · rw [if_pos (by simpa using hb)]
      have := h h₁ ta (s.toks + 2) F.keep (by omega) (.inl ⟨rfl, hb⟩)
      have e : a ++ b = a := by rw [e0 b hb]; show Str.append a ⟨#[]⟩ = a; cases a; simp [Str.append]
      rw [e] at this
      exact this
    · rw [if_neg (by simpa using hb)]
      refine ⟨by rw [strLen_append]; exact hz, ?_⟩
      exact h h₁ _ (s.toks + 2 + 1) F.keep (by omega) (.inr (.inr ⟨(by show s.toks ≤ s.toks + 2; omega), (by show s.toks + 2 < s.toks + 2 + 1; omega)⟩))

theorem getitem_ok {f l : Addr} {vs : List Value} {ws : List Str} {k : Nat} {u : Tok} {Q : Value → Shared → Prop} (G : Gd mg mb s.heap) (hf : mg "getitem" = some (.ref f)) (hd : A.depth < 900)
    (hl : s.heap.IsList l vs.toArray) (hw : StrsAre vs ws) (hk : k < ws.length) (hz : k < 1000)
    (h : ∀ h' t tk, Keep s.heap h' → Q (.str (ws.getD k Str.empty) t) { s with heap := h', toks := tk }) :
    wpAny (model P₀ w) A (call (.ref f) [.ref l, .int k u]) Q E s := by
  refine call_in (k := 6) (binds := [("a", .ref l), ("b", .int k u)]) G (by decide) hf (Nat.lt_trans hd (by decide)) (fun _ _ _ => rfl) (by rfl) (fun L code h₁ F hL => ?_)
  refine wpAny_execs_cons ?_
  refine wpAny_Return_some ?_
  refine Subscript_ ?_
  refine nameX_L F (by rfl) ?_
  refine nameX_L F (by rfl) ?_
  refine item_strsA (hl.at fun o e => F.keep l o e) hw (by omega) (by omega) (by omega) (fun t' => ?_) ?_
  · have := h h₁ t' (s.toks + 2) F.keep
    simpa using this
  · rfl
end
end Mine
end

section
open PySem PySem.W PyProof.Rows PySem.Calls
set_option Elab.async false
set_option maxRecDepth 100000
set_option maxHeartbeats 4000000
namespace Mine
section
variable {w : World} {A : Around} {s : Shared} {mg mb : Str → Option Value} {E : Value → Shared → Prop}

theorem notTold {t : Tok} {Q : Bool → Shared → Prop} (G : Gd mg mb s.heap) (h : Q false s) : wpAny (model P₀ w) A (sharingNotTold t) Q E s := by
  obtain ⟨mc, h1, h2⟩ := G.told
  unfold sharingNotTold
  refine wpAny_bind (wpAny_nsGet h1 ?_)
  rw [h2]
  exact wpAny_pure h

theorem is_str {a b : Str} {t u : Tok} {Q : Value → Shared → Prop} (G : Gd mg mb s.heap) (ht : t ≠ 0) (hu : u ≠ 0) (he : t = u → a = b) (h : ∀ r : Bool, (r = true → a = b) → Q (.bool r) s) :
    wpAny (model P₀ w) A (compareOp .Is (.str a t) (.str b u)) Q E s := by
  show wpAny _ A (do return .bool (← isSame (.str a t) (.str b u))) Q E s
  refine wpAny_bind ?_
  show wpAny _ A (isSame.created (a == b) t u) _ E s
  unfold isSame.created
  rw [if_neg (by simp [ht, hu])]
  by_cases hq : (t == u) = true
  · rw [if_pos hq]
    exact wpAny_pure (wpAny_pure (h true fun _ => he (by simpa using hq)))
  · rw [if_neg hq]
    by_cases hab : a = b
    · subst hab
      simp only [beq_self_eq_true, Bool.not_true, Bool.false_eq_true, if_false]
      refine wpAny_bind (notTold G ?_)
      simp only [Bool.false_eq_true, if_false]
      refine wpAny_bind (notTold G ?_)
      simp only [Bool.false_eq_true, if_false]
      refine wpAny_bind (wpAny_rule ?_)
      refine wpAny_bind (wpAny_askSetting ?_)
      exact wpAny_pure (wpAny_pure (h _ fun _ => rfl))
    · rw [if_pos (by simp [hab])]
      exact wpAny_pure (wpAny_pure (h false fun e => nomatch e))

def cnt (b : Str) : List Str → Nat
  | [] => 0
  | x :: r => (if x = b then 1 else 0) + cnt b r
theorem cnt_snoc (b x : Str) : ∀ l : List Str, cnt b (l ++ [x]) = cnt b l + (if x = b then 1 else 0)
  | [] => by simp [cnt]
  | y :: r => by simp only [List.cons_append, cnt, cnt_snoc b x r]; omega

theorem countOf_ok {f l : Addr} {vs : List Value} {ws : List Str} {b : Str} {u : Tok} {Q : Value → Shared → Prop} (G : Gd mg mb s.heap) (hf : mg "countOf" = some (.ref f)) (hd : A.depth < 900) (hh : A.handled = none)
    (hl : s.heap.IsList l vs.toArray) (hw : StrsAre vs ws) (hu : u ≠ 0) (ht : ∀ (i : Nat) (a : Str) (t : Tok), vs[i]? = some (Value.str a t) → t ≠ 0 ∧ (t = u → a = b))
    (h : ∀ h' t tk, Keep s.heap h' → Q (.int (cnt b ws) t) { s with heap := h', toks := tk }) :
    wpAny (model P₀ w) A (call (.ref f) [.ref l, .str b u]) Q E s := by
  refine call_in (k := 5) (binds := [("a", .ref l), ("b", .str b u)]) G (by decide) hf (Nat.lt_trans hd (by decide)) (fun _ _ _ => rfl) (by rfl) (fun L code h₁ F hL => ?_)
  refine wpAny_execs_cons ?_
  refine wpAny_Assign_Name ?_
  refine wpAny_Constant_int ?_
  refine storeX_L F News.nil (fun h₂ F₂ _ => ?_)
  refine wpAny_execs_cons ?_
  refine For_in (h₀ := s.heap) (by rfl) (by rfl) ?_
  refine nameX_L F₂ (by rfl) ?_
  have hlk : l ≠ L := by
    obtain ⟨o, e, _⟩ := hl
    rw [hL]
    exact Nat.ne_of_lt (Heap.lt_size e)
  have hlen : vs.toArray.size = ws.length := by simp [hw.length]
  refine loop_list (h₀ := s.heap) (s := { s with heap := h₂, toks := _ }) hh (hl.at fun o e => F₂.keep l o e) hlk F₂
    (fun i m h tk => (∃ t, m "count" = some (.int (cnt b (ws.take i)) t)) ∧ m "b" = some (.str b u)) (fun I hI i m h h' tk tk' _ _ x => x) ⟨⟨_, by rfl⟩, by rfl⟩ ?_ ?_
  · rintro I i v m₁ h tk hI hIL hi hv ⟨⟨tc, hc⟩, hb⟩ F' hIo hl'
    obtain ⟨z, tz, rfl, hz⟩ := hw.item i v (by simpa using hv)
    refine wpAny_execs_cons ?_
    refine wpAny_If ?_
    refine isTrue_or ?_
    refine wpAny_isTrue_Compare1 ?_
    refine nameX_L F' (by rfl) ?_
    refine nameX_L F' (by exact hb) ?_
    have hti := ht i z tz (by simpa using hv)
    refine is_str (G.keeps F'.keep) hti.1 hu hti.2 (fun r hr => ?_)
    refine wpAny_truthy_bool ?_
    have hstep : cnt b (ws.take (i + 1)) = cnt b (ws.take i) + (if z = b then 1 else 0) := by
      rw [List.take_add_one, hz]
      exact cnt_snoc _ _ _
    have hJ' : z ≠ b → cnt b (ws.take (i + 1)) = cnt b (ws.take i) := fun n => by rw [hstep, if_neg n]; rfl
    have hJ1 : z = b → ((cnt b (ws.take (i + 1)) : Nat) : Int) = (cnt b (ws.take i) : Int) + 1 := fun e => by rw [hstep, if_pos e]; rfl
    have hne : ∀ c ∈ [I, l], c ≠ L := fun c hcm => by
      rcases List.mem_cons.mp hcm with rfl | hcm
      · exact hIL
      · rw [List.mem_singleton.mp hcm]; exact hlk
    cases r with
    | true =>
      simp only [if_true]
      refine wpAny_execs_cons ?_
      refine wpAny_AugAssign_Name ?_
      refine ldS F' (by exact hc) ?_
      refine wpAny_Constant_int ?_
      refine PyProof.Rows.iadd_int ?_
      refine stS F' (fun h₃ F₃ hs₃ => ?_)
      refine wpAny_execs_nil ?_
      refine wpAny_execs_nil ?_
      refine ⟨h₃, _, _, rfl, F₃, fun c hcm o e => hs₃.extBut c o (hne c hcm) e, ⟨_, by rw [hJ1 (hr rfl)]; rfl⟩, ?_⟩
      exact hb
    | false =>
      simp only [Bool.false_eq_true, if_false]
      refine isTrue_or ?_
      refine wpAny_isTrue_Compare1 ?_
      refine nameX_L F' (by rfl) ?_
      refine nameX_L F' (by exact hb) ?_
      refine PyProof.Rows.eq_str ?_
      refine wpAny_truthy_bool ?_
      by_cases hzb : z = b
      · rw [if_pos (by simpa using hzb)]
        simp only [if_true]
        refine wpAny_execs_cons ?_
        refine wpAny_AugAssign_Name ?_
        refine ldS F' (by exact hc) ?_
        refine wpAny_Constant_int ?_
        refine PyProof.Rows.iadd_int ?_
        refine stS F' (fun h₃ F₃ hs₃ => ?_)
        refine wpAny_execs_nil ?_
        refine wpAny_execs_nil ?_
        refine ⟨h₃, _, _, rfl, F₃, fun c hcm o e => hs₃.extBut c o (hne c hcm) e, ⟨_, by rw [hJ1 hzb]; rfl⟩, ?_⟩
        exact hb
      · rw [if_neg (by simpa using hzb)]
        refine isTrue_or_nil ?_
        simp only [Bool.false_eq_true, if_false]
        refine wpAny_execs_nil ?_
        refine wpAny_execs_nil ?_
        exact ⟨h, tk, _, rfl, F', fun _ _ _ e => e, ⟨tc, by rw [hJ' hzb]; exact hc⟩, hb⟩
  · rintro h' tk m' F' ⟨⟨t, hc⟩, hb⟩
    refine wpAny_execs_cons ?_
    refine wpAny_Return_some ?_
    refine nameX_L F' hc ?_
    rw [hlen, List.take_length]
    exact h h' t tk F'.keep
end
end Mine
end

section
open PySem PySem.W PyProof.Rows PySem.Calls
open Sem (wp)
set_option Elab.async false
set_option maxRecDepth 100000
set_option maxHeartbeats 4000000
namespace Mine

/-- built-ins that may hold a bytearray while they run -/
def holders : List String := ["bytearray.__contains__", "bytearray.__mod__", "bytearray.__rmod__", "_struct.pack_into.held", "bytearray.find.held"] ++ Builtin.Bytes.decodersThatHold
def okCode : Code → Bool
  | .builtin id _ => !holders.contains id
  | _ => true
/-- the stack below holds none of them -/
def CleanB (Γ : Ctx) : Prop := ∀ x ∈ Γ.below, okCode x.1 = true
def CleanI (Γ : Ctx) : Prop := okCode Γ.code = true ∧ CleanB Γ

def wpC {α : Type} (M : Model) (A : Around) (t : Sem α) (Q : α → Shared → Prop) (E : Value → Shared → Prop) (s : Shared) : Prop :=
  ∀ Γ p, Γ.In A → CleanI Γ → wp M Γ t (fun a _ s' => Q a s') (fun e _ s' => E e s') p s
def codeC (M : Model) (A : Around) (c : Code) (R : Result → Shared → Prop) (s : Shared) : Prop :=
  ∀ Γ p, Γ.code = c → Γ.Below A → CleanB Γ → wpCode M Γ R p s

section
variable {α β : Type} {M : Model} {A : Around} {E : Value → Shared → Prop} {s : Shared}
theorem wpC.any {t : Sem α} {Q : α → Shared → Prop} (h : wpAny M A t Q E s) : wpC M A t Q E s := fun Γ p hΓ _ => h Γ p hΓ
theorem codeC.any {c : Code} {R : Result → Shared → Prop} (h : codeAny M A c R s) : codeC M A c R s := fun Γ p hc hΓ _ => h Γ p hc hΓ
theorem wpC_mono {t : Sem α} {Q Q' : α → Shared → Prop} {E' : Value → Shared → Prop} (h : wpC M A t Q E s)
    (hQ : ∀ a s, Q a s → Q' a s) (hE : ∀ e s, E e s → E' e s) : wpC M A t Q' E' s :=
  fun Γ p hΓ hC => Sem.wp_mono M Γ t (fun a _ s => hQ a s) (fun e _ s => hE e s) p s (h Γ p hΓ hC)
theorem wpC_pure {a : α} {Q : α → Shared → Prop} (h : Q a s) : wpC M A (pure a) Q E s := fun _ _ _ _ => h
theorem wpC_bind {m : Sem α} {f : α → Sem β} {Q : β → Shared → Prop} (h : wpC M A m (fun a s' => wpC M A (f a) Q E s') E s) :
    wpC M A (m >>= f) Q E s := fun Γ p hΓ hC => by
  rw [Sem.wp_bind']
  exact Sem.wp_mono M Γ m (fun a p' s' h' => h' Γ p' hΓ hC) (fun _ _ _ h' => h') p s (h Γ p hΓ hC)
theorem wpC_bindA {m : Sem α} {f : α → Sem β} {Q : β → Shared → Prop} (h : wpAny M A m (fun a s' => wpC M A (f a) Q E s') E s) :
    wpC M A (m >>= f) Q E s := wpC_bind (wpC.any h)
theorem wpC_holding {vs : List Value} {m : Sem α} {Q : α → Shared → Prop} (h : wpC M A m Q E s) : wpC M A (holding vs m) Q E s :=
  fun Γ p hΓ hC => by rw [Sem.wp_holding]; exact h Γ p hΓ hC
theorem wpC_of_eq {t : Sem α} {a : α} {Q : α → Shared → Prop} (e : t = pure a) (h : Q a s) : wpC M A t Q E s := wpC.any (wpAny_of_eq e h)
theorem wpC_onRaise {m : Sem α} {k : Value → Sem Unit} {Q : α → Shared → Prop}
    (h : wpC M A m Q (fun e s' => wpAny M A (k e) (fun _ s'' => E e s'') E s') s) : wpC M A (m.onRaise k) Q E s := fun Γ p hΓ hC => by
  rw [Sem.wp_onRaise]
  exact Sem.wp_mono M Γ m (fun _ _ _ h' => h') (fun e p' s' h' => h' Γ p' hΓ) p s (h Γ p hΓ hC)
theorem wpC_units_le {t : Sem α} {Q : α → Shared → Prop} {u : Nat} (h : wpC M A t Q E s) (hu : u ≤ A.units) : wpC M { A with units := u } t Q E s :=
  fun Γ p hΓ hC => h Γ p (hΓ.units_le hu) hC

theorem CleanI.enter {Γ : Ctx} (h : CleanI Γ) (c : Code) (hd : Option Value) (p : Pos) : CleanB (Γ.enter c hd p) := fun x hx => by
  have hx' : x ∈ (Γ.code, p) :: Γ.below := hx
  rcases List.mem_cons.mp hx' with rfl | hx'
  · exact h.1
  · exact h.2 x hx'

theorem codeC_mono {c : Code} {R R' : Result → Shared → Prop} (h : codeC M A c R s) (hR : ∀ r s, R r s → R' r s) : codeC M A c R' s :=
  fun Γ p hc hΓ hC => wpCode_mono hR (h Γ p hc hΓ hC)
theorem wpC_run {c : Code} {h : Option Value} {Q : Flow → Shared → Prop}
    (hc : codeC M (A.mark h) c (fun r s' => match r with | .ok f => Q f s' | .error e => E e s') s) (hnb : h ≠ some byPass := by intro x; cases x) :
    wpC M A (run c h) Q E s :=
  fun Γ p hΓ hC => by rw [Sem.wp_run]; exact hc _ p rfl (hΓ.enter c h p hnb) (hC.enter c h p)
theorem wpC_runValue {c : Code} {Q : Value → Shared → Prop}
    (hc : codeC M A c (fun r s' => match r with | .ok (.ret v) => Q v s' | .ok _ => False | .error e => E e s') s) :
    wpC M A (runValue c) Q E s := fun Γ p hΓ hC => by rw [Sem.wp_runValue]; exact hc _ p rfl (hΓ.enter c none p (by intro x; cases x)) (hC.enter c none p)
theorem wpC_call {f : Value} {pos : List Value} {kw : List (Str × Value)} {Q : Value → Shared → Prop}
    (hc : codeC M A (.call f ⟨pos, kw⟩) (fun r s' => match r with | .ok (.ret v) => Q v s' | .ok _ => False | .error e => E e s') s) :
    wpC M A (call f pos kw) Q E s := wpC_runValue hc

theorem codeC_of_tree {c : Code} {R : Result → Shared → Prop} (hok : okCode c = true)
    (h : wpC M (A.under c) (M.den c) (fun fin s' => match fin with | .done f => R (.ok f) s' | .again c' => c'.quiet = true ∧ codeC M A c' R s')
      (fun e s' => R (.error e) s') s) : codeC M A c R s := fun Γ p hc hΓ hC => by
  rw [wpCode_iff_wp, hc]
  have hI : CleanI Γ := ⟨hc ▸ hok, hC⟩
  refine Sem.wp_mono M Γ _ (fun fin p' s' h' => ?_) (fun _ _ _ h' => h') p s (h Γ p (hc ▸ hΓ.in) hI)
  cases fin with
  | done f => exact h'
  | again c' => exact ⟨h'.1, h'.2 (Γ.goto c') p' rfl (hΓ.goto c') hC⟩

theorem codeC_loop {c : Code} {R : Result → Shared → Prop} (hok : okCode c = true) (I : Nat → Shared → Prop)
    (turn : ∀ n s, I n s → wpC M (A.under c) (M.den c)
      (fun fin s' => match fin with | .done f => R (.ok f) s' | .again c' => c'.quiet = true ∧ ((c' = c ∧ ∃ m, m < n ∧ I m s') ∨ codeC M A c' R s')) (fun e s' => R (.error e) s') s)
    (n : Nat) (h : I n s) : codeC M A c R s := by
  induction n using Nat.strongRecOn generalizing s with
  | ind n ih =>
    refine codeC_of_tree hok (wpC_mono (turn n s h) (fun fin s' hf => ?_) fun _ _ h' => h')
    cases fin with
    | done f => exact hf
    | again c' =>
      obtain ⟨hq, ⟨rfl, m, hm, hI⟩ | hc⟩ := hf
      · exact ⟨hq, ih m hm hI⟩
      · exact ⟨hq, hc⟩
end

section
variable {M : Model} {A : Around} {E : Value → Shared → Prop} {s : Shared} {env : Env}
theorem wpC_execs_cons {st rest} {Q : Flow → Shared → Prop}
    (h : wpC M A (exec st env) (fun f s' => match f with | .next => wpC M A (execs rest env) Q E s' | f => Q f s') E s) :
    wpC M A (execs (st :: rest) env) Q E s := fun Γ p hΓ hC => by
  rw [execs_cons, Sem.wp_bind']
  refine Sem.wp_mono M Γ _ (fun f p' s' h' => ?_) (fun _ _ _ h' => h') _ _ (h Γ p hΓ hC)
  cases f <;> first | exact h' Γ p' hΓ hC | exact h'
theorem wpC_execs_nil {Q : Flow → Shared → Prop} (h : Q .next s) : wpC M A (execs [] env) Q E s := fun _ _ _ _ => h
theorem wpC_Assign_Name {x pos' value pos} {Q : Flow → Shared → Prop}
    (h : wpC M A (eval value env) (fun v s₁ => wpAny M A (storeName env x v) (fun _ => Q .next) E s₁) E s)
    (hs : swapsWith value (some (.Name x pos')) pos.line env = pure false := by rfl) :
    wpC M A (exec (.Assign [.Name x pos'] value pos) env) Q E s := fun Γ p hΓ hC => by
  simp only [exec_Assign_Name env x pos' value pos hs, Sem.wp_bind', Sem.wp_cmd_standAt, Sem.wp_bindName, Sem.wp_pure']
  exact Sem.wp_mono M Γ _ (fun v _ s₁ h₁ => h₁ Γ _ hΓ) (fun _ _ _ h' => h') _ _ (h Γ _ hΓ hC)
theorem wpC_Return_some {e pos} {Q : Flow → Shared → Prop} (h : wpC M A (eval e env) (fun v => Q (.ret v)) E s) :
    wpC M A (exec (.Return (some e) pos) env) Q E s := fun Γ p hΓ hC => by
  simp only [exec_Return_some, Sem.wp_bind', Sem.wp_cmd_standAt, Sem.wp_pure']; exact h Γ _ hΓ hC
theorem wpC_If {test body orelse pos} {Q : Flow → Shared → Prop}
    (h : wpAny M A (isTrue test env (eval test env))
      (fun b s₂ => if b then wpC M A (execs body env) Q E s₂ else wpC M A (execs orelse env) Q E s₂) E s) :
    wpC M A (exec (.If test body orelse pos) env) Q E s := fun Γ p hΓ hC => by
  simp only [exec_If, Sem.wp_bind', Sem.wp_cmd_standAt]
  refine Sem.wp_mono M Γ _ (fun b p₂ s₂ h₂ => ?_) (fun _ _ _ h' => h') _ _ (h Γ _ hΓ)
  cases b <;> exact h₂ Γ p₂ hΓ hC
theorem wpC_IfExp {test body orelse pos} {Q : Value → Shared → Prop}
    (h : wpAny M A (isTrue test env (eval test env)) (fun c s₂ => if c then wpC M A (eval body env) Q E s₂ else wpC M A (eval orelse env) Q E s₂) E s) :
    wpC M A (eval (.IfExp test body orelse pos) env) Q E s := by
  rw [eval_IfExp]
  refine wpC_bindA (wpAny_mono h (fun c s₂ h₂ => ?_) fun _ _ x => x)
  cases c <;> exact h₂
theorem wpC_BoolOp_and {e₁ e₂ rest pos} {Q : Value → Shared → Prop}
    (h : wpAny M A (eval e₁ env) (fun v s₁ => wpAny M A (truthy v) (fun c s₂ => if c then wpC M A (eval (.BoolOp .And (e₂ :: rest) pos) env) Q E s₂ else Q v s₂) E s₁) E s) :
    wpC M A (eval (.BoolOp .And (e₁ :: e₂ :: rest) pos) env) Q E s := by
  show wpC M A (do
    let v ← eval e₁ env
    standAt pos
    let c ← holding [v] (truthy v)
    match BoolOp.And, c with
    | .And, false | .Or, true => pure v
    | _, _ => boolOp pos .And (evalEach (e₂ :: rest) env)) Q E s
  refine wpC_bindA (wpAny_mono h (fun v s₁ h₁ => ?_) fun _ _ x => x)
  refine wpC_bindA (wpAny_standAt ?_)
  refine wpC_bindA (wpAny_holding (wpAny_mono h₁ (fun c s₂ h₂ => ?_) fun _ _ x => x))
  cases c
  · exact wpC_pure h₂
  · exact h₂
theorem wpC_BoolOp_one {op e pos} {Q : Value → Shared → Prop} (h : wpC M A (eval e env) Q E s) : wpC M A (eval (.BoolOp op [e] pos) env) Q E s := h
end
end Mine
end

section
open PySem PySem.W PyProof.Rows PySem.Calls
open Sem (wp)
set_option Elab.async false
set_option maxRecDepth 100000
set_option maxHeartbeats 4000000
namespace Mine

section
variable {w : World} {A : Around} {s : Shared} {env : Env} {R : Result → Shared → Prop}

theorem wpC_runOwn {c : Code} {Q : Flow → Shared → Prop}
    (hc : codeC (model P₀ w) A c (fun r s' => match r with | .ok f => Q f s' | .error _ => False) s) :
    wpC (model P₀ w) A (runOwn c env) Q (fun _ _ => False) s := by
  unfold runOwn
  exact wpC_onRaise (wpC_run (codeC_mono hc fun r s' h => by cases r <;> first | exact h | exact h.elim))

theorem wpC_For {target iter : PySem.Expr} {body pos} {Q : Flow → Shared → Prop}
    (h : wpC (model P₀ w) A (eval iter env) (fun x s₁ => wpAny (model P₀ w) A (pyIter x) (fun it s₂ =>
      codeC (model P₀ w) A (.forLoop target it body [] env) (fun r s' => match r with | .ok f => Q f s' | .error _ => False) s₂) (fun _ _ => False) s₁) (fun _ _ => False) s)
    (hs : ∀ x, foldedSetIterable iter env x = pure x := by intro _; rfl) :
    wpC (model P₀ w) A (exec (.For target iter body [] pos) env) Q (fun _ _ => False) s := by
  rw [exec_For]
  exact wpC_bindA (wpAny_standAt (wpC_bind (wpC_mono h (fun x s₁ h₁ => wpC_bindA (wpAny_of_eq (hs x) (wpC_bindA (wpAny_standAt (wpC_bindA (wpAny_holding
    (wpAny_mono h₁ (fun it s₂ h₂ => wpC_runOwn h₂) fun _ _ h' => h'))))))) fun _ _ h' => h')))

theorem codeC_forLoop {target : PySem.Expr} {it body} (I : Nat → Shared → Prop)
    (turn : ∀ n s, I n s → wpAny (model P₀ w) A (pyNext it) (fun r s₁ => match r with
      | none => R (.ok .next) s₁
      | some v => wpAny (model P₀ w) A (assign target env v) (fun _ s₂ => wpC (model P₀ w) A (execs body env) (fun f s₃ => match f with
          | .next | .cont => ∃ m, m < n ∧ I m s₃
          | .brk => R (.ok .next) s₃
          | .ret v => R (.ok (.ret v)) s₃) (fun _ _ => False) s₂) (fun _ _ => False) s₁) (fun _ _ => False) s)
    (n : Nat) (h : I n s) (ht : ∀ v, letOwnedTupleGo target it v = pure () := by intro _; rfl) : codeC (model P₀ w) A (.forLoop target it body [] env) R s := by
  refine codeC_loop rfl I (fun n s hI => ?_) n h
  show wpC _ _ ((forTurn target it body [] env).onRaise (fun x => do noteFrame x env; theTreesLotGoes x)) _ _ s
  refine wpC_onRaise (wpC_mono (E := fun _ _ => False) ?_ (fun _ _ q => q) fun _ _ f => f.elim)
  simp only [forTurn]
  refine wpC_bindA (wpAny_standAt (wpC_bindA (wpAny_onRaise (wpAny_mono (turn n s hI) (fun r s₁ h₁ => ?_) fun _ _ h' => h'.elim))))
  cases r with
  | none => exact wpC_pure ⟨rfl, .inr (codeC.any (codeAny_block (wpAny_execs_nil h₁)))⟩
  | some v =>
    refine wpC_bindA (wpAny_of_eq (ht v) ?_)
    refine wpC_bindA (wpAny_mono h₁ (fun _ s₂ h₂ => wpC_bind (wpC_mono h₂ (fun f s₃ h₃ => ?_) fun _ _ h' => h')) fun _ _ h' => h')
    cases f with
    | next => exact wpC_pure ⟨rfl, .inl ⟨rfl, h₃⟩⟩
    | cont => exact wpC_pure ⟨rfl, .inl ⟨rfl, h₃⟩⟩
    | brk => exact wpC_pure h₃
    | ret v => exact wpC_pure h₃

theorem codeC_func {body env} (h : wpC (model P₀ w) (A.deeper env) (execs body env) (fun f s' => R (.ok (.ret (match f with | .ret v => v | _ => .none))) s') (fun _ _ => False) s) :
    codeC (model P₀ w) A (.func body env) R s := by
  refine codeC_of_tree rfl ?_
  show wpC _ (A.deeper env) (do point; match ← (execs body env).onRaise (leaving env) with | .ret v => ret v | _ => ret .none) _ _ s
  refine wpC_bindA (wpAny_point (wpC_bind (wpC_onRaise (wpC_mono h (fun f s' h' => ?_) fun _ _ h' => h'.elim))))
  cases f <;> exact wpC_pure h'

theorem codeC_call_function {a : Addr} {args : Args} {o : Obj} {fd : FuncData} {body : List Stmt} (hroom : A.depth < recursionLimit)
    (ho : s.heap.get? a = some o)
    (hd' : o.data = .func fd) (hco : fd.scope.isCoroutine = false) (hgen : fd.scope.isGenerator = false) (hbody : fd.body = .stmts body) (hcd : s.heap.CodeRec fd.code fd.qualname)
    (h : wpAny (model P₀ w) A.in1 (bindArgs fd args) (fun binds s₁ =>
      wpAny (model P₀ w) A.in1 (newFunctionEnv fd.scope fd.globals fd.closure binds (fd.qualname ++ ".<locals>.") (some a) fd.code none fd.builtins)
        (fun env s₂ => s₂.heap.NoLimit ∧ codeC (model P₀ w) A (.func body env) R s₂) (fun e s' => R (.error e) s') s₁) (fun e s' => R (.error e) s') s) :
    codeC (model P₀ w) A (.call (.ref a) args) R s := by
  refine codeC_of_tree rfl ?_
  show wpC _ A.in1 (callAny (.ref a) args) _ _ s
  simp only [callAny]
  refine wpC_bindA (wpAny_load ho ?_)
  obtain ⟨c, oc, vs, tq, hc, hoc, hdc, hq⟩ := hcd
  simp only [hd', callFunction, hco, hgen, hbody, hc]
  rw [hc] at h
  refine wpC_bindA (m := field (.ref c) 1) (wpAny_field hoc hdc hq (wpC_bindA (wpAny_pure ?_)))
  exact wpC_bindA (wpAny_mono h (fun binds s₁ h₁ => wpC_bindA (wpAny_mono h₁ (fun env s₂ h₂ => wpC_bindA (wpAny_enterFrame h₂.1 hroom
    (wpC_pure (And.intro rfl h₂.2)))) fun _ _ h' => h')) fun _ _ h' => h')

theorem callWithC_function {E : Value → Shared → Prop} {pos : Pos} {a : Addr} {o : Obj} {fd : FuncData} {args : List (Bool × Sem Value)} {Q : Value → Shared → Prop}
    (h : wpC (model P₀ w) A (evalArgs (.ref a) true args []) (fun x s₁ => (s₁.heap.get? a = some o ∧ o.data = .func fd) ∧ wpC (model P₀ w) A (call (.ref a) x.pos x.kw) Q E s₁) E s) :
    wpC (model P₀ w) A (callWith pos (.ref a) [] args []) Q E s := by
  unfold callWith
  refine wpC_bind (wpC_holding (wpC_mono h (fun x s₁ h₁ => wpC_bindA (wpAny_standAt ?_)) fun _ _ x => x))
  have tail : ∀ {t : Sem Value}, wpC (model P₀ w) A t Q E s₁ → wpC (model P₀ w) A (t >>= fun r => holding [r] point >>= fun _ => pure r) Q E s₁ :=
    fun ht => wpC_bind (wpC_mono ht (fun r s₂ hr => wpC_bindA (wpAny_holding (wpAny_point (wpC_pure hr)))) fun _ _ x => x)
  have keep : ∀ {vs : List Value} {t : Sem Value}, wpC (model P₀ w) A t Q E s₁ → wpC (model P₀ w) A (t.keep vs) Q E s₁ :=
    fun ht Γ p hΓ hC => by rw [Sem.wp_keep]; exact ht Γ p hΓ hC
  have h2 : wpC (model P₀ w) A (call (.ref a) ([] ++ x.pos) x.kw) Q E s₁ := h₁.2
  cases hs : args.any (·.1) <;> simp only [List.any_nil, Bool.or_false] <;>
    refine wpC_bindA (m := keeperOf (.ref a)) ?_ <;> unfold keeperOf <;>
    refine wpAny_bind (wpAny_load h₁.1.1 ?_) <;> rw [h₁.1.2] <;> refine wpAny_pure ?_
  all_goals
    repeat' split
    all_goals first
      | (refine tail (t := call _ _ _) ?_; exact h2)
      | (refine tail (t := callMarked _ _ _ _) ?_; unfold callMarked; exact keep h2)

theorem evalArgsC_plain {E : Value → Shared → Prop} {f : Value} {x : Sem Value} {rest : List (Bool × Sem Value)} {Q : Args → Shared → Prop}
    (h : wpC (model P₀ w) A (spliced ((false, x) :: rest)) (fun vs s' => Q ⟨vs, []⟩ s') E s) : wpC (model P₀ w) A (evalArgs f true ((false, x) :: rest) []) Q E s := by
  unfold evalArgs
  show wpC _ A (spliced ((false, x) :: rest) >>= _) Q E s
  refine wpC_bind (wpC_mono h (fun vs s' h' => ?_) fun _ _ x => x)
  refine wpC_holding ?_
  exact wpC_bindA (wpAny_pure (wpC_bindA (wpAny_pure (wpC_pure h'))))

theorem splicedC_nil {E : Value → Shared → Prop} {Q : List Value → Shared → Prop} (h : Q [] s) : wpC (model P₀ w) A (spliced []) Q E s := wpC_pure h
theorem splicedC_cons {E : Value → Shared → Prop} {x : Sem Value} {rest : List (Bool × Sem Value)} {Q : List Value → Shared → Prop}
    (h : wpC (model P₀ w) A x (fun v s₁ => wpC (model P₀ w) A (spliced rest) (fun vs s₂ => Q (v :: vs) s₂) E s₁) E s) : wpC (model P₀ w) A (spliced ((false, x) :: rest)) Q E s := by
  rw [spliced]
  refine wpC_bind (wpC_mono h (fun v s₁ h₁ => ?_) fun _ _ x => x)
  simp only [Bool.false_eq_true, if_false]
  exact wpC_bindA (wpAny_pure (wpC_bind (wpC_holding (wpC_mono h₁ (fun vs s₂ h₂ => wpC_pure h₂) fun _ _ x => x))))

variable {mg mb : Str → Option Value}
/-- a call of a def by its name -/
theorem callC_def {E : Value → Shared → Prop} {x : Str} {p pos : Pos} {e : PySem.Expr} {rest : List PySem.Expr} {f : Addr} {k : Nat} {Q : Value → Shared → Prop} (G : Gd mg mb s.heap) (hk : k ∈ defs) (hn : nameK k = x) (hf : mg x = some (.ref f))
    (h : wpC (model P₀ w) A (spliced (backTo pos (starEach (e :: rest) env))) (fun vs s₁ => Keep s.heap s₁.heap ∧ wpC (model P₀ w) A (call (.ref f) vs) Q E s₁) E s)
    (hg : env.globals = mainGlobals := by rfl) (hkf : env.scope.kind = .function := by rfl) (hx : env.kindOf x = some .globalImplicit := by rfl) (hd : (x == ("__debug__" : Str)) = false := by decide)
    (he : starEach (e :: rest) env = (false, eval e env) :: starEach rest env := by rfl) :
    wpC (model P₀ w) A (eval (.Call (.Name x p) (e :: rest) [] pos) env) Q E s := by
  show wpC _ A (eval (.Name x p) env >>= _) Q E s
  refine wpC_bindA (nm_def G hf ?_ hg hkf hx hd)
  obtain ⟨a, o, pm, code, doc, h1, h2, h3, _⟩ := G.fn k hk
  have e1 : a = f := by
    rw [hn, hf] at h1
    exact (Value.ref.inj (Option.some.inj h1)).symm
  subst e1
  show wpC _ A (callWith pos (.ref a) [] (backTo pos (starEach (e :: rest) env)) []) Q E s
  rw [he] at h ⊢
  exact callWithC_function (o := o) (fd := _) (evalArgsC_plain (wpC_mono h (fun vs s₁ h₁ => ⟨⟨h₁.1 _ _ h2, h3⟩, h₁.2⟩) fun _ _ x => x))

theorem callC_in {k : Nat} {f : Addr} {args : List Value} {binds : List (Str × Value)} {Q : Value → Shared → Prop} (G : Gd mg mb s.heap) (hk : k ∈ defs) (hf : mg (nameK k) = some (.ref f))
    (hd : A.depth < recursionLimit)
    (hbind : ∀ pm code doc, bindArgs (docDef (nameK k) (parK k) (bodyK k) (scopeK k) pm code doc) ⟨args, []⟩ = pure binds)
    (hloc : (binds.all fun x => decide ((scopeK k).names.lookup x.1 = some .local)) = true)
    (h : ∀ L code h₁, Fr s.heap L h₁ (fun x => binds.reverse.lookup x) → L = s.heap.objs.size →
      wpC (model P₀ w) (A.deeper (envX (nameK k) (scopeK k) L f code [])) (execs (bodyK k) (envX (nameK k) (scopeK k) L f code []))
        (fun fl s' => Q (match fl with | .ret v => v | _ => .none) s') (fun _ _ => False)
        { s with heap := h₁, toks := s.toks + binds.length })
    (hco : (scopeK k).isCoroutine = false := by rfl) (hgen : (scopeK k).isGenerator = false := by rfl) (hkd : (scopeK k).kind = .function := by rfl)
    (hcell : ∀ x ∈ (scopeK k).names, x.2 ≠ .cell := by decide) :
    wpC (model P₀ w) A (call (.ref f) args) Q (fun _ _ => False) s := by
  obtain ⟨a, o, pm, code, doc, h1, h2, h3, h4⟩ := G.fn k hk
  have e : a = f := by
    rw [hf] at h1
    exact (Value.ref.inj (Option.some.inj h1)).symm
  subst e
  refine wpC_call (codeC_call_function hd h2 h3 hco hgen rfl h4 ?_)
  rw [show bindArgs (docDef (nameK k) (parK k) (bodyK k) (scopeK k) pm code doc) ⟨args, []⟩ = pure binds from hbind pm code doc]
  refine wpAny_pure (wpAny_newFunctionEnv hcell (locs hloc) (fun h₁ hns hsb => ⟨G.lim.fresh _ hsb, codeC_func ?_⟩) hkd)
  exact h _ _ h₁ ⟨hns, fun b o e => hsb.extBut b o (Nat.ne_of_lt (Heap.lt_size e)) (Heap.get?_push_of_some _ e), Nat.le_refl _⟩ rfl

theorem callC_inC {k : Nat} {f : Addr} {args : List Value} {binds : List (Str × Value)} {x : Str} {Q : Value → Shared → Prop} (G : Gd mg mb s.heap) (hk : k ∈ defs) (hf : mg (nameK k) = some (.ref f))
    (hd : A.depth < recursionLimit)
    (hbind : ∀ pm code doc, bindArgs (docDef (nameK k) (parK k) (bodyK k) (scopeK k) pm code doc) ⟨args, []⟩ = pure binds)
    (hloc : (binds.all fun y => (scopeK k).names.lookup y.1 == some .local || ((scopeK k).names.lookup y.1 == some .cell && y.1 == x)) = true)
    (hc : ∀ n, cellsFrom n (scopeK k).names [] = [(x, n)])
    (h : ∀ L code h₁ tk o, Fr s.heap L h₁ (bindL (envX (nameK k) (scopeK k) L f code [(x, L + 1)]).kindOf binds fun _ => none) → News s.heap L h₁ [(L + 1, o)] →
      o.data = .cell (bindC (envX (nameK k) (scopeK k) L f code [(x, L + 1)]).kindOf binds (fun _ => none) x) → L = s.heap.objs.size → s.toks ≤ tk →
      wpC (model P₀ w) (A.deeper (envX (nameK k) (scopeK k) L f code [(x, L + 1)])) (execs (bodyK k) (envX (nameK k) (scopeK k) L f code [(x, L + 1)]))
        (fun fl s' => Q (match fl with | .ret v => v | _ => .none) s') (fun _ _ => False)
        { s with heap := h₁, toks := tk })
    (hco : (scopeK k).isCoroutine = false := by rfl) (hgen : (scopeK k).isGenerator = false := by rfl) (hkd : (scopeK k).kind = .function := by rfl) :
    wpC (model P₀ w) A (call (.ref f) args) Q (fun _ _ => False) s := by
  obtain ⟨a, o, pm, code, doc, h1, h2, h3, h4⟩ := G.fn k hk
  have e : a = f := by
    rw [hf] at h1
    exact (Value.ref.inj (Option.some.inj h1)).symm
  subst e
  refine wpC_call (codeC_call_function hd h2 h3 hco hgen rfl h4 ?_)
  rw [show bindArgs (docDef (nameK k) (parK k) (bodyK k) (scopeK k) pm code doc) ⟨args, []⟩ = pure binds from hbind pm code doc]
  refine wpAny_pure ?_
  refine wpAny_with_toks (n := s.toks) (Nat.le_refl _) (wpAny_newFunctionEnv_cells hkd (fun y hy => ?_) fun env' he s' X htk => ?_)
  · have := List.all_eq_true.mp hloc y hy
    rcases Bool.or_eq_true_iff.mp this with q | q
    · exact .inl (show (scopeK k).names.lookup y.1 = some .local from (by simpa using q))
    · obtain ⟨q1, q2⟩ := Bool.and_eq_true_iff.mp q
      refine .inr ⟨show (scopeK k).names.lookup y.1 = some .cell from (by simpa using q1), ?_⟩
      show ((cellsFrom (s.heap.objs.size + 1) (scopeK k).names []).lookup y.1).isSome = true
      rw [hc, beq_iff_eq.mp q2]
      simp [List.lookup]
  · have he' : env' = envX (nameK k) (scopeK k) s.heap.objs.size a code [(x, s.heap.objs.size + 1)] := by
      rw [he]
      show newEnv (scopeK k) s.heap.objs.size mainGlobals (cellsFrom (s.heap.objs.size + 1) (scopeK k).names []) _ _ _ _ _ = _
      rw [hc]
      rfl
    subst he'
    clear he
    refine ⟨G.lim.keeps X.toInCall.keep, codeC_func ?_⟩
    obtain ⟨h₁, tk, rfl, _⟩ := X.done
    have hcx : (([(x, s.heap.objs.size + 1)] : List (Str × Addr)).lookup x) = some (s.heap.objs.size + 1) := by simp [List.lookup]
    obtain ⟨oc, hoc, hod⟩ := X.cell x (s.heap.objs.size + 1) hcx
    refine wpC_mono (h s.heap.objs.size code h₁ tk oc ⟨X.toInCall.ns, X.toInCall.keep, X.toInCall.fresh⟩ (fun p hp => ?_) hod rfl htk) (fun _ _ q => q) fun _ _ f => f.elim
    rw [List.mem_singleton.mp hp]
    refine ⟨hoc, Nat.succ_ne_self _, ?_⟩
    exact Heap.get?_none_of_le (Nat.le_succ _)
end

section
variable {w : World} {A : Around} {s : Shared} {env : Env} {h₀ : Heap}
theorem forLoop_invC {R : Result → Shared → Prop} {x : Str} {px : Pos} {body : List Stmt} {I : Addr} {fp wr : List Addr} {n : Nat} {P : Nat → Value → Prop} {St : Nat → Heap → Prop} {m : Str → Option Value}
    (W : Walks P₀ w A I fp wr n P St) (hx : env.kindOf x = some .local)
    (hp : (env.scope.kind == .class || (env.scope.kind == .module && env.locals != env.globals)) = false)
    (hLf : env.locals ∉ fp) (hwr : ∀ b ∈ wr, h₀.get? b = none)
    (hst : St 0 s.heap) (F : Fr h₀ env.locals s.heap m)
    (Inv : Nat → (Str → Option Value) → Heap → Nat → Prop) (hS : Stable env.locals wr Inv) (h0 : Inv 0 m s.heap s.toks)
    (step : ∀ i v m₁ h tk, i < n → P i v → Inv i m₁ h tk → Fr h₀ env.locals h (fun y => if y = x then some v else m₁ y) → St (i + 1) h →
      wpC (model P₀ w) A (execs body env) (TurnEnd h₀ env.locals fp Inv i { s with heap := h, toks := tk } (fun f s' => R (.ok f) s'))
        (fun _ _ => False) { s with heap := h, toks := tk })
    (hR : ∀ h' tk m', Fr h₀ env.locals h' m' → Inv n m' h' tk → R (.ok .next) { s with heap := h', toks := tk }) :
    codeC (model P₀ w) A (.forLoop (.Name x px) (.ref I) body [] env) R s := by
  have hLw : env.locals ∉ wr := fun h => hLf (W.sub _ h)
  have old : ∀ b o, h₀.get? b = some o → b ∉ wr := fun b o e hb => by rw [hwr b hb] at e; cases e
  refine codeC_forLoop
    (fun k s' => ∃ h' tk m' i, s' = { s with heap := h', toks := tk } ∧ St i h' ∧ Fr h₀ env.locals h' m' ∧ Inv i m' h' tk ∧ i ≤ n ∧ k = n + 1 - i) ?_ (n + 1)
    ⟨s.heap, s.toks, m, 0, rfl, hst, F, h0, Nat.zero_le _, rfl⟩
  rintro k s' ⟨h', tk, m', i, rfl, hst', F', hJ, hi, rfl⟩
  have next : ∀ h₁ : Heap, (∀ b o, b ∉ wr → h'.get? b = some o → h₁.get? b = some o) → Fr h₀ env.locals h₁ m' := fun h₁ hk₁ =>
    ⟨F'.ns.at' fun o e => hk₁ _ o hLw e, fun b o e => hk₁ b o (old b o e) (F'.keep b o e), F'.above⟩
  by_cases hlt : i < n
  · refine wpAny_with_toks (n := tk) (Nat.le_refl _) (W.item i _ _ _ hlt hst' fun v h₁ tk₁ hP hst₁ hk₁ htk₁ => ?_)
    have F₁ := next h₁ hk₁
    refine wpAny_assign_Name (wpAny_storeName_local hx F₁.ns (fun h₂ hn₂ hs₂ => ?_) hp)
    have F₂ := F₁.set hn₂ hs₂
    have hst₂ : St (i + 1) h₂ := W.frame _ _ _ hst₁ fun b hb o e => (hs₂.2 b fun q => hLf (q ▸ hb)).trans e
    have I₂ : Inv i m' h₂ (tk₁ + 1) := hS _ _ _ _ _ _ (fun b o hb hw e => hs₂.extBut b o hb (hk₁ b o hw e)) (Nat.le_succ_of_le htk₁) hJ
    refine wpC_mono (step i v m' h₂ (tk₁ + 1) hlt hP I₂ F₂ hst₂) (fun f s₃ h₃ => ?_) fun _ _ e => e
    have fin : (∃ h' tk' m', s₃ = { s with heap := h', toks := tk' } ∧ Fr h₀ env.locals h' m' ∧ (∀ b ∈ fp, ∀ o, h₂.get? b = some o → h'.get? b = some o) ∧ Inv (i + 1) m' h' tk') →
        ∃ m_1, m_1 < n + 1 - i ∧ ∃ h' tk m' i, s₃ = { s with heap := h', toks := tk } ∧ St i h' ∧ Fr h₀ env.locals h' m' ∧ Inv i m' h' tk ∧ i ≤ n ∧ m_1 = n + 1 - i := by
      rintro ⟨h₃', tk₃, m₂, rfl, F₃, hk₃, hJ₃⟩
      exact ⟨n + 1 - (i + 1), by omega, h₃', tk₃, m₂, i + 1, rfl, W.frame _ _ _ hst₂ hk₃, F₃, hJ₃, hlt, rfl⟩
    cases f with
    | ret v => exact h₃
    | brk => exact h₃
    | cont => exact fin h₃
    | next => exact fin h₃
  · have hin : i = n := by omega
    subst hin
    refine wpAny_with_toks (n := tk) (Nat.le_refl _) (W.done _ _ _ hst' fun h₁ tk₁ hk₁ htk => ?_)
    exact hR h₁ tk₁ m' (next h₁ hk₁) (hS _ _ _ _ _ _ (fun b o _ hw e => hk₁ b o hw e) htk hJ)

/-- a for statement whose iterable's iterator is a Walks -/
def LoopInC (w : World) (A : Around) (h₀ : Heap) (env : Env) (x : Str) (body : List Stmt) (Q : Flow → Shared → Prop) (it : Value) (s₂ : Shared) : Prop :=
  ∃ (I : Addr) (fp wr : List Addr) (n : Nat) (P : Nat → Value → Prop) (St : Nat → Heap → Prop) (m : Str → Option Value) (Inv : Nat → (Str → Option Value) → Heap → Nat → Prop),
    it = .ref I ∧ Walks P₀ w A I fp wr n P St ∧ env.locals ∉ fp ∧ (∀ b ∈ wr, h₀.get? b = none) ∧ St 0 s₂.heap ∧ Fr h₀ env.locals s₂.heap m ∧ Stable env.locals wr Inv ∧ Inv 0 m s₂.heap s₂.toks ∧
    (∀ i v m₁ h tk, i < n → P i v → Inv i m₁ h tk → Fr h₀ env.locals h (fun y => if y = x then some v else m₁ y) → St (i + 1) h →
      wpC (model P₀ w) A (execs body env) (TurnEnd h₀ env.locals fp Inv i { s₂ with heap := h, toks := tk } Q) (fun _ _ => False) { s₂ with heap := h, toks := tk }) ∧
    ∀ h' tk m', Fr h₀ env.locals h' m' → Inv n m' h' tk → Q .next { s₂ with heap := h', toks := tk }

theorem For_inC {Q : Flow → Shared → Prop} {x : Str} {px pos : Pos} {iter : PySem.Expr} {body : List Stmt} (hx : env.kindOf x = some .local)
    (hp : (env.scope.kind == .class || (env.scope.kind == .module && env.locals != env.globals)) = false)
    (h : wpC (model P₀ w) A (eval iter env) (fun xv s₁ => wpAny (model P₀ w) A (pyIter xv) (LoopInC w A h₀ env x body Q) (fun _ _ => False) s₁) (fun _ _ => False) s)
    (hs : ∀ x, foldedSetIterable iter env x = pure x := by intro _; rfl) :
    wpC (model P₀ w) A (exec (.For (.Name x px) iter body [] pos) env) Q (fun _ _ => False) s := by
  refine wpC_For (wpC_mono h (fun xv s₁ h₁ => wpAny_mono h₁ (fun it s₂ h₂ => ?_) fun _ _ e => e) fun _ _ e => e) hs
  obtain ⟨I, fp, wr, n, P, St, m, Inv, rfl, W, hLf, hwr, hst, F, hS, h0, step, hQ⟩ := h₂
  exact forLoop_invC (R := fun r s' => match r with | .ok f => Q f s' | .error _ => False) W hx hp hLf hwr hst F Inv hS h0
    step hQ

theorem loop_listC {Q : Flow → Shared → Prop} {x : Str} {body : List Stmt} {l : Addr} {items : Array Value} {m : Str → Option Value} (hh : A.handled = none) (hl : s.heap.IsList l items) (hlL : l ≠ env.locals)
    (F : Fr h₀ env.locals s.heap m) (Inv : Nat → (Str → Option Value) → Heap → Nat → Prop) (hS : ∀ I, s.heap.get? I = none → Stable env.locals [I] Inv) (h0 : Inv 0 m s.heap s.toks)
    (step : ∀ I i v m₁ h tk, s.heap.get? I = none → I ≠ env.locals → i < items.size → items[i]? = some v → Inv i m₁ h tk → Fr h₀ env.locals h (fun y => if y = x then some v else m₁ y) → (∃ o, h.get? I = some o) → h.IsList l items →
      wpC (model P₀ w) A (execs body env) (TurnEnd h₀ env.locals [I, l] Inv i { s with heap := h, toks := tk } Q) (fun _ _ => False) { s with heap := h, toks := tk })
    (done : ∀ h' tk m', Fr h₀ env.locals h' m' → Inv items.size m' h' tk → Q .next { s with heap := h', toks := tk }) :
    wpAny (model P₀ w) A (pyIter (.ref l)) (LoopInC w A h₀ env x body Q) (fun _ _ => False) s := by
  have hI : s.heap.get? s.heap.objs.size = none := fresh_of_size Keep.rfl
  have hlt : l < s.heap.objs.size := by obtain ⟨o, e, _⟩ := hl; exact Heap.lt_size e
  refine wpAny_pyIter_list hl ?_
  have up : ∀ b o, s.heap.get? b = some o → (s.heap.push { cls := .type "list_iterator", data := .fields #[.ref l, .int 0 0] }).get? b = some o := fun b o e => Heap.get?_push_of_some _ e
  refine ⟨_, _, _, items.size, _, _, m, Inv, rfl, Walks.list hh s.heap.objs.size l (Nat.ne_of_lt hlt) items, ?_, ?_, ⟨⟨_, Heap.get?_push_size _ rfl, rfl, rfl⟩, hl.push _⟩, F.push _, hS _ hI, ?_, ?_, ?_⟩
  · intro hm
    rcases List.mem_cons.mp hm with e | hm
    · exact absurd F.ns.lt (e ▸ Nat.lt_irrefl _)
    · exact hlL (List.mem_singleton.mp hm).symm
  · intro b hb
    rw [List.mem_singleton.mp hb]
    exact fresh_of_size F.keep
  · exact hS _ hI _ _ _ _ _ _ (fun b o _ _ e => up b o e) (Nat.le_refl _) h0
  · intro i v m₁ h tk hi hP hJ F' hst'
    refine step s.heap.objs.size i v m₁ h tk hI (Ne.symm (Nat.ne_of_lt F.ns.lt)) hi hP hJ F' ?_ hst'.2
    obtain ⟨o, e, _⟩ := hst'.1
    exact ⟨o, e⟩
  · exact done

theorem loop_rangeC {Q : Flow → Shared → Prop} {x : Str} {body : List Stmt} {r : Addr} {a b c : Int} {t u v : Tok} {n : Nat} {m : Str → Option Value} (hh : A.handled = none) (hr : IsRange s.heap r a b c t u v)
    (hsm : Builtin.Range.small a b c = true) (hn : Builtin.Range.rangeSize a b c = (n : Int))
    (F : Fr h₀ env.locals s.heap m) (Inv : Nat → (Str → Option Value) → Heap → Nat → Prop) (hS : ∀ I, s.heap.get? I = none → Stable env.locals [I] Inv) (h0 : Inv 0 m s.heap s.toks)
    (step : ∀ I i t m₁ h tk, s.heap.get? I = none → I ≠ env.locals → i < n → Inv i m₁ h tk → Fr h₀ env.locals h (fun y => if y = x then some (.int (a + (i : Int) * c) t) else m₁ y) → (∃ o, h.get? I = some o) →
      wpC (model P₀ w) A (execs body env) (TurnEnd h₀ env.locals [I] Inv i { s with heap := h, toks := tk } Q) (fun _ _ => False) { s with heap := h, toks := tk })
    (done : ∀ h' tk m', Fr h₀ env.locals h' m' → Inv n m' h' tk → Q .next { s with heap := h', toks := tk }) :
    wpAny (model P₀ w) A (pyIter (.ref r)) (LoopInC w A h₀ env x body Q) (fun _ _ => False) s := by
  have hI : s.heap.get? s.heap.objs.size = none := fresh_of_size Keep.rfl
  refine wpAny_pyIter_range hr hsm ?_
  refine ⟨_, _, _, n, _, _, m, Inv, rfl, Walks.range hh s.heap.objs.size a c n, ?_, ?_, (by show IsRangeIter _ _ _ _ _; rw [hn]; simpa using Heap.get?_push_size _ rfl), F.push _, hS _ hI, ?_, ?_, ?_⟩
  · intro hm
    exact absurd F.ns.lt ((List.mem_singleton.mp hm) ▸ Nat.lt_irrefl _)
  · intro b hb
    rw [List.mem_singleton.mp hb]
    exact fresh_of_size F.keep
  · exact hS _ hI _ _ _ _ _ _ (fun b o _ _ e => Heap.get?_push_of_some _ e) (Nat.le_refl _) h0
  · rintro i v m₁ h tk hi ⟨t, rfl⟩ hJ F' hst'
    exact step s.heap.objs.size i t m₁ h tk hI (Ne.symm (Nat.ne_of_lt F.ns.lt)) hi hJ F' ⟨_, hst'⟩
  · exact done
end
end Mine
end

section
open PySem PySem.W PyProof.Rows PySem.Calls
open Sem (wp)
set_option Elab.async false
set_option maxRecDepth 100000
set_option maxHeartbeats 4000000
namespace Mine
theorem ba_mro : mroOf (.type "bytearray") = pure [.type "bytearray", .type "object"] := by rw [mroOf_type]; kernel_rfl
theorem ba_lookup_new : typeLookup (.type "bytearray") "__new__" = pure (some (.builtin "bytearray.__new__")) := by rw [typeLookup_type, builtinLookup_eq_fast]; kernel_rfl
theorem ba_slot_init : Slot "bytearray" "__init__" "bytearray.__init__" :=
  .of (owner := "bytearray") (n := "__init__") (by rw [typeLookup_type, builtinLookup_eq_fast]; kernel_rfl) (by decide +kernel) (by decide +kernel) (by decide +kernel)
    (by first | exact .inl (by decide +kernel) | exact .inr (by decide +kernel)) (by rw [isSubtype_type]; kernel_rfl)
theorem ba_called : TypeCalled "bytearray" "bytearray.__new__" "bytearray.__init__" :=
  ⟨by decide +kernel, by decide +kernel, ⟨_, _, ba_mro⟩, madeBy_type ba_mro ba_lookup_new (by decide +kernel), by decide +kernel, by rw [isSubtype_type]; kernel_rfl, ba_slot_init⟩
theorem ba_typeCall (a : Value) : checkTypeCall "bytearray" ⟨[a], []⟩ = pure () := by kernel_rfl
theorem ba_newCall (a : Value) : checkBuiltinCall "bytearray.__new__" ⟨[.type "bytearray", a], []⟩ = pure () := by kernel_rfl
theorem ba_plain : plainId "bytearray.__new__" = true := by decide +kernel
theorem ba_entry : entryFor table "bytearray.__new__" = some Builtin.«list.__new__» :=
  entryFor_alias (id' := "list.__new__") (by kernel_rfl) (by first | rfl | decide +kernel) (by decide +kernel) (by kernel_rfl)
theorem ba_entry_init : entryFor table "bytearray.__init__" = some Builtin.«bytearray.__init__» := by first | exact entryFor_of_fast (by kernel_rfl) | exact entryFor_of_tree (by kernel_rfl)
theorem ba_owner : ("bytearray.__new__".splitOn ".__new__").headD "" = "bytearray" := by simp +decide [String.splitOn, String.splitOnAux]
theorem ba_sub : isSubtype (.type "bytearray") (.type "bytearray") = pure true := by rw [isSubtype_type]; kernel_rfl
theorem ba_release : typeLookup (.type "bytearray") "__release_buffer__" = pure (some (.builtin "bytearray.__release_buffer__")) := by rw [typeLookup_type, builtinLookup_eq_fast]; kernel_rfl
theorem ba_buffer : typeLookup (.type "bytearray") "__buffer__" = pure (some (.builtin "bytearray.__buffer__")) := by rw [typeLookup_type, builtinLookup_eq_fast]; kernel_rfl
theorem int_index : typeLookup (.type "int") "__index__" = pure (some (.builtin "int.__index__")) := by rw [typeLookup_type, builtinLookup_eq_fast]; kernel_rfl
theorem ba_bind (v : Value) : Builtin.Bytes.bindOptional "bytearray.__init__" "bytearray" ["source", "encoding", "errors"] [v] [] = pure [some v, none, none] := by kernel_rfl
theorem ba_slot_set : Slot "bytearray" "__setitem__" "bytearray.__setitem__" :=
  .of (owner := "bytearray") (n := "__setitem__") (by rw [typeLookup_type, builtinLookup_eq_fast]; kernel_rfl) (by decide +kernel) (by decide +kernel) (by decide +kernel)
    (by first | exact .inl (by decide +kernel) | exact .inr (by decide +kernel)) (by rw [isSubtype_type]; kernel_rfl)
theorem ba_entry_set : entryFor table "bytearray.__setitem__" = some Builtin.«bytearray.__setitem__» := by first | exact entryFor_of_fast (by kernel_rfl) | exact entryFor_of_tree (by kernel_rfl)

def baO (b : Array UInt8) : Obj := { cls := .type "bytearray", data := .bytearray b }
section
variable {w : World} {A : Around} {E : Value → Shared → Prop} {s : Shared}

theorem wpC_if_false {α : Type} {M : Model} {c : Bool} {a b : Sem α} {Q : α → Shared → Prop} (hc : c = false) (h : wpC M A b Q E s) : wpC M A (if c = true then a else b) Q E s := by
  subst hc
  exact h
theorem wpC_if_true {α : Type} {M : Model} {c : Bool} {a b : Sem α} {Q : α → Shared → Prop} (hc : c = true) (h : wpC M A a Q E s) : wpC M A (if c = true then a else b) Q E s := by
  subst hc
  exact h

theorem ba_typeIs {a : Addr} {b : Array UInt8} (ho : s.heap.get? a = some (baO b)) : s.TypeIs (.ref a) "bytearray" := ⟨_, ho, rfl⟩

theorem write_ba {a : Addr} {b : Array UInt8} {f : Array UInt8 → Array UInt8} {Q : Unit → Shared → Prop} (ho : s.heap.get? a = some (baO b)) (hz : (f b).size ≤ sizeLine)
    (h : ∀ h', Heap.SameBut a s.heap h' → h'.get? a = some (baO (f b)) → Q () { s with heap := h' }) : wpAny (model P₀ w) A (Builtin.Bytes.write (.ref a) f) Q E s := by
  show wpAny _ _ (updateBytearray a f) _ _ _
  unfold updateBytearray
  refine wpAny_bind (wpAny_load ho ?_)
  show wpAny _ _ (update a (Obj.mapBytearray f) >>= fun _ => lookBehind a) _ _ _
  refine wpAny_bind (wpAny_update ho ?_)
  have h2 : (s.heap.update a (Obj.mapBytearray f)).get? a = some (baO (f b)) := Heap.get?_update_self (Obj.mapBytearray f) ho rfl
  refine wpAny_lookBehind h2 ?_ (h _ (Heap.SameBut.update ..) h2)
  show (if (f b).size > sizeLine then some "bytearray:memory" else none) = none
  rw [if_neg (Nat.not_lt.mpr hz)]

theorem ba_new (a : Value) {Q₁ : Value → Shared → Prop}
    (h : Q₁ (.ref s.heap.objs.size) { s with heap := s.heap.push (baO #[]) }) :
    codeAny (model P₀ w) A (.call (.builtin "bytearray.__new__") ⟨[.type "bytearray", a], []⟩) (wants Q₁ E) s := by
  refine codeAny_of_tree ?_
  show wpAny _ A.in1 (do checkBuiltinCall "bytearray.__new__" ⟨[.type "bytearray", a], []⟩; again (.builtin "bytearray.__new__" ⟨[.type "bytearray", a], []⟩)) _ _ s
  refine wpAny_bind (wpAny_of_eq (ba_newCall a) (wpAny_pure ⟨plainId_quiet ba_plain _, codeAny_builtin_stack ba_entry rfl fun p st => ?_⟩))
  rw [Around.under_plainId ba_plain _]
  have hsub := ba_sub
  have hown := ba_owner
  obtain ⟨hp, g, d, tk, os⟩ := s
  simp only [hown]
  wp_walk
  exact h

theorem ba_release_own {a : Addr} {b : Array UInt8} {Q : Bool → Shared → Prop} (ho : s.heap.get? a = some (baO b)) (h : Q false s) : wpAny (model P₀ w) A (Builtin.Bytes.ownRelease (.ref a)) Q E s := by
  unfold Builtin.Bytes.ownRelease Builtin.Bytes.slotIsOwn
  refine wpAny_bind (wpAny_bind (wpAny_specialOf (ba_typeIs ho) ba_release ?_))
  refine bm_if_false (by decide +kernel) ?_
  exact wpAny_isInstance (ba_typeIs ho) (b := true) (by rw [isSubtype_type]; kernel_rfl) (wpAny_pure h)

theorem ba_exported {v : Value} {Q : Bool → Shared → Prop} (h : Q false s) : wpC (model P₀ w) A (Builtin.Bytes.exported v) Q E s := fun Γ p hΓ hC => by
  show Q (((Γ.code, p) :: Γ.below).any _) s
  rw [List.any_eq_false.mpr (fun x hx => ?_)]
  · exact h
  have hx' : okCode x.1 = true := by
    rcases List.mem_cons.mp hx with rfl | hx
    · exact hC.1
    · exact hC.2 x hx
  clear hC hΓ hx h
  obtain ⟨c, q⟩ := x
  simp only [okCode] at hx'
  split
  all_goals rename_i heq
  all_goals first
    | (cases heq; exact absurd hx' (by show ¬ ((!holders.contains _) = true); decide +kernel))
    | (cases heq
       have hx2 : (!holders.contains _) = true := hx'
       simp only [Bool.not_eq_true', holders, List.contains_eq_mem, decide_eq_false_iff_not, List.mem_append, not_or] at hx2
       simp only [Bool.and_eq_true, List.contains_eq_mem, decide_eq_true_eq, not_and]
       exact fun _ => hx2.2)
    | exact Bool.false_ne_true
end
end Mine
end

section
open PySem PySem.W PyProof.Rows PySem.Calls
open Sem (wp)
set_option Elab.async false
set_option maxRecDepth 100000
set_option maxHeartbeats 4000000
namespace Mine
section
variable {w : World} {A : Around} {E : Value → Shared → Prop} {s : Shared}

theorem int_special {i : Int} {t : Tok} {Q : Option Value → Shared → Prop} (h : Q (some (.builtin "int.__index__")) s) : wpAny (model P₀ w) A (specialOf (.int i t) (Str.ofString "__index__")) Q E s :=
  wpAny_specialOf (r := some (.builtin "int.__index__")) (typeIs_int _ _ _) int_index h

theorem ba_init {b : Addr} {k : Nat} {u : Tok} {Q : Fin → Shared → Prop} (hb : s.heap.get? b = some (baO #[])) (hk : k < 1000)
    (h : ∀ h', Heap.SameBut b s.heap h' → h'.get? b = some (baO (Array.replicate k 0)) → Q (.done (.ret .none)) { s with heap := h' }) :
    wpC (model P₀ w) A (Builtin.«bytearray.__init__» ⟨[.ref b, .int k u], []⟩) Q E s := by
  unfold Builtin.«bytearray.__init__»
  refine wpC_bindA (ba_release_own hb ?_)
  refine wpC_if_false rfl ?_
  refine wpC_bindA (wpAny_of_eq (ba_bind _) ?_)
  refine wpC_bindA (wpAny_of_eq (a := ()) rfl ?_)
  refine wpC_bindA (wpAny_of_eq (a := ()) rfl ?_)
  refine wpC_bind (wpC_bind (ba_exported ?_))
  refine wpC.any ?_
  refine wpAny_bind ?_
  show wpAny _ _ (load b >>= _) _ _ _
  refine wpAny_bind (wpAny_load hb ?_)
  refine wpAny_pure (wpAny_pure ?_)
  refine wpC.any ?_
  refine bm_if_false rfl ?_
  show wpAny _ _ (Builtin.Bytes.write (.ref b) (fun _ => #[]) >>= _) _ _ _
  refine wpAny_bind ?_
  have hz0 : ((fun _ => #[] : Array UInt8 → Array UInt8) #[]).size ≤ sizeLine := by simp
  refine write_ba hb hz0 ?_
  intro h₁ hs₁ hb₁
  have e1 : ∀ (i : Int), asStr? (.int i u) = pure none := fun _ => rfl
  show wpAny _ _ (asStr? (.int k u) >>= _) _ _ _
  have e2 : asIndex (.int k u) = pure (k : Int) := rfl
  simp only [e1, Option.isSome_none, Bool.false_eq_true, if_false, pure_bind]
  refine wpAny_bind ?_
  refine int_special ?_
  simp only [Option.isSome_some, if_true, e2]
  refine wpAny_bind ?_
  refine wpAny_attempt ?_
  refine wpAny_pure ?_
  show wpAny _ _ _ _ _ _
  have f1 : (!Builtin.Bytes.fitsIndex (k : Int)) = false := by simp [Builtin.Bytes.fitsIndex]; omega
  have f2 : ¬ ((k : Int) < 0) := by omega
  have f3 : ((k : Int) == 2 ^ 63 - 1) = false := by simp; omega
  have f4 : Builtin.Bytes.tooLong (k : Int).toNat = false := by simp [Builtin.Bytes.tooLong, sizeLine]; omega
  simp only [f1, f2, f3, f4, Bool.false_eq_true, if_false]
  refine wpAny_bind (wpAny_rule ?_)
  by_cases h0 : k = 0
  · subst h0
    rw [if_neg (by simp)]
    refine wpAny_pure ?_
    exact h h₁ hs₁ hb₁
  · rw [if_pos (by omega)]
    have hz1 : ((fun _ => Array.replicate (k : Int).toNat 0 : Array UInt8 → Array UInt8) #[]).size ≤ sizeLine := by simp [sizeLine]; omega
    refine wpAny_bind ?_
    refine write_ba hb₁ hz1 ?_
    intro h₂ hs₂ hb₂
    refine wpAny_pure ?_
    exact h h₂ ⟨hs₂.1.trans hs₁.1, fun c hc => (hs₂.2 c hc).trans (hs₁.2 c hc)⟩ hb₂
end
end Mine
end

section
open PySem PySem.W PyProof.Rows PySem.Calls
open Sem (wp)
set_option Elab.async false
set_option maxRecDepth 100000
set_option maxHeartbeats 4000000
namespace Mine
section
variable {w : World} {A : Around} {s : Shared}

theorem codeC_builtin {R : Result → Shared → Prop} {id : String} {args : Args} {b : Builtin} (hok : okCode (.builtin id args) = true) (hb : entryFor table id = some b)
    (h : wpC (model P₀ w) (A.under (.builtin id args)) (b args)
      (fun fin s' => match fin with | .done f => R (.ok f) s' | .again c' => c'.quiet = true ∧ codeC (model P₀ w) A c' R s') (fun e s' => R (.error e) s') s) :
    codeC (model P₀ w) A (.builtin id args) R s := by
  refine codeC_of_tree hok ?_
  show wpC _ _ (match entryFor table id with | some b => b args | none => unsupported ((withoutEnding? id "#data").getD id)) _ _ s
  rw [hb]; exact h

theorem codeC_call_builtin {R : Result → Shared → Prop} {id : String} {args : Args} {b : Builtin} (hok : okCode (.builtin id args) = true) (hp : plainId id = true) (hb : entryFor table id = some b)
    (h : wpAny (model P₀ w) A.in1 (checkBuiltinCall id args) (fun _ s₁ => wpC (model P₀ w) A.in1 (b args)
      (fun fin s' => match fin with | .done f => R (.ok f) s' | .again c' => c'.quiet = true ∧ codeC (model P₀ w) A c' R s') (fun e s' => R (.error e) s') s₁)
      (fun e s' => R (.error e) s') s) :
    codeC (model P₀ w) A (.call (.builtin id) args) R s := by
  refine codeC_of_tree rfl ?_
  show wpC _ A.in1 (do checkBuiltinCall id args; again (.builtin id args)) _ _ s
  refine wpC_bindA (wpAny_mono h (fun _ s₁ h₁ => wpC_pure ⟨plainId_quiet hp _, codeC_builtin hok hb ?_⟩) fun _ _ h' => h')
  rw [Around.under_plainId hp _]
  exact h₁

theorem ba_call {k : Nat} {u : Tok} {Q : Value → Shared → Prop} (hk : k < 1000)
    (h : ∀ h' b, s.heap.get? b = none → Keep s.heap h' → h'.get? b = some (baO (Array.replicate k 0)) → Q (.ref b) { s with heap := h' }) :
    wpC (model P₀ w) A (call (.type "bytearray") [.int k u]) Q (fun _ _ => False) s := by
  refine wpC_call (codeC_of_tree rfl ?_)
  show wpC _ _ (callAny (.type "bytearray") _) _ _ _
  refine wpC_pure ⟨Code.quiet_builtin _ (by decide +kernel), codeC_builtin (by show (!holders.contains "type.__call__") = true; decide +kernel) F.entry_type_call ?_⟩
  rw [Around.under_plain (weight_type_call_type "bytearray" _ []) rfl]
  unfold Builtin.«type.__call__»
  refine wpC_if_false (by decide) ?_
  refine wpC_if_false (by decide +kernel) ?_
  refine wpC_bindA ?_
  refine wpAny_of_eq (ba_typeCall _) ?_
  refine wpC_bindA ?_
  refine wpAny_of_eq ba_mro ?_
  refine wpC_if_false rfl ?_
  refine wpC_bindA ?_
  refine wpAny_of_eq ba_called.made ?_
  refine wpC_bindA ?_
  refine wpAny_pure ?_
  refine wpC_bindA ?_
  refine wpAny_holding ?_
  refine wpAny_call ?_
  refine codeAny_mono (ba_new (w := w) (E := fun _ _ => False) (Q₁ := fun v s₁ => v = .ref s.heap.objs.size ∧ s₁ = { s with heap := s.heap.push (baO #[]) }) (.int k u) ⟨rfl, rfl⟩) fun r s₁ hr => ?_
  cases r with
  | error e => exact hr.elim
  | ok fl =>
    cases fl with
    | ret obj =>
      obtain ⟨rfl, rfl⟩ := hr
      have hb : (s.heap.push (baO #[])).get? s.heap.objs.size = some (baO #[]) := Heap.get?_push_size _ rfl
      have hT : ({ s with heap := s.heap.push (baO #[]) } : Shared).TypeIs (.ref s.heap.objs.size) "bytearray" := ⟨_, hb, rfl⟩
      refine wpC_bindA ?_
      refine wpAny_isInstance hT ba_sub ?_
      refine wpC_if_false rfl ?_
      refine wpC_bind ?_
      refine wpC_holding ?_
      unfold callSpecial?
      refine wpC_bindA ?_
      refine wpAny_specialOf hT ba_slot_init.lookup ?_
      refine wpC_holding ?_
      refine wpC_bindA ?_
      refine wpAny_of_eq (ba_slot_init.bind _) ?_
      refine wpC_bind ?_
      refine wpC_call ?_
      refine codeC_call_builtin (by show (!holders.contains "bytearray.__init__") = true; decide +kernel) ba_slot_init.plain ba_entry_init ?_
      refine ba_slot_init.check _ _ _ _ _ _ _ _ hT (by unfold argsOk; kernel_rfl) ?_
      refine ba_init hb hk ?_
      intro h' hs' hb'
      refine wpC_pure ?_
      refine wpC_if_false rfl ?_
      refine wpC_pure ?_
      refine h h' _ (fresh_of_size Keep.rfl) (fun c o e => ?_) hb'
      exact hs'.extBut c o (Nat.ne_of_lt (Heap.lt_size e)) (Heap.get?_push_of_some _ e)
    | _ => exact hr.elim
end
end Mine
end

section
open PySem PySem.W PyProof.Rows PySem.Calls
open Sem (wp)
set_option Elab.async false
set_option maxRecDepth 100000
set_option maxHeartbeats 4000000
namespace Mine
theorem ba_args_set (a b c : Value) : argsOk "bytearray.__setitem__" ⟨[a, b, c], []⟩ := by unfold argsOk; kernel_rfl
theorem ba_no_bytes : typeLookup (.type "bytearray") "__bytes__" = pure none := by rw [typeLookup_type, builtinLookup_eq_fast]; kernel_rfl
theorem ba_no_index : typeLookup (.type "bytearray") "__index__" = pure none := by rw [typeLookup_type, builtinLookup_eq_fast]; kernel_rfl
section
variable {w : World} {A : Around} {E : Value → Shared → Prop} {s : Shared}

theorem sub_ok {i : Int} {t : Tok} {Q : Option Int → Shared → Prop} (h0 : 0 ≤ i) (h1 : i < 1000) (h : Q (some i) s) : wpAny (model P₀ w) A (Builtin.Bytes.subscript? (.int i t)) Q E s := by
  unfold Builtin.Bytes.subscript?
  refine wpAny_bind ?_
  refine int_special ?_
  have e2 : asIndex (.int i t) = pure i := rfl
  have f1 : (!Builtin.Bytes.fitsIndex i) = false := by simp [Builtin.Bytes.fitsIndex]; omega
  simp only [Option.isNone_some, Bool.false_eq_true, if_false, e2, pure_bind, f1]
  exact wpAny_pure h

theorem byte_ok {i : Int} {t : Tok} {Q : UInt8 → Shared → Prop} (h0 : 0 ≤ i) (h1 : i < 256) (h : Q i.toNat.toUInt8 s) : wpAny (model P₀ w) A (Builtin.Bytes.byteValue (.int i t)) Q E s := by
  unfold Builtin.Bytes.byteValue
  have e2 : asIndex (.int i t) = pure i := rfl
  have f1 : (decide (i < 0) || decide (i ≥ 256)) = false := by simp; omega
  simp only [e2, pure_bind, f1, Bool.false_eq_true, if_false]
  exact wpAny_pure h

theorem ba_set {b : Addr} {bs : Array UInt8} {k : Nat} {t u : Tok} {v : Int} {Q : Unit → Shared → Prop} (hb : s.heap.get? b = some (baO bs)) (hk : k < bs.size) (hz : bs.size < 1000) (h0 : 0 ≤ v) (h1 : v < 256)
    (h : ∀ h', Heap.SameBut b s.heap h' → h'.get? b = some (baO (bs.setIfInBounds k v.toNat.toUInt8)) → Q () { s with heap := h' }) :
    wpAny (model P₀ w) A (setItem (.ref b) (.int k t) (.int v u)) Q E s := by
  have hT : s.TypeIs (.ref b) "bytearray" := ba_typeIs hb
  unfold setItem
  try with_reducible refine wpAny_holding ?_
  first | refine wpAny_bind (wpAny_pure ?_) | skip
  refine wpAny_bind (wpAny_sequenceKey hT (by decide) ?_)
  refine wpAny_bind (wpAny_callSpecial?_slot (name := Str.ofString "__setitem__") hT ba_slot_set
    (wpAny_call_entry ba_slot_set hT ba_entry_set ?_ (ba_args_set _ _ _)))
  unfold Builtin.«bytearray.__setitem__»
  simp only [List.isEmpty_nil, Bool.not_true, Bool.false_eq_true, if_false]
  show wpAny _ _ (Builtin.Bytes.subscript? (.int k t) >>= _) _ _ _
  refine wpAny_bind ?_
  have g0 : (0 : Int) ≤ k := by omega
  have g1 : (k : Int) < 1000 := by omega
  have key := fun Q E h => @sub_ok w A.in1 E s (k : Int) t Q g0 g1 h
  generalize Builtin.Bytes.subscript? (.int k t) = X at key ⊢
  refine key _ _ ?_
  show wpAny _ _ (Builtin.Bytes.byteValue (.int v u) >>= _) _ _ _
  refine wpAny_bind ?_
  refine byte_ok h0 h1 ?_
  show wpAny _ _ (Builtin.Bytes.payload (.ref b) >>= _) _ _ _
  refine wpAny_bind ?_
  unfold Builtin.Bytes.payload Builtin.Bytes.payload?
  refine wpAny_bind ?_
  refine wpAny_bind ?_
  refine wpAny_load hb ?_
  refine wpAny_pure ?_
  refine wpAny_pure ?_
  have e3 : seqIndex? (k : Int) bs.size = some k := by
    unfold seqIndex?
    simp only [show ¬ ((k : Int) < 0) by omega, if_false]
    rw [if_pos (by simp; omega)]
    simp
  simp only [baO] at hb h ⊢
  simp only [e3]
  refine wpAny_bind ?_
  have hz1 : ((fun c : Array UInt8 => c.setIfInBounds k v.toNat.toUInt8) bs).size ≤ sizeLine := by simp [sizeLine]; omega
  refine write_ba hb hz1 ?_
  intro h' hs' hb'
  refine wpAny_pure ?_
  refine ⟨_, rfl, ?_⟩
  refine wpAny_pure ?_
  exact h h' hs' hb'

theorem ba_bytes_new {b : Addr} {bs : Array UInt8} {Q : Value → Shared → Prop} (hb : s.heap.get? b = some (baO bs)) (hz : bs.size < 1000)
    (hQ : ∀ t, Q (.bytes bs t) { s with toks := s.toks + 1 }) :
    codeAny (model P₀ w) A (.call (.builtin "bytes.__new__") ⟨[.type "bytes", .ref b], []⟩) (wants Q E) s := by
  refine codeAny_of_tree ?_
  show wpAny _ A.in1 (do checkBuiltinCall "bytes.__new__" ⟨[.type "bytes", .ref b], []⟩; again (.builtin "bytes.__new__" ⟨[.type "bytes", .ref b], []⟩)) _ _ s
  refine wpAny_bind (wpAny_of_eq (F.bm_newCall _) (wpAny_pure ⟨plainId_quiet F.bm_plain _, codeAny_builtin F.bm_entry ?_⟩))
  rw [Around.under_plainId F.bm_plain _]
  have hT : s.TypeIs (.ref b) "bytearray" := ba_typeIs hb
  unfold Builtin.«bytes.__new__»
  refine wpAny_bind (wpAny_of_eq (a := true) rfl ?_)
  refine bm_if_false rfl ?_
  refine wpAny_bind (wpAny_of_eq F.bm_sub ?_)
  refine bm_if_false rfl ?_
  refine wpAny_bind (wpAny_of_eq (F.bm_bind _) ?_)
  refine wpAny_bind (wpAny_of_eq (a := ()) rfl ?_)
  refine wpAny_bind (wpAny_of_eq (a := ()) rfl ?_)
  refine bm_if_false rfl ?_
  refine wpAny_bind (wpAny_specialOf hT ba_no_bytes ?_)
  refine wpAny_bind (wpAny_bind ?_)
  show wpAny _ _ (load b >>= _) _ _ _
  refine wpAny_bind (wpAny_load hb ?_)
  refine wpAny_pure (wpAny_pure ?_)
  refine bm_if_false rfl ?_
  refine wpAny_bind (wpAny_specialOf hT ba_no_index ?_)
  refine bm_if_true rfl ?_
  first
    | show wpAny _ _ (Builtin.Bytes.buffer? "bytes.__new__" (.ref b) true >>= _) _ _ _
    | (refine wpAny_bind ?_; show wpAny _ _ (Builtin.Bytes.buffer? "bytes.__new__" (.ref b) true >>= _) _ _ _)
  refine wpAny_bind ?_
  unfold Builtin.Bytes.buffer?
  refine wpAny_bind (wpAny_specialOf hT ba_buffer ?_)
  refine wpAny_bind ?_
  unfold Builtin.Bytes.slotIsOwn
  refine wpAny_bind (wpAny_specialOf hT ba_buffer ?_)
  refine bm_if_false (by decide +kernel) ?_
  refine wpAny_isInstance hT (b := true) (by rw [isSubtype_type]; kernel_rfl) ?_
  refine bm_if_false rfl ?_
  refine wpAny_bind (wpAny_specialOf hT ba_buffer ?_)
  refine wpAny_bind (ba_release_own hb ?_)
  refine bm_if_false rfl ?_
  refine wpAny_bind ?_
  unfold Builtin.Bytes.payload Builtin.Bytes.payload?
  refine wpAny_bind ?_
  refine wpAny_bind ?_
  refine wpAny_load hb ?_
  refine wpAny_pure ?_
  refine wpAny_pure ?_
  refine wpAny_pure ?_
  refine wpAny_bind ?_
  refine wpAny_rule ?_
  refine wpAny_bind ?_
  refine wpAny_mkBytes ?_ ?_
  · exact wpAny_pure (hQ _)
  · show bs.size ≤ sizeLine
    simp [sizeLine]; omega

theorem ba_bytes {b : Addr} {bs : Array UInt8} {Q : Value → Shared → Prop} (hb : s.heap.get? b = some (baO bs)) (hz : bs.size < 1000)
    (hQ : ∀ t, Q (.bytes bs t) { s with toks := s.toks + 1 }) : wpAny (model P₀ w) A (call (.type "bytes") [.ref b]) Q E s := by
  refine callType_codes (Q₁ := fun obj s₁ => s₁.TypeIs obj "bytes" ∧ Q obj s₁) F.bm_called (F.bm_typeCall _) F.entry_object_init
    (ba_bytes_new hb hz fun t => ⟨PySem.W.typeIs_bytes _ _ _, hQ t⟩) fun obj s₁ h₁ => ?_
  exact ⟨h₁.1, F.args_object_init_2 obj _, object_init_meets F.bm_called.init.lookup F.bm_called.made (by decide) P₀ w A.in1 _ s₁ ⟨h₁.1, rfl, h₁.2⟩⟩
end
end Mine
end

section
open PySem PySem.W PyProof.Rows PySem.Calls
open Sem (wp)
set_option Elab.async false
set_option maxRecDepth 100000
set_option maxHeartbeats 4000000
namespace Mine

def bsIn (data : List UInt8) (wd c j : Nat) (b : Array UInt8) : Array UInt8 := b.setIfInBounds (c * wd + wd - 1 - j) (data.getD (c * wd + j) 0)
def bsInner (data : List UInt8) (wd c : Nat) : Nat → Array UInt8 → Array UInt8
  | 0, b => b
  | j + 1, b => bsIn data wd c j (bsInner data wd c j b)
def bsOuter (data : List UInt8) (wd : Nat) : Nat → Array UInt8 → Array UInt8
  | 0, b => b
  | c + 1, b => bsInner data wd c wd (bsOuter data wd c b)
theorem bsInner_size (data : List UInt8) (wd c : Nat) (b : Array UInt8) : ∀ j, (bsInner data wd c j b).size = b.size
  | 0 => rfl
  | j + 1 => by simp [bsInner, bsIn, bsInner_size data wd c b j]
theorem bsOuter_size (data : List UInt8) (wd : Nat) (b : Array UInt8) : ∀ c, (bsOuter data wd c b).size = b.size
  | 0 => rfl
  | c + 1 => by simp [bsOuter, bsInner_size, bsOuter_size data wd b c]

section
variable {w : World} {A : Around} {s : Shared} {env : Env} {E : Value → Shared → Prop} {mg mb : Str → Option Value}

/-- a call of a built-in by its name -/
theorem call_ty {x : Str} {T : String} {p pos : Pos} {e : PySem.Expr} {rest : List PySem.Expr} {Q : Value → Shared → Prop} (G : Gd mg mb s.heap) (hv : bootBuiltins x = some (.type T))
    (h : wpAny (model P₀ w) A (spliced (backTo pos (starEach (e :: rest) env))) (fun vs s₁ => wpAny (model P₀ w) A (call (.type T) vs) Q E s₁) E s)
    (hf : x ∈ (["len", "range", "bytes", "bytearray", "sorted", "enumerate", "sum", "TypeError", "AttributeError"] : List Str) := by decide) (hn : x ≠ "__name__" := by decide)
    (hg : env.globals = mainGlobals := by rfl) (hb : env.builtins = builtinsNs := by rfl) (hk : env.scope.kind = .function := by rfl) (hx : env.kindOf x = some .globalImplicit := by rfl) (hd : (x == ("__debug__" : Str)) = false := by decide)
    (he : starEach (e :: rest) env = (false, eval e env) :: starEach rest env := by rfl) (hp : (backTo pos (starEach (e :: rest) env)).any (·.1) = false := by rfl) :
    wpAny (model P₀ w) A (eval (.Call (.Name x p) (e :: rest) [] pos) env) Q E s := by
  refine Call_Name rfl (nm_boot G hv ?_ hf hn hg hb hk hx hd)
  refine PySem.callWith_type hp ?_
  rw [he] at h ⊢
  exact evalArgs_plain h
theorem call_bi {x : Str} {id : String} {p pos : Pos} {e : PySem.Expr} {rest : List PySem.Expr} {Q : Value → Shared → Prop} (G : Gd mg mb s.heap) (hv : bootBuiltins x = some (.builtin id))
    (h : wpAny (model P₀ w) A (spliced (backTo pos (starEach (e :: rest) env))) (fun vs s₁ => wpAny (model P₀ w) A (call (.builtin id) vs) Q E s₁) E s)
    (hf : x ∈ (["len", "range", "bytes", "bytearray", "sorted", "enumerate", "sum", "TypeError", "AttributeError"] : List Str) := by decide) (hn : x ≠ "__name__" := by decide)
    (hg : env.globals = mainGlobals := by rfl) (hb : env.builtins = builtinsNs := by rfl) (hk : env.scope.kind = .function := by rfl) (hx : env.kindOf x = some .globalImplicit := by rfl) (hd : (x == ("__debug__" : Str)) = false := by decide)
    (he : starEach (e :: rest) env = (false, eval e env) :: starEach rest env := by rfl) (hp : (backTo pos (starEach (e :: rest) env)).any (·.1) = false := by rfl) :
    wpAny (model P₀ w) A (eval (.Call (.Name x p) (e :: rest) [] pos) env) Q E s := by
  refine Call_Name rfl (nm_boot G hv ?_ hf hn hg hb hk hx hd)
  refine callWith_builtin hp ?_
  rw [he] at h ⊢
  exact evalArgs_plain h
theorem callC_ty {x : Str} {T : String} {p pos : Pos} {e : PySem.Expr} {rest : List PySem.Expr} {Q : Value → Shared → Prop} (G : Gd mg mb s.heap) (hv : bootBuiltins x = some (.type T))
    (h : wpAny (model P₀ w) A (spliced (backTo pos (starEach (e :: rest) env))) (fun vs s₁ => wpC (model P₀ w) A (call (.type T) vs) Q E s₁) E s)
    (hf : x ∈ (["len", "range", "bytes", "bytearray", "sorted", "enumerate", "sum", "TypeError", "AttributeError"] : List Str) := by decide) (hn : x ≠ "__name__" := by decide)
    (hg : env.globals = mainGlobals := by rfl) (hb : env.builtins = builtinsNs := by rfl) (hk : env.scope.kind = .function := by rfl) (hx : env.kindOf x = some .globalImplicit := by rfl) (hd : (x == ("__debug__" : Str)) = false := by decide)
    (he : starEach (e :: rest) env = (false, eval e env) :: starEach rest env := by rfl) (hp : (backTo pos (starEach (e :: rest) env)).any (·.1) = false := by rfl) :
    wpC (model P₀ w) A (eval (.Call (.Name x p) (e :: rest) [] pos) env) Q E s := by
  show wpC _ A (eval (.Name x p) env >>= _) Q E s
  refine wpC_bindA (nm_boot G hv ?_ hf hn hg hb hk hx hd)
  show wpC _ A (callWith pos (.type T) [] (backTo pos (starEach (e :: rest) env)) []) Q E s
  unfold callWith
  refine wpC_bind (wpC_holding (wpC_mono (E := E) (Q := fun a s₁ => wpC (model P₀ w) A (call (.type T) a.pos a.kw) Q E s₁) ?_ (fun a s₁ h₁ => wpC_bindA (wpAny_standAt ?_)) fun _ _ x => x))
  · rw [he] at h ⊢
    exact evalArgsC_plain (wpC.any h)
  · simp only [hp, List.any_nil, Bool.or_false]
    refine wpC_bindA (wpAny_pure ?_)
    exact wpC_bind (wpC_mono h₁ (fun r s₂ hr => wpC_bindA (wpAny_holding (wpAny_point (wpC_pure hr)))) fun _ _ x => x)
end
end Mine
end

section
open PySem PySem.W PyProof.Rows PySem.Calls
open Sem (wp)
set_option Elab.async false
set_option maxRecDepth 100000
set_option maxHeartbeats 4000000
namespace Mine
/-- the tokens of a state, forgotten but for a bound -/
theorem tkC {P : Shared → Prop} {s : Shared} {h : Heap} {tk : Nat} (n : Nat) (H : ∀ tk', n ≤ tk' → P { s with heap := h, toks := tk' }) (hle : n ≤ tk) : P { s with heap := h, toks := tk } := H tk hle
section
variable {w : World} {A : Around} {s : Shared} {mg mb : Str → Option Value}

theorem ba_set' {E : Value → Shared → Prop} {b : Addr} {bs : Array UInt8} {k : Nat} {i : Int} {t u : Tok} {v : Int} {x : UInt8} {Q : Unit → Shared → Prop} (hb : s.heap.get? b = some (baO bs)) (hi : i = (k : Int)) (hk : k < bs.size) (hz : bs.size < 1000) (hv : v = (x.toNat : Int))
    (h : ∀ h', Heap.SameBut b s.heap h' → h'.get? b = some (baO (bs.setIfInBounds k x)) → Q () { s with heap := h' }) :
    wpAny (model P₀ w) A (setItem (.ref b) (.int i t) (.int v u)) Q E s := by
  subst hi hv
  refine ba_set hb hk hz (by omega) (by have := x.toNat_lt; omega) ?_
  rw [show ((x.toNat : Int).toNat.toUInt8) = x by simp]
  exact h

theorem byteswap_gen {f : Addr} {data : List UInt8} {wd m : Nat} {t u : Tok} {Q : Value → Shared → Prop} (G : Gd mg mb s.heap) (hf : mg "_byteswap" = some (.ref f)) (hd : A.depth < 900) (hh : A.handled = none)
    (hn : data.length < 200) (hw : 0 < wd) (hw2 : wd < 200) (hm : Builtin.Range.rangeSize 0 (data.length : Int) (wd : Int) = (m : Int)) (hmw : ∀ c, c < m → c * wd + wd ≤ data.length) (hsm : Builtin.Range.small 0 (data.length : Int) (wd : Int) = true)
    (hsm2 : Builtin.Range.small 0 (wd : Int) 1 = true) (hm2 : Builtin.Range.rangeSize 0 (wd : Int) 1 = (wd : Int))
    (h : ∀ h' t' tk, Keep s.heap h' → s.toks ≤ tk → Q (.bytes (bsOuter data wd m (Array.replicate data.length 0)) t') { s with heap := h', toks := tk }) :
    wpC (model P₀ w) A (call (.ref f) [.bytes data.toArray t, .int wd u]) Q (fun _ _ => False) s := by
  refine callC_in (k := 1) (binds := [("data", .bytes data.toArray t), ("width", .int wd u)]) G (by decide) hf (Nat.lt_trans hd (by decide)) (fun _ _ _ => rfl) (by rfl) (fun L code h₁ F hL => ?_)
  have G1 := G.keeps F.keep
  refine wpC_execs_cons ?_
  refine wpC_Assign_Name ?_
  refine callC_ty (T := "bytearray") G1 (by rfl) ?_
  refine args_cons ?_
  refine call_bi (id := "len") G1 (by rfl) ?_
  refine args_cons ?_
  refine nameX_L F (by rfl) ?_
  refine args_nil ?_
  refine PySem.W.len_bytes (by simp; omega) ?_
  refine args_nil ?_
  rw [show data.toArray.size = data.length by simp]
  refine ba_call (by omega) ?_
  intro h₂ b hb0 hk2 hb2
  have F2 : Fr s.heap L h₂ (fun x => List.lookup x [("width", Value.int wd u), ("data", .bytes data.toArray t)]) := ⟨F.ns.keeps hk2, fun b o e => hk2 b o (F.keep b o e), F.above⟩
  have hbL : b ≠ L := by
    rintro rfl
    obtain ⟨o, _, _, ho, _⟩ := F.ns
    rw [hb0] at ho; cases ho
  refine stS F2 (fun h₃ F3 hs3 => ?_)
  refine tkC (s := s) (h := h₃) (P := fun z => wpC _ _ _ _ _ z) s.toks (fun tk3 htk3 => ?_) (by dsimp only; omega)
  have hb3 : h₃.get? b = some (baO (Array.replicate data.length 0)) := hs3.extBut _ _ hbL hb2
  have hb_old : s.heap.get? b = none := by
    cases e : s.heap.get? b with
    | none => rfl
    | some o => have := F.keep _ _ e; rw [hb0] at this; cases this
  refine wpC_execs_cons ?_
  have G3 := G.keeps F3.keep
  refine wpC.any ?_
  refine For_in (h₀ := s.heap) (by rfl) (by rfl) ?_
  refine call_ty (T := "range") G3 (by rfl) ?_
  refine args_cons ?_
  refine wpAny_Constant_int ?_
  refine args_cons ?_
  refine call_bi (id := "len") G3 (by rfl) ?_
  refine args_cons ?_
  refine nameX_L F3 (by rfl) ?_
  refine args_nil ?_
  refine PySem.W.len_bytes (by simp; omega) ?_
  refine args_cons ?_
  refine nameX_L F3 (by rfl) ?_
  refine args_nil ?_
  refine call_range_3 (by omega) ?_ (Or.inl (PyProof.noPylong_small (by omega)))
  rw [show data.toArray.size = data.length by simp]
  dsimp only
  refine loop_range (h₀ := s.heap) hh (IsRange.new _ _ _ _ _ _ _) hsm hm (F3.push _)
    (fun c m h tk => m "swapped_data" = some (.ref b) ∧ m "data" = some (.bytes data.toArray t) ∧ m "width" = some (.int wd u) ∧ h.get? b = some (baO (bsOuter data wd c (Array.replicate data.length 0))) ∧ s.toks ≤ tk) ?_ ?_ ?_ ?_
  · intro I hI i m h h' tk tk' hk htk ⟨a1, a2, a3, a4, a5⟩
    refine ⟨a1, a2, a3, hk _ _ hbL ?_ a4, Nat.le_trans a5 htk⟩
    intro hm
    rw [← List.mem_singleton.mp hm] at hI
    exact absurd ((Heap.get?_push_of_some _ hb3).symm.trans hI) (fun e => nomatch e)
  · exact ⟨by rfl, by rfl, by rfl, Heap.get?_push_of_some _ hb3, by dsimp only; omega⟩
  · rintro I i ti m₁ h tk hI hIL hi ⟨a1, a2, a3, a4, a5⟩ F' ⟨oI, hoI⟩
    have hq : (0 : Int) + (i : Int) * (wd : Int) = ((i * wd : Nat) : Int) := by simp
    rw [hq] at F'
    have hmw' := hmw i hi
    generalize hqq : i * wd = q at F' hmw'
    have G5 := G.keeps F'.keep
    refine wpAny_execs_cons ?_
    refine For_in (h₀ := s.heap) (by rfl) (by rfl) ?_
    refine call_ty (T := "range") G5 (by rfl) ?_
    refine args_cons ?_
    refine nameX_L F' (by exact a3) ?_
    refine args_nil ?_
    refine call_range_1 ?_
    refine loop_range (h₀ := s.heap) hh (IsRange.new _ _ _ _ _ _ _) hsm2 hm2 (F'.push _)
      (fun j m h tk => m "swapped_data" = some (.ref b) ∧ m "data" = some (.bytes data.toArray t) ∧ m "width" = some (.int wd u) ∧ m "i" = some (.int q ti) ∧
        h.get? b = some (baO (bsInner data wd i j (bsOuter data wd i (Array.replicate data.length 0)))) ∧ h.get? I = some oI ∧ s.toks ≤ tk) ?_ ?_ ?_ ?_
    · intro I2 hI2 i2 m2 h' h'' tk' tk'' hk htk ⟨b1, b2, b3, b4, b5, b6, b7⟩
      have hn1 : b ≠ I2 := by
        rintro rfl
        exact absurd ((Heap.get?_push_of_some _ a4).symm.trans hI2) (fun e => nomatch e)
      have hn2 : I ≠ I2 := by
        rintro rfl
        exact absurd ((Heap.get?_push_of_some _ hoI).symm.trans hI2) (fun e => nomatch e)
      exact ⟨b1, b2, b3, b4, hk _ _ hbL (by simpa using hn1) b5, hk _ _ hIL (by simpa using hn2) b6, Nat.le_trans b7 htk⟩
    · exact ⟨by exact a1, by exact a2, by exact a3, by rfl, Heap.get?_push_of_some _ a4, Heap.get?_push_of_some _ hoI, by dsimp only; omega⟩
    · rintro I2 j tj m₂ h2 tk2 hI2 hI2L hj ⟨b1, b2, b3, b4, b5, b6, b7⟩ F'' ⟨oI2, hoI2⟩
      have hn1 : b ≠ I2 := by
        rintro rfl
        exact absurd ((Heap.get?_push_of_some _ a4).symm.trans hI2) (fun e => nomatch e)
      have hsz : (bsInner data wd i j (bsOuter data wd i (Array.replicate data.length 0))).size = data.length := by simp [bsInner_size, bsOuter_size]
      have hIb : I ≠ b := by
        rintro rfl
        exact absurd ((Heap.get?_push_of_some _ hb3).symm.trans hI) (fun e => nomatch e)
      refine wpAny_execs_cons ?_
      refine wpAny_Assign_Subscript ?_
      refine Subscript_ ?_
      refine nameX_L F'' (by exact b2) ?_
      refine wpAny_BinOp ?_
      refine nameX_L F'' (by exact b4) ?_
      refine nameX_L F'' (by rfl) ?_
      refine PyProof.Rows.add_int ?_
      have hix : ((q : Int) + (0 + (j : Int) * 1)).toNat = q + j := by omega
      refine bytes_item_K (k := ((data.getD (q + j) 0).toNat : Int)) (by omega) (by omega) (by omega) (by rw [hix]) ?_
      refine nameX_L F'' (by exact b1) ?_
      refine wpAny_BinOp ?_
      refine wpAny_BinOp ?_
      refine wpAny_BinOp ?_
      refine nameX_L F'' (by exact b4) ?_
      refine nameX_L F'' (by exact b3) ?_
      refine PyProof.Rows.add_int ?_
      refine wpAny_Constant_int ?_
      refine sub_int' ?_
      refine nameX_L F'' (by rfl) ?_
      refine sub_int' ?_
      refine ba_set' (k := q + wd - 1 - j) (x := data.getD (q + j) 0) b5 (by omega) (by omega) (by omega) rfl ?_
      intro h3 hs3 hb3'
      refine wpAny_execs_nil ?_
      refine ⟨h3, _, _, rfl, ⟨F''.ns.sameBut hs3 (Ne.symm hbL), fun c o e => hs3.extBut c o (fun hc => by rw [hc, hb_old] at e; cases e) (F''.keep c o e), F''.above⟩, ?_, by exact b1, by exact b2, by exact b3, by exact b4, ?_, ?_, by dsimp only; omega⟩
      · intro c hc o e
        rw [List.mem_singleton.mp hc] at e ⊢
        exact hs3.extBut _ _ (Ne.symm hn1) e
      · rw [hb3']
        simp only [bsInner, bsIn, hqq]
      · exact hs3.extBut _ _ hIb b6
    · rintro h' tk' m' F4 ⟨b1, b2, b3, b4, b5, b6, b7⟩
      refine wpAny_execs_nil ?_
      refine ⟨h', _, m', rfl, F4, ?_, b1, b2, b3, b5, b7⟩
      intro c hc o e
      rw [List.mem_singleton.mp hc] at e ⊢
      have : oI = o := Option.some.inj (hoI.symm.trans e)
      rw [← this]
      exact b6
  · rintro h' tk m' F' ⟨a1, a2, a3, a4, a5⟩
    refine wpC_execs_cons ?_
    refine wpC_Return_some ?_
    refine wpC.any ?_
    refine call_ty (T := "bytes") (G.keeps F'.keep) (by rfl) ?_
    refine args_cons ?_
    refine nameX_L F' (by exact a1) ?_
    refine args_nil ?_
    refine ba_bytes a4 (by simp [bsOuter_size]; omega) ?_
    intro t'
    exact h _ _ _ F'.keep (by dsimp only; omega)
end
end Mine
end

section
open PySem PySem.W PyProof.Rows PySem.Calls
open Sem (wp)
set_option Elab.async false
set_option maxRecDepth 100000
set_option maxHeartbeats 4000000
namespace Mine
def rows (n : Nat) : List UInt8 := (List.range n).map (·.toUInt8)
theorem rows_length (n : Nat) : (rows n).length = n := by simp [rows]
theorem bs_one : ∀ n, n < 11 → 0 < n → bsOuter (rows n) 1 n (Array.replicate n 0) = (rows n).toArray := by decide +kernel
theorem bs_all : ∀ n, n < 11 → 0 < n → bsOuter (rows n) n 1 (Array.replicate n 0) = (rows n).reverse.toArray := by decide +kernel
theorem range_one : ∀ n : Nat, n < 11 → 0 < n → Builtin.Range.rangeSize 0 (n : Int) 1 = (n : Int) ∧ Builtin.Range.small 0 (n : Int) 1 = true := by decide +kernel
theorem range_all : ∀ n : Nat, n < 11 → 0 < n → Builtin.Range.rangeSize 0 (n : Int) (n : Int) = 1 ∧ Builtin.Range.small 0 (n : Int) (n : Int) = true := by decide +kernel
/-- what stands at the turned place -/
def place (n wd i : Nat) : Nat := if wd = 1 then i else n - 1 - i
theorem rows_at : ∀ n, n < 11 → ∀ i, i < n → (rows n)[i]? = some i.toUInt8 ∧ ((rows n).reverse)[i]? = some (n - 1 - i).toUInt8 ∧ i.toUInt8.toNat = i := by decide +kernel
section
variable {w : World} {A : Around} {s : Shared} {mg mb : Str → Option Value}

theorem byteswap_ok {f : Addr} {n wd : Nat} {t u : Tok} {Q : Value → Shared → Prop} (G : Gd mg mb s.heap) (hf : mg "_byteswap" = some (.ref f)) (hd : A.depth < 900) (hh : A.handled = none)
    (hn : n < 11) (h0 : 0 < n) (hw : wd = 1 ∨ wd = n)
    (h : ∀ h' t' bs tk, Keep s.heap h' → s.toks ≤ tk → bs.size = n → (∀ i, i < n → bs[i]? = some (place n wd i).toUInt8 ∧ (place n wd i).toUInt8.toNat = place n wd i) → Q (.bytes bs t') { s with heap := h', toks := tk }) :
    wpC (model P₀ w) A (call (.ref f) [.bytes (rows n).toArray t, .int wd u]) Q (fun _ _ => False) s := by
  by_cases h1 : wd = 1
  · subst h1
    refine byteswap_gen (m := n) G hf hd hh (by rw [rows_length]; omega) (by omega) (by omega) (by rw [rows_length]; exact (range_one n hn h0).1) (fun c hc => by rw [rows_length]; omega) (by rw [rows_length]; exact (range_one n hn h0).2)
      (range_one 1 (by omega) (by omega)).2 (range_one 1 (by omega) (by omega)).1 ?_
    intro h' t' tk hk ht
    rw [rows_length, bs_one n hn h0]
    refine h h' t' _ tk hk ht (by simp [rows_length]) fun i hi => ?_
    have := rows_at n hn i hi
    simp only [place, if_true]
    exact ⟨by simpa using this.1, this.2.2⟩
  · have hwn : wd = n := by omega
    subst hwn
    refine byteswap_gen (m := 1) G hf hd hh (by rw [rows_length]; omega) (by omega) (by omega) (by rw [rows_length]; exact (range_all _ hn h0).1) (fun c hc => by rw [rows_length, show c = 0 by omega]; omega) (by rw [rows_length]; exact (range_all _ hn h0).2)
      (range_one _ hn h0).2 (range_one _ hn h0).1 ?_
    intro h' t' tk hk ht
    rw [rows_length, bs_all _ hn h0]
    refine h h' t' _ tk hk ht (by simp [rows_length]) fun i hi => ?_
    have := rows_at _ hn i hi
    simp only [place, if_neg h1]
    exact ⟨by simpa using this.2.1, (rows_at _ hn (wd - 1 - i) (by omega)).2.2⟩

variable {E : Value → Shared → Prop} {env : Env}
theorem body_plain {scope : Scope} {cl : List (Str × Addr)} {elt : PySem.Expr} {n : Nat} {B : Nat → (Str → Option Value) → Prop} {J : Nat → List Value → Nat → Prop} {h₁ : Heap}
    (h : ∀ C i ys (s₃ : Shared) m₃ (E' : Value → Shared → Prop), i < n → B i m₃ → J i ys s₃.toks → s₃.heap.Ns C m₃ → Keep h₁ s₃.heap →
      wpAny (model P₀ w) A (eval elt (compEnvC scope cl C env)) (fun y s₅ => Keeps s₃ s₅ ∧ J (i + 1) (ys ++ [y]) s₅.toks) E' s₃) : Body w A env scope cl [] elt n B J h₁ where
  go := fun C i ys s₃ m₃ E' hi hB hJ hn hk => wpAny_tests_nil ⟨⟨s₃.heap, s₃.toks, rfl, fun _ _ e => e⟩, by simp only [if_true]; exact h C i ys s₃ m₃ E' hi hB hJ hn hk⟩

theorem c_name {scope : Scope} {cl : List (Str × Addr)} {C : Addr} {x : Str} {p : Pos} {m : Str → Option Value} {v : Value} {Q : Value → Shared → Prop} (hn : s.heap.Ns C m) (hv : m x = some v) (h : Q v s)
    (hk : (compEnvC scope cl C env).scope.kind = .function := by rfl) (hx : (compEnvC scope cl C env).kindOf x = some .local := by rfl) (hb : (x == ("__debug__" : Str)) = false := by decide) :
    wpAny (model P₀ w) A (eval (.Name x p) (compEnvC scope cl C env)) Q E s := wpAny_Name (wpAny_loadName_local hk hx hn hv h) hb
theorem c_free {scope : Scope} {cl : List (Str × Addr)} {C c : Addr} {x : Str} {p : Pos} {v : Value} {Q : Value → Shared → Prop} (hc : cl.lookup x = some c) (hv : s.heap.IsCell c (some v)) (h : Q v s)
    (hk : (compEnvC scope cl C env).scope.kind = .function := by rfl) (hx : (compEnvC scope cl C env).kindOf x = some .cell := by rfl) (hb : (x == ("__debug__" : Str)) = false := by decide)
    (hcl : (compEnvC scope cl C env).cells.lookup x = cl.lookup x := by rfl) :
    wpAny (model P₀ w) A (eval (.Name x p) (compEnvC scope cl C env)) Q E s := wpAny_Name (wpAny_loadName_cell hk hx (hcl.trans hc) hv h) hb
end
end Mine
end

section
open PySem PySem.W PyProof.Rows PySem.Calls
open Sem (wp)
set_option Elab.async false
set_option maxRecDepth 100000
set_option maxHeartbeats 4000000
namespace Mine
theorem Gd.addr {mg mb : Str → Option Value} {h : Heap} (G : Gd mg mb h) {k : Nat} (hk : k ∈ defs) : ∃ a, mg (nameK k) = some (.ref a) := by
  obtain ⟨a, _, _, _, _, h1, _⟩ := G.fn k hk
  exact ⟨a, h1⟩
theorem isList_of {h : Heap} {D : Addr} {ys : List Value} (e : h.get? D = some (lstO ys)) : h.IsList D ys.toArray := ⟨_, e, rfl, _, rfl⟩
theorem Fr_up {h₀ h h' : Heap} {L : Addr} {m : Str → Option Value} (F : Fr h₀ L h m) (k : Keep h h') : Fr h₀ L h' m := ⟨F.ns.keeps k, fun b o e => k b o (F.keep b o e), F.above⟩
theorem News_up {h₀ h h' : Heap} {L : Addr} {ns : List (Addr × Obj)} (N : News h₀ L h ns) (k : Keep h h') : News h₀ L h' ns := fun p hp => ⟨k _ _ (N p hp).1, (N p hp).2⟩
section
variable {w : World} {A : Around} {s : Shared} {mg mb : Str → Option Value} {E : Value → Shared → Prop}

def natI (n : Nat) : List Int := (List.range n).map Int.ofNat
theorem natI_succ (n : Nat) : natI (n + 1) = natI n ++ [(n : Int)] := by simp [natI, List.range_succ]
theorem byteArr_natI : ∀ n, n < 11 → byteArr (natI n) = (rows n).toArray := by decide +kernel
def turnedL (ws : List Str) (wd n : Nat) : List Str := (List.range n).map (fun i => ws.getD (place ws.length wd i) Str.empty)
theorem turnedL_succ (ws : List Str) (wd n : Nat) : turnedL ws wd (n + 1) = turnedL ws wd n ++ [ws.getD (place ws.length wd n) Str.empty] := by simp [turnedL, List.range_succ]
theorem turnedL_eq (ws : List Str) (wd : Nat) (hw : wd = 1 ∨ wd = ws.length) : turnedL ws wd ws.length = if wd = 1 then ws else ws.reverse := by
  apply List.ext_getElem
  · split <;> simp [turnedL]
  · intro i h1 h2
    have hi : i < ws.length := by simpa [turnedL] using h1
    by_cases hwd : wd = 1
    · subst hwd
      simp [turnedL, place, hi]
    · simp only [if_neg hwd] at h2 ⊢
      simp [turnedL, place, hwd, show ws.length - 1 - i < ws.length by omega]

theorem turned_ok {f l : Addr} {vs : List Value} {ws : List Str} {wd : Nat} {u : Tok} {Q : Value → Shared → Prop} (G : Gd mg mb s.heap) (hf : mg "_law_turned" = some (.ref f)) (hd : A.depth < 800) (hh : A.handled = none)
    (hl : s.heap.IsList l vs.toArray) (hw : StrsAre vs ws) (h0 : 0 < ws.length) (hn : ws.length < 11) (hwd : wd = 1 ∨ wd = ws.length)
    (h : ∀ h' D ys tk, Keep s.heap h' → s.heap.get? D = none → h'.get? D = some (lstO ys) → StrsAre ys (if wd = 1 then ws else ws.reverse) → Q (.ref D) { s with heap := h', toks := tk }) :
    wpC (model P₀ w) A (call (.ref f) [.ref l, .int wd u]) Q (fun _ _ => False) s := by
  refine callC_inC (k := 12) (x := "row") (binds := [("row", .ref l), ("width", .int wd u)]) G (by decide) hf (Nat.lt_trans hd (by decide)) (fun _ _ _ => rfl) (by rfl) (fun n => rfl) (fun L code h₁ tk o F N ho hL htk => ?_)
  obtain ⟨fb, hfb⟩ := G.addr (k := 1) (by decide)
  obtain ⟨fg, hfg⟩ := G.addr (k := 6) (by decide)
  have G1 := G.keeps F.keep
  have hcell : ∀ {h' : Heap}, Keep h₁ h' → h'.IsCell (L + 1) (some (.ref l)) := fun hk => ⟨o, hk _ _ (N _ (List.mem_singleton.mpr rfl)).1, by rw [ho]; rfl⟩
  refine wpC_execs_cons ?_
  refine wpC_Assign_Name ?_
  refine callC_def (k := 1) G1 (by decide) rfl hfb (wpC.any ?_)
  refine args_cons ?_
  refine call_ty (T := "bytes") G1 (by rfl) ?_
  refine args_cons ?_
  refine comp_eval (cl := []) (by rfl) (by decide) (by rfl) (by decide) ?_
  refine call_ty (T := "range") G1 (by rfl) ?_
  refine args_cons ?_
  refine call_bi (id := "len") G1 (by rfl) ?_
  refine args_cons ?_
  refine nameX_C N (by rfl) (List.mem_singleton.mpr rfl) (by rw [ho]; rfl) ?_
  refine args_nil ?_
  refine len_strsA (hl.at fun o e => F.keep l o e) hw (by omega) ?_
  refine args_nil ?_
  refine call_range_1 ?_
  have hr := range_one ws.length hn h0
  refine src_range hh (IsRange.new _ _ _ _ _ _ _) hr.2 hr.1 (by simp [sizeLine]; omega) (by rfl) (by rfl) (J := fun i ys _ => IntsAre ys (natI i)) (fun _ _ _ _ _ h => h) ?_ .nil ?_ ?_
  · intro i ys t hJ
    rw [hJ.length]
    simp [natI]
  · refine body_plain fun C i ys s₃ m₃ E' hi ⟨v, ⟨t, hv⟩, hm⟩ hJ hns hk => ?_
    refine c_name hns hm ?_
    refine ⟨⟨s₃.heap, s₃.toks, rfl, fun _ _ e => e⟩, ?_⟩
    rw [natI_succ, hv, show (0 : Int) + i * 1 = i by omega]
    exact hJ.append (.cons _ _ .nil)
  intro ys tk1 hys D h2 hD0 hD2 hk2
  refine args_nil ?_
  have hys' : ys.length = ws.length := by rw [hys.length]; simp [natI]
  refine call_bytes_ints (isList_of hD2) hys (fun n hn' => ?_) (by simp [sizeLine]; omega) hh ?_
  · simp only [natI, List.mem_map, List.mem_range] at hn'
    obtain ⟨a, ha, rfl⟩ := hn'
    simp only [Int.ofNat_eq_natCast]
    omega
  intro h3 t3 k3 hk3
  rw [byteArr_natI _ hn]
  have hk13 : Keep h₁ h3 := fun b o e => hk3 b o (hk2 b o (Heap.get?_push_of_some _ e))
  have F3 := Fr_up F hk13
  have N3 := News_up N hk13
  refine args_cons ?_
  refine nameX_L F3 (by rfl) ?_
  refine args_nil ?_
  refine ⟨hk13, ?_⟩
  refine byteswap_ok (G.keeps F3.keep) hfb (Nat.lt_of_le_of_lt (Nat.le_of_eq rfl) (show A.depth + 1 < 900 by omega)) hh hn h0 hwd ?_
  intro h4 t4 bs tk4 hk4 _ hbs hat
  have F4 := Fr_up F3 hk4
  have N4 := News_up N3 hk4
  refine storeX_L F4 N4 (fun h5 F5 N5 => ?_)
  have G5 := G.keeps F5.keep
  refine wpC_execs_cons ?_
  refine wpC_Return_some ?_
  refine wpC.any ?_
  refine comp_eval (cl := [("row", L + 1)]) (by rfl) (by decide) (by rfl) (by decide) ?_
  refine nameX_L F5 (by rfl) ?_
  refine src_bytes hh (by simp [sizeLine]; omega) (by rfl) (by rfl) (J := fun i ys _ => StrsAre ys (turnedL ws wd i)) (fun _ _ _ _ _ h => h) ?_ .nil ?_ ?_
  · intro i ys t hJ
    rw [hJ.length]
    simp [turnedL]
  · refine body_plain fun C i ys s₃ m₃ E' hi ⟨v, ⟨c, u', hc, hv⟩, hm⟩ hJ hns hk => ?_
    have hi' : i < ws.length := by rw [hbs] at hi; exact hi
    have hci := hat i hi'
    have hck : c.toNat = place ws.length wd i := by
      rw [hc] at hci
      rw [Option.some.inj hci.1]
      exact hci.2
    have hpl : place ws.length wd i < ws.length := by unfold place; split <;> omega
    have G6 := G5.keeps hk
    refine call_def (k := 6) G6 (by decide) rfl hfg ?_
    refine args_cons ?_
    refine c_free (by rfl) (v := .ref l) ⟨o, hk _ _ (N5 _ (List.mem_singleton.mpr rfl)).1, by rw [ho]; rfl⟩ ?_
    refine args_cons ?_
    refine c_name hns hm ?_
    refine args_nil ?_
    refine ⟨fun _ _ e => e, ?_⟩
    rw [hv, hck]
    refine getitem_ok G6 hfg (show A.depth + 1 < 900 by omega) (hl.at fun o e => hk l o (F5.keep l o e)) hw hpl (by omega) ?_
    intro h' t' tk' hk'
    refine ⟨⟨h', tk', rfl, hk'⟩, ?_⟩
    show StrsAre _ (turnedL ws wd (i + 1))
    rw [turnedL_succ]
    exact hJ.append' (.cons _ _ .nil)
  intro ys5 tk5 hys5 D5 h6 hD5 hD6 hk6
  refine h h6 D5 ys5 tk5 (fun b o e => hk6 b o (F5.keep b o e)) ?_ hD6 ?_
  · cases e : s.heap.get? D5 with
    | none => rfl
    | some o' => have := F5.keep _ _ e; rw [hD5] at this; cases this
  · rw [← turnedL_eq ws wd hwd]
    have : StrsAre ys5 (turnedL ws wd bs.size) := hys5
    rw [hbs] at this
    exact this
end
end Mine
end

section
open PySem PySem.W PyProof.Rows PySem.Calls PySem.Spec
set_option Elab.async false
set_option maxRecDepth 100000
set_option maxHeartbeats 4000000
namespace Mine

-- ranks
def leS (a b : Str) : Bool := !ltCps b.cps.toList a.cps.toList
theorem leS_iff (a b : Str) : leS a b = true ↔ a.cps.toList ≤ b.cps.toList := by
  unfold leS
  rw [ltCps_eq]
  simp only [Bool.not_eq_true', decide_eq_false_iff_not]
  exact List.not_lt
theorem leS_trans (a b c : Str) (h : leS a b = true) (h' : leS b c = true) : leS a c = true := by
  rw [leS_iff] at *
  exact List.le_trans h h'
theorem leS_total (a b : Str) : (leS a b || leS b a) = true := by
  rw [Bool.or_eq_true, leS_iff, leS_iff]
  exact List.le_total _ _
theorem leS_anti (a b : Str) (h : leS a b = true) (h' : leS b a = true) : a = b := by
  rw [leS_iff] at *
  have := List.le_antisymm h h'
  cases a; cases b
  simp at this
  rw [this]
def rank (ws : List Str) : List Str := ws.mergeSort leS
theorem rising_pw : ∀ (l : List Str) (p : Str), risingS p l = true → (p :: l).Pairwise (fun a b => leS a b = true)
  | [], p, _ => List.pairwise_singleton _ _
  | x :: r, p, h => by
    have h' : leS p x = true ∧ risingS x r = true := by simpa [risingS, leS] using h
    have ih := rising_pw r x h'.2
    refine List.pairwise_cons.mpr ⟨fun y hy => ?_, ih⟩
    rcases List.mem_cons.mp hy with rfl | hy
    · exact h'.1
    · exact leS_trans _ _ _ h'.1 ((List.pairwise_cons.mp ih).1 y hy)
theorem rank_eq {ss ws : List Str} (hp : ss.Perm ws) (hs : sortedS ss = true) : ss = rank ws := by
  refine List.Perm.eq_of_pairwise (le := fun a b => leS a b = true) (fun a b _ _ => leS_anti a b) ?_ (List.pairwise_mergeSort leS_trans leS_total ws) (hp.trans (List.mergeSort_perm ws leS).symm)
  cases ss with
  | nil => exact List.Pairwise.nil
  | cons x r => exact rising_pw r x hs
theorem rank_perm {a b : List Str} (h : a.Perm b) : rank a = rank b := by
  refine List.Perm.eq_of_pairwise (le := fun a b => leS a b = true) (fun a b _ _ => leS_anti a b) (List.pairwise_mergeSort leS_trans leS_total a) (List.pairwise_mergeSort leS_trans leS_total b)
    (((List.mergeSort_perm a leS).trans h).trans (List.mergeSort_perm b leS).symm)

/-- the kinds of the first i ranked words -/
def kindsTo (l : List Str) : Nat → List Str
  | 0 => []
  | i + 1 => if i = 0 ∨ l.getD (i - 1) Str.empty ≠ l.getD i Str.empty then kindsTo l i ++ [l.getD i Str.empty] else kindsTo l i
def kindsOf (ws : List Str) : List Str := kindsTo (rank ws) (rank ws).length
theorem rank_length (ws : List Str) : (rank ws).length = ws.length := (List.mergeSort_perm ws leS).length_eq
theorem kindsTo_mem (l : List Str) : ∀ i, i ≤ l.length → ∀ x ∈ kindsTo l i, x ∈ l
  | 0, _, x, h => by simp [kindsTo] at h
  | i + 1, hi, x, h => by
    unfold kindsTo at h
    split at h
    · rcases List.mem_append.mp h with h | h
      · exact kindsTo_mem l i (by omega) x h
      · rw [List.mem_singleton.mp h]
        simp [List.getD, show i < l.length by omega]
    · exact kindsTo_mem l i (by omega) x h
theorem kindsOf_mem {ws : List Str} {x : Str} (h : x ∈ kindsOf ws) : x ∈ ws := (List.mergeSort_perm ws leS).mem_iff.mp (kindsTo_mem _ _ (Nat.le_refl _) x h)
theorem kindsTo_pos (l : List Str) : ∀ i, 0 < i → 1 ≤ (kindsTo l i).length
  | 1, _ => by simp [kindsTo]
  | i + 2, _ => by
    have := kindsTo_pos l (i + 1) (by omega)
    unfold kindsTo
    split
    · simp
    · exact this
/-- one kind: all the words so far are alike -/
theorem kindsTo_one (l : List Str) : ∀ i, (kindsTo l i).length = 1 → ∀ j, j < i → l.getD j Str.empty = l.getD 0 Str.empty
  | 0, h, _, _ => by simp [kindsTo] at h
  | 1, _, j, hj => by rw [show j = 0 by omega]
  | i + 2, h, j, hj => by
    have hp := kindsTo_pos l (i + 1) (by omega)
    unfold kindsTo at h
    split at h
    · rw [List.length_append, List.length_singleton] at h; omega
    · rename_i hc
      have ih := kindsTo_one l (i + 1) h
      rcases Nat.lt_or_ge j (i + 1) with hj' | hj'
      · exact ih j hj'
      · have he : j = i + 1 := by omega
        subst he
        have : l.getD i Str.empty = l.getD (i + 1) Str.empty := by
          have := not_or.mp hc
          simpa using this.2
        rw [← this]
        exact ih i (by omega)
theorem kindsTo_le (l : List Str) : ∀ i, (kindsTo l i).length ≤ i
  | 0 => Nat.le_refl _
  | i + 1 => by
    have := kindsTo_le l i
    unfold kindsTo
    split
    · simp; omega
    · omega
theorem kindsOf_one {ws : List Str} (h : (kindsOf ws).length = 1) {x y : Str} (hx : x ∈ ws) (hy : y ∈ ws) : x = y := by
  have key : ∀ z ∈ ws, z = (rank ws).getD 0 Str.empty := fun z hz => by
    have hz' := (List.mergeSort_perm ws leS).mem_iff.mpr hz
    obtain ⟨j, hj, rfl⟩ := List.mem_iff_getElem.mp hz'
    have := kindsTo_one _ _ h j hj
    rw [← this]
    show _ = ((ws.mergeSort leS)[j]?).getD Str.empty
    rw [List.getElem?_eq_getElem hj]
    rfl
  rw [key x hx, key y hy]
theorem kindsOf_single (w : Str) : (kindsOf [w]).length = 1 := by
  have h1 : (rank [w]).length = 1 := rank_length [w]
  unfold kindsOf
  rw [h1]
  rfl
theorem kindsOf_perm {a b : List Str} (h : a.Perm b) : kindsOf a = kindsOf b := by unfold kindsOf; rw [rank_perm h]
theorem kindsOf_pos {ws : List Str} (h : 0 < ws.length) : 1 ≤ (kindsOf ws).length := kindsTo_pos _ _ (by rw [rank_length]; exact h)

-- a round
def joinS : List Str → Str
  | [] => Str.empty
  | w :: r => w ++ joinS r
theorem joinS_append (a b : List Str) : joinS (a ++ b) = joinS a ++ joinS b := by
  induction a with
  | nil => exact (Str.empty_append _).symm
  | cons x r ih => simp only [List.cons_append, joinS, ih, Str.append_assoc]

section
variable (c : Str → Str → Str) (g : Str)
def runF (run : Str) : List Str → List Str
  | [] => []
  | w :: r => if w = g then runF (run ++ w) r else c run w :: runF Str.empty r
/-- the run left over -/
def runL (run : Str) : List Str → Str
  | [] => run
  | w :: r => if w = g then runL (run ++ w) r else runL Str.empty r
theorem runF_append (a b : List Str) : ∀ run, runF c g run (a ++ b) = runF c g run a ++ runF c g (runL g run a) b := by
  induction a with
  | nil => intro run; rfl
  | cons w r ih =>
    intro run
    simp only [List.cons_append, runF, runL]
    split
    · exact ih _
    · rw [ih]; rfl
theorem runL_append (a b : List Str) : ∀ run, runL g run (a ++ b) = runL g (runL g run a) b := by
  induction a with
  | nil => intro run; rfl
  | cons w r ih =>
    intro run
    simp only [List.cons_append, runL]
    split
    · exact ih _
    · exact ih _
theorem runL_end (a : List Str) (w : Str) (hw : w ≠ g) (run : Str) : runL g run (a ++ [w]) = Str.empty := by
  rw [runL_append]
  simp [runL, hw]
/-- ends with a word that stays -/
def Ends (l : List Str) : Prop := ∃ a w, l = a ++ [w] ∧ w ≠ g
theorem runF_split : ∀ (l : List Str) (run : Str) (p q : List Str), runF c g run l = p ++ q → p ≠ [] → ∃ a b, l = a ++ b ∧ runF c g run a = p ∧ runF c g Str.empty b = q ∧ Ends g a := by
  intro l
  induction l with
  | nil =>
    intro run p q h hp
    simp [runF] at h
    exact absurd h.1 hp
  | cons w r ih =>
    intro run p q h hp
    unfold runF at h
    split at h
    · rename_i hw
      obtain ⟨a, b, rfl, ha, hb, a', w', he, hw'⟩ := ih _ p q h hp
      refine ⟨w :: a, b, rfl, ?_, hb, w :: a', w', by rw [he]; rfl, hw'⟩
      simp only [runF, if_pos hw]
      exact ha
    · rename_i hw
      cases p with
      | nil => exact absurd rfl hp
      | cons x p' =>
        simp only [List.cons_append, List.cons.injEq] at h
        by_cases hp' : p' = []
        · subst hp'
          refine ⟨[w], r, rfl, ?_, h.2, [], w, rfl, hw⟩
          simp [runF, hw, h.1]
        · obtain ⟨a, b, rfl, ha, hb, a', w', he, hw'⟩ := ih _ p' q h.2 hp'
          refine ⟨w :: a, b, rfl, ?_, hb, w :: a', w', by rw [he]; rfl, hw'⟩
          simp only [runF, if_neg hw, ha, h.1]
theorem runF_ne (a : List Str) (w : Str) (hw : w ≠ g) (run : Str) : runF c g run (a ++ [w]) ≠ [] := by
  rw [runF_append]
  simp [runF, hw]
theorem runF_length (l : List Str) : ∀ run, (runF c g run l).length ≤ l.length := by
  induction l with
  | nil => intro run; exact Nat.le_refl _
  | cons w r ih =>
    intro run
    unfold runF
    split
    · exact Nat.le_succ_of_le (ih _)
    · simpa using ih _
theorem runF_length_lt (l : List Str) (h : g ∈ l) : ∀ run, (runF c g run l).length < l.length := by
  induction l with
  | nil => simp at h
  | cons w r ih =>
    intro run
    unfold runF
    split
    · exact Nat.lt_succ_of_le (runF_length c g r _)
    · rename_i hw
      have : g ∈ r := by
        rcases List.mem_cons.mp h with e | e
        · exact absurd e.symm hw
        · exact e
      simpa using ih this Str.empty
end

def cF (run w : Str) : Str := run ++ w
def cB (run w : Str) : Str := w ++ run
theorem joinF (g : Str) (l : List Str) : ∀ run, joinS (runF cF g run l) ++ runL g run l = run ++ joinS l := by
  induction l with
  | nil => intro run; simp [runF, runL, joinS, Str.empty_append, Str.append_empty]
  | cons w r ih =>
    intro run
    unfold runF runL
    split
    · rw [ih]; simp [joinS, Str.append_assoc]
    · simp only [joinS, cF]
      rw [Str.append_assoc, ih, Str.empty_append, Str.append_assoc]
theorem joinB (g : Str) (l : List Str) : ∀ run, run ++ g = g ++ run → runL g run l ++ joinS (runF cB g run l).reverse = joinS l.reverse ++ run ∧ (runL g run l ++ g = g ++ runL g run l) := by
  induction l with
  | nil => intro run h; simp [runF, runL, joinS, Str.empty_append, Str.append_empty, h]
  | cons w r ih =>
    intro run h
    unfold runF runL
    split
    · rename_i hw
      subst hw
      have h2 : (run ++ w) ++ w = w ++ (run ++ w) := by rw [h, Str.append_assoc, h]
      obtain ⟨i1, i2⟩ := ih (run ++ w) h2
      refine ⟨?_, i2⟩
      rw [i1, List.reverse_cons, joinS_append]
      simp only [joinS, Str.append_empty, Str.append_assoc, h]
    · obtain ⟨i1, i2⟩ := ih Str.empty (by rw [Str.empty_append, Str.append_empty])
      refine ⟨?_, i2⟩
      rw [List.reverse_cons, joinS_append, ← Str.append_assoc, i1, List.reverse_cons, joinS_append]
      simp only [joinS, cB, Str.append_empty, Str.append_assoc]
end Mine
end

section
open PySem PySem.W PyProof.Rows PySem.Calls PySem.Spec
set_option Elab.async false
set_option maxRecDepth 100000
set_option maxHeartbeats 4000000
namespace Mine

def turnD (b : Bool) (r : List Str) : List Str := if b then r.reverse else r
def cD (b : Bool) : Str → Str → Str := if b then cB else cF
def stepRow (g : Str) (b : Bool) (r : List Str) : List Str := turnD b (runF (cD b) g Str.empty (turnD b r))
def endW (b : Bool) (r : List Str) : Str := if b then r.getD 0 Str.empty else r.getD (r.length - 1) Str.empty
def goneOf (ks : List Str) (d : Int) : Str := ks.getD ((d.fdiv 2).fmod ks.length).toNat Str.empty
def behindOf (d : Int) : Bool := d.fmod 2 == 1
def ledF (draws : List Int) : Nat → Nat → List Str → List Str
  | 0, _, _ => []
  | fuel + 1, stage, row =>
    if (kindsOf row).length = 1 then row
    else if endW (behindOf (draws.getD (stage % 4) 0)) row = goneOf (kindsOf row) (draws.getD (stage % 4) 0) then []
    else ledF draws fuel (stage + 1) (stepRow (goneOf (kindsOf row) (draws.getD (stage % 4) 0)) (behindOf (draws.getD (stage % 4) 0)) row)

theorem turnD_turnD (b : Bool) (r : List Str) : turnD b (turnD b r) = r := by cases b <;> simp [turnD]
theorem turnD_length (b : Bool) (r : List Str) : (turnD b r).length = r.length := by cases b <;> simp [turnD]
theorem turnD_mem (b : Bool) (r : List Str) (x : Str) : x ∈ turnD b r ↔ x ∈ r := by cases b <;> simp [turnD]
theorem snoc_cases (r : List Str) (h : r ≠ []) : ∃ a w, r = a ++ [w] := ⟨r.dropLast, r.getLast h, (List.dropLast_concat_getLast h).symm⟩
theorem ends_of {g : Str} {b : Bool} {r : List Str} (hr : r ≠ []) (h : endW b r ≠ g) : Ends g (turnD b r) := by
  cases b with
  | true =>
    cases r with
    | nil => exact absurd rfl hr
    | cons x t => exact ⟨t.reverse, x, by simp [turnD], by simpa [endW] using h⟩
  | false =>
    obtain ⟨a, w, rfl⟩ := snoc_cases r hr
    exact ⟨a, w, rfl, by simpa [endW] using h⟩
theorem ends_endW {g : Str} {b : Bool} {r : List Str} (h : Ends g (turnD b r)) : endW b r ≠ g := by
  obtain ⟨a, w, e, hw⟩ := h
  have e2 : r = turnD b (a ++ [w]) := by rw [← e, turnD_turnD]
  subst e2
  cases b <;> simpa [endW, turnD] using hw
theorem step_join {g : Str} {b : Bool} {r : List Str} (h : Ends g (turnD b r)) : joinS (stepRow g b r) = joinS r := by
  obtain ⟨a, w, e, hw⟩ := h
  cases b with
  | false =>
    have e : r = a ++ [w] := e
    have h1 := joinF g r Str.empty
    rw [e, runL_end _ _ _ hw, Str.append_empty, Str.empty_append, ← e] at h1
    exact h1
  | true =>
    have e : r.reverse = a ++ [w] := e
    have h1 := (joinB g r.reverse Str.empty (by rw [Str.empty_append, Str.append_empty])).1
    rw [e, runL_end _ _ _ hw, Str.append_empty, Str.empty_append, ← e, List.reverse_reverse] at h1
    exact h1
theorem step_ne {g : Str} {b : Bool} {r : List Str} (h : Ends g (turnD b r)) : stepRow g b r ≠ [] := by
  obtain ⟨a, w, e, hw⟩ := h
  unfold stepRow
  rw [e]
  intro hc
  have h1 := runF_ne (cD b) g a w hw Str.empty
  cases b
  · exact h1 hc
  · exact h1 (by simpa [turnD] using hc)
theorem step_length {g : Str} {b : Bool} {r : List Str} (h : g ∈ r) : (stepRow g b r).length < r.length := by
  unfold stepRow
  rw [turnD_length]
  have := runF_length_lt (cD b) g (turnD b r) ((turnD_mem b r g).mpr h) Str.empty
  rwa [turnD_length] at this

def IsRot (a b : List Str) : Prop := ∃ x y, a = x ++ y ∧ b = y ++ x
theorem IsRot.refl (a : List Str) : IsRot a a := ⟨[], a, rfl, by simp⟩
theorem IsRot.symm {a b : List Str} : IsRot a b → IsRot b a := fun ⟨x, y, h1, h2⟩ => ⟨y, x, h2, h1⟩
theorem IsRot.perm {a b : List Str} : IsRot a b → a.Perm b := fun ⟨x, y, h1, h2⟩ => by subst h1 h2; exact List.perm_append_comm
theorem IsRot.trans {a b c : List Str} : IsRot a b → IsRot b c → IsRot a c := by
  rintro ⟨x, y, rfl, rfl⟩ ⟨p, q, h, rfl⟩
  rcases List.append_eq_append_iff.mp h with ⟨as, rfl, rfl⟩ | ⟨bs, rfl, rfl⟩
  · exact ⟨as, q ++ y, by simp, by simp⟩
  · exact ⟨x ++ p, bs, by simp, by simp⟩
theorem IsRot.turnD {a c : List Str} (b : Bool) : IsRot a c → IsRot (turnD b a) (turnD b c) := by
  rintro ⟨x, y, rfl, rfl⟩
  cases b with
  | false => exact ⟨x, y, rfl, rfl⟩
  | true => exact ⟨y.reverse, x.reverse, by simp [Mine.turnD], by simp [Mine.turnD]⟩
theorem IsRot.length {a b : List Str} (h : IsRot a b) : a.length = b.length := h.perm.length_eq

theorem run_rot {c : Str → Str → Str} {g : Str} {a b : List Str} (h : IsRot a b) (ha : Ends g a) (hb : Ends g b) : IsRot (runF c g Str.empty a) (runF c g Str.empty b) := by
  obtain ⟨x, y, rfl, rfl⟩ := h
  by_cases hx : x = []
  · subst hx; simpa using IsRot.refl _
  by_cases hy : y = []
  · subst hy; simpa using IsRot.refl _
  have ex : Ends g x := by
    obtain ⟨a', w, e, hw⟩ := hb
    obtain ⟨x', v, rfl⟩ := snoc_cases x hx
    have : v = w := by
      rw [← List.append_assoc] at e
      exact (List.append_inj' e rfl).2 |> fun h => by simpa using h
    exact ⟨x', v, rfl, this ▸ hw⟩
  have ey : Ends g y := by
    obtain ⟨a', w, e, hw⟩ := ha
    obtain ⟨y', v, rfl⟩ := snoc_cases y hy
    have : v = w := by
      rw [← List.append_assoc] at e
      exact (List.append_inj' e rfl).2 |> fun h => by simpa using h
    exact ⟨y', v, rfl, this ▸ hw⟩
  obtain ⟨x', v, rfl, hv⟩ := ex
  obtain ⟨y', v', rfl, hv'⟩ := ey
  rw [runF_append, runL_end _ _ _ hv, runF_append (a := y' ++ [v']), runL_end _ _ _ hv']
  exact ⟨_, _, rfl, rfl⟩
theorem run_back {c : Str → Str → Str} {g : Str} {a : List Str} {R : List Str} (ha : Ends g a) (h : IsRot (runF c g Str.empty a) R) : ∃ b, IsRot a b ∧ Ends g b ∧ runF c g Str.empty b = R := by
  obtain ⟨p, q, hp, rfl⟩ := h
  by_cases hp0 : p = []
  · subst hp0
    exact ⟨a, IsRot.refl _, ha, by simpa using hp⟩
  by_cases hq0 : q = []
  · subst hq0
    exact ⟨a, IsRot.refl _, ha, by simpa using hp⟩
  obtain ⟨x, y, rfl, hx, hy, ex⟩ := runF_split c g a Str.empty p q hp hp0
  have hy0 : y ≠ [] := by rintro rfl; exact hq0 (by rw [← hy]; rfl)
  have ey : Ends g y := by
    obtain ⟨a', w, e, hw⟩ := ha
    obtain ⟨y', v, rfl⟩ := snoc_cases y hy0
    have : v = w := by
      rw [← List.append_assoc] at e
      exact (List.append_inj' e rfl).2 |> fun h => by simpa using h
    exact ⟨y', v, rfl, this ▸ hw⟩
  obtain ⟨x', v, rfl, hv⟩ := ex
  obtain ⟨y', v', rfl, hv'⟩ := ey
  refine ⟨(y' ++ [v']) ++ (x' ++ [v]), ⟨_, _, rfl, rfl⟩, ⟨y' ++ [v'] ++ x', v, by simp, hv⟩, ?_⟩
  rw [runF_append, runL_end _ _ _ hv', hx, hy]

theorem step_rot {g : Str} {b : Bool} {r₁ r₂ : List Str} (h : IsRot r₁ r₂) (h1 : Ends g (turnD b r₁)) (h2 : Ends g (turnD b r₂)) : IsRot (stepRow g b r₁) (stepRow g b r₂) :=
  (run_rot (h.turnD b) h1 h2).turnD b
theorem step_back {g : Str} {b : Bool} {r R : List Str} (h1 : Ends g (turnD b r)) (h : IsRot (stepRow g b r) R) : ∃ r', IsRot r r' ∧ Ends g (turnD b r') ∧ stepRow g b r' = R := by
  have h' := h.turnD b
  unfold stepRow at h'
  rw [turnD_turnD] at h'
  obtain ⟨x, hx, ex, e⟩ := run_back h1 h'
  refine ⟨turnD b x, ?_, by rw [turnD_turnD]; exact ex, ?_⟩
  · have := hx.turnD b
    rwa [turnD_turnD] at this
  · unfold stepRow
    rw [turnD_turnD, e, turnD_turnD]
theorem exists_end {g w : Str} {r : List Str} (b : Bool) (hw : w ∈ r) (hn : w ≠ g) : ∃ r', IsRot r r' ∧ Ends g (turnD b r') := by
  obtain ⟨x, y, e⟩ := List.append_of_mem ((turnD_mem b r w).mpr hw)
  have hr : IsRot (turnD b r) (y ++ (x ++ [w])) := ⟨x ++ [w], y, by rw [e]; simp, rfl⟩
  refine ⟨turnD b (y ++ (x ++ [w])), ?_, by rw [turnD_turnD]; exact ⟨y ++ x, w, by simp, hn⟩⟩
  have := hr.turnD b
  rwa [turnD_turnD] at this

theorem gone_mem {r : List Str} (hr : r ≠ []) (d : Int) : goneOf (kindsOf r) d ∈ r := by
  refine kindsOf_mem ?_
  have hp := kindsOf_pos (List.length_pos_iff.mpr hr)
  unfold goneOf
  have h0 : 0 ≤ (d.fdiv 2).fmod (kindsOf r).length := Int.fmod_nonneg_of_pos _ (by omega)
  have h1 : (d.fdiv 2).fmod (kindsOf r).length < (kindsOf r).length := Int.fmod_lt_of_pos _ (by omega)
  have hlt : ((d.fdiv 2).fmod (kindsOf r).length).toNat < (kindsOf r).length := by omega
  rw [List.getD_eq_getElem?_getD, List.getElem?_eq_getElem hlt]
  exact List.getElem_mem hlt
theorem all_alike {r : List Str} (hr : r ≠ []) (g : Str) (h : ∀ w ∈ r, w = g) : (kindsOf r).length = 1 := by
  have hall : ∀ w ∈ rank r, w = g := fun w hw => h w ((List.mergeSort_perm r leS).mem_iff.mp hw)
  have hlen : 0 < (rank r).length := by rw [rank_length]; exact List.length_pos_iff.mpr hr
  unfold kindsOf
  generalize rank r = l at hall hlen
  have key : ∀ i, 0 < i → i ≤ l.length → (kindsTo l i).length = 1 := by
    intro i
    induction i with
    | zero => intro h; omega
    | succ i ih =>
      intro _ hi
      by_cases h0 : i = 0
      · subst h0; simp [kindsTo]
      · have hget : ∀ j, j < l.length → l.getD j Str.empty = g := fun j hj => by
          rw [List.getD_eq_getElem?_getD, List.getElem?_eq_getElem hj]
          exact hall _ (List.getElem_mem hj)
        unfold kindsTo
        rw [if_neg]
        · exact ih (by omega) (by omega)
        · rw [hget _ (by omega), hget _ (by omega)]
          simp [h0]
  exact key _ hlen (Nat.le_refl _)

theorem led_join (draws : List Int) : ∀ fuel stage r, ledF draws fuel stage r ≠ [] → joinS (ledF draws fuel stage r) = joinS r
  | 0, _, _, h => absurd rfl h
  | fuel + 1, stage, r, h => by
    unfold ledF at h ⊢
    split
    · rfl
    · rename_i h1
      rw [if_neg h1] at h
      split
      · rename_i h2; rw [if_pos h2] at h; exact absurd rfl h
      · rename_i h2
        rw [if_neg h2] at h
        rw [led_join draws fuel (stage + 1) _ h]
        by_cases hr : r = []
        · subst hr
          cases hb : behindOf (draws.getD (stage % 4) 0) <;> rfl
        · exact step_join (ends_of hr h2)

theorem led_same (draws : List Int) : ∀ fuel stage r₁ r₂, r₁ ≠ [] → IsRot r₁ r₂ → ledF draws fuel stage r₁ ≠ [] → ledF draws fuel stage r₂ ≠ [] → joinS r₁ = joinS r₂
  | 0, _, _, _, _, _, h, _ => absurd rfl h
  | fuel + 1, stage, r₁, r₂, hne, hr, h, h' => by
    unfold ledF at h h'
    rw [← kindsOf_perm hr.perm] at h'
    by_cases h1 : (kindsOf r₁).length = 1
    · have : r₁ = r₂ := by
        apply List.ext_getElem hr.length
        intro i hi hi'
        exact kindsOf_one h1 (List.getElem_mem hi) (hr.perm.mem_iff.mpr (List.getElem_mem hi'))
      rw [this]
    · rw [if_neg h1] at h h'
      have hne' : r₂ ≠ [] := by
        rintro rfl
        exact hne (by have := hr.length; simpa using this)
      split at h
      · exact absurd rfl h
      · rename_i h2
        split at h'
        · exact absurd rfl h'
        · rename_i h2'
          have e1 := ends_of hne h2
          have e2 := ends_of hne' h2'
          rw [← step_join e1, ← step_join e2]
          exact led_same draws fuel (stage + 1) _ _ (step_ne e1) (step_rot hr e1 e2) h h'

theorem led_some (draws : List Int) : ∀ fuel stage r, r ≠ [] → r.length ≤ fuel → ∃ r', IsRot r r' ∧ ledF draws fuel stage r' ≠ []
  | 0, _, r, h, hl => absurd (List.length_eq_zero_iff.mp (by omega)) h
  | fuel + 1, stage, r, hr, hl => by
    by_cases h1 : (kindsOf r).length = 1
    · refine ⟨r, IsRot.refl _, ?_⟩
      unfold ledF
      rw [if_pos h1]
      exact hr
    · generalize hg : goneOf (kindsOf r) (draws.getD (stage % 4) 0) = g
      generalize hb : behindOf (draws.getD (stage % 4) 0) = b
      obtain ⟨w, hw, hwg⟩ : ∃ w ∈ r, w ≠ g := by
        apply Classical.byContradiction
        intro hc
        refine h1 (all_alike hr g fun w hw => ?_)
        apply Classical.byContradiction
        intro hwg
        exact hc ⟨w, hw, hwg⟩
      obtain ⟨r₁, hr₁, e₁⟩ := exists_end b hw hwg
      have hgm : g ∈ r₁ := hr₁.perm.mem_iff.mp (hg ▸ gone_mem hr _)
      have hlen : (stepRow g b r₁).length ≤ fuel := by
        have := step_length (b := b) hgm
        have := hr₁.length
        omega
      obtain ⟨R, hR, hL⟩ := led_some draws fuel (stage + 1) _ (step_ne e₁) hlen
      obtain ⟨r', hr', e', he⟩ := step_back e₁ hR
      refine ⟨r', hr₁.trans hr', ?_⟩
      unfold ledF
      rw [← kindsOf_perm (hr₁.trans hr').perm, if_neg h1, hg, hb, if_neg (ends_endW e'), he]
      exact hL
end Mine
end

section
open PySem PySem.W PyProof.Rows PySem.Calls PySem.Spec
set_option Elab.async false
set_option maxRecDepth 100000
set_option maxHeartbeats 4000000
namespace Mine
def sign1 (n : Nat) : Str := ⟨#[n]⟩
def signsOf (t : Str) : List Str := t.cps.toList.map sign1
theorem joinS_map : ∀ l : List Nat, joinS (l.map sign1) = ⟨l.toArray⟩
  | [] => rfl
  | n :: r => by
    simp only [List.map_cons, joinS, joinS_map r]
    exact Str.ext' (by simp [Str.cps_append, sign1])
theorem joinS_signs (t : Str) : joinS (signsOf t) = t := by
  unfold signsOf
  rw [joinS_map]
def rotP (p : Str) (k : Nat) : Str := ⟨(p.cps.toList.drop k ++ p.cps.toList.take k).toArray⟩
def turnsP (p : Str) (k : Nat) : List Str := (List.range k).map (rotP p)
theorem turnsP_succ (p : Str) (k : Nat) : turnsP p (k + 1) = turnsP p k ++ [rotP p k] := by simp [turnsP, List.range_succ]
def outL (draws : List Int) (t : Str) : List Str := ledF draws t.length 0 (signsOf t)
def keptB (draws : List Int) (t : Str) : Bool := !(outL draws t).isEmpty
theorem keptB_iff (draws : List Int) (t : Str) : keptB draws t = true ↔ outL draws t ≠ [] := by simp [keptB]
theorem outL_join {draws : List Int} {t : Str} (h : outL draws t ≠ []) : joinS (outL draws t) = t := by
  unfold outL at h ⊢
  rw [led_join _ _ _ _ h, joinS_signs]
theorem rotP_length (p : Str) (k : Nat) : (rotP p k).length = p.length := by
  simp only [rotP, Str.length, List.size_toArray, List.length_append, List.length_drop, List.length_take, Array.length_toList]
  omega
theorem rotP_signs (p : Str) (k : Nat) : IsRot (signsOf p) (signsOf (rotP p k)) :=
  ⟨(p.cps.toList.take k).map sign1, (p.cps.toList.drop k).map sign1, by rw [← List.map_append, List.take_append_drop]; rfl, by simp [signsOf, rotP]⟩
theorem signs_length (p : Str) : (signsOf p).length = p.length := by simp [signsOf, Str.length]
theorem rot_back {p : Str} {r : List Str} (hp : 0 < p.length) (h : IsRot (signsOf p) r) : ∃ k, k < p.length ∧ r = signsOf (rotP p k) := by
  obtain ⟨x, y, e, rfl⟩ := h
  have hlen := signs_length p
  rw [e, List.length_append] at hlen
  have hx : x = (p.cps.toList.take x.length).map sign1 := by
    have := congrArg (List.take x.length) e
    rw [List.take_left] at this
    exact this.symm.trans (by rw [signsOf, List.map_take])
  have hy : y = (p.cps.toList.drop x.length).map sign1 := by
    have := congrArg (List.drop x.length) e
    rw [List.drop_left] at this
    exact this.symm.trans (by rw [signsOf, List.map_drop])
  by_cases h0 : x.length < p.length
  · refine ⟨x.length, h0, ?_⟩
    conv => lhs; rw [hx, hy]
    simp [signsOf, rotP]
  · refine ⟨0, hp, ?_⟩
    have hy0 : y = [] := List.length_eq_zero_iff.mp (by omega)
    subst hy0
    simp only [List.nil_append, List.append_nil] at e ⊢
    rw [← e]
    simp [signsOf, rotP]
theorem filter_rep (f : Str → Bool) (b : Str) : ∀ l : List Str, (∀ t ∈ l, f t = true ↔ t = b) → l.filter f = List.replicate (cnt b l) b
  | [], _ => rfl
  | x :: r, h => by
    have ih := filter_rep f b r fun t ht => h t (List.mem_cons_of_mem _ ht)
    have hx := h x (List.mem_cons_self ..)
    rw [List.filter_cons]
    by_cases hf : f x = true
    · have := hx.mp hf
      subst this
      rw [if_pos hf, ih]
      simp only [cnt, if_true]
      rw [Nat.add_comm, List.replicate_succ]
    · have hxb : x ≠ b := fun e => hf (hx.mpr e)
      rw [if_neg hf, ih]
      simp [cnt, hxb]
theorem chosen_law (draws : List Int) (p : Str) (hp : 0 < p.length) : ((turnsP p p.length).filter (keptB draws)) ≠ [] ∧
    (turnsP p p.length).filter (keptB draws) = List.replicate (cnt (((turnsP p p.length).filter (keptB draws)).getD 0 Str.empty) (turnsP p p.length)) (((turnsP p p.length).filter (keptB draws)).getD 0 Str.empty) := by
  obtain ⟨r', hr', hL⟩ := led_some draws p.length 0 (signsOf p) (by intro h; have := signs_length p; rw [h] at this; simp at this; omega) (by rw [signs_length]; exact Nat.le_refl _)
  obtain ⟨k, hk, rfl⟩ := rot_back hp hr'
  have hb : keptB draws (rotP p k) = true := (keptB_iff _ _).mpr (by unfold outL; rw [rotP_length]; exact hL)
  have hm : rotP p k ∈ turnsP p p.length := List.mem_map.mpr ⟨k, List.mem_range.mpr hk, rfl⟩
  have hmf : rotP p k ∈ (turnsP p p.length).filter (keptB draws) := List.mem_filter.mpr ⟨hm, hb⟩
  have hall : ∀ t ∈ turnsP p p.length, keptB draws t = true ↔ t = rotP p k := by
    intro t ht
    constructor
    · intro hkt
      obtain ⟨j, _, rfl⟩ := List.mem_map.mp ht
      have h1 := (keptB_iff _ _).mp hkt
      unfold outL at h1
      rw [rotP_length] at h1
      have := led_same draws p.length 0 _ _ (by intro h; have := signs_length (rotP p j); rw [h, rotP_length] at this; simp at this; omega) ((rotP_signs p j).symm.trans (rotP_signs p k)) h1 hL
      rwa [joinS_signs, joinS_signs] at this
    · rintro rfl
      exact hb
  have hrep := filter_rep (keptB draws) (rotP p k) _ hall
  have h0 : ((turnsP p p.length).filter (keptB draws)).getD 0 Str.empty = rotP p k := by
    cases e : (turnsP p p.length).filter (keptB draws) with
    | nil => rw [e] at hmf; cases hmf
    | cons x r =>
      have hx : x ∈ (turnsP p p.length).filter (keptB draws) := by rw [e]; exact List.mem_cons_self ..
      have := List.mem_filter.mp hx
      exact (hall x this.1).mp this.2
  refine ⟨fun e => (by rw [e] at hmf; cases hmf), ?_⟩
  rw [h0]
  exact hrep
end Mine
end

section
open PySem PySem.W PyProof.Rows PySem.Calls
open Sem (wp)
set_option Elab.async false
set_option maxRecDepth 100000
set_option maxHeartbeats 4000000
namespace Mine
section
variable {w : World} {A : Around} {s : Shared} {env : Env} {E : Value → Shared → Prop} {h₀ : Heap}

/-- two names, two values -/
theorem assign2 {a b : Str} {pa pb tp vpos pos : Pos} {k k2 : Nat} {e1 e2 : PySem.Expr} {Q : Flow → Shared → Prop} (hh : A.handled = none)
    (h : wpAny (model P₀ w) A (spliced (backTo vpos (starEach [e1, e2] env))) (fun vs s₁ => ∃ x y m, vs = [x, y] ∧ Fr h₀ env.locals s₁.heap m ∧
      ∀ h' tk, Fr h₀ env.locals h' (fun z => if z = a then some x else if z = b then some y else m z) → (∀ c o, c ≠ env.locals → s₁.heap.get? c = some o → h'.get? c = some o) → Q .next { s₁ with heap := h', toks := tk }) E s)
    (ha : env.kindOf a = some .local := by rfl) (hb : env.kindOf b = some .local := by rfl) (hp : (env.scope.kind == .class || (env.scope.kind == .module && env.locals != env.globals)) = false := by rfl)
    (hs : swapsWithSole [.Tuple [.Name a pa, .Name b pb] k tp] (.Tuple [e1, e2] k2 vpos) pos.line env = pure false := by rfl)
    (hw : swappedStores [.Tuple [.Name a pa, .Name b pb] k tp] (.Tuple [e1, e2] k2 vpos) env = pure (some [a, b]) := by rfl) :
    wpAny (model P₀ w) A (exec (.Assign [.Tuple [.Name a pa, .Name b pb] k tp] (.Tuple [e1, e2] k2 vpos) pos) env) Q E s := by
  refine Assign_Tuple_swapped (names := [a, b]) ?_ hs hw
  refine Tuple_ (wpAny_mono h (fun vs s₁ h₁ => ?_) fun _ _ e => e)
  obtain ⟨x, y, m, rfl, F, hQ⟩ := h₁
  have up : ∀ (o' : Obj) c o, s₁.heap.get? c = some o → (s₁.heap.push o').get? c = some o := fun _ c o e => Heap.get?_push_of_some _ e
  refine wpAny_newObj_type ?_ (by size_fits)
  refine unpackItems_tuple (items := #[x, y]) hh ⟨_, Heap.get?_push_size _ rfl, rfl, _, rfl⟩ fun h1 he => ?_
  have F1 : Fr h₀ env.locals h1 m := (F.push _).extBut he (Nat.le_refl _)
  have up1 : ∀ c o, s₁.heap.get? c = some o → h1.get? c = some o := fun c o e => he c o (Nat.ne_of_lt (Heap.lt_size (up _ c o e))) (up _ c o e)
  show wpAny _ _ (assignInOrder [bindName env b, bindName env a] [y, x]) _ _ _
  refine assignInOrder_cons ?_
  refine wpAny_bindName ?_
  refine stS F1 (fun h2 F2 hs2 => ?_) hb hp
  refine assignInOrder_cons ?_
  refine wpAny_bindName ?_
  refine stS F2 (fun h3 F3 hs3 => ?_) ha hp
  refine assignInOrder_nil ?_
  exact hQ h3 _ F3 fun c o hc e => hs3.extBut c o hc (hs2.extBut c o hc (up1 c o e))

theorem Feed.enum {a b : Str} {pa pb tp : Pos} {k : Nat} {cenv : Env} {I : Addr} {fp wr : List Addr} {n : Nat} {P : Nat → Value → Prop} {Pt : Nat → Array Value → Prop} {St : Nat → Heap → Prop} {Mid : Nat → Addr → Heap → Prop}
    (W : WalksT P₀ w A I fp wr n Pt St Mid) (hPt : ∀ i vals, Pt i vals → ∃ (t : Tok) (x : Value), vals = #[.int i t, x] ∧ P i x) (hh : A.handled = none) (hab : (a == b) = false)
    (ha : cenv.kindOf a = some .local) (hb : cenv.kindOf b = some .local) (hp : (cenv.scope.kind == .class || (cenv.scope.kind == .module && cenv.locals != cenv.globals)) = false) :
    Feed w A (.Tuple [.Name a pa, .Name b pb] k tp) cenv I fp wr n (fun i m => (∃ t, m a = some (.int i t)) ∧ ∃ x, P i x ∧ m b = some x) St where
  sub := W.sub
  frame := W.frame
  done := W.done
  self := W.self
  turn := fun i s m Q E hi hst hn hC hQ => by
    have hab' : a ≠ b := by simpa using hab
    have hCw : cenv.locals ∉ wr := fun h => hC (W.sub _ h)
    refine W.item i s _ E hi hst fun T vals h₁ tk₁ hP hT hTup hMid hk₁ => ⟨.ref T, rfl, ?_⟩
    refine W.go _ k tp i T _ _ E hMid fun h₂ hst₂ hk₂ => ?_
    obtain ⟨t, x, rfl, hx⟩ := hPt i vals hP
    have hTC : T ≠ cenv.locals := fun e => Nat.lt_irrefl _ (Nat.lt_of_lt_of_le hn.lt (e ▸ hT))
    have hTup₂ : h₂.IsTuple T #[.int i t, x] := by
      obtain ⟨o, ho, hr⟩ := hTup
      exact ⟨o, hk₂ T o (W.apart i T h₁ hMid) ho, hr⟩
    refine kcp_assign hh hTup₂ ha hb hp (hn.at' fun o e => hk₂ _ o hCw (hk₁ _ o hCw e)) fun h₃ tk₃ hn₃ hs₃ => ?_
    refine hQ h₃ tk₃ _ (W.frame _ _ _ hst₂ fun c hc o e => hs₃ c o (fun q => hC (q ▸ hc)) e) hn₃ ⟨⟨t, ?_⟩, x, hx, ?_⟩ fun c o hc hw e => hs₃ c o hc (hk₂ c o hw (hk₁ c o hw e))
    · simp [hab']
    · simp

def CompAtB (hB : Heap) (w : World) (A : Around) (env : Env) (scope : Scope) (cl : List (Str × Addr)) (target : PySem.Expr) (ifs : List PySem.Expr) (elt : PySem.Expr) (s₁ : Shared) (Fin : List Value → Nat → Prop) (it : Value) (s₂ : Shared) : Prop :=
  ∃ (I : Addr) (fp wr : List Addr) (n : Nat) (B : Nat → (Str → Option Value) → Prop) (St : Nat → Heap → Prop) (J : Nat → List Value → Nat → Prop),
    it = .ref I ∧ (∀ C, Feed w A target (compEnvC scope cl C env) I fp wr n B St) ∧ n ≤ sizeLine ∧ St 0 s₂.heap ∧ (∀ b ∈ fp, b < s₂.heap.objs.size) ∧ Keep hB s₂.heap ∧ (∀ b ∈ wr, hB.get? b = none) ∧
    Mono J ∧ (∀ i ys t, J i ys t → ys.length ≤ i) ∧ J 0 [] s₂.toks ∧ Body w A env scope cl ifs elt n B J hB ∧ (∃ hh, s₂ = { s₁ with heap := hh }) ∧ ∀ ys tk, J n ys tk → Fin ys tk

theorem comp_assignB {elt target iter : PySem.Expr} {y : Str} {py : Pos} {ifs : List PySem.Expr} {scope : Scope} {cl : List (Str × Addr)} {pos spos : Pos} {Q : Flow → Shared → Prop}
    (hsw : swapsWith (.ListComp elt [⟨target, iter, ifs, 0⟩] scope pos) (some (.Name y py)) spos.line env = pure true)
    (hclos : closureFor scope env = pure cl) (hcell : ∀ z ∈ scope.names, z.2 ≠ .cell) (hkind : scope.kind = .function)
    (hnames : ∀ z ∈ scope.names, z.2 = .local → scope.names.lookup z.1 = some .local)
    (hy : env.kindOf y = some .local) (hp : (env.scope.kind == .class || (env.scope.kind == .module && env.locals != env.globals)) = false)
    (h : wpAny (model P₀ w) A (eval iter env) (fun xv s₁ => ∃ m news hB, Fr h₀ env.locals hB m ∧ News h₀ env.locals hB news ∧ wpAny (model P₀ w) A (pyIter xv) (CompAtB hB w A env scope cl target ifs elt s₁
      (fun ys tk => ∀ D h', Fr h₀ env.locals h' (fun z => if z = y then some (.ref D) else m z) → News h₀ env.locals h' ((D, lstO ys) :: news) → hB.get? D = none → (∀ b o, b ≠ env.locals → hB.get? b = some o → h'.get? b = some o) → Q .next { s₁ with heap := h', toks := tk })) E s₁) E s)
    (hs : ∀ x, foldedSetIterable iter env x = pure x := by intro _; rfl) :
    wpAny (model P₀ w) A (exec (.Assign [.Name y py] (.ListComp elt [⟨target, iter, ifs, 0⟩] scope pos) spos) env) Q E s := by
  rw [exec_Assign_Name_used _ _ _ _ hsw]
  refine wpAny_bind (wpAny_standAt (wpAny_bind ?_))
  show wpAny _ A (do let _ ← comprehension (.ListComp elt [⟨target, iter, ifs, 0⟩] scope pos) scope env _ (newList []) false (eval iter env) (some (assign (.Name y py) env))) _ _ s
  refine wpAny_bind (wpAny_mono (wpAny_comprehension_free (use := some (assign (.Name y py) env)) (Q := fun _ s' => Q .next s') rfl hs hclos hkind hnames
    (wpAny_mono h (fun xv s₁ h₁ => ?_) fun _ _ e => e)) (fun _ s' hq => wpAny_pure (wpAny_pure hq)) fun _ _ e => e)
  obtain ⟨m, news, hB, F, N, h₁⟩ := h₁
  refine wpAny_mono h₁ (fun it s₂ h₂ => ?_) fun _ _ e => e
  obtain ⟨I, fp, wr, n, B, St, J, rfl, W, hsz, hst, hfp, hk12, hwr, hJm, hJl, hJ0, hb, ⟨hh, rfl⟩, hQ⟩ := h₂
  refine comp_block (s₁ := { s₁ with heap := hB }) (RR := fun acc C => compPost (model P₀ w) A E (some (assign (.Name y py) env)) (fun _ s' => Q .next s') acc C) W hsz hcell hkind hst hfp hk12 hwr hJm hJl hJ0 hb ?_
  intro D C h' tk m' ys hD hC hDC hnC hlD hJ hk
  have hn := F.ns
  have hLC : env.locals ≠ C := by rintro rfl; obtain ⟨o, _, _, ho, _⟩ := hn; rw [hC] at ho; cases ho
  have hLD : env.locals ≠ D := by rintro rfl; obtain ⟨o, _, _, ho, _⟩ := hn; rw [hD] at ho; cases ho
  have h0 : ∀ a, hB.get? a = none → h₀.get? a = none := fun a ha => by
    cases e : h₀.get? a with
    | none => rfl
    | some o => have := F.keep a o e; rw [ha] at this; cases this
  show wpAny _ A (assign (.Name y py) env (.ref D)) _ _ _
  refine wpAny_assign_Name (wpAny_storeName_local hy (hn.at' fun o e => hk _ o e) (fun h₂ hn₂ hs₂ => ?_) hp)
  refine ⟨m', hnC.sameBut hs₂ (Ne.symm hLC), fun h₃ hs₃ => ?_⟩
  have hL₀ : h₀.get? env.locals = none := Heap.get?_none_of_le F.above
  have up : ∀ b o, b ≠ env.locals → hB.get? b = some o → h₃.get? b = some o := fun b o hbL e =>
    hs₃.extBut b o (by rintro rfl; rw [hC] at e; cases e) (hs₂.extBut b o hbL (hk b o e))
  refine hQ ys _ (hJm _ _ _ _ (Nat.le_succ _) hJ) D h₃ ?_ ?_ hD up
  · exact ⟨hn₂.sameBut hs₃ hLC, fun b o e => up b o (fun q => by rw [q, hL₀] at e; cases e) (F.keep b o e), F.above⟩
  · intro p hp
    rcases List.mem_cons.mp hp with rfl | hp
    · exact ⟨hs₃.extBut _ _ hDC (hs₂.extBut _ _ (Ne.symm hLD) hlD), Ne.symm hLD, h0 _ hD⟩
    · exact ⟨up _ _ (N p hp).2.1 (N p hp).1, (N p hp).2⟩

theorem src_enum {scope : Scope} {cl : List (Str × Addr)} {x y : Str} {px py tp : Pos} {k : Nat} {ifs : List PySem.Expr} {elt : PySem.Expr} {Fin : Heap → List Value → Nat → Prop} {J : Nat → List Value → Nat → Prop} {l : Addr} {items : Array Value} {n : Nat} {Q : Value → Shared → Prop}
    (hl : s.heap.get? l = some { cls := .type "list", dict := none, data := .seq items n, slots := #[] })
    (h : ∀ h₁ xv, Keep s.heap h₁ → wpAny (model P₀ w) A (pyIter xv) (CompAtB s.heap w A env scope cl (.Tuple [.Name x px, .Name y py] k tp) ifs elt { s with heap := h₁ } (Fin h₁)) E { s with heap := h₁ } → Q xv { s with heap := h₁ })
    (hh : A.handled = none) (hsz : items.size ≤ sizeLine)
    (hJm : Mono J) (hJl : ∀ i ys t, J i ys t → ys.length ≤ i) (hJ0 : ∀ t, J 0 [] t)
    (hb : Body w A env scope cl ifs elt items.size (fun i m => (∃ t, m x = some (.int i t)) ∧ ∃ v, items[i]? = some v ∧ m y = some v) J s.heap)
    (hF : ∀ s₁ ys tk, J items.size ys tk → Fin s₁ ys tk)
    (hxy : (x == y) = false := by decide) (hx : scope.names.lookup x = some .local := by rfl) (hy : scope.names.lookup y = some .local := by rfl) (hk : scope.kind = .function := by rfl) :
    wpAny (model P₀ w) A (call (.type "enumerate") [.ref l]) Q E s := by
  have hlt : l < s.heap.objs.size := Heap.lt_size hl
  refine call_enumerate_1 hl fun h₁ he hit hsz1 hk1 => h h₁ _ hk1 ?_
  refine wpAny_pyIter_enum he ?_
  have hne : s.heap.objs.size + 1 ≠ s.heap.objs.size := Nat.succ_ne_self _
  have W := WalksT.enumerate (prog := P₀) (w := w) (A := A) hh (s.heap.objs.size + 1) s.heap.objs.size l hne (Nat.ne_of_lt (Nat.lt_succ_of_lt hlt)) (Nat.ne_of_lt hlt) items
  refine ⟨_, _, _, items.size, _, _, J, rfl, fun C => Feed.enum W (P := fun i v => items[i]? = some v) (fun i vals hP => ?_) hh hxy (name_kind hx) (name_kind hy) (name_class hk), hsz, ⟨⟨_, he⟩, hit, ⟨_, hk1 _ _ hl, rfl, _, rfl⟩⟩, ?_, hk1, ?_, hJm, hJl, hJ0 _, hb, ⟨_, rfl⟩, hF _⟩
  · obtain ⟨t, v, h1, h2⟩ := hP
    exact ⟨t, v, h2, h1⟩
  · intro c hc
    show c < h₁.objs.size
    rw [hsz1]
    simp only [List.mem_cons, List.not_mem_nil, or_false] at hc
    rcases hc with rfl | rfl | rfl
    · exact Nat.lt_succ_self _
    · exact Nat.lt_succ_of_lt (Nat.lt_succ_self _)
    · exact Nat.lt_succ_of_lt (Nat.lt_succ_of_lt hlt)
  · intro c hc
    simp only [List.mem_cons, List.not_mem_nil, or_false] at hc
    rcases hc with rfl | rfl
    · exact Heap.get?_none_of_le (Nat.le_succ _)
    · exact Heap.get?_none_of_le (Nat.le_refl _)
end
end Mine
end

section
open PySem PySem.W PyProof.Rows PySem.Calls
open Sem (wp)
set_option Elab.async false
set_option maxRecDepth 100000
set_option maxHeartbeats 4000000
namespace Mine
theorem ints_get : ∀ {vs : List Value} {ns : List Int}, IntsAre vs ns → ∀ k, k < ns.length → ∃ t, vs[k]? = some (.int (ns.getD k 0) t)
  | _, _, .cons n t r, 0, _ => ⟨t, rfl⟩
  | _, _, .cons n t r, k + 1, h => by
    obtain ⟨u, hu⟩ := ints_get r k (by simpa using h)
    exact ⟨u, by simpa using hu⟩
theorem tk0C {P : Shared → Prop} {s : Shared} {h : Heap} {tk : Nat} (H : ∀ tk', P { s with heap := h, toks := tk' }) : P { s with heap := h, toks := tk } := H tk
def RowIs (h : Heap) (D : Addr) (r : List Str) : Prop := ∃ ys, h.IsList D ys.toArray ∧ StrsAre ys r
theorem RowIs.at {h h' : Heap} {D : Addr} {r : List Str} (R : RowIs h D r) (hk : ∀ o, h.get? D = some o → h'.get? D = some o) : RowIs h' D r := let ⟨ys, a, b⟩ := R; ⟨ys, a.at hk, b⟩
theorem RowIs.alive {h : Heap} {D : Addr} {r : List Str} (R : RowIs h D r) : ∃ o, h.get? D = some o ∧ o.cls = .type "list" ∧ ∃ i n, o.data = .seq i n := let ⟨_, ⟨o, e, c, n, d⟩, _⟩ := R; ⟨o, e, c, _, n, d⟩
theorem IsCell.at' {h h' : Heap} {c : Addr} {v : Option Value} (R : h.IsCell c v) (hk : ∀ o, h.get? c = some o → h'.get? c = some o) : h'.IsCell c v := let ⟨o, a, b⟩ := R; ⟨o, hk o a, b⟩
theorem row_cell {h : Heap} {D c : Addr} {r : List Str} {v : Option Value} (R : RowIs h D r) (C : h.IsCell c v) : D ≠ c := by
  rintro rfl
  obtain ⟨o, e, _, i, n, d⟩ := R.alive
  obtain ⟨o', e', d'⟩ := C
  have : o = o' := Option.some.inj (e.symm.trans e')
  subst this
  rw [d] at d'
  cases d'
section
variable {w : World} {A : Around} {s : Shared} {mg mb : Str → Option Value} {E : Value → Shared → Prop} {env : Env} {h₀ : Heap}

theorem x_cell {x : Str} {c : Addr} {p : Pos} {v : Value} {Q : Value → Shared → Prop} (hv : s.heap.IsCell c (some v)) (h : Q v s) (hc : env.cells.lookup x = some c := by rfl)
    (hk : env.scope.kind = .function := by rfl) (hx : env.kindOf x = some .cell := by rfl) (hb : (x == ("__debug__" : Str)) = false := by decide) :
    wpAny (model P₀ w) A (eval (.Name x p) env) Q E s := wpAny_Name (wpAny_loadName_cell hk hx hc hv h) hb

theorem loop_rangeD {Q : Flow → Shared → Prop} {x : Str} {body : List Stmt} {r : Addr} {a b c : Int} {t u v : Tok} {n : Nat} {m : Str → Option Value} (hh : A.handled = none) (hr : IsRange s.heap r a b c t u v)
    (hsm : Builtin.Range.small a b c = true) (hn : Builtin.Range.rangeSize a b c = (n : Int))
    (F : Fr h₀ env.locals s.heap m) (Inv : Addr → Nat → (Str → Option Value) → Heap → Nat → Prop) (hS : ∀ I, s.heap.get? I = none → Stable env.locals [I] (Inv I))
    (h0 : ∀ I h', s.heap.get? I = none → Keep s.heap h' → Inv I 0 m h' s.toks)
    (step : ∀ I i t m₁ h tk, s.heap.get? I = none → I ≠ env.locals → i < n → Inv I i m₁ h tk → Fr h₀ env.locals h (fun y => if y = x then some (.int (a + (i : Int) * c) t) else m₁ y) → (∃ o, h.get? I = some o) →
      wpC (model P₀ w) A (execs body env) (TurnEnd h₀ env.locals [I] (Inv I) i { s with heap := h, toks := tk } Q) (fun _ _ => False) { s with heap := h, toks := tk })
    (done : ∀ I h' tk m', Fr h₀ env.locals h' m' → Inv I n m' h' tk → Q .next { s with heap := h', toks := tk }) :
    wpAny (model P₀ w) A (pyIter (.ref r)) (LoopInC w A h₀ env x body Q) (fun _ _ => False) s := by
  have hI : s.heap.get? s.heap.objs.size = none := fresh_of_size Keep.rfl
  refine wpAny_pyIter_range hr hsm ?_
  refine ⟨_, _, _, n, _, _, m, Inv s.heap.objs.size, rfl, Walks.range hh s.heap.objs.size a c n, ?_, ?_, (by show IsRangeIter _ _ _ _ _; rw [hn]; simpa using Heap.get?_push_size _ rfl), F.push _, hS _ hI, ?_, ?_, ?_⟩
  · intro hm
    exact absurd F.ns.lt ((List.mem_singleton.mp hm) ▸ Nat.lt_irrefl _)
  · intro b hb
    rw [List.mem_singleton.mp hb]
    exact fresh_of_size F.keep
  · exact h0 _ _ hI fun b o e => Heap.get?_push_of_some _ e
  · rintro i v m₁ h tk hi ⟨t, rfl⟩ hJ F' hst'
    exact step s.heap.objs.size i t m₁ h tk hI (Ne.symm (Nat.ne_of_lt F.ns.lt)) hi hJ F' ⟨_, hst'⟩
  · exact done _
end
end Mine
end

section
open PySem PySem.W PyProof.Rows PySem.Calls
open Sem (wp)
set_option Elab.async false
set_option maxRecDepth 100000
set_option maxHeartbeats 800000
namespace Mine
def ledBody : List Stmt := match (bodyK 13).getD 1 (.Pass ⟨0, 0, 0, 0⟩) with | .For _ _ b _ _ => b | _ => []
def ledRest : List Stmt := ledBody.drop 5
abbrev env13 (L f : Addr) (code : Value) : Env := envX (nameK 13) (scopeK 13) L f code [("ranked", L + 1)]

theorem joinS_len_append (a b : List Str) : (joinS (a ++ b)).length = (joinS a).length + (joinS b).length := by rw [joinS_append, Str.length_append]
theorem joinS_len_rev : ∀ l : List Str, (joinS l.reverse).length = (joinS l).length
  | [] => rfl
  | w :: r => by
    rw [List.reverse_cons, joinS_len_append, joinS_len_rev r]
    simp only [joinS, Str.length_append, Str.append_empty]
    omega
theorem joinS_len_turnD (b : Bool) (l : List Str) : (joinS (turnD b l)).length = (joinS l).length := by cases b <;> simp [turnD, joinS_len_rev]
theorem runL_len (g : Str) : ∀ (l : List Str) (run : Str), (runL g run l).length ≤ run.length + (joinS l).length
  | [], run => Nat.le_add_right _ _
  | w :: r, run => by
    unfold runL
    split
    · have := runL_len g r (run ++ w)
      simp only [joinS, Str.length_append] at this ⊢
      omega
    · have := runL_len g r Str.empty
      simp only [joinS, Str.length_append] at this ⊢
      have h0 : Str.empty.length = 0 := rfl
      omega
theorem joinS_take_len (l : List Str) (j : Nat) : (joinS (l.take j)).length ≤ (joinS l).length := by
  conv => rhs; rw [← List.take_append_drop j l, joinS_len_append]
  omega
theorem run_step {c : Str → Str → Str} {g : Str} {l : List Str} {j : Nat} {z : Str} (hz : l[j]? = some z) :
    runF c g Str.empty (l.take (j + 1)) = (if z = g then runF c g Str.empty (l.take j) else runF c g Str.empty (l.take j) ++ [c (runL g Str.empty (l.take j)) z]) ∧
    runL g Str.empty (l.take (j + 1)) = (if z = g then runL g Str.empty (l.take j) ++ z else Str.empty) ∧ (runL g Str.empty (l.take j)).length + z.length ≤ (joinS l).length := by
  rw [List.take_add_one, hz]
  simp only [Option.toList_some]
  refine ⟨?_, ?_, ?_⟩
  · rw [runF_append]
    simp only [runF]
    split <;> simp
  · rw [runL_append]
    simp only [runL]
  · have h1 := runL_len g (l.take j) Str.empty
    have h2 := joinS_take_len l (j + 1)
    rw [List.take_add_one, hz, Option.toList_some, joinS_len_append] at h2
    simp only [joinS, Str.append_empty] at h2
    have h0 : Str.empty.length = 0 := rfl
    omega
theorem turnD_pick (b : Bool) (r : List Str) : (if (if b = true then r.length else 1) = 1 then r else r.reverse) = turnD b r := by
  cases b with
  | false => rfl
  | true =>
    simp only [if_true, turnD]
    split
    · rename_i h
      match r, h with
      | [x], _ => rfl
    · rfl

section
variable {w : World} {A : Around} {s : Shared} {mg mb : Str → Option Value}

theorem led_rest {L f ld I D R : Addr} {code : Value} {h9 : Heap} {tk9 : Nat} {m9 : Str → Option Value} {r : List Str} {g : Str} {tg : Tok} {b : Bool} {oI : Obj} {Q : Flow → Shared → Prop}
    (G : Gd mg mb s.heap) (hd : A.depth < 750) (hh : A.handled = none) (F9 : Fr s.heap L h9 m9)
    (e1 : m9 "row" = some (.ref D)) (e2 : m9 "gone" = some (.str g tg)) (e3 : m9 "behind" = some (.bool b)) (e4 : m9 "draws" = some (.ref ld))
    (hD9 : RowIs h9 D r) (hDL : D ≠ L) (hIL : I ≠ L) (hcI : L + 1 ≠ I) (hI9 : h9.get? I = some oI) (hI0 : s.heap.get? I = none) (hcell9 : h9.IsCell (L + 1) (some (.ref R))) (hc0 : s.heap.get? (L + 1) = none) (hL0 : s.heap.get? L = none)
    (hr0 : r ≠ []) (hrn : r.length < 11) (hrj : (joinS r).length < 11)
    (hret : endW b r = g → ∀ h' X tk, Keep s.heap h' → h'.IsList X (([] : List Value).toArray) → Q (.ret (.ref X)) { s with heap := h', toks := tk })
    (hnext : endW b r ≠ g → ∀ h' tk X m', Fr s.heap L h' m' → m' "row" = some (.ref X) → RowIs h' X (stepRow g b r) → X ≠ L → X ≠ I → m' "draws" = some (.ref ld) → h'.IsCell (L + 1) (some (.ref R)) → h'.get? I = some oI →
      Q .next { s with heap := h', toks := tk }) :
    wpC (model P₀ w) A (execs ledRest (env13 L f code)) Q (fun _ _ => False) { s with heap := h9, toks := tk9 } := by
  obtain ⟨feq, hfeq⟩ := G.addr (k := 3) (by decide)
  obtain ⟨fadd, hfadd⟩ := G.addr (k := 4) (by decide)
  obtain ⟨ftu, hftu⟩ := G.addr (k := 12) (by decide)
  have G9 := G.keeps F9.keep
  have hrp : 0 < r.length := List.length_pos_iff.mpr hr0
  obtain ⟨yr, hDl, hyr⟩ := id hD9
  -- if eq(row[0] if behind else row[-1], gone)
  refine wpC_execs_cons ?_
  refine wpC_If ?_
  refine isTrue_plain ?_
  refine call_def (k := 3) G9 (by decide) rfl hfeq ?_
  refine args_cons (wpAny_mono (Q := fun v s' => ∃ t k, v = .str (endW b r) t ∧ s' = { s with heap := h9, toks := k }) ?_ ?_ fun _ _ e => e)
  · refine IfExp_ ?_
    refine isTrue_plain ?_
    refine nameX_L F9 e3 ?_
    refine wpAny_truthy_bool ?_
    cases b with
    | true =>
      rw [if_pos rfl]
      refine Subscript_ ?_
      refine nameX_L F9 e1 ?_
      refine wpAny_Constant_int ?_
      refine item_strsA hDl hyr (by omega) (by omega) (by omega) (fun t' => ?_) ?_
      · exact ⟨t', _, rfl, rfl⟩
      · rfl
    | false =>
      rw [if_neg (by decide)]
      refine Subscript_ ?_
      refine nameX_L F9 e1 ?_
      refine wpAny_UnaryOp ?_
      refine wpAny_Constant_int ?_
      refine PyProof.Rows.neg_int ?_
      refine item_strs_neg hDl hyr (by omega) (by omega) (by omega) (fun t' => ?_) ?_
      · refine ⟨t', _, ?_, rfl⟩
        rw [show (-1 + (r.length : Int)).toNat = r.length - 1 by omega]
        rfl
      · rfl
  rintro v s' ⟨t1, k1, rfl, rfl⟩
  refine args_cons ?_
  refine nameX_L F9 e2 ?_
  refine args_nil ?_
  refine ⟨fun _ _ e => e, ?_⟩
  refine eq_ok G9 hfeq (by omega) ?_
  intro h10 tk10 hk10
  refine wpAny_truthy_bool ?_
  have F10 := Fr_up F9 hk10
  by_cases hge : endW b r = g
  · rw [if_pos (by simpa using hge)]
    refine wpC_execs_cons ?_
    refine wpC_Return_some ?_
    refine wpC.any ?_
    refine List_ ?_
    refine args_nil ?_
    refine wpAny_newObj_type ?_ (by size_fits)
    exact hret hge _ _ _ (fun b o e => Heap.get?_push_of_some _ (F10.keep b o e)) ⟨_, Heap.get?_push_size _ rfl, rfl, _, rfl⟩
  rw [if_neg (by simpa using hge)]
  refine wpC_execs_nil ?_
  have hends := ends_of hr0 hge
  replace hnext := hnext hge
  clear hret
  have G10 := G.keeps F10.keep
  have hD10 := hD9.at fun o e => hk10 _ o e
  have hI10 : h10.get? I = some oI := hk10 _ _ hI9
  have hcell10 : h10.IsCell (L + 1) (some (.ref R)) := IsCell.at' hcell9 fun o e => hk10 _ o e
  refine tk0C (s := s) (h := h10) (P := fun z => wpC _ _ _ _ _ z) fun _ => ?_
  -- led, run = ([], '')
  refine wpC_execs_cons ?_
  refine wpC.any ?_
  refine assign2 (h₀ := s.heap) hh ?_
  refine args_cons ?_
  refine List_ ?_
  refine args_nil ?_
  refine wpAny_newObj_type ?_ (by size_fits)
  refine args_cons ?_
  refine Constant_str ?_
  refine args_nil ?_
  have hDL0 : h10.get? h10.objs.size = none := fresh_of_size Keep.rfl
  have F11 := F10.push (o := lstO [])
  refine ⟨_, _, _, rfl, F11, ?_⟩
  intro h12 tk12 F12 hk12
  have hnl : ∀ c o, h10.get? c = some o → c ≠ h10.objs.size := fun c o e => Nat.ne_of_lt (Heap.lt_size e)
  have hLz : h10.objs.size ≠ L := Ne.symm (Nat.ne_of_lt F10.ns.lt)
  have hled12 : h12.get? h10.objs.size = some (lstO []) := hk12 _ _ hLz (Heap.get?_push_size _ rfl)
  have up12 : ∀ c o, c ≠ L → h10.get? c = some o → h12.get? c = some o := fun c o hc e => hk12 c o hc (Heap.get?_push_of_some _ e)
  have hDLr : s.heap.get? h10.objs.size = none := by
    cases e : s.heap.get? h10.objs.size with
    | none => rfl
    | some o => have := F10.keep _ _ e; rw [hDL0] at this; cases this
  have hDlD : D ≠ h10.objs.size := by obtain ⟨o, e, _⟩ := hD10.alive; exact hnl _ _ e
  have hDlI : I ≠ h10.objs.size := hnl _ _ hI10
  have hDlc : L + 1 ≠ h10.objs.size := by obtain ⟨o, e, _⟩ := id hcell10; exact hnl _ _ e
  generalize h10.objs.size = DL at *
  have hD12 := hD10.at fun o e => up12 _ o hDL e
  have hI12 : h12.get? I = some oI := up12 _ _ hIL hI10
  have hcell12 : h12.IsCell (L + 1) (some (.ref R)) := IsCell.at' hcell10 fun o e => up12 _ o (Nat.succ_ne_self _) e
  have G12 := G.keeps F12.keep
  clear F11 hnl hDL0 hk12 up12
  refine tk0C (s := s) (h := h12) (P := fun z => wpC _ _ _ _ _ z) fun _ => ?_
  -- for word in _law_turned(row, len(row) if behind else 1)
  obtain ⟨y12, hDl12, hy12⟩ := id hD12
  refine wpC_execs_cons ?_
  refine For_inC (h₀ := s.heap) (by rfl) (by rfl) ?_
  refine callC_def (k := 12) G12 (by decide) rfl hftu (wpC.any ?_)
  refine args_cons ?_
  refine nameX_L F12 (by exact e1) ?_
  refine args_cons (wpAny_mono (Q := fun v s' => ∃ t k, v = .int ((if b = true then r.length else 1 : Nat) : Int) t ∧ s' = { s with heap := h12, toks := k }) ?_ ?_ fun _ _ e => e)
  · refine IfExp_ ?_
    refine isTrue_plain ?_
    refine nameX_L F12 (by exact e3) ?_
    refine wpAny_truthy_bool ?_
    cases b with
    | true =>
      rw [if_pos rfl]
      refine call_bi (id := "len") G12 (by rfl) ?_
      refine args_cons ?_
      refine nameX_L F12 (by exact e1) ?_
      refine args_nil ?_
      refine len_strsA hDl12 hy12 (by omega) ?_
      exact ⟨_, _, rfl, rfl⟩
    | false =>
      rw [if_neg (by decide)]
      refine wpAny_Constant_int ?_
      exact ⟨_, _, rfl, rfl⟩
  rintro v s' ⟨t2, k2, rfl, rfl⟩
  refine args_nil ?_
  refine ⟨fun _ _ e => e, ?_⟩
  refine turned_ok G12 hftu (by omega) hh hDl12 hy12 hrp hrn (by cases b <;> simp) ?_
  intro h13 T ysT tk13 hk13 hT0 hT hysT
  rw [turnD_pick] at hysT
  have F13 := Fr_up F12 hk13
  have G13 := G.keeps F13.keep
  have hled13 : h13.get? DL = some (lstO []) := hk13 _ _ hled12
  have hTL : T ≠ L := by
    rintro rfl
    obtain ⟨o, _, _, ho, _⟩ := F12.ns
    rw [hT0] at ho; cases ho
  have hTDL : T ≠ DL := by
    rintro rfl
    rw [hT0] at hled12; cases hled12
  have hTc : T ≠ L + 1 := by
    rintro rfl
    obtain ⟨o, ho, _⟩ := hcell12
    rw [hT0] at ho; cases ho
  have hTI : T ≠ I := by
    rintro rfl
    rw [hT0] at hI12; cases hI12
  have hI13 : h13.get? I = some oI := hk13 _ _ hI12
  have hcell13 : h13.IsCell (L + 1) (some (.ref R)) := IsCell.at' hcell12 fun o e => hk13 _ o e
  refine tk0C (s := s) (h := h13) (P := fun z => wpAny _ _ _ _ _ z) fun tk13' => ?_
  have hlenT : ysT.toArray.size = r.length := by rw [List.size_toArray, hysT.length, turnD_length]
  have hjT : (joinS (turnD b r)).length < 11 := by rw [joinS_len_turnD]; exact hrj
  have hlc : Str.empty.length = 0 := rfl
  refine loop_listC (h₀ := s.heap) hh (isList_of hT) hTL F13
    (fun j m h _ => m "led" = some (.ref DL) ∧ m "gone" = some (.str g tg) ∧ m "behind" = some (.bool b) ∧ m "draws" = some (.ref ld) ∧ (∃ t, m "run" = some (.str (runL g Str.empty ((turnD b r).take j)) t)) ∧
      (∃ zs, h.get? DL = some (lstO zs) ∧ StrsAre zs (runF (cD b) g Str.empty ((turnD b r).take j))) ∧ h.get? I = some oI ∧ h.IsCell (L + 1) (some (.ref R))) ?_ ?_ ?_ ?_
  · rintro I2 hI2 j m h h' tk tk' hk _ ⟨a1, a2, a3, a4, a5, ⟨zs, a6, a7⟩, a8, a9⟩
    have hne : ∀ b o, h13.get? b = some o → b ≠ I2 := fun b o e q => by
      subst q
      exact absurd (e.symm.trans hI2) (fun e => nomatch e)
    obtain ⟨oc, hoc, _⟩ := id hcell13
    exact ⟨a1, a2, a3, a4, a5, ⟨zs, hk _ _ hLz (by simpa using hne _ _ hled13) a6, a7⟩, hk _ _ hIL (by simpa using hne _ _ hI13) a8, IsCell.at' a9 fun o e => hk _ o (Nat.succ_ne_self _) (by simpa using hne _ _ hoc) e⟩
  · exact ⟨by rfl, by exact e2, by exact e3, by exact e4, ⟨_, by rfl⟩, ⟨[], hled13, .nil⟩, hI13, hcell13⟩
  · rintro I2 j v m₁ h tk hI2 hI2L hj hv ⟨a1, a2, a3, a4, ⟨tr, a5⟩, ⟨zs, a6, a7⟩, a8, a9⟩ F' hI2o hTl
    obtain ⟨z, tz, rfl, hz⟩ := hysT.item j v (by simpa using hv)
    obtain ⟨q1, q2, q3⟩ := run_step (c := cD b) (g := g) hz
    generalize hrun : runL g Str.empty ((turnD b r).take j) = run at *
    generalize hout : runF (cD b) g Str.empty ((turnD b r).take j) = out at *
    have hsz : run.length + z.length ≤ sizeLine := by simp [sizeLine]; omega
    have hsz2 : z.length + run.length ≤ sizeLine := by simp [sizeLine]; omega
    have G' := G.keeps F'.keep
    refine wpC.any ?_
    refine wpAny_execs_cons ?_
    refine wpAny_If ?_
    refine isTrue_plain ?_
    refine call_def (k := 3) G' (by decide) rfl hfeq ?_
    refine args_cons ?_
    refine nameX_L F' (by rfl) ?_
    refine args_cons ?_
    refine nameX_L F' (by exact a2) ?_
    refine args_nil ?_
    refine ⟨fun _ _ e => e, ?_⟩
    refine eq_ok G' hfeq (by omega) ?_
    intro h14 tk14 hk14
    refine wpAny_truthy_bool ?_
    have F14 := Fr_up F' hk14
    have G14 := G.keeps F14.keep
    have a6' : h14.get? DL = some (lstO zs) := hk14 _ _ a6
    have a8' : h14.get? I = some oI := hk14 _ _ a8
    have a9' : h14.IsCell (L + 1) (some (.ref R)) := IsCell.at' a9 fun o e => hk14 _ o e
    obtain ⟨oI2, hoI2⟩ := hI2o
    have hI2DL : DL ≠ I2 := by
      rintro rfl
      exact absurd (hled13.symm.trans hI2) (fun e => nomatch e)
    have hfp : ∀ (h' : Heap), (∀ c o, c ≠ L → c ≠ DL → h14.get? c = some o → h'.get? c = some o) → ∀ c ∈ [I2, T], ∀ o, h.get? c = some o → h'.get? c = some o := fun h' hk c hc o e => by
      simp only [List.mem_cons, List.not_mem_nil, or_false] at hc
      rcases hc with rfl | rfl
      · exact hk _ _ hI2L (Ne.symm hI2DL) (hk14 _ _ e)
      · exact hk _ _ hTL hTDL (hk14 _ _ e)
    by_cases hzg : z = g
    · rw [if_pos (by simpa using hzg)]
      rw [if_pos hzg] at q1 q2
      refine tk0C (s := s) (h := h14) (P := fun y => wpAny _ _ _ _ _ y) fun tk14' => ?_
      refine wpAny_execs_cons ?_
      refine wpAny_Assign_Name ?_
      refine call_def (k := 4) G14 (by decide) rfl hfadd ?_
      refine args_cons ?_
      refine nameX_L F14 (by exact a5) ?_
      refine args_cons ?_
      refine nameX_L F14 (by rfl) ?_
      refine args_nil ?_
      refine ⟨fun _ _ e => e, ?_⟩
      refine add_ok G14 hfadd (by omega) hsz ?_
      intro h15 t15 tk15 hk15 _ _
      refine stS (Fr_up F14 hk15) (fun h16 F16 hs16 => ?_)
      have up : ∀ c o, c ≠ L → h14.get? c = some o → h16.get? c = some o := fun c o hc e => hs16.extBut c o hc (hk15 _ _ e)
      refine wpAny_execs_nil ?_
      refine wpAny_execs_nil ?_
      refine ⟨h16, _, _, rfl, F16, hfp h16 fun c o hc _ e => up c o hc e, by exact a1, by exact a2, by exact a3, by exact a4, ⟨t15, by rw [q2]; rfl⟩, ⟨zs, up _ _ hLz a6', by rw [q1]; exact a7⟩, up _ _ hIL a8', IsCell.at' a9' fun o e => up _ o (Nat.succ_ne_self _) e⟩
    · rw [if_neg (by simpa using hzg)]
      rw [if_neg hzg] at q1 q2
      refine tk0C (s := s) (h := h14) (P := fun y => wpAny _ _ _ _ _ y) fun tk14' => ?_
      refine wpAny_execs_cons ?_
      refine wpAny_Expr ?_
      refine methodCall_KW ?_
      refine nameX_L F14 (by exact a1) ?_
      refine getMethod_list_append a6' rfl rfl ?_
      refine PyProof.Rows.callWith_method1 ?_
      refine args_cons (wpAny_mono (Q := fun v s' => ∃ t h' k, v = .str (cD b run z) t ∧ Keep h14 h' ∧ s' = { s with heap := h', toks := k }) ?_ ?_ fun _ _ e => e)
      · refine IfExp_ ?_
        refine isTrue_plain ?_
        refine nameX_L F14 (by exact a3) ?_
        refine wpAny_truthy_bool ?_
        cases b with
        | true =>
          rw [if_pos rfl]
          refine call_def (k := 4) G14 (by decide) rfl hfadd ?_
          refine args_cons ?_
          refine nameX_L F14 (by rfl) ?_
          refine args_cons ?_
          refine nameX_L F14 (by exact a5) ?_
          refine args_nil ?_
          refine ⟨fun _ _ e => e, ?_⟩
          refine add_ok G14 hfadd (by omega) hsz2 ?_
          intro h15 t15 tk15 hk15 _ _
          exact ⟨t15, h15, _, rfl, hk15, rfl⟩
        | false =>
          rw [if_neg (by decide)]
          refine call_def (k := 4) G14 (by decide) rfl hfadd ?_
          refine args_cons ?_
          refine nameX_L F14 (by exact a5) ?_
          refine args_cons ?_
          refine nameX_L F14 (by rfl) ?_
          refine args_nil ?_
          refine ⟨fun _ _ e => e, ?_⟩
          refine add_ok G14 hfadd (by omega) hsz ?_
          intro h15 t15 tk15 hk15 _ _
          exact ⟨t15, h15, _, rfl, hk15, rfl⟩
      rintro v s' ⟨t15, h15, k15, rfl, hk15, rfl⟩
      refine args_nil ?_
      have hzl : zs.length ≤ 11 := by
        rw [a7.length, ← hout]
        have := runF_length (cD b) g ((turnD b r).take j) Str.empty
        have h3 : ((turnD b r).take j).length ≤ (turnD b r).length := by rw [List.length_take]; omega
        rw [turnD_length] at h3
        omega
      refine append_at (hsz := by show zs.toArray.size ≤ sizeLine; rw [List.size_toArray]; simp [sizeLine]; omega) (hk15 _ _ a6') fun h16 hs16 hD16 => ?_
      dsimp only
      have F15 := Fr_up F14 hk15
      have F16 : Fr s.heap L h16 _ := ⟨F15.ns.sameBut hs16 (Ne.symm hLz), fun c o e => hs16.extBut c o (fun q => by rw [q, hDLr] at e; cases e) (F15.keep c o e), F15.above⟩
      refine wpAny_execs_cons ?_
      refine wpAny_Assign_Name ?_
      refine Constant_str ?_
      refine stS F16 (fun h17 F17 hs17 => ?_)
      have up : ∀ c o, c ≠ L → c ≠ DL → h14.get? c = some o → h17.get? c = some o := fun c o hc hc2 e => hs17.extBut c o hc (hs16.extBut c o hc2 (hk15 _ _ e))
      refine wpAny_execs_nil ?_
      refine wpAny_execs_nil ?_
      refine ⟨h17, _, _, rfl, F17, hfp h17 up, by exact a1, by exact a2, by exact a3, by exact a4, ⟨_, by rw [q2]; rfl⟩, ⟨zs ++ [.str (cD b run z) t15], ?_, by rw [q1]; exact a7.append' (.cons _ _ .nil)⟩, up _ _ hIL hDlI a8', IsCell.at' a9' fun o e => up _ o (Nat.succ_ne_self _) hDlc e⟩
      exact hs17.extBut _ _ hLz (hD16.trans (congrArg some (LCg.lst_snoc zs _)))
  · rintro h' tk m' F' ⟨a1, a2, a3, a4, ⟨tr, a5⟩, ⟨zs, a6, a7⟩, a8, a9⟩
    rw [hlenT, List.take_of_length_le (Nat.le_of_eq (turnD_length b r))] at a7
    have hstep : stepRow g b r = turnD b (runF (cD b) g Str.empty (turnD b r)) := rfl
    have hne := step_ne hends
    have hole := runF_length (cD b) g (turnD b r) Str.empty
    rw [turnD_length] at hole
    generalize runF (cD b) g Str.empty (turnD b r) = out at a7 hstep hole
    have ho0 : 0 < out.length := by
      apply List.length_pos_iff.mpr
      rintro rfl
      rw [hstep] at hne
      cases b <;> exact hne rfl
    have hzl := a7.length
    have G' := G.keeps F'.keep
    refine tk0C (s := s) (h := h') (P := fun y => wpC _ _ _ _ _ y) fun tkf => ?_
    refine wpC_execs_cons ?_
    refine wpC_Assign_Name ?_
    refine wpC_IfExp ?_
    refine isTrue_plain ?_
    refine nameX_L F' (by exact a3) ?_
    refine wpAny_truthy_bool ?_
    cases b with
    | true =>
      rw [if_pos rfl]
      refine callC_def (k := 12) G' (by decide) rfl hftu (wpC.any ?_)
      refine args_cons ?_
      refine nameX_L F' (by exact a1) ?_
      refine args_cons ?_
      refine call_bi (id := "len") G' (by rfl) ?_
      refine args_cons ?_
      refine nameX_L F' (by exact a1) ?_
      refine args_nil ?_
      refine len_strsA (isList_of a6) a7 (by omega) ?_
      refine args_nil ?_
      refine ⟨fun _ _ e => e, ?_⟩
      refine turned_ok G' hftu (by omega) hh (isList_of a6) a7 ho0 (by omega) (Or.inr rfl) ?_
      intro h18 X ysX tk18 hk18 hX0 hX hysX
      have hpick := turnD_pick true out
      simp only [if_true] at hpick
      rw [hpick, ← hstep] at hysX
      refine stS (Fr_up F' hk18) (fun h19 F19 hs19 => ?_)
      have hXL : X ≠ L := by
        rintro rfl
        obtain ⟨o, _, _, ho, _⟩ := F'.ns
        rw [hX0] at ho; cases ho
      have hXI : X ≠ I := by
        rintro rfl
        rw [hX0] at a8; cases a8
      refine wpC_execs_nil ?_
      exact hnext h19 _ X _ F19 (by rfl) ⟨ysX, (isList_of hX).at fun o e => hs19.extBut _ _ hXL e, hysX⟩ hXL hXI (by exact a4) (IsCell.at' a9 fun o e => hs19.extBut _ _ (Nat.succ_ne_self _) (hk18 _ _ e)) (hs19.extBut _ _ hIL (hk18 _ _ a8))
    | false =>
      rw [if_neg (by decide)]
      refine wpC.any ?_
      refine nameX_L F' (by exact a1) ?_
      refine stS F' (fun h19 F19 hs19 => ?_)
      refine wpC_execs_nil ?_
      exact hnext h19 _ DL _ F19 (by rfl) ⟨zs, (isList_of a6).at fun o e => hs19.extBut _ _ hLz e, hstep ▸ a7⟩ hLz (Ne.symm hDlI) (by exact a4) (IsCell.at' a9 fun o e => hs19.extBut _ _ (Nat.succ_ne_self _) e) (hs19.extBut _ _ hIL a8)
end
end Mine
end

section
open PySem PySem.W PyProof.Rows PySem.Calls
open Sem (wp)
set_option Elab.async false
set_option maxRecDepth 100000
set_option maxHeartbeats 4000000
namespace Mine
/-- the round's row -/
def LedInv (turn : Str) (draws : List Int) (L ld : Addr) (I : Addr) (i : Nat) (m : Str → Option Value) (h : Heap) (_ : Nat) : Prop :=
  ∃ D r v, m "row" = some (.ref D) ∧ RowIs h D r ∧ D ≠ L ∧ D ≠ I ∧ r ≠ [] ∧ r.length + i ≤ turn.length ∧ joinS r = turn ∧ ledF draws (turn.length - i) i r = outL draws turn ∧
    m "draws" = some (.ref ld) ∧ h.IsCell (L + 1) v ∧ L + 1 ≠ I
section
variable {w : World} {A : Around} {s : Shared} {mg mb : Str → Option Value} {turn : Str} {draws : List Int}

theorem led_ok {f ld : Addr} {tt : Tok} {dvs : List Value} {Q : Value → Shared → Prop} (G : Gd mg mb s.heap) (hf : mg "_law_led" = some (.ref f)) (hd : A.depth < 700) (hh : A.handled = none)
    (hdl : s.heap.IsList ld dvs.toArray) (hdi : IntsAre dvs draws) (hdn : draws.length = 4) (hp : 0 < turn.length) (hn : turn.length < 11)
    (h : ∀ h' D ys tk, Keep s.heap h' → h'.IsList D ys.toArray → StrsAre ys (outL draws turn) → Q (.ref D) { s with heap := h', toks := tk }) :
    wpC (model P₀ w) A (call (.ref f) [.str turn tt, .ref ld]) Q (fun _ _ => False) s := by
  refine callC_inC (k := 13) (x := "ranked") (binds := [("turn", .str turn tt), ("draws", .ref ld)]) G (by decide) hf (Nat.lt_trans hd (by decide)) (fun _ _ _ => rfl) (by rfl) (fun n => rfl) (fun L code h₁ tk1 o F N ho hL htk => ?_)
  obtain ⟨feq, hfeq⟩ := G.addr (k := 3) (by decide)
  obtain ⟨fadd, hfadd⟩ := G.addr (k := 4) (by decide)
  obtain ⟨ftu, hftu⟩ := G.addr (k := 12) (by decide)
  have hL0 : s.heap.get? L = none := by rw [hL]; exact fresh_of_size Keep.rfl
  have hc0 : s.heap.get? (L + 1) = none := by rw [hL]; exact Heap.get?_none_of_le (Nat.le_succ _)
  have hLc : L + 1 ≠ L := Nat.succ_ne_self _
  have hcell1 : h₁.IsCell (L + 1) none := ⟨o, (N _ (List.mem_singleton.mpr rfl)).1, by rw [ho]; rfl⟩
  have G1 := G.keeps F.keep
  -- row = [sign for sign in turn]
  refine wpC_execs_cons ?_
  refine wpC.any ?_
  refine comp_assign (cl := []) (h₀ := s.heap) (by rfl) (by rfl) (by decide) (by rfl) (by decide) (by rfl) (by rfl) ?_
  refine nameX_L F (by rfl) ?_
  refine ⟨_, [(L + 1, o)], F, N, ?_⟩
  refine src_str hh (by show turn.length ≤ sizeLine; simp [sizeLine]; omega) (by rfl) (by rfl) (J := fun i ys _ => StrsAre ys ((signsOf turn).take i)) (fun _ _ _ _ _ h => h) ?_ .nil ?_ ?_
  · intro i ys t hJ
    rw [hJ.length]
    exact List.length_take_le _ _
  · refine body_plain fun C i ys s₃ m₃ E' hi ⟨v, hv, hm⟩ hJ hns hk => ?_
    refine c_name hns hm ?_
    refine ⟨⟨s₃.heap, s₃.toks, rfl, fun _ _ e => e⟩, ?_⟩
    obtain ⟨c, u, hc, rfl⟩ := hv
    have hsi : (signsOf turn)[i]? = some (sign1 c) := by simp [signsOf, hc]
    show StrsAre _ ((signsOf turn).take (i + 1))
    rw [List.take_add_one, hsi]
    exact hJ.append' (.cons _ _ .nil)
  intro ys tk2 hys D0 h2 F2 N2 hD0
  replace hys : StrsAre ys (signsOf turn) := by
    have : StrsAre ys ((signsOf turn).take turn.cps.size) := hys
    rwa [List.take_of_length_le (by rw [signs_length]; exact Nat.le_refl _)] at this
  have G2 := G.keeps F2.keep
  have hrow2 : h2.IsList D0 ys.toArray := isList_of (N2 _ (List.mem_cons_self ..)).1
  have hD0L : D0 ≠ L := (N2 _ (List.mem_cons_self ..)).2.1
  have hcell2 : h2.IsCell (L + 1) none := ⟨o, (N2 _ (List.mem_cons_of_mem _ (List.mem_singleton.mpr rfl))).1, by rw [ho]; rfl⟩
  -- for stage in range(len(turn))
  refine tk0C (s := s) (h := h2) (P := fun z => wpC _ _ _ _ _ z) fun _ => ?_
  refine wpC_execs_cons ?_
  refine For_inC (h₀ := s.heap) (by rfl) (by rfl) ?_
  refine wpC.any ?_
  refine call_ty (T := "range") G2 (by rfl) ?_
  refine args_cons ?_
  refine call_bi (id := "len") G2 (by rfl) ?_
  refine args_cons ?_
  refine nameX_L F2 (by rfl) ?_
  refine args_nil ?_
  refine PyProof.Rows.len_str ?_ ?_
  · simp [sizeLine]; omega
  refine args_nil ?_
  refine call_range_1 ?_
  have hr := range_one turn.length hn hp
  refine loop_rangeD (h₀ := s.heap) hh (IsRange.new _ _ _ _ _ _ _) hr.2 hr.1 (F2.push _) (LedInv turn draws L ld) ?_ ?_ ?_ ?_
  · rintro I hI i m h h' tk tk' hk _ ⟨D, r, v, e1, e2, e3, e4, e5, e6, e7, e8, e9, e10, e11⟩
    exact ⟨D, r, v, e1, e2.at fun o e => hk D o e3 (by simpa using e4) e, e3, e4, e5, e6, e7, e8, e9, IsCell.at' e10 fun o e => hk _ o hLc (by simpa using e11) e, e11⟩
  · intro I h' hI hk
    have k2 : Keep h2 h' := fun b o e => hk b o (Heap.get?_push_of_some _ e)
    have hne : ∀ b o, h2.get? b = some o → b ≠ I := fun b o e q => by
      subst q
      exact absurd ((Heap.get?_push_of_some _ e).symm.trans hI) (fun e => nomatch e)
    have hrow : RowIs h2 D0 (signsOf turn) := ⟨ys, hrow2, hys⟩
    obtain ⟨oD, hoD, _⟩ := hrow.alive
    obtain ⟨oc, hoc, _⟩ := id hcell2
    refine ⟨D0, signsOf turn, none, by rfl, hrow.at fun o e => k2 _ o e, hD0L, hne _ _ hoD, ?_, ?_, joinS_signs turn, rfl, by rfl, IsCell.at' hcell2 fun o e => k2 _ o e, hne _ _ hoc⟩
    · intro e
      have := signs_length turn
      rw [e] at this
      simp at this
      omega
    · rw [signs_length]
      exact Nat.le_refl _
  · rintro I i ts m₁ h3 tk3 hI hIL hi ⟨D, r, v, hrow, hDr, hDL, hDI, hr0, hrl, hrj, hled, hdraws, hcell, hcI⟩ F3 ⟨oI, hoI⟩
    have G3 := G.keeps F3.keep
    obtain ⟨yr, hDl, hyr⟩ := id hDr
    have hrn : r.length < 11 := by omega
    have hrp : 0 < r.length := List.length_pos_iff.mpr hr0
    obtain ⟨oD, hoD, _⟩ := hDr.alive
    obtain ⟨oc, hoc, _⟩ := id hcell
    -- ranked = sorted(row)
    refine tk0C (s := s) (h := h3) (P := fun z => wpC _ _ _ _ _ z) fun _ => ?_
    refine wpC_execs_cons ?_
    refine wpC.any ?_
    refine wpAny_Assign_Name ?_
    refine call_bi (id := "sorted") G3 (by rfl) ?_
    refine args_cons ?_
    refine nameX_L F3 (by exact hrow) ?_
    refine args_nil ?_
    refine sorted_strs hDl hyr (by rw [hyr.length]; omega) ?_
    intro out ss' hvs hperm hsort
    obtain rfl := rank_eq hperm hsort
    obtain ⟨e4, he4⟩ := sortedAll_at h3 yr out
    have hk4 : Keep h3 (sortedAll h3 yr out) := fun _ _ => sortedAll_old
    have hR0 : h3.get? (h3.objs.size + 1) = none := Heap.get?_none_of_le (Nat.le_succ _)
    dsimp only
    generalize sortedAll h3 yr out = h4 at he4 hk4 ⊢
    generalize h3.objs.size + 1 = R at he4 hR0 ⊢
    refine wpAny_storeName_cell (c := L + 1) (by rfl) (by rfl) (by rfl) (IsCell.at' hcell fun o e => hk4 _ o e) ?_
    intro h5 hcell5 hs5
    have hRc : R ≠ L + 1 := by
      rintro rfl
      rw [hR0] at hoc; cases hoc
    have F5 : Fr s.heap L h5 (fun y => if y = "stage" then some (Value.int (0 + (i : Int) * 1) ts) else m₁ y) :=
      ⟨(F3.ns.keeps hk4).sameBut hs5 (Ne.symm hLc), fun b o e => hs5.extBut b o (fun q => by rw [q, hc0] at e; cases e) (hk4 b o (F3.keep b o e)), F3.above⟩
    have hR5 : h5.get? R = some (seqObj "list" out e4) := hs5.extBut _ _ hRc he4
    have hDc : D ≠ L + 1 := row_cell hDr hcell
    have hD5 : RowIs h5 D r := hDr.at fun o e => hs5.extBut _ _ hDc (hk4 _ _ e)
    have hI5 : h5.get? I = some oI := hs5.extBut _ _ (Ne.symm hcI) (hk4 _ _ hoI)
    have G5 := G.keeps F5.keep
    have hrl5 : h5.IsList R out.toList.toArray := ⟨_, hR5, rfl, e4, (by show Data.seq out e4 = Data.seq out.toList.toArray e4; simp)⟩
    have hosz : out.size = r.length := by
      have := hvs.length
      rw [rank_length] at this
      simpa using this
    -- kinds = [..]
    refine tk0C (s := s) (h := h5) (P := fun z => wpC _ _ _ _ _ z) fun _ => ?_
    refine wpC_execs_cons ?_
    refine wpC.any ?_
    refine comp_assignB (cl := [("ranked", L + 1)]) (h₀ := s.heap) (by rfl) (by rfl) (by decide) (by rfl) (by decide) (by rfl) (by rfl) ?_
    refine call_ty (T := "enumerate") G5 (by rfl) ?_
    refine args_cons ?_
    refine x_cell hcell5 ?_
    refine args_nil ?_
    refine src_enum (J := fun i ys _ => StrsAre ys (kindsTo (rank r) i)) hR5 (fun h6 xv hk6 hw => ⟨_, [], h5, F5, News.nil, hw⟩) hh (by simp [sizeLine]; omega) (fun _ _ _ _ _ h => h) (fun i ys t hJ => by rw [hJ.length]; exact kindsTo_le _ _) (fun _ => .nil) ?_ ?_
    · refine ⟨fun C j ys s₃ m₃ E' hj ⟨⟨tj, hm1⟩, v, hv, hm2⟩ hJ hns hk => ?_⟩
      have hjr : j < (rank r).length := by rw [rank_length]; omega
      have hvj : v = v := rfl
      obtain ⟨z, tz, rfl, hz⟩ := hvs.item j v (by simpa using hv)
      have hzg : (rank r).getD j Str.empty = z := by rw [List.getD_eq_getElem?_getD, hz]; rfl
      have hks : kindsTo (rank r) (j + 1) = if j = 0 ∨ (rank r).getD (j - 1) Str.empty ≠ z then kindsTo (rank r) j ++ [z] else kindsTo (rank r) j := by rw [← hzg]; rfl
      refine wpAny_tests_one ?_
      refine isTrue_or ?_
      refine wpAny_isTrue_Compare1 ?_
      refine c_name hns hm1 ?_
      refine wpAny_Constant_int ?_
      refine PySem.P.eq_int ?_
      refine wpAny_truthy_bool ?_
      by_cases hj0 : j = 0
      · rw [if_pos (by simpa using hj0)]
        refine ⟨⟨s₃.heap, _, rfl, fun _ _ e => e⟩, ?_⟩
        rw [if_pos rfl]
        refine c_name hns hm2 ?_
        refine ⟨⟨s₃.heap, _, rfl, fun _ _ e => e⟩, ?_⟩
        rw [hks, if_pos (Or.inl hj0)]
        exact hJ.append' (.cons _ _ .nil)
      · rw [if_neg (by simpa using hj0)]
        refine isTrue_or ?_
        refine wpAny_isTrue_Compare1 ?_
        refine Subscript_ ?_
        refine c_free (by rfl) (IsCell.at' hcell5 fun o e => hk _ o e) ?_
        refine wpAny_BinOp ?_
        refine c_name hns hm1 ?_
        refine wpAny_Constant_int ?_
        refine sub_int' ?_
        refine item_strsA (hrl5.at fun o e => hk _ o e) hvs (by omega) (by omega) (by omega) (fun t' => ?_) ?_
        · refine c_name hns hm2 ?_
          refine PyProof.Rows.ne_str ?_
          refine wpAny_truthy_bool ?_
          rw [show ((j : Int) - 1).toNat = j - 1 by omega]
          by_cases hne : (rank r).getD (j - 1) Str.empty = z
          · rw [if_neg (by simpa using hne)]
            refine isTrue_or_nil ?_
            refine ⟨⟨s₃.heap, _, rfl, fun _ _ e => e⟩, ?_⟩
            rw [if_neg (by decide), hks, if_neg (fun hc => hc.elim hj0 (fun h => h hne))]
            exact hJ
          · rw [if_pos (by simpa using hne)]
            refine ⟨⟨s₃.heap, _, rfl, fun _ _ e => e⟩, ?_⟩
            rw [if_pos rfl]
            refine c_name hns hm2 ?_
            refine ⟨⟨s₃.heap, _, rfl, fun _ _ e => e⟩, ?_⟩
            rw [hks, if_pos (Or.inr hne)]
            exact hJ.append' (.cons _ _ .nil)
        · rfl
    intro h6 yk tk6 hyk DK h7 F7 N7 hDK0 hk7
    replace hyk : StrsAre yk (kindsOf r) := by
      have : StrsAre yk (kindsTo (rank r) out.size) := hyk
      rwa [hosz, ← rank_length r] at this
    have hDKl : h7.IsList DK yk.toArray := isList_of (N7 _ (List.mem_cons_self ..)).1
    have hDKL : DK ≠ L := (N7 _ (List.mem_cons_self ..)).2.1
    have hD7 : RowIs h7 D r := hD5.at fun o e => hk7 D o hDL e
    have hI7 : h7.get? I = some oI := hk7 I oI hIL hI5
    have hcell7 : h7.IsCell (L + 1) (some (.ref R)) := IsCell.at' hcell5 fun o e => hk7 _ o hLc e
    have G7 := G.keeps F7.keep
    -- if len(kinds) == 1
    refine tk0C (s := s) (h := h7) (P := fun z => wpC _ _ _ _ _ z) fun _ => ?_
    refine wpC_execs_cons ?_
    refine wpC_If ?_
    refine wpAny_isTrue_Compare1 ?_
    refine call_bi (id := "len") G7 (by rfl) ?_
    refine args_cons ?_
    refine nameX_L F7 (by rfl) ?_
    refine args_nil ?_
    have hkl : (kindsOf r).length ≤ r.length := Nat.le_trans (kindsTo_le _ _) (by rw [rank_length]; exact Nat.le_refl _)
    refine len_strsA hDKl hyk (by omega) ?_
    refine wpAny_Constant_int ?_
    refine PySem.P.eq_int ?_
    refine wpAny_truthy_bool ?_
    have hfuel : turn.length - i = (turn.length - (i + 1)) + 1 := by omega
    by_cases hone : (kindsOf r).length = 1
    · rw [if_pos (by simp [hone])]
      refine wpC_execs_cons ?_
      refine wpC_Return_some ?_
      refine wpC.any ?_
      refine nameX_L F7 (by exact hrow) ?_
      obtain ⟨y7, hl7, hy7⟩ := hD7
      refine h h7 D y7 _ F7.keep hl7 ?_
      rw [← hled, hfuel, ledF, if_pos hone]
      exact hy7
    rw [if_neg (by simp only [beq_iff_eq]; omega)]
    refine wpC_execs_nil ?_
    -- draw = draws[stage % 4]
    refine tk0C (s := s) (h := h7) (P := fun z => wpC _ _ _ _ _ z) fun _ => ?_
    refine wpC_execs_cons ?_
    refine wpC.any ?_
    refine wpAny_Assign_Name ?_
    refine Subscript_ ?_
    refine nameX_L F7 (by exact hdraws) ?_
    refine wpAny_BinOp ?_
    refine nameX_L F7 (by rfl) ?_
    refine wpAny_Constant_int ?_
    refine mod_int' (by decide) ?_
    have hmod : ((0 : Int) + (i : Int) * 1).fmod 4 = ((i % 4 : Nat) : Int) := by
      rw [Int.fmod_eq_emod_of_nonneg _ (by decide)]
      omega
    rw [hmod]
    obtain ⟨td, htd⟩ := ints_get hdi (i % 4) (by omega)
    refine item_listL (hdl.at fun o e => F7.keep _ o e) (by omega) (by omega) (by rw [Int.toNat_natCast]; exact htd) ?_
    generalize hdv : draws.getD (i % 4) 0 = d
    refine stS F7 (fun h8 F8 hs8 => ?_)
    have hk8 : ∀ b o, b ≠ L → h7.get? b = some o → h8.get? b = some o := fun b o hb e => hs8.extBut b o hb e
    have hDK8 : h8.IsList DK yk.toArray := hDKl.at fun o e => hk8 _ o hDKL e
    have G8 := G.keeps F8.keep
    have hk1 := kindsOf_pos (ws := r) hrp
    -- gone, behind = ..
    refine tk0C (s := s) (h := h8) (P := fun z => wpC _ _ _ _ _ z) fun _ => ?_
    refine wpC_execs_cons ?_
    refine wpC.any ?_
    refine assign2 (h₀ := s.heap) hh ?_
    refine args_cons ?_
    refine Subscript_ ?_
    refine nameX_L F8 (by rfl) ?_
    refine wpAny_BinOp ?_
    refine wpAny_BinOp ?_
    refine nameX_L F8 (by rfl) ?_
    refine wpAny_Constant_int ?_
    refine floordiv_int (by decide) ?_ (Or.inl (PyProof.noPylong_small (by decide)))
    refine call_bi (id := "len") G8 (by rfl) ?_
    refine args_cons ?_
    refine nameX_L F8 (by rfl) ?_
    refine args_nil ?_
    refine len_strsA hDK8 hyk (by omega) ?_
    refine mod_int' (by omega) ?_
    have hg0 : 0 ≤ (d.fdiv 2).fmod ((kindsOf r).length : Int) := Int.fmod_nonneg_of_pos _ (by omega)
    have hg1 : (d.fdiv 2).fmod ((kindsOf r).length : Int) < ((kindsOf r).length : Int) := Int.fmod_lt_of_pos _ (by omega)
    generalize hgi : (d.fdiv 2).fmod ((kindsOf r).length : Int) = gi at hg0 hg1 ⊢
    refine item_strsA hDK8 hyk hg0 hg1 (by omega) (fun tg => ?_) ?_
    · refine args_cons ?_
      refine wpAny_Compare1 ?_
      refine wpAny_BinOp ?_
      refine nameX_L F8 (by rfl) ?_
      refine wpAny_Constant_int ?_
      refine mod_int' (by decide) ?_
      refine wpAny_Constant_int ?_
      refine PySem.P.eq_int ?_
      refine args_nil ?_
      refine ⟨_, _, _, rfl, F8, ?_⟩
      intro h9 tk9 F9 hk9
      have hgo : (kindsOf r).getD gi.toNat Str.empty = goneOf (kindsOf r) d := by rw [← hgi]; rfl
      have hbe : (d.fmod 2 == 1) = behindOf d := rfl
      rw [hgo, hbe] at F9
      have hkk : ∀ b o, b ≠ L → h7.get? b = some o → h9.get? b = some o := fun b o hb e => hk9 b o hb (hk8 b o hb e)
      have hD9 : RowIs h9 D r := hD7.at fun o e => hkk D o hDL e
      have hI9 : h9.get? I = some oI := hkk I oI hIL hI7
      have hcell9 : h9.IsCell (L + 1) (some (.ref R)) := IsCell.at' hcell7 fun o e => hkk _ o hLc e
      have hgm : goneOf (kindsOf r) d ∈ r := gone_mem hr0 d
      have hled2 : ledF draws (turn.length - i) i r = if endW (behindOf d) r = goneOf (kindsOf r) d then [] else ledF draws (turn.length - (i + 1)) (i + 1) (stepRow (goneOf (kindsOf r) d) (behindOf d) r) := by
        rw [hfuel, ledF, if_neg hone, hdv]
      rw [hled] at hled2
      clear hbe hgo hk9 hk8 hcell7 hI7 hD7 hDK8 F8 hs8 hdv htd hmod hg0 hg1
      generalize goneOf (kindsOf r) d = g at F9 hgm hled2
      generalize behindOf d = b at F9 hled2
      have G9 := G.keeps F9.keep
      have hI0 : s.heap.get? I = none := by
        cases e : s.heap.get? I with
        | none => rfl
        | some o => exact absurd ((Heap.get?_push_of_some _ (F2.keep _ _ e)).symm.trans hI) (fun e => nomatch e)
      refine tk0C (s := s) (h := h9) (P := fun z => wpC _ _ _ _ _ z) fun _ => ?_
      refine led_rest (g := g) (b := b) G (show A.depth + 1 < 750 by omega) hh F9 (by exact hrow) (by rfl) (by rfl) (by exact hdraws) hD9 hDL hIL hcI hI9 hI0 hcell9 hc0 hL0 hr0 hrn (by rw [hrj]; exact hn) ?_ ?_
      · intro hge h' X tk hk hX
        refine h h' X [] tk hk hX ?_
        rw [hled2, if_pos hge]
        exact .nil
      · intro hge h' tk X m' F' e1' RX hXL hXI e2' hc' hI'
        rw [if_neg hge] at hled2
        have hsl := step_length (b := b) hgm
        refine ⟨h', tk, m', rfl, F', ?_, X, stepRow g b r, _, e1', RX, hXL, hXI, step_ne (ends_of hr0 hge), by omega, ?_, hled2.symm, e2', hc', hcI⟩
        · intro c hc o e
          rw [List.mem_singleton.mp hc] at e ⊢
          have : oI = o := Option.some.inj (hoI.symm.trans e)
          rw [← this]
          exact hI'
        · rw [step_join (ends_of hr0 hge)]
          exact hrj
    · rfl
  · rintro I h' tk m' F' ⟨D, r, v, e1, e2, e3, e4, e5, e6, e7, e8, e9, e10, e11⟩
    refine wpC_execs_cons ?_
    refine wpC_Return_some ?_
    refine wpC.any ?_
    refine List_ ?_
    refine args_nil ?_
    refine wpAny_newObj_type ?_ (by size_fits)
    refine h _ _ [] _ (fun b o e => Heap.get?_push_of_some _ (F'.keep b o e)) ⟨_, Heap.get?_push_size _ rfl, rfl, _, rfl⟩ ?_
    rw [← e8, show turn.length - turn.length = 0 by omega]
    exact .nil
end
end Mine
end

section
open PySem PySem.W PyProof.Rows PySem.Calls PySem.Builtin.Str
open Sem (wp)
set_option Elab.async false
set_option maxRecDepth 100000
set_option maxHeartbeats 800000
namespace Mine
section
variable {w : World} {A : Around} {s : Shared} {E : Value → Shared → Prop}

theorem slice_from_post {x : Str} {t ui : Tok} {i : Nat} {Q : Value → Shared → Prop} (hi : i < x.length) (hz : x.length < 1000)
    (h : ∀ ta, (i = 0 ∧ ta = t → Q (.str ⟨(x.cps.toList.drop i).toArray⟩ ta) s) ∧ (i ≠ 0 → Q (.str ⟨(x.cps.toList.drop i).toArray⟩ s.toks) { s with toks := s.toks + 1 })) :
    (sliceMade x t (some ((i : Int), ui)) none none).post Q s := by
  have e1 : slicePicked x (some ((i : Int), ui)) none none = (List.range (x.length - i)).map (fun k => i + k) := by
    unfold slicePicked
    show strSliceIndices (some (i : Int)) none 1 x.length = _
    rw [StrLaws.sliceIdx_none_hi]
    exact StrLaws.strSliceIndices_plain (Nat.le_of_lt hi) (Nat.le_refl _)
  have e2 : (slicePicked x (some ((i : Int), ui)) none none).filterMap (x.cps[·]?) = x.cps.toList.drop i := by
    unfold slicePicked
    show (strSliceIndices (some (i : Int)) none 1 x.length).filterMap _ = _
    rw [StrLaws.sliceIdx_none_hi, StrLaws.sliced_plain x (Nat.le_of_lt hi) (Nat.le_refl _)]
    apply List.take_of_length_le
    simp [Str.length]
  unfold sliceMade
  by_cases h0 : i = 0
  · rw [if_pos (by rw [e1]; simp [h0])]
    have := (h t).1 ⟨h0, rfl⟩
    subst h0
    show Q (.str x t) s
    simpa using this
  · rw [if_neg (by rw [e1]; simp; omega), e2]
    refine ⟨?_, (h t).2 h0⟩
    simp [Str.length, sizeLine] at hz ⊢
    omega
theorem slice_to_post {x : Str} {t ui : Tok} {i : Nat} {Q : Value → Shared → Prop} (hi : i < x.length) (hz : x.length < 1000)
    (h : Q (.str ⟨(x.cps.toList.take i).toArray⟩ s.toks) { s with toks := s.toks + 1 }) :
    (sliceMade x t none (some ((i : Int), ui)) none).post Q s := by
  have e1 : slicePicked x none (some ((i : Int), ui)) none = (List.range (i - 0)).map (fun k => 0 + k) := by
    unfold slicePicked
    show strSliceIndices none (some (i : Int)) 1 x.length = _
    rw [StrLaws.sliceIdx_none_lo]
    exact StrLaws.strSliceIndices_plain (Nat.zero_le _) (Nat.le_of_lt hi)
  have e2 : (slicePicked x none (some ((i : Int), ui)) none).filterMap (x.cps[·]?) = x.cps.toList.take i := by
    unfold slicePicked
    show (strSliceIndices none (some (i : Int)) 1 x.length).filterMap _ = _
    rw [StrLaws.sliceIdx_none_lo]
    have := StrLaws.sliced_plain x (Nat.zero_le i) (Nat.le_of_lt hi)
    simpa using this
  unfold sliceMade
  rw [if_neg (by rw [e1]; simp; omega), e2]
  refine ⟨?_, h⟩
  simp [Str.length, sizeLine] at hz ⊢
  omega

theorem strs_get {vs : List Value} {ss : List Str} (h : StrsAre vs ss) {k : Nat} (hk : k < vs.length) : ∃ a t, vs[k]? = some (.str a t) ∧ ss[k]? = some a := by
  have hx : vs[k]? = some vs[k] := List.getElem?_eq_getElem hk
  obtain ⟨y, t, e, he⟩ := h.item k _ hx
  exact ⟨y, t, by rw [hx, e], he⟩
theorem eq_strsK {a b : Addr} {vs us : List Value} {ss : List Str} {Q : Value → Shared → Prop} (hl : s.heap.IsList a vs.toArray) (hi : StrsAre vs ss) (hl' : s.heap.IsList b us.toArray) (hi' : StrsAre us ss) (hu : A.units < cLine)
    (h : Q (.bool true) s) : wpAny (model P₀ w) A (compareOp .Eq (.ref a) (.ref b)) Q E s := by
  refine SeqAt.eq_listAt (e := fun _ => true) hl hl' (by simp [hi.length, hi'.length]) hu (fun j h1 h2 => ?_) (by rw [show (List.range vs.toArray.size).all (fun _ => true) = true by simp]; exact h)
  obtain ⟨x, t, e1, e2⟩ := strs_get hi (k := j) (by simpa using h1)
  obtain ⟨y, u, e3, e4⟩ := strs_get hi' (k := j) (by simpa using h2)
  have hxy : x = y := Option.some.inj (e2.symm.trans e4)
  subst hxy
  have hv : vs.toArray[j] = .str x t := by
    have : vs[j]? = some vs.toArray[j] := by simp at h1 ⊢
    exact Option.some.inj (this.symm.trans e1)
  have hu : us.toArray[j] = .str x u := by
    have : us[j]? = some us.toArray[j] := by simp at h2 ⊢
    exact Option.some.inj (this.symm.trans e3)
  rw [hv, hu]
  have := SeqAt.EqAt.str_str (A := A.in1) (s := s) x t x u
  rwa [show (x == x) = true by simp] at this
theorem ne_nilK {a b : Addr} {vs : List Value} {Q : Value → Shared → Prop} (hl : s.heap.IsList a vs.toArray) (hl' : s.heap.IsList b (([] : List Value).toArray)) (hu : A.units < cLine)
    (h : Q (.bool (!vs.isEmpty)) s) : wpAny (model P₀ w) A (compareOp .NotEq (.ref a) (.ref b)) Q E s := by
  by_cases h0 : vs.length = 0
  · have e : vs = [] := List.length_eq_zero_iff.mp h0
    subst e
    have := SeqAt.RcNeAt.lists (A := A) (s := s) (e := fun _ => true) hl hl' rfl hu (fun j h1 h2 => absurd h1 (by simp))
    exact this P₀ w E Q h
  · have := SeqAt.RcNeAt.lists_lengths (A := A) (s := s) hl hl' (by simp; exact fun e => h0 (by rw [e]; rfl)) hu
    have hv : (!vs.isEmpty) = true := by
      cases vs with
      | nil => exact absurd rfl h0
      | cons => rfl
    rw [hv] at h
    exact this P₀ w E Q h
end
end Mine
end

section
open PySem PySem.W PyProof.Rows PySem.Calls PySem.Builtin.Str
open Sem (wp)
set_option Elab.async false
set_option maxRecDepth 100000
set_option maxHeartbeats 800000
namespace Mine
theorem glued_joinS (sep : Str) (hs : sep.cps = #[]) : ∀ (r : List Str) (x : Array Nat), r.foldl (fun acc p => acc ++ sep.cps ++ p.cps) x = x ++ (joinS r).cps
  | [], x => by simp [joinS, Str.empty]
  | p :: r, x => by
    rw [List.foldl_cons, glued_joinS sep hs r]
    simp [joinS, Str.cps_append, hs]
theorem join_joinS (sep : Str) (hs : sep.cps = #[]) (ys : List Str) : Txt.join sep ys = joinS ys := by
  cases ys with
  | nil => rfl
  | cons x r =>
    have := glued_joinS sep hs r x.cps
    show (⟨r.foldl (fun acc p => acc ++ sep.cps ++ p.cps) x.cps⟩ : Str) = _
    exact Str.ext' this
/-- the turns' values: their texts, and their tokens -/
def TurnsAre (page : Str) (tp : Tok) (i : Nat) (ys : List Value) (tk : Nat) : Prop :=
  StrsAre ys (turnsP page i) ∧ 0 < tk ∧ tp < tk ∧ (∀ (k : Nat) (a : Str) (t : Tok), ys[k]? = some (.str a t) → t ≠ 0 ∧ t < tk) ∧
    (∀ (k k' : Nat) (a a' : Str) (t : Tok), ys[k]? = some (.str a t) → ys[k']? = some (.str a' t) → a = a')
theorem TurnsAre.mono (page : Str) (tp : Tok) : Mono (TurnsAre page tp) := fun i ys t t' h ⟨a, b, c, d, e⟩ => ⟨a, Nat.lt_of_lt_of_le b h, Nat.lt_of_lt_of_le c h, fun k x u hx => ⟨(d k x u hx).1, Nat.lt_of_lt_of_le (d k x u hx).2 h⟩, e⟩
theorem get_snoc {ys : List Value} {v : Value} {k : Nat} {x : Value} (h : (ys ++ [v])[k]? = some x) : ys[k]? = some x ∨ (k = ys.length ∧ x = v) := by
  by_cases hk : k < ys.length
  · rw [List.getElem?_append_left hk] at h
    exact .inl h
  · rw [List.getElem?_append_right (by omega)] at h
    have h0 : k - ys.length = 0 := by
      cases e : k - ys.length with
      | zero => rfl
      | succ n => rw [e] at h; simp at h
    rw [h0] at h
    simp at h
    exact .inr ⟨by omega, h.symm⟩
theorem TurnsAre.snoc {page : Str} {tp : Tok} {i : Nat} {ys : List Value} {tk tk' : Nat} {t : Tok} (h : TurnsAre page tp i ys tk) (hle : tk ≤ tk') (htp : tp ≠ 0)
    (ht : (i = 0 ∧ t = tp) ∨ (tk ≤ t ∧ t < tk')) : TurnsAre page tp (i + 1) (ys ++ [.str (rotP page i) t]) tk' := by
  obtain ⟨a, b, c, d, e⟩ := h
  have hnew : t ≠ 0 ∧ t < tk' := by
    rcases ht with ⟨_, rfl⟩ | ⟨h1, h2⟩
    · exact ⟨htp, Nat.lt_of_lt_of_le c hle⟩
    · refine ⟨?_, h2⟩
      intro h0
      rw [h0] at h1
      omega
  have hold : ∀ (k : Nat) (x : Str), ys[k]? = some (.str x t) → False := by
    intro k x hx
    rcases ht with ⟨hi, _⟩ | ⟨h1, _⟩
    · subst hi
      have hl : ys.length = 0 := by rw [a.length]; rfl
      have : ys = [] := List.length_eq_zero_iff.mp hl
      subst this
      simp at hx
    · exact absurd (d k x t hx).2 (Nat.not_lt.mpr h1)
  refine ⟨?_, Nat.lt_of_lt_of_le b hle, Nat.lt_of_lt_of_le c hle, ?_, ?_⟩
  · rw [turnsP_succ]
    exact a.append' (.cons _ _ .nil)
  · intro k x u hx
    rcases get_snoc hx with hx | ⟨_, hx⟩
    · exact ⟨(d k x u hx).1, Nat.lt_of_lt_of_le (d k x u hx).2 hle⟩
    · cases hx
      exact hnew
  · intro k k' x x' u hx hx'
    rcases get_snoc hx with hx | ⟨_, hx⟩
    · rcases get_snoc hx' with hx' | ⟨_, hx'⟩
      · exact e k k' x x' u hx hx'
      · cases hx'
        exact (hold k x hx).elim
    · cases hx
      rcases get_snoc hx' with hx' | ⟨_, hx'⟩
      · exact (hold k' x' hx').elim
      · cases hx'
        rfl

theorem list_ne_ns {h : Heap} {D L : Addr} {items : Array Value} {m : Str → Option Value} (hl : h.IsList D items) (hn : h.Ns L m) : D ≠ L := by
  rintro rfl
  obtain ⟨o, e, _, n, d⟩ := hl
  obtain ⟨o', _, _, e', d', _⟩ := hn
  have : o = o' := Option.some.inj (e.symm.trans e')
  subst this
  rw [d] at d'
  cases d'
theorem sum_joinS : ∀ l : List Str, (l.map (·.length)).sum = (joinS l).length
  | [] => rfl
  | w :: r => by simp only [List.map_cons, List.sum_cons, joinS, Str.length_append, sum_joinS r]
theorem rep_fold (v : Value) : ∀ (n : Nat) (a : Array Value), (List.foldl (fun x1 x2 => x1 ++ x2) a (List.replicate n #[v])).toList = a.toList ++ List.replicate n v
  | 0, a => by simp
  | n + 1, a => by
    rw [List.replicate_succ, List.foldl_cons, rep_fold v n]
    simp [List.replicate_succ]
theorem strs_rep (b : Str) (u : Tok) : ∀ n, StrsAre (List.replicate n (.str b u)) (List.replicate n b)
  | 0 => .nil
  | n + 1 => .cons b u (strs_rep b u n)
section
variable {w : World} {A : Around} {s : Shared} {mg mb : Str → Option Value} {page : Str} {draws : List Int}

theorem chosen_ok {f ld : Addr} {tp : Tok} {dvs : List Value} {Q : Value → Shared → Prop} (G : Gd mg mb s.heap) (hf : mg "_law_chosen" = some (.ref f)) (hd : A.depth < 600) (hh : A.handled = none) (hu : A.units < 100)
    (hdl : s.heap.IsList ld dvs.toArray) (hdi : IntsAre dvs draws) (hdn : draws.length = 4) (hp : 0 < page.length) (hn : page.length < 11) (htp : tp ≠ 0) (htp2 : tp < s.toks) (hs0 : 0 < s.toks)
    (h : ∀ h' tk, Keep s.heap h' → Q (.bool true) { s with heap := h', toks := tk }) :
    wpC (model P₀ w) A (call (.ref f) [.str page tp, .ref ld]) Q (fun _ _ => False) s := by
  refine callC_inC (k := 14) (x := "page") (binds := [("page", .str page tp), ("draws", .ref ld)]) G (by decide) hf (Nat.lt_trans hd (by decide)) (fun _ _ _ => rfl) (by rfl) (fun n => rfl) (fun L code h₁ tk1 o F N ho hL htk => ?_)
  have hcl : A.units + 3 < cLine := by have : cLine = 9900 := rfl; omega
  obtain ⟨fled, hfled⟩ := G.addr (k := 13) (by decide)
  obtain ⟨fadd, hfadd⟩ := G.addr (k := 4) (by decide)
  obtain ⟨fco, hfco⟩ := G.addr (k := 5) (by decide)
  have hL0 : s.heap.get? L = none := by rw [hL]; exact fresh_of_size Keep.rfl
  have hcell1 : h₁.IsCell (L + 1) (some (.str page tp)) := ⟨o, (N _ (List.mem_singleton.mpr rfl)).1, by rw [ho]; rfl⟩
  have G1 := G.keeps F.keep
  -- turns, kept = ([..], [])
  refine wpC_execs_cons ?_
  refine wpC.any ?_
  refine assign2 (h₀ := s.heap) hh ?_
  refine args_cons ?_
  refine comp_eval (cl := [("page", L + 1)]) (by rfl) (by decide) (by rfl) (by decide) ?_
  refine call_ty (T := "range") G1 (by rfl) ?_
  refine args_cons ?_
  refine call_bi (id := "len") G1 (by rfl) ?_
  refine args_cons ?_
  refine x_cell hcell1 ?_
  refine args_nil ?_
  refine PyProof.Rows.len_str ?_ ?_
  · simp; omega
  refine args_nil ?_
  refine call_range_1 ?_
  have hr := range_one page.length hn hp
  have hz : page.length < 1000 := by omega
  refine src_range hh (IsRange.new _ _ _ _ _ _ _) hr.2 hr.1 (by simp [sizeLine]; omega) (by rfl) (by rfl) (J := TurnsAre page tp) (TurnsAre.mono page tp) ?_ ?_ ?_ ?_
  · rintro i ys t ⟨hJ, _⟩
    rw [hJ.length]
    simp [turnsP]
  · refine ⟨.nil, Nat.lt_of_lt_of_le hs0 (by dsimp only; omega), Nat.lt_of_lt_of_le htp2 (by dsimp only; omega), ?_, ?_⟩
    · intro k a t hx; simp at hx
    · intro k k' a a' t hx; simp at hx
  · refine body_plain fun C i ys s₃ m₃ E' hi ⟨v, ⟨t, hv⟩, hm⟩ hJ hns hk => ?_
    rw [show (0 : Int) + i * 1 = i by omega] at hv
    subst hv
    have G3 := G1.keeps fun b o e => hk b o (Heap.get?_push_of_some _ e)
    have hc3 : s₃.heap.IsCell (L + 1) (some (.str page tp)) := IsCell.at' hcell1 fun o e => hk _ o (Heap.get?_push_of_some _ e)
    refine call_def (k := 4) G3 (by decide) rfl hfadd ?_
    have hi' : i < page.length := by omega
    refine args_cons (wpAny_mono (Q := fun v s' => ∃ ta h' k, v = .str ⟨(page.cps.toList.drop i).toArray⟩ ta ∧ s' = { s₃ with heap := h', toks := k } ∧ Keep s₃.heap h' ∧ s₃.toks ≤ k ∧ ((i = 0 ∧ ta = tp) ∨ (s₃.toks ≤ ta ∧ ta < k))) ?_ ?_ fun _ _ e => e)
    · refine wpAny_Subscript_str_slice ?_
      refine c_free (by rfl) hc3 ?_
      refine evalPart_some_step ?_
      refine c_name hns hm ?_
      refine evalPart_none_step ?_
      refine ⟨page, tp, some ((i : Int), t), none, rfl, rfl, rfl, ?_⟩
      refine slice_from_post hi' hz fun ta => ⟨fun hx => ?_, fun hx => ?_⟩
      · exact ⟨ta, _, _, rfl, rfl, fun b o e => Heap.get?_push_of_some _ e, Nat.le_refl _, .inl hx⟩
      · exact ⟨_, _, _, rfl, rfl, fun b o e => Heap.get?_push_of_some _ e, Nat.le_succ _, .inr ⟨Nat.le_refl _, Nat.lt_succ_self _⟩⟩
    rintro v s' ⟨ta, h4, k4, rfl, rfl, hk4, hle4, hta⟩
    refine args_cons ?_
    refine wpAny_Subscript_str_slice ?_
    refine c_free (by rfl) (IsCell.at' hc3 fun o e => hk4 _ o e) ?_
    refine evalPart_none_step ?_
    refine evalPart_some_step ?_
    refine c_name (hns.keeps hk4) hm ?_
    refine ⟨page, tp, none, some ((i : Int), t), rfl, rfl, rfl, ?_⟩
    refine slice_to_post hi' hz ?_
    refine args_nil ?_
    have hk5 : Keep s₃.heap (h4.push { cls := .type "slice", data := .fields #[.none, .int i t, .none] }) := fun b o e => Heap.get?_push_of_some _ (hk4 b o e)
    refine ⟨hk5, ?_⟩
    have hl1 : (⟨(page.cps.toList.drop i).toArray⟩ : Str).length = page.length - i := by simp [Str.length]
    have hl2 : (⟨(page.cps.toList.take i).toArray⟩ : Str).length = i := by
      simp [Str.length]
      exact Nat.min_eq_left (Nat.le_of_lt hi')
    refine add_ok (G3.keeps hk5) hfadd (show A.depth + 1 < 900 by omega) (by rw [hl1, hl2]; simp [sizeLine]; omega) ?_
    intro h6 t6 tk6 hk6 hle6 ht6
    refine ⟨⟨h6, tk6, rfl, fun b o e => hk6 b o (hk5 b o e)⟩, ?_⟩
    have hcat : (⟨(page.cps.toList.drop i).toArray⟩ : Str) ++ ⟨(page.cps.toList.take i).toArray⟩ = rotP page i := Str.ext' (by simp [Str.cps_append, rotP])
    rw [hcat]
    dsimp only at hle6 ht6
    refine TurnsAre.snoc (tk' := tk6) hJ (by omega) htp ?_
    rw [hl1, hl2] at ht6
    rcases ht6 with ⟨q1, q2⟩ | ⟨q1, q2⟩ | ⟨q1, q2⟩
    · rcases hta with ⟨r1, r2⟩ | ⟨r1, r2⟩
      · exact .inl ⟨q2, q1.trans r2⟩
      · refine .inr ⟨by rw [q1]; exact r1, ?_⟩
        rw [q1]
        exact Nat.lt_of_lt_of_le r2 (by omega)
    · omega
    · exact .inr ⟨by omega, q2⟩
  intro yT tkT hyT T h7 hT0 hT7 hk7
  obtain ⟨hyS, _, _, hyt, hye⟩ := (show TurnsAre page tp page.length yT tkT from hyT)
  have hk17 : Keep h₁ h7 := fun b o e => hk7 b o (Heap.get?_push_of_some _ e)
  have F7 := Fr_up F hk17
  have hTs : s.heap.get? T = none := by
    cases e : s.heap.get? T with
    | none => rfl
    | some o' => exact absurd ((Heap.get?_push_of_some _ (F.keep _ _ e)).symm.trans hT0) (fun e => nomatch e)
  have hTl7 := isList_of hT7
  have hTL : T ≠ L := list_ne_ns hTl7 F7.ns
  refine args_cons ?_
  refine List_ ?_
  refine args_nil ?_
  refine wpAny_newObj_type ?_ (by size_fits)
  refine args_nil ?_
  have F8 := F7.push (o := lstO [])
  refine ⟨_, _, _, rfl, F8, ?_⟩
  intro h9 tk9 F9 hk9
  have hKL : h7.objs.size ≠ L := Ne.symm (Nat.ne_of_lt F7.ns.lt)
  have hKT : T ≠ h7.objs.size := Nat.ne_of_lt (Heap.lt_size hT7)
  have hK9 : h9.get? h7.objs.size = some (lstO []) := hk9 _ _ hKL (Heap.get?_push_size _ rfl)
  have hKs : s.heap.get? h7.objs.size = none := fresh_of_size F7.keep
  have hT9 : h9.get? T = some (lstO yT) := hk9 _ _ hTL (Heap.get?_push_of_some _ hT7)
  generalize h7.objs.size = K at *
  clear hk9 F8 hk7 hT0 hyT
  refine tk0C (s := s) (h := h9) (P := fun z => wpC _ _ _ _ _ z) fun _ => ?_
  -- for turn in turns
  refine wpC_execs_cons ?_
  refine For_inC (h₀ := s.heap) (by rfl) (by rfl) ?_
  refine wpC.any ?_
  refine nameX_L F9 (by rfl) ?_
  refine loop_listC (h₀ := s.heap) hh (isList_of hT9) hTL F9
    (fun j m h _ => m "turns" = some (.ref T) ∧ m "kept" = some (.ref K) ∧ m "draws" = some (.ref ld) ∧ h.IsList T yT.toArray ∧
      ∃ zs, h.get? K = some (lstO zs) ∧ StrsAre zs (((turnsP page page.length).take j).filter (keptB draws)) ∧ ∀ v ∈ zs, v ∈ yT) ?_ ?_ ?_ ?_
  · rintro I hI j m h h' tk tk' hk _ ⟨a1, a2, a3, a4, zs, a5, a6, a7⟩
    have hne : ∀ b o, h9.get? b = some o → b ≠ I := fun b o e q => by
      subst q
      exact absurd (e.symm.trans hI) (fun e => nomatch e)
    exact ⟨a1, a2, a3, a4.at fun o e => hk _ o hTL (by simpa using hne _ _ hT9) e, zs, hk _ _ hKL (by simpa using hne _ _ hK9) a5, a6, a7⟩
  · exact ⟨by rfl, by rfl, by rfl, isList_of hT9, [], hK9, .nil, by simp⟩
  · rintro I j v m₁ h10 tk hI hIL hj hv ⟨a1, a2, a3, a4, zs, a5, a6, a7⟩ F' ⟨oI, hoI⟩ hTl
    obtain ⟨z, tz, rfl, hz⟩ := hyS.item j v (by simpa using hv)
    have hzl : z.length = page.length := by
      obtain ⟨k, _, rfl⟩ := List.mem_map.mp (List.mem_of_getElem? hz)
      exact rotP_length page k
    have hfil : ((turnsP page page.length).take (j + 1)).filter (keptB draws) = ((turnsP page page.length).take j).filter (keptB draws) ++ (if keptB draws z = true then [z] else []) := by
      rw [List.take_add_one, hz, Option.toList_some, List.filter_append]
      simp [List.filter_cons]
    have hvm : Value.str z tz ∈ yT := List.mem_of_getElem? (by simpa using hv)
    have G' := G.keeps F'.keep
    have hKI : K ≠ I := by
      rintro rfl
      exact absurd (hK9.symm.trans hI) (fun e => nomatch e)
    refine tk0C (s := s) (h := h10) (P := fun y => wpC _ _ _ _ _ y) fun _ => ?_
    refine wpC_execs_cons ?_
    refine wpC_Assign_Name ?_
    refine callC_def (k := 13) G' (by decide) rfl hfled (wpC.any ?_)
    refine args_cons ?_
    refine nameX_L F' (by rfl) ?_
    refine args_cons ?_
    refine nameX_L F' (by exact a3) ?_
    refine args_nil ?_
    refine ⟨fun _ _ e => e, ?_⟩
    refine led_ok G' hfled (show A.depth + 1 < 700 by omega) hh (hdl.at fun o e => F'.keep _ o e) hdi hdn (by omega) (by omega) ?_
    intro h11 D ys tk11 hk11 hD hys
    have F11 := Fr_up F' hk11
    have hDL : D ≠ L := list_ne_ns hD F11.ns
    refine stS F11 (fun h12 F12 hs12 => ?_)
    have up : ∀ c o, c ≠ L → h10.get? c = some o → h12.get? c = some o := fun c o hc e => hs12.extBut c o hc (hk11 _ _ e)
    have hD12 : h12.IsList D ys.toArray := hD.at fun o e => hs12.extBut _ _ hDL e
    have hK12 : h12.get? K = some (lstO zs) := up _ _ hKL a5
    have hfp : ∀ (h' : Heap), (∀ c o, c ≠ L → c ≠ K → h12.get? c = some o → h'.get? c = some o) → ∀ c ∈ [I, T], ∀ o, h10.get? c = some o → h'.get? c = some o := fun h' hk c hc o e => by
      simp only [List.mem_cons, List.not_mem_nil, or_false] at hc
      rcases hc with rfl | rfl
      · exact hk _ _ hIL (Ne.symm hKI) (up _ _ hIL e)
      · exact hk _ _ hTL hKT (up _ _ hTL e)
    refine tk0C (s := s) (h := h12) (P := fun y => wpC _ _ _ _ _ y) fun _ => ?_
    -- if row != []
    refine wpC_execs_cons ?_
    refine wpC_If ?_
    refine wpAny_isTrue_Compare1 ?_
    refine nameX_L F12 (by rfl) ?_
    refine List_ ?_
    refine args_nil ?_
    refine wpAny_newObj_type ?_ (by size_fits)
    refine ne_nilK (hD12.push _) ⟨_, Heap.get?_push_size _ rfl, rfl, _, rfl⟩ hcl ?_
    refine wpAny_truthy_bool ?_
    have hyk : (!ys.isEmpty) = keptB draws z := by
      have h0 : ys.length = (outL draws z).length := hys.length
      have e1 : ∀ {α : Type} (l : List α), l.isEmpty = decide (l.length = 0) := fun l => by cases l <;> rfl
      unfold keptB
      rw [e1, e1, h0]
    rw [hyk]
    have F13 := F12.push (o := lstO [])
    have hk13 : Keep h12 (h12.push (lstO [])) := fun _ _ e => Heap.get?_push_of_some _ e
    change (if keptB draws z = true then wpC _ _ _ _ _ { s with heap := h12.push (lstO []), toks := _ } else wpC _ _ _ _ _ { s with heap := h12.push (lstO []), toks := _ })
    generalize h12.push (lstO []) = h13 at F13 hk13 ⊢
    by_cases hkz : keptB draws z = true
    · rw [if_pos hkz]
      rw [if_pos hkz] at hfil
      have hjo := outL_join ((keptB_iff draws z).mp hkz)
      refine wpC_execs_cons ?_
      refine wpC_If ?_
      refine wpAny_isTrue_Compare1 ?_
      refine methodCall_KW ?_
      refine Constant_str ?_
      refine GM.join ?_
      refine PyProof.Rows.callWith_method1 ?_
      refine args_cons ?_
      refine nameX_L F13 (by rfl) ?_
      refine args_nil ?_
      refine join_list (ys := outL draws z) (hD12.at fun o e => hk13 _ _ e) (by simpa using hys) ?_ ?_
      · rw [sum_joinS, hjo, show (Str.ofString "").length = 0 from rfl]
        omega
      intro tj kj
      refine nameX_L F13 (by rfl) ?_
      refine PyProof.Rows.ne_str ?_
      refine wpAny_truthy_bool ?_
      rw [join_joinS (Str.ofString "") rfl, hjo, if_neg (by simp)]
      refine wpC_execs_nil ?_
      refine tk0C (s := s) (h := h13) (P := fun y => wpC _ _ _ _ _ y) fun _ => ?_
      refine wpC_execs_cons ?_
      refine wpC.any ?_
      refine wpAny_Expr ?_
      refine methodCall_KW ?_
      refine nameX_L F13 (by exact a2) ?_
      refine getMethod_list_append (hk13 _ _ hK12) rfl rfl ?_
      refine PyProof.Rows.callWith_method1 ?_
      refine args_cons ?_
      refine nameX_L F13 (by rfl) ?_
      refine args_nil ?_
      have hzs : zs.length ≤ 11 := by
        rw [a6.length]
        have h1 := List.length_filter_le (keptB draws) ((turnsP page page.length).take j)
        have h2 : ((turnsP page page.length).take j).length ≤ (turnsP page page.length).length := by rw [List.length_take]; omega
        have h3 : (turnsP page page.length).length = page.length := by simp [turnsP]
        omega
      refine append_at (hsz := by show zs.toArray.size ≤ sizeLine; rw [List.size_toArray]; simp [sizeLine]; omega) (hk13 _ _ hK12) fun h14 hs14 hK14 => ?_
      dsimp only
      refine wpC_execs_nil ?_
      refine wpC_execs_nil ?_
      refine ⟨h14, _, _, rfl, ⟨F13.ns.sameBut hs14 (Ne.symm hKL), fun c o e => hs14.extBut c o (fun q => by rw [q, hKs] at e; cases e) (F13.keep c o e), F13.above⟩, hfp h14 fun c o _ hc2 e => hs14.extBut c o hc2 (hk13 _ _ e), by exact a1, by exact a2, by exact a3, ?_, zs ++ [.str z tz], hK14.trans (congrArg some (LCg.lst_snoc zs _)), ?_, ?_⟩
      · exact a4.at fun o e => hs14.extBut _ _ hKT (hk13 _ _ (up _ _ hTL e))
      · rw [hfil]
        exact a6.append' (.cons _ _ .nil)
      · intro v hv
        rcases List.mem_append.mp hv with hv | hv
        · exact a7 v hv
        · rw [List.mem_singleton.mp hv]
          exact hvm
    · rw [if_neg hkz]
      rw [if_neg hkz, List.append_nil] at hfil
      refine wpC_execs_nil ?_
      refine wpC_execs_nil ?_
      refine ⟨h13, _, _, rfl, F13, hfp h13 fun c o _ _ e => hk13 _ _ e, by exact a1, by exact a2, by exact a3, ?_, zs, hk13 _ _ hK12, by rw [hfil]; exact a6, a7⟩
      exact a4.at fun o e => hk13 _ _ (up _ _ hTL e)
  · rintro h' tk m' F' ⟨a1, a2, a3, a4, zs, a5, a6, a7⟩
    have hlenT : yT.toArray.size = page.length := by
      rw [List.size_toArray, hyS.length]
      simp [turnsP]
    rw [hlenT, List.take_of_length_le (by simp [turnsP])] at a6
    obtain ⟨hne, hrep⟩ := chosen_law draws page hp
    generalize hker : (turnsP page page.length).filter (keptB draws) = kept at a6 hne hrep
    have hkl : zs.length ≠ 0 := by
      rw [a6.length]
      intro e
      exact hne (List.length_eq_zero_iff.mp e)
    obtain ⟨b, u, hb1, hb2⟩ := strs_get a6 (k := 0) (by omega)
    have hb3 : kept.getD 0 Str.empty = b := by rw [List.getD_eq_getElem?_getD, hb2]; rfl
    rw [hb3] at hrep
    have hbm : Value.str b u ∈ yT := a7 _ (List.mem_of_getElem? hb1)
    obtain ⟨kb, hkb⟩ := List.getElem?_of_mem hbm
    have hcl2 : cnt b (turnsP page page.length) ≤ 11 := by
      have h1 := congrArg List.length hrep
      rw [List.length_replicate] at h1
      have h2 := List.length_filter_le (keptB draws) (turnsP page page.length)
      rw [hker] at h2
      have h3 : (turnsP page page.length).length = page.length := by simp [turnsP]
      omega
    have G' := G.keeps F'.keep
    refine tk0C (s := s) (h := h') (P := fun y => wpC _ _ _ _ _ y) fun _ => ?_
    refine wpC_execs_cons ?_
    refine wpC_Return_some ?_
    refine wpC.any ?_
    refine BoolOp_and ?_
    refine wpAny_Compare1 ?_
    refine nameX_L F' (by exact a2) ?_
    refine List_ ?_
    refine args_nil ?_
    refine wpAny_newObj_type ?_ (by size_fits)
    refine ne_nilK ((isList_of a5).push _) ⟨_, Heap.get?_push_size _ rfl, rfl, _, rfl⟩ hcl ?_
    refine wpAny_truthy_bool ?_
    rw [if_pos (by cases zs with | nil => exact absurd rfl hkl | cons => rfl)]
    have F13 := F'.push (o := lstO [])
    have hk13 : Keep h' (h'.push (lstO [])) := fun _ _ e => Heap.get?_push_of_some _ e
    change wpAny _ _ _ _ _ { s with heap := h'.push (lstO []), toks := _ }
    generalize h'.push (lstO []) = h13 at F13 hk13 ⊢
    have a5' := hk13 _ _ a5
    have a4' : h13.IsList T yT.toArray := a4.at fun o e => hk13 _ _ e
    have G13 := G.keeps F13.keep
    refine BoolOp_one ?_
    refine wpAny_Compare1 ?_
    refine nameX_L F13 (by exact a2) ?_
    refine wpAny_BinOp ?_
    refine List_ ?_
    refine args_cons ?_
    refine Subscript_ ?_
    refine nameX_L F13 (by exact a2) ?_
    refine wpAny_Constant_int ?_
    refine item_listL (isList_of a5') (by omega) (by omega) (by exact hb1) ?_
    refine args_nil ?_
    refine wpAny_newObj_type ?_ (by size_fits)
    have hn14 : (h13.push { cls := .type "list", data := .seq [Value.str b u].toArray }).get? h13.objs.size = some { cls := .type "list", data := .seq [Value.str b u].toArray } := Heap.get?_push_size _ rfl
    have F14 := F13.push (o := { cls := .type "list", data := .seq [Value.str b u].toArray })
    have hk14 : Keep h13 (h13.push { cls := .type "list", data := .seq [Value.str b u].toArray }) := fun _ _ e => Heap.get?_push_of_some _ e
    change wpAny _ _ _ _ _ { s with heap := h13.push { cls := .type "list", data := .seq [Value.str b u].toArray }, toks := _ }
    generalize h13.push { cls := .type "list", data := .seq [Value.str b u].toArray } = h14 at hn14 F14 hk14 ⊢
    generalize h13.objs.size = N1 at hn14 ⊢
    have G14 := G.keeps F14.keep
    refine tk0C (s := s) (h := h14) (P := fun y => wpAny _ _ _ _ _ y) fun _ => ?_
    refine call_def (k := 5) G14 (by decide) rfl hfco ?_
    refine args_cons ?_
    refine nameX_L F14 (by exact a1) ?_
    refine args_cons ?_
    refine Subscript_ ?_
    refine nameX_L F14 (by exact a2) ?_
    refine wpAny_Constant_int ?_
    refine item_listL (isList_of (hk14 _ _ a5')) (by omega) (by omega) (by exact hb1) ?_
    refine args_nil ?_
    refine ⟨fun _ _ e => e, ?_⟩
    refine countOf_ok G14 hfco (show A.depth + 1 < 900 by omega) hh (a4'.at fun o e => hk14 _ _ e) hyS (hyt kb b u hkb).1 (fun i a t hx => ⟨(hyt i a t hx).1, fun e => by subst e; exact hye i kb a b t hx hkb⟩) ?_
    intro h15 t15 tk15 hk15
    refine tk0C (s := s) (h := h15) (P := fun y => wpAny _ _ _ _ _ y) fun _ => ?_
    have F15 := Fr_up F14 hk15
    have N15 : News s.heap L h15 [(K, lstO zs)] := fun p hp => by
      rw [List.mem_singleton.mp hp]
      exact ⟨hk15 _ _ (hk14 _ _ a5'), hKL, hKs⟩
    refine mul_list F15 N15 (hk15 _ _ hn14) (by omega) (by omega) (by simp; omega) ?_
    intro h16 F16 N16
    have hn16 := (N16 _ (List.mem_cons_self ..)).1
    have hK16 := (N16 _ (List.mem_cons_of_mem _ (List.mem_singleton.mpr rfl))).1
    have hfold : List.foldl (fun x1 x2 => x1 ++ x2) #[] (List.replicate (if ([Value.str b u].toArray).isEmpty = true then 0 else ((cnt b (turnsP page page.length) : Nat) : Int).toNat) [Value.str b u].toArray) = (List.replicate (cnt b (turnsP page page.length)) (Value.str b u)).toArray := by
      have := rep_fold (.str b u) (cnt b (turnsP page page.length)) #[]
      apply Array.ext'
      simpa using this
    refine eq_strsK (ss := kept) (isList_of hK16) a6 (us := List.replicate (cnt b (turnsP page page.length)) (Value.str b u)) ⟨_, hn16, rfl, _, by rw [← hfold]⟩ ?_ hcl ?_
    · rw [hrep]
      exact strs_rep b u _
    exact h h16 _ F16.keep
end
end Mine
end

section
open PySem PySem.W PyProof.Rows PySem.Calls PySem.Builtin PySem.Builtin.Str
open Sem (wp)
set_option Elab.async false
set_option maxRecDepth 100000
set_option maxHeartbeats 800000
namespace Mine
abbrev litE (x : String) : Str := Str.ofString x
def esc1 (c r x : Str) : Str := if Txt.contains x c = true then Txt.replace x c r else x
def escL : List (Str × Str) := [(litE "&", litE "&amp;"), (litE "<", litE "&lt;"), (litE ">", litE "&gt;"), (litE "\"", litE "&quot;"), (litE "\r", litE "&#13;"), (litE "\n", litE "&#10;"), (litE "\t", litE "&#09;")]
def escT (n : Nat) (x : Str) : Str := (escL.take n).foldl (fun x p => esc1 p.1 p.2 x) x
def EscP (s : Shared) (L : Addr) (x : Str) (fl : Flow) (s' : Shared) : Prop :=
  fl = .next ∧ ∃ h' tk' m' t', s' = { s with heap := h', toks := tk' } ∧ Fr s.heap L h' m' ∧ m' "text" = some (.str x t') ∧ t' ≠ 0 ∧ t' < tk'
section
variable {w : World} {A : Around} {s : Shared} {mg mb : Str → Option Value} {E : Value → Shared → Prop}

theorem repl_tok {x y z : Str} {t u v : Tok} {Q : Value → Shared → Prop} (hu : u ≠ 0) (hv : v ≠ 0) (huv : u ≠ v) (hyz : (y == z) = false) (hb : x.length + (x.length + 1) * z.length ≤ 16777216)
    (hq : ∀ t' k, (t' = t ∧ k = s.toks) ∨ (t' = s.toks ∧ k = s.toks + 1) → Q (.str (Txt.replace x y z) t') { s with toks := k }) : wpAny (model P₀ w) A (call (.builtin "str.replace") [.str x t, .str y u, .str z v]) Q E s := by
  have e : (2 : Nat) ^ 24 = 16777216 := by decide
  have hl : tooLong (x.length + (occurrences x y 0 x.length (x.length + 1)).length * z.length) = false := by
    have h1 := StrLaws.occ_length_le x y 0 x.length (x.length + 1)
    have h2 : (occurrences x y 0 x.length (x.length + 1)).length * z.length ≤ (x.length + 1) * z.length := Nat.mul_le_mul_right _ h1
    unfold tooLong sizeLine
    exact decide_eq_false (by omega)
  refine call_gives F.slot_str_replace (typeIs_str _ _ _) F.entry_str_replace (F.args_str_replace_3 _ _ _)
    (gives_str_replace x y z t u v fun _ => ⟨by simp [hu, hv], by simp [huv], hyz, hl⟩) ?_
  have hq' := hq
  unfold Txt.replace at hq'
  cases hc : ((occurrences x y 0 x.length (x.length + 1)).isEmpty || (y.length == 0 && z.length == 0))
  · rw [hc] at hq'
    simp only [Bool.false_eq_true, if_false] at hq' ⊢
    exact ⟨fits_replaced y hb, hq' _ _ (Or.inr ⟨rfl, rfl⟩)⟩
  · rw [hc] at hq'
    simp only [if_true] at hq' ⊢
    exact hq' _ _ (Or.inl ⟨rfl, rfl⟩)

theorem esc_fin {L : Addr} {x c r : Str} {t t' : Tok} {k K : Nat} {h2 : Heap} {m : Str → Option Value} (hc : Txt.contains x c = true) (ht : t ≠ 0) (hk : (t' = t ∧ k = K) ∨ (t' = K ∧ k = K + 1))
    (F2 : Fr s.heap L h2 (fun y => if y = "text" then some (.str (Txt.replace x c r) t') else m y)) (hlt : t < K) : EscP s L (esc1 c r x) .next { s with heap := h2, toks := k + 1 } := by
  refine ⟨rfl, h2, k + 1, _, t', rfl, F2, ?_, ?_, ?_⟩
  · show some _ = some _
    rw [esc1, if_pos hc]
  · rcases hk with ⟨rfl, _⟩ | ⟨rfl, _⟩
    · exact ht
    · exact Nat.ne_of_gt (Nat.lt_of_le_of_lt (Nat.zero_le _) hlt)
  · rcases hk with ⟨rfl, rfl⟩ | ⟨rfl, rfl⟩
    · exact Nat.lt_succ_of_lt hlt
    · exact Nat.lt_succ_of_lt (Nat.lt_succ_self _)
theorem esc_same {L : Addr} {x c r : Str} {t : Tok} {k : Nat} {h2 : Heap} {m : Str → Option Value} (hc : ¬ Txt.contains x c = true) (ht : t ≠ 0) (F : Fr s.heap L h2 m) (hm : m "text" = some (.str x t)) (hlt : t < k) :
    EscP s L (esc1 c r x) .next { s with heap := h2, toks := k } := ⟨rfl, h2, k, m, t, rfl, F, by rw [esc1, if_neg hc]; exact hm, ht, hlt⟩
theorem esc_bound {x r : Str} (hx : x.length ≤ 60) (hr : r.length ≤ 10) : x.length + (x.length + 1) * r.length ≤ 16777216 := by
  have h1 : (x.length + 1) * r.length ≤ 61 * 10 := Nat.mul_le_mul (by omega) hr
  omega

theorem escape_ok {f : Addr} {text : Str} {tt : Tok} {Q : Value → Shared → Prop} (G : Gd mg mb s.heap) (hf : mg "_escape_attrib" = some (.ref f)) (hd : A.depth < 900)
    (hb : ∀ i, i < 7 → (escT i text).length ≤ 60) (htt : tt ≠ 0) (htk0 : tt < s.toks)
    (h : ∀ h' t tk, Keep s.heap h' → t ≠ 0 → t < tk → Q (.str (escT 7 text) t) { s with heap := h', toks := tk }) :
    wpAny (model P₀ w) A (call (.ref f) [.str text tt]) Q E s := by
  refine call_in (k := 9) (binds := [("text", .str text tt)]) G (by decide) hf (Nat.lt_trans hd (by decide)) (fun _ _ _ => rfl) (by rfl) (fun L code h₁ F hL => ?_)
  have hm : (fun x => List.lookup x [("text", Value.str text tt)].reverse) "text" = some (.str (escT 0 text) tt) := by rfl
  have ht := htt
  refine tkC (s := s) (h := h₁) (P := fun z => wpAny _ _ _ _ _ z) (s.toks + 1) (fun tk0 hle => ?_) (Nat.le_refl _)
  have htk : tt < tk0 := Nat.lt_of_lt_of_le (Nat.lt_succ_of_lt htk0) hle
  refine wpAny_execs_cons ?_
  refine wpAny_Try_except ?_
  refine wpAny_execs_cons (wpAny_mono (Q := EscP s L (escT 1 text)) (E := fun _ _ => False) ?_ ?_ fun _ _ e => e.elim)
  · refine wpAny_If ?_
    refine wpAny_isTrue_Compare1 ?_
    refine Constant_str ?_
    refine nameX_L F hm ?_
    refine PySem.P.in_str ?_
    refine wpAny_truthy_bool ?_
    by_cases hc : Txt.contains (escT 0 text) (litE "&") = true
    · refine (if_pos hc).mpr ?_
      refine wpAny_execs_cons ?_
      refine wpAny_Assign_Name ?_
      refine methodCall_KW ?_
      refine nameX_L F hm ?_
      refine GM.replace ?_
      refine PyProof.Rows.callWith_method1 ?_
      refine args_cons ?_
      refine Constant_str ?_
      refine args_cons ?_
      refine Constant_str ?_
      refine args_nil ?_
      refine repl_tok (Nat.ne_of_gt (Nat.lt_of_lt_of_le (Nat.lt_of_le_of_lt (Nat.zero_le _) htk) (by dsimp only; omega))) (Nat.ne_of_gt (Nat.succ_pos _)) (Nat.ne_of_lt (Nat.lt_succ_self _)) (by decide) (esc_bound (hb 0 (by decide)) (by decide)) ?_
      intro t' k hk
      refine stS F (fun h2 F2 hs2 => ?_)
      refine wpAny_execs_nil ?_
      exact esc_fin hc ht hk F2 (Nat.lt_of_lt_of_le htk (by dsimp only; omega))
    · refine (if_neg hc).mpr ?_
      refine wpAny_execs_nil ?_
      exact esc_same hc ht F hm (Nat.lt_of_lt_of_le htk (by dsimp only; omega))
  rintro fl s' ⟨rfl, h', tk', m', t', rfl, F', hm', ht', htk'⟩
  replace F := F'
  replace hm := hm'
  replace ht := ht'
  replace htk := htk'
  clear F' hm' ht' htk'
  refine wpAny_execs_cons (wpAny_mono (Q := EscP s L (escT 2 text)) (E := fun _ _ => False) ?_ ?_ fun _ _ e => e.elim)
  · refine wpAny_If ?_
    refine wpAny_isTrue_Compare1 ?_
    refine Constant_str ?_
    refine nameX_L F hm ?_
    refine PySem.P.in_str ?_
    refine wpAny_truthy_bool ?_
    by_cases hc : Txt.contains (escT 1 text) (litE "<") = true
    · refine (if_pos hc).mpr ?_
      refine wpAny_execs_cons ?_
      refine wpAny_Assign_Name ?_
      refine methodCall_KW ?_
      refine nameX_L F hm ?_
      refine GM.replace ?_
      refine PyProof.Rows.callWith_method1 ?_
      refine args_cons ?_
      refine Constant_str ?_
      refine args_cons ?_
      refine Constant_str ?_
      refine args_nil ?_
      refine repl_tok (Nat.ne_of_gt (Nat.lt_of_lt_of_le (Nat.lt_of_le_of_lt (Nat.zero_le _) htk) (by dsimp only; omega))) (Nat.ne_of_gt (Nat.succ_pos _)) (Nat.ne_of_lt (Nat.lt_succ_self _)) (by decide) (esc_bound (hb 1 (by decide)) (by decide)) ?_
      intro t' k hk
      refine stS F (fun h2 F2 hs2 => ?_)
      refine wpAny_execs_nil ?_
      exact esc_fin hc ht hk F2 (Nat.lt_of_lt_of_le htk (by dsimp only; omega))
    · refine (if_neg hc).mpr ?_
      refine wpAny_execs_nil ?_
      exact esc_same hc ht F hm (Nat.lt_of_lt_of_le htk (by dsimp only; omega))
  rintro fl s' ⟨rfl, h', tk', m', t', rfl, F', hm', ht', htk'⟩
  replace F := F'
  replace hm := hm'
  replace ht := ht'
  replace htk := htk'
  clear F' hm' ht' htk'
  refine wpAny_execs_cons (wpAny_mono (Q := EscP s L (escT 3 text)) (E := fun _ _ => False) ?_ ?_ fun _ _ e => e.elim)
  · refine wpAny_If ?_
    refine wpAny_isTrue_Compare1 ?_
    refine Constant_str ?_
    refine nameX_L F hm ?_
    refine PySem.P.in_str ?_
    refine wpAny_truthy_bool ?_
    by_cases hc : Txt.contains (escT 2 text) (litE ">") = true
    · refine (if_pos hc).mpr ?_
      refine wpAny_execs_cons ?_
      refine wpAny_Assign_Name ?_
      refine methodCall_KW ?_
      refine nameX_L F hm ?_
      refine GM.replace ?_
      refine PyProof.Rows.callWith_method1 ?_
      refine args_cons ?_
      refine Constant_str ?_
      refine args_cons ?_
      refine Constant_str ?_
      refine args_nil ?_
      refine repl_tok (Nat.ne_of_gt (Nat.lt_of_lt_of_le (Nat.lt_of_le_of_lt (Nat.zero_le _) htk) (by dsimp only; omega))) (Nat.ne_of_gt (Nat.succ_pos _)) (Nat.ne_of_lt (Nat.lt_succ_self _)) (by decide) (esc_bound (hb 2 (by decide)) (by decide)) ?_
      intro t' k hk
      refine stS F (fun h2 F2 hs2 => ?_)
      refine wpAny_execs_nil ?_
      exact esc_fin hc ht hk F2 (Nat.lt_of_lt_of_le htk (by dsimp only; omega))
    · refine (if_neg hc).mpr ?_
      refine wpAny_execs_nil ?_
      exact esc_same hc ht F hm (Nat.lt_of_lt_of_le htk (by dsimp only; omega))
  rintro fl s' ⟨rfl, h', tk', m', t', rfl, F', hm', ht', htk'⟩
  replace F := F'
  replace hm := hm'
  replace ht := ht'
  replace htk := htk'
  clear F' hm' ht' htk'
  refine wpAny_execs_cons (wpAny_mono (Q := EscP s L (escT 4 text)) (E := fun _ _ => False) ?_ ?_ fun _ _ e => e.elim)
  · refine wpAny_If ?_
    refine wpAny_isTrue_Compare1 ?_
    refine Constant_str ?_
    refine nameX_L F hm ?_
    refine PySem.P.in_str ?_
    refine wpAny_truthy_bool ?_
    by_cases hc : Txt.contains (escT 3 text) (litE "\"") = true
    · refine (if_pos hc).mpr ?_
      refine wpAny_execs_cons ?_
      refine wpAny_Assign_Name ?_
      refine methodCall_KW ?_
      refine nameX_L F hm ?_
      refine GM.replace ?_
      refine PyProof.Rows.callWith_method1 ?_
      refine args_cons ?_
      refine Constant_str ?_
      refine args_cons ?_
      refine Constant_str ?_
      refine args_nil ?_
      refine repl_tok (Nat.ne_of_gt (Nat.lt_of_lt_of_le (Nat.lt_of_le_of_lt (Nat.zero_le _) htk) (by dsimp only; omega))) (Nat.ne_of_gt (Nat.succ_pos _)) (Nat.ne_of_lt (Nat.lt_succ_self _)) (by decide) (esc_bound (hb 3 (by decide)) (by decide)) ?_
      intro t' k hk
      refine stS F (fun h2 F2 hs2 => ?_)
      refine wpAny_execs_nil ?_
      exact esc_fin hc ht hk F2 (Nat.lt_of_lt_of_le htk (by dsimp only; omega))
    · refine (if_neg hc).mpr ?_
      refine wpAny_execs_nil ?_
      exact esc_same hc ht F hm (Nat.lt_of_lt_of_le htk (by dsimp only; omega))
  rintro fl s' ⟨rfl, h', tk', m', t', rfl, F', hm', ht', htk'⟩
  replace F := F'
  replace hm := hm'
  replace ht := ht'
  replace htk := htk'
  clear F' hm' ht' htk'
  refine wpAny_execs_cons (wpAny_mono (Q := EscP s L (escT 5 text)) (E := fun _ _ => False) ?_ ?_ fun _ _ e => e.elim)
  · refine wpAny_If ?_
    refine wpAny_isTrue_Compare1 ?_
    refine Constant_str ?_
    refine nameX_L F hm ?_
    refine PySem.P.in_str ?_
    refine wpAny_truthy_bool ?_
    by_cases hc : Txt.contains (escT 4 text) (litE "\r") = true
    · refine (if_pos hc).mpr ?_
      refine wpAny_execs_cons ?_
      refine wpAny_Assign_Name ?_
      refine methodCall_KW ?_
      refine nameX_L F hm ?_
      refine GM.replace ?_
      refine PyProof.Rows.callWith_method1 ?_
      refine args_cons ?_
      refine Constant_str ?_
      refine args_cons ?_
      refine Constant_str ?_
      refine args_nil ?_
      refine repl_tok (Nat.ne_of_gt (Nat.lt_of_lt_of_le (Nat.lt_of_le_of_lt (Nat.zero_le _) htk) (by dsimp only; omega))) (Nat.ne_of_gt (Nat.succ_pos _)) (Nat.ne_of_lt (Nat.lt_succ_self _)) (by decide) (esc_bound (hb 4 (by decide)) (by decide)) ?_
      intro t' k hk
      refine stS F (fun h2 F2 hs2 => ?_)
      refine wpAny_execs_nil ?_
      exact esc_fin hc ht hk F2 (Nat.lt_of_lt_of_le htk (by dsimp only; omega))
    · refine (if_neg hc).mpr ?_
      refine wpAny_execs_nil ?_
      exact esc_same hc ht F hm (Nat.lt_of_lt_of_le htk (by dsimp only; omega))
  rintro fl s' ⟨rfl, h', tk', m', t', rfl, F', hm', ht', htk'⟩
  replace F := F'
  replace hm := hm'
  replace ht := ht'
  replace htk := htk'
  clear F' hm' ht' htk'
  refine wpAny_execs_cons (wpAny_mono (Q := EscP s L (escT 6 text)) (E := fun _ _ => False) ?_ ?_ fun _ _ e => e.elim)
  · refine wpAny_If ?_
    refine wpAny_isTrue_Compare1 ?_
    refine Constant_str ?_
    refine nameX_L F hm ?_
    refine PySem.P.in_str ?_
    refine wpAny_truthy_bool ?_
    by_cases hc : Txt.contains (escT 5 text) (litE "\n") = true
    · refine (if_pos hc).mpr ?_
      refine wpAny_execs_cons ?_
      refine wpAny_Assign_Name ?_
      refine methodCall_KW ?_
      refine nameX_L F hm ?_
      refine GM.replace ?_
      refine PyProof.Rows.callWith_method1 ?_
      refine args_cons ?_
      refine Constant_str ?_
      refine args_cons ?_
      refine Constant_str ?_
      refine args_nil ?_
      refine repl_tok (Nat.ne_of_gt (Nat.lt_of_lt_of_le (Nat.lt_of_le_of_lt (Nat.zero_le _) htk) (by dsimp only; omega))) (Nat.ne_of_gt (Nat.succ_pos _)) (Nat.ne_of_lt (Nat.lt_succ_self _)) (by decide) (esc_bound (hb 5 (by decide)) (by decide)) ?_
      intro t' k hk
      refine stS F (fun h2 F2 hs2 => ?_)
      refine wpAny_execs_nil ?_
      exact esc_fin hc ht hk F2 (Nat.lt_of_lt_of_le htk (by dsimp only; omega))
    · refine (if_neg hc).mpr ?_
      refine wpAny_execs_nil ?_
      exact esc_same hc ht F hm (Nat.lt_of_lt_of_le htk (by dsimp only; omega))
  rintro fl s' ⟨rfl, h', tk', m', t', rfl, F', hm', ht', htk'⟩
  replace F := F'
  replace hm := hm'
  replace ht := ht'
  replace htk := htk'
  clear F' hm' ht' htk'
  refine wpAny_execs_cons (wpAny_mono (Q := EscP s L (escT 7 text)) (E := fun _ _ => False) ?_ ?_ fun _ _ e => e.elim)
  · refine wpAny_If ?_
    refine wpAny_isTrue_Compare1 ?_
    refine Constant_str ?_
    refine nameX_L F hm ?_
    refine PySem.P.in_str ?_
    refine wpAny_truthy_bool ?_
    by_cases hc : Txt.contains (escT 6 text) (litE "\t") = true
    · refine (if_pos hc).mpr ?_
      refine wpAny_execs_cons ?_
      refine wpAny_Assign_Name ?_
      refine methodCall_KW ?_
      refine nameX_L F hm ?_
      refine GM.replace ?_
      refine PyProof.Rows.callWith_method1 ?_
      refine args_cons ?_
      refine Constant_str ?_
      refine args_cons ?_
      refine Constant_str ?_
      refine args_nil ?_
      refine repl_tok (Nat.ne_of_gt (Nat.lt_of_lt_of_le (Nat.lt_of_le_of_lt (Nat.zero_le _) htk) (by dsimp only; omega))) (Nat.ne_of_gt (Nat.succ_pos _)) (Nat.ne_of_lt (Nat.lt_succ_self _)) (by decide) (esc_bound (hb 6 (by decide)) (by decide)) ?_
      intro t' k hk
      refine stS F (fun h2 F2 hs2 => ?_)
      refine wpAny_execs_nil ?_
      exact esc_fin hc ht hk F2 (Nat.lt_of_lt_of_le htk (by dsimp only; omega))
    · refine (if_neg hc).mpr ?_
      refine wpAny_execs_nil ?_
      exact esc_same hc ht F hm (Nat.lt_of_lt_of_le htk (by dsimp only; omega))
  rintro fl s' ⟨rfl, h', tk', m', t', rfl, F', hm', ht', htk'⟩
  replace F := F'
  replace hm := hm'
  replace ht := ht'
  replace htk := htk'
  clear F' hm' ht' htk'
  refine wpAny_execs_cons ?_
  refine wpAny_Return_some ?_
  refine nameX_L F hm ?_
  exact h _ _ _ F.keep ht htk
end
end Mine
end

section
open PySem PySem.W PyProof.Rows PySem.Calls PySem.Spec PyProof.V
open Sem (wp)
set_option Elab.async false
set_option maxRecDepth 100000
set_option maxHeartbeats 800000
namespace Mine
abbrev lit (x : String) : Str := Str.ofString x
def namesL : List (Str × Str) := [(lit "&", lit "amp"), (lit "<", lit "lt"), (lit ">", lit "gt"), (lit "\r", lit "#13"), (lit "\n", lit "#10"), (lit "\t", lit "#09")]
def NT : List (PyData × PyData) := namesL.map fun p => (.str p.1, .str p.2)
def lookS (z : Str) : List (Str × Str) → Option Str
  | [] => none
  | p :: r => if p.1 = z then some p.2 else lookS z r
def tellS (z : Str) : Str := match lookS z namesL with | some y => lit "&" ++ y ++ lit ";" | none => z
theorem look_str (z : Str) : ∀ l : List (Str × Str), Spec.lookup (.str z) (l.map fun p => (.str p.1, .str p.2)) = (lookS z l).map PyData.str
  | [] => rfl
  | p :: r => by
    simp only [List.map_cons, Spec.lookup, lookS]
    rw [same_str, look_str z r]
    by_cases h : p.1 = z <;> simp [h]
theorem look_len (z y : Str) (h : lookS z namesL = some y) : y.length ≤ 3 := by
  have key : ∀ l : List (Str × Str), (∀ p ∈ l, p.2.length ≤ 3) → lookS z l = some y → y.length ≤ 3 := by
    intro l
    induction l with
    | nil => intro _ h; cases h
    | cons p r ih =>
      intro hl h
      unfold lookS at h
      split at h
      · cases h
        exact hl p (List.mem_cons_self ..)
      · exact ih (fun q hq => hl q (List.mem_cons_of_mem _ hq)) h
  exact key namesL (by decide) h
section
variable {w : World} {A : Around} {s : Shared} {mg mb : Str → Option Value} {E : Value → Shared → Prop}

theorem add_str' {a b : Str} {ta tb : Tok} {Q : Value → Shared → Prop} (hz : a.length + b.length ≤ sizeLine) (h : ∀ t k, Q (.str (a ++ b) t) { s with toks := k }) :
    wpAny (model P₀ w) A (binaryOp .Add (.str a ta) (.str b tb)) Q E s := by
  refine PySem.P.add_str ?_
  have e0 : ∀ z : Str, z.length = 0 → z = ⟨#[]⟩ := fun z hz => by
    cases z with | mk c =>
    have : c.size = 0 := hz
    rw [Array.eq_empty_of_size_eq_zero this]
  by_cases ha : a.length = 0
  · rw [if_pos (by simpa using ha)]
    have := h tb s.toks
    have e : a ++ b = b := by rw [e0 a ha]; show Str.append ⟨#[]⟩ b = b; cases b; simp [Str.append]
    rw [e] at this
    exact this
  · rw [if_neg (by simpa using ha)]
    by_cases hb : b.length = 0
    · rw [if_pos (by simpa using hb)]
      have := h ta s.toks
      have e : a ++ b = a := by rw [e0 b hb]; show Str.append a ⟨#[]⟩ = a; cases a; simp [Str.append]
      rw [e] at this
      exact this
    · rw [if_neg (by simpa using hb)]
      exact ⟨by rw [strLen_append]; exact hz, h _ _⟩

theorem told_ret {L f d : Addr} {code : Value} {text : Str} {tt : Tok} {h2 : Heap} {tk2 : Nat} {m : Str → Option Value} {Q : Flow → Shared → Prop} (G : Gd mg mb s.heap) (hh : A.handled = none) (hl : text.length < 10)
    (hjl : (joinS ((signsOf text).map tellS)).length < 100) (F : Fr s.heap L h2 m) (hm : m "text" = some (.str text tt)) (hcell : h2.IsCell (L + 1) (some (.ref d))) (T : StrTab P₀ w h2 d NT)
    (h : ∀ h' t tk, Keep s.heap h' → Q (.ret (.str (joinS ((signsOf text).map tellS)) t)) { s with heap := h', toks := tk }) :
    wpAny (model P₀ w) A (execs ((bodyK 11).drop 1) (envX (nameK 11) (scopeK 11) L f code [("names", L + 1)])) Q (fun _ _ => False) { s with heap := h2, toks := tk2 } := by
  refine wpAny_execs_cons ?_
  refine wpAny_Return_some ?_
  refine methodCall_KW ?_
  refine Constant_str ?_
  refine GM.join ?_
  refine PyProof.Rows.callWith_method1 ?_
  refine args_cons ?_
  refine comp_eval (cl := [("names", L + 1)]) (by rfl) (by decide) (by rfl) (by decide) ?_
  refine nameX_L F hm ?_
  refine src_str hh (by show text.length ≤ sizeLine; simp [sizeLine]; omega) (by rfl) (by rfl) (J := fun i ys _ => StrsAre ys (((signsOf text).map tellS).take i)) (fun _ _ _ _ _ h => h) ?_ .nil ?_ ?_
  · intro i ys t hJ
    rw [hJ.length]
    exact List.length_take_le _ _
  · refine body_plain fun C i ys s₃ m₃ E' hi ⟨v, hv, hmv⟩ hJ hns hk => ?_
    obtain ⟨c, u, hc, rfl⟩ := hv
    have hsi : ((signsOf text).map tellS)[i]? = some (tellS (sign1 c)) := by simp [signsOf, hc]
    have T3 : StrTab P₀ w s₃.heap d NT := T.keep hk
    have hc3 : s₃.heap.IsCell (L + 1) (some (.ref d)) := IsCell.at' hcell fun o e => hk _ o e
    have hfin : ∀ (t : Tok) (k : Nat), Keeps s₃ { s₃ with toks := k } ∧ StrsAre (ys ++ [.str (tellS (sign1 c)) t]) (((signsOf text).map tellS).take (i + 1)) := fun t k => by
      refine ⟨⟨s₃.heap, k, rfl, fun _ _ e => e⟩, ?_⟩
      rw [List.take_add_one, hsi]
      exact hJ.append' (.cons _ _ .nil)
    refine IfExp_ ?_
    refine wpAny_isTrue_Compare1 ?_
    refine c_name hns hmv ?_
    refine c_free (by rfl) hc3 ?_
    refine in_strTab T3 ?_
    refine wpAny_truthy_bool ?_
    have hlk := look_str (sign1 c) namesL
    show if (Spec.lookup (.str (sign1 c)) NT).isSome = true then _ else _
    unfold NT at *
    rw [hlk]
    cases hls : lookS (sign1 c) namesL with
    | none =>
      rw [if_neg (by simp)]
      have ht : tellS (sign1 c) = sign1 c := by unfold tellS; rw [hls]
      rw [ht] at hfin
      refine c_name hns hmv ?_
      exact hfin u _
    | some y =>
      rw [if_pos (by simp)]
      have hyl := look_len _ _ hls
      have ht : tellS (sign1 c) = lit "&" ++ y ++ lit ";" := by unfold tellS; rw [hls]
      rw [ht] at hfin
      rw [hls] at hlk
      refine wpAny_BinOp ?_
      refine wpAny_BinOp ?_
      refine Constant_str ?_
      refine Subscript_ ?_
      refine c_free (by rfl) hc3 ?_
      refine c_name hns hmv ?_
      refine item_strTab (dv := .str y) T3 hlk ?_
      intro v hv
      obtain ⟨ty, rfl⟩ := hv.str_inv
      have h1 : (lit "&").length = 1 := rfl
      have h2 : (lit ";").length = 1 := rfl
      refine add_str' (by rw [h1]; simp [sizeLine]; omega) fun t k => ?_
      refine Constant_str ?_
      refine add_str' (by rw [Str.length_append, h1, h2]; simp [sizeLine]; omega) fun t' k' => ?_
      exact hfin t' k'
  intro ys tk hys D h3 hD0 hD3 hk3
  replace hys : StrsAre ys ((signsOf text).map tellS) := by
    have : StrsAre ys (((signsOf text).map tellS).take text.cps.size) := hys
    rwa [List.take_of_length_le (by rw [List.length_map, signs_length]; exact Nat.le_refl _)] at this
  refine args_nil ?_
  refine join_list (ys := (signsOf text).map tellS) (isList_of hD3) (by simpa using hys) ?_ ?_
  · rw [sum_joinS, show (Str.ofString "").length = 0 from rfl]
    omega
  intro t' k
  rw [join_joinS (Str.ofString "") rfl]
  exact h h3 t' k fun b o e => hk3 b o (F.keep b o e)

theorem told_ok {f : Addr} {text : Str} {tt : Tok} {Q : Value → Shared → Prop} (G : Gd mg mb s.heap) (hf : mg "_law_told" = some (.ref f)) (hd : A.depth < 900) (hh : A.handled = none) (hl : text.length < 10)
    (hjl : (joinS ((signsOf text).map tellS)).length < 100)
    (h : ∀ h' t tk, Keep s.heap h' → Q (.str (joinS ((signsOf text).map tellS)) t) { s with heap := h', toks := tk }) :
    wpAny (model P₀ w) A (call (.ref f) [.str text tt]) Q E s := by
  refine call_inC (k := 11) (x := "names") (binds := [("text", .str text tt)]) G (by decide) hf (Nat.lt_trans hd (by decide)) (fun _ _ _ => rfl) (by rfl) (fun n => rfl) (fun L code h₁ tk1 o F N ho hL htk => ?_)
  have hbig : sysModules < s.heap.objs.size := modules_low G.lim
  have hlo : (h₁.objs.size == sysModules) = false := F.notModules hbig
  have hcell : h₁.IsCell (L + 1) none := ⟨o, (N _ (List.mem_singleton.mpr rfl)).1, by rw [ho]; rfl⟩
  have hc0 : s.heap.get? (L + 1) = none := by rw [hL]; exact Heap.get?_none_of_le (Nat.le_succ _)
  have hLc : L + 1 ≠ L := Nat.succ_ne_self _
  refine wpAny_execs_cons ?_
  refine wpAny_Assign_Name ?_
  refine wpAny_Dict_walk (knd := strKind P₀ w) (by rfl) (by rfl) (List.cons_ne_nil _ _) (by decide) ?_
  refine pairTrees_cons_walk ?_
  refine Constant_str ?_
  refine Constant_str ?_
  refine tk0C (s := s) (h := h₁.push { cls := .type "dict", data := .dict #[] }) (P := fun z => wpAny _ _ _ _ _ z) fun _ => ?_
  refine pairTrees_cons_walk ?_
  refine Constant_str ?_
  refine Constant_str ?_
  refine tk0C (s := s) (h := h₁.push { cls := .type "dict", data := .dict #[] }) (P := fun z => wpAny _ _ _ _ _ z) fun _ => ?_
  refine pairTrees_cons_walk ?_
  refine Constant_str ?_
  refine Constant_str ?_
  refine tk0C (s := s) (h := h₁.push { cls := .type "dict", data := .dict #[] }) (P := fun z => wpAny _ _ _ _ _ z) fun _ => ?_
  refine pairTrees_cons_walk ?_
  refine Constant_str ?_
  refine Constant_str ?_
  refine tk0C (s := s) (h := h₁.push { cls := .type "dict", data := .dict #[] }) (P := fun z => wpAny _ _ _ _ _ z) fun _ => ?_
  refine pairTrees_cons_walk ?_
  refine Constant_str ?_
  refine Constant_str ?_
  refine tk0C (s := s) (h := h₁.push { cls := .type "dict", data := .dict #[] }) (P := fun z => wpAny _ _ _ _ _ z) fun _ => ?_
  refine pairTrees_cons_walk ?_
  refine Constant_str ?_
  refine Constant_str ?_
  refine tk0C (s := s) (h := h₁.push { cls := .type "dict", data := .dict #[] }) (P := fun z => wpAny _ _ _ _ _ z) fun _ => ?_
  refine pairTrees_nil_walk ?_
  refine ⟨[(lit "&", _), (lit "<", _), (lit ">", _), (lit "\r", _), (lit "\n", _), (lit "\t", _)], ⟨strKind_is P₀ w _ _, rfl, strKind_is P₀ w _ _, rfl, strKind_is P₀ w _ _, rfl, strKind_is P₀ w _ _, rfl, strKind_is P₀ w _ _, rfl, strKind_is P₀ w _ _, rfl, trivial⟩, Heap.DictOf.new _, ?_⟩
  intro h2 hD2 hs2
  have hd2 : Fr s.heap L h2 _ := F.filled hs2
  have hT : StrTab P₀ w h2 h₁.objs.size NT := ⟨hlo, _, hD2, .cons (Flat.str _ _) (.cons (Flat.str _ _) (.cons (Flat.str _ _) (.cons (Flat.str _ _) (.cons (Flat.str _ _) (.cons (Flat.str _ _) .nil)))))⟩
  have hkeep : ∀ b o, h₁.get? b = some o → h2.get? b = some o := fun b o e => hs2.extBut b o (Nat.ne_of_lt (Heap.lt_size e)) (Heap.get?_push_of_some _ e)
  have hcd : L + 1 ≠ h₁.objs.size := by
    obtain ⟨oc, hoc, _⟩ := id hcell
    exact Nat.ne_of_lt (Heap.lt_size hoc)
  generalize h₁.objs.size = d at *
  refine wpAny_storeName_cell (c := L + 1) (by rfl) (by rfl) (by rfl) (IsCell.at' hcell fun o e => hkeep _ o e) ?_
  intro h3 hc3 hs3
  have F3 : Fr s.heap L h3 _ := ⟨hd2.ns.sameBut hs3 (Ne.symm hLc), fun b o e => hs3.extBut b o (fun q => by rw [q, hc0] at e; cases e) (hd2.keep b o e), hd2.above⟩
  have T3 : StrTab P₀ w h3 d NT := by
    obtain ⟨lo, kvs, hd, hf⟩ := hT
    exact ⟨lo, kvs, hd.sameBut hs3 (Ne.symm hcd), hf⟩
  refine tk0C (s := s) (h := h3) (P := fun y => wpAny _ _ _ _ _ y) fun _ => ?_
  refine told_ret G hh hl hjl F3 (by rfl) hc3 T3 ?_
  intro h' t tk hk
  exact h h' t tk hk
end
end Mine
end

section
open PySem PySem.W PyProof.Rows PySem.Calls
open Sem (wp)
set_option Elab.async false
set_option maxRecDepth 100000
set_option maxHeartbeats 800000
namespace Mine
section
variable {w : World} {A : Around} {s : Shared} {mg mb : Str → Option Value} {E : Value → Shared → Prop} {env : Env}

theorem sliceL {value slice : PySem.Expr} {l : Addr} {items : Array Value} {vl vu vk : Value} {lo hi st : Option Int} {ops : List Value} {Q : Value → Shared → Prop}
    (hl : s.heap.IsList l items) (pl : IsPart vl lo) (pu : IsPart vu hi) (pk : IsPart vk st) (h0 : st ≠ some 0) (hsz : items.size ≤ 1000)
    (h : ∀ D h', Keep s.heap h' → s.heap.get? D = none → h'.IsList D (slicePick items lo hi st) → Q (.ref D) { s with heap := h' })
    (hs : subscripted slice false (.ref l) (.ref s.heap.objs.size) = operate ops (getItem (.ref l) (.ref s.heap.objs.size)) := by with_unfolding_all rfl)
    (ht : ∀ r, letTemporaryGo value (.ref l) r = pure () := by intro _; with_unfolding_all rfl) :
    wpAny (model P₀ w) A (subscriptTail value slice (.ref l) (.ref s.heap.objs.size)) Q E { s with heap := s.heap.push { cls := .type "slice", data := .fields #[vl, vu, vk] } } := by
  refine subscriptTail_ops (Heap.IsList.typeIs (s := { s with heap := s.heap.push { cls := .type "slice", data := .fields #[vl, vu, vk] } }) (hl.push _)) list_getitem_lookup
    (wpAny_getItem_list_slice (hl.push _) (Heap.IsSliceOf.new ..) pl pu pk h0 ?_ (by simp [sizeLine]; omega)) hs ht
  refine h _ _ (fun b o e => Heap.get?_push_of_some _ (Heap.get?_push_of_some _ e)) ?_ ⟨_, Heap.get?_push_size _ rfl, rfl, _, rfl⟩
  dsimp only
  rw [Heap.size_push]
  exact Heap.get?_none_of_le (Nat.le_succ _)

theorem sum_l {l : Addr} {vs : List Value} {ns : List Int} {Q : Value → Shared → Prop} (hh : A.handled = none) (hl : s.heap.IsList l vs.toArray) (hi : IntsAre vs ns)
    (h : ∀ (i : Int) t' h' tk, Keep s.heap h' → Q (.int i t') { s with heap := h', toks := tk }) : wpAny (model P₀ w) A (call (.builtin "sum") [.ref l]) Q E s := by
  have hlt : l < s.heap.objs.size := by obtain ⟨o, e, _⟩ := hl; exact Heap.lt_size e
  refine call_sum_walkG ?_
  refine wpAny_pyIter_list hl ?_
  refine ⟨_, _, _, _, _, _, fun i => ns.getD i 0, rfl, Walks.list (A := A.in1) hh s.heap.objs.size l (Nat.ne_of_lt hlt) vs.toArray, ⟨⟨_, Heap.get?_push_size _ rfl, rfl, rfl⟩, hl.push _⟩, ?_, ?_, ?_⟩
  · intro b hb
    dsimp only
    rw [Heap.size_push]
    rcases List.mem_cons.mp hb with rfl | hb
    · exact Nat.lt_succ_self _
    · rw [List.mem_singleton.mp hb]; exact Nat.lt_succ_of_lt hlt
  · intro i v hv
    have hi' : i < ns.length := by
      rw [← hi.length]
      have : vs[i]? = some v := by simpa using hv
      exact (List.getElem?_eq_some_iff.mp this).1
    obtain ⟨t, ht⟩ := ints_get hi i hi'
    exact ⟨t, Option.some.inj ((show some v = vs[i]? by rw [← hv]; simp).trans ht)⟩
  · intro h' tk t' hk
    refine h _ t' h' tk fun b o e => hk b o ?_ (Heap.get?_push_of_some _ e)
    intro hm
    rw [List.mem_singleton.mp hm] at e
    exact absurd (Heap.lt_size e) (Nat.lt_irrefl _)
end
end Mine
end

section
open PySem PySem.W PyProof.Rows PySem.Calls
open Sem (wp)
set_option Elab.async false
set_option maxRecDepth 100000
set_option maxHeartbeats 800000
namespace Mine
def s6 : Str := lit "&<>\r\n\t"
def s8 : Str := lit "&<>\r\n\t;t"
def txt (i j : Nat) : Str := Txt.item s6 (i : Int) ++ Txt.item s8 (j : Int)
def okText (t : Str) : Bool :=
  (List.range 7).all (fun k => decide ((escT k t).length ≤ 60)) && decide (escT 7 t = joinS ((signsOf t).map tellS)) && decide (0 < (escT 7 t).length) && decide ((escT 7 t).length < 11) && decide (t.length < 10)
theorem ok0 : ∀ j, j < 8 → okText (txt 0 j) = true := by decide +kernel
theorem ok1 : ∀ j, j < 8 → okText (txt 1 j) = true := by decide +kernel
theorem ok2 : ∀ j, j < 8 → okText (txt 2 j) = true := by decide +kernel
theorem ok3 : ∀ j, j < 8 → okText (txt 3 j) = true := by decide +kernel
theorem ok4 : ∀ j, j < 8 → okText (txt 4 j) = true := by decide +kernel
theorem ok5 : ∀ j, j < 8 → okText (txt 5 j) = true := by decide +kernel
theorem all_ok : ∀ i, i < 6 → ∀ j, j < 8 → okText (txt i j) = true
  | 0, _ => ok0
  | 1, _ => ok1
  | 2, _ => ok2
  | 3, _ => ok3
  | 4, _ => ok4
  | 5, _ => ok5
  | n + 6, h => absurd h (Nat.not_lt.mpr (Nat.le_add_left 6 n))
theorem okText_spec {t : Str} (h : okText t = true) : (∀ k, k < 7 → (escT k t).length ≤ 60) ∧ escT 7 t = joinS ((signsOf t).map tellS) ∧ 0 < (escT 7 t).length ∧ (escT 7 t).length < 11 ∧ t.length < 10 := by
  unfold okText at h
  simp only [Bool.and_eq_true, List.all_eq_true, List.mem_range, decide_eq_true_eq] at h
  exact ⟨h.1.1.1.1, h.1.1.1.2, h.1.1.2, h.1.2, h.2⟩
section
variable {w : World} {A : Around} {s : Shared} {mg mb : Str → Option Value}

theorem add_fresh {E : Value → Shared → Prop} {a b : Str} {ta tb : Tok} {Q : Value → Shared → Prop} (ha : a.length = 1) (hb : b.length = 1) (h : Q (.str (a ++ b) s.toks) { s with toks := s.toks + 1 }) :
    wpAny (model P₀ w) A (binaryOp .Add (.str a ta) (.str b tb)) Q E s := by
  refine PySem.P.add_str ?_
  rw [if_neg (by rw [ha]; decide), if_neg (by rw [hb]; decide)]
  exact ⟨by rw [strLen_append, ha, hb]; simp [sizeLine], h⟩

theorem law_ok {f sl : Addr} {vs : List Value} {ns : List Int} {Q : Value → Shared → Prop} (G : Gd mg mb s.heap) (hf : mg "law" = some (.ref f)) (hd : A.depth < 500) (hh : A.handled = none) (hu : A.units < 50)
    (hl : s.heap.IsList sl vs.toArray) (hi : IntsAre vs ns) (hz : vs.length ≤ 100)
    (h : ∀ h' tk, Keep s.heap h' → Q (.bool true) { s with heap := h', toks := tk }) :
    wpC (model P₀ w) A (call (.ref f) [.ref sl]) Q (fun _ _ => False) s := by
  refine callC_inC (k := 15) (x := "script") (binds := [("script", .ref sl)]) G (by decide) hf (Nat.lt_trans hd (by decide)) (fun _ _ _ => rfl) (by rfl) (fun n => rfl) (fun L code h₁ tk1 o F N ho hL htk => ?_)
  obtain ⟨fes, hfes⟩ := G.addr (k := 9) (by decide)
  obtain ⟨fto, hfto⟩ := G.addr (k := 11) (by decide)
  obtain ⟨fch, hfch⟩ := G.addr (k := 14) (by decide)
  have hcell1 : h₁.IsCell (L + 1) (some (.ref sl)) := ⟨o, (N _ (List.mem_singleton.mpr rfl)).1, by rw [ho]; rfl⟩
  have G1 := G.keeps F.keep
  refine tk0C (s := s) (h := h₁) (P := fun y => wpC _ _ _ _ _ y) fun _ => ?_
  refine wpC_execs_cons ?_
  refine wpC.any ?_
  refine comp_assign (cl := [("script", L + 1)]) (h₀ := s.heap) (by rfl) (by rfl) (by decide) (by rfl) (by decide) (by rfl) (by rfl) ?_
  refine call_ty (T := "range") G1 (by rfl) ?_
  refine args_cons ?_
  refine wpAny_Constant_int ?_
  refine args_nil ?_
  refine call_range_1 ?_
  refine ⟨_, [(L + 1, o)], F.push _, News_up N (fun b o e => Heap.get?_push_of_some _ e), ?_⟩
  refine src_range (n := 6) hh (IsRange.new _ _ _ _ _ _ _) (by decide) (by decide) (by simp [sizeLine]) (by rfl) (by rfl) (J := fun i ys _ => ∃ ds, IntsAre ys ds ∧ ds.length = i) (fun _ _ _ _ _ h => h) ?_ ⟨[], .nil, rfl⟩ ?_ ?_
  · rintro i ys t ⟨ds, h1, h2⟩
    rw [h1.length, h2]
    exact Nat.le_refl _
  · refine body_plain fun C i ys s₃ m₃ E' hi' ⟨v, ⟨t, hv⟩, hm⟩ hJ hns hk => ?_
    obtain ⟨ds, hds, hdl⟩ := hJ
    rw [show (0 : Int) + i * 1 = i by omega] at hv
    subst hv
    have hk1 : Keep h₁ s₃.heap := fun b o e => hk b o (Heap.get?_push_of_some _ e)
    have G3 := G1.keeps hk1
    have hc3 : s₃.heap.IsCell (L + 1) (some (.ref sl)) := IsCell.at' hcell1 fun o e => hk1 _ o e
    refine wpAny_BinOp ?_
    refine Subscript_ ?_
    refine List_ ?_
    refine args_cons ?_
    refine wpAny_Constant_int ?_
    refine args_cons ?_
    refine wpAny_Constant_int ?_
    refine args_cons ?_
    refine wpAny_Constant_int ?_
    refine args_cons ?_
    refine wpAny_Constant_int ?_
    refine args_cons ?_
    refine wpAny_Constant_int ?_
    refine args_cons ?_
    refine wpAny_Constant_int ?_
    refine args_nil ?_
    refine wpAny_newObj_type ?_ (by size_fits)
    generalize hlo : ({ cls := .type "list", data := .seq (List.toArray _) } : Obj) = lo
    have hlD : (s₃.heap.push lo).get? s₃.heap.objs.size = some lo := Heap.get?_push_size _ (by rw [← hlo]; rfl)
    have hk4 : Keep s₃.heap (s₃.heap.push lo) := fun b o e => Heap.get?_push_of_some _ e
    refine tk0C (s := s₃) (h := s₃.heap.push lo) (P := fun y => wpAny _ _ _ _ _ y) fun _ => ?_
    generalize s₃.heap.push lo = h4 at hlD hk4 ⊢
    generalize s₃.heap.objs.size = D4 at hlD ⊢
    refine c_name (hns.keeps hk4) hm ?_
    rw [← hlo] at hlD
    obtain ⟨tq, htq⟩ := ints_get (.cons 1 _ (.cons 0 _ (.cons 5 _ (.cons 2 _ (.cons 7 _ (.cons 4 _ .nil)))))) i hi'
    have hl4 : h4.IsList D4 (List.toArray _) := ⟨_, hlD, rfl, _, rfl⟩
    refine subscriptTail_builtinR (Heap.IsList.typeIs (s := { s₃ with heap := h4, toks := _ }) hl4) slot_list_getitem.lookup (wpAny_getItem_list hl4 (by omega) (by omega) (by rw [Int.toNat_natCast]; simpa using htq) ⟨rfl, ?_⟩) ?_
    rotate_left
    · rfl
    have G4 := G3.keeps hk4
    refine wpAny_BinOp ?_
    refine call_bi (id := "sum") G4 (by rfl) ?_
    refine args_cons ?_
    refine Subscript_ ?_
    refine c_free (by rfl) (IsCell.at' hc3 fun o e => hk4 _ o e) ?_
    refine wpAny_Slice ?_
    refine evalPart_some_step ?_
    refine c_name (hns.keeps hk4) hm ?_
    refine evalPart_some_step ?_
    refine wpAny_Constant_int ?_
    refine evalPart_some_step ?_
    refine wpAny_Constant_int ?_
    refine sliceL (hl.at fun o e => hk4 _ _ (hk1 _ _ (F.keep _ o e))) (.int _ _) (.int _ _) (.int _ _) (by decide) (by simp; omega) ?_
    intro D5 h5 hk5 _ hD5
    refine args_nil ?_
    refine tk0C (s := s₃) (h := h5) (P := fun y => wpAny _ _ _ _ _ y) fun _ => ?_
    refine sum_l hh (by simpa using hD5) (hi.pick _ _ _) ?_
    intro sm tsm h6 tk6 hk6
    refine wpAny_BinOp ?_
    refine wpAny_Constant_int ?_
    refine wpAny_Constant_int ?_
    refine pow_int_small (by decide) (by decide) (by decide) ?_
    refine mod_int' (by decide) ?_
    refine PyProof.Rows.add_int ?_
    refine ⟨⟨h6, _, rfl, fun b o e => hk6 b o (hk5 b o (hk4 b o e))⟩, ds ++ [_], hds.append (.cons _ _ .nil), by simp [hdl]⟩
  rintro ys tk2 ⟨ds, hds, hdl⟩ D h2 F2 N2 hD0
  have hDl : h2.IsList D ys.toArray := isList_of (N2 _ (List.mem_cons_self ..)).1
  have hDL : D ≠ L := (N2 _ (List.mem_cons_self ..)).2.1
  have G2 := G.keeps F2.keep
  obtain ⟨t0, ht0⟩ := ints_get hds 0 (by omega)
  obtain ⟨t1, ht1⟩ := ints_get hds 1 (by omega)
  refine tk0C (s := s) (h := h2) (P := fun y => wpC _ _ _ _ _ y) fun _ => ?_
  -- text
  refine wpC_execs_cons ?_
  refine wpC.any ?_
  refine wpAny_Assign_Name ?_
  refine wpAny_BinOp ?_
  refine Subscript_ ?_
  refine Constant_str ?_
  refine wpAny_BinOp ?_
  refine Subscript_ ?_
  refine nameX_L F2 (by rfl) ?_
  refine wpAny_Constant_int ?_
  refine item_listL hDl (by decide) (by decide) (by exact ht0) ?_
  refine wpAny_Constant_int ?_
  refine mod_int' (by decide) ?_
  refine item_str_fmod (by decide) (by decide) (by decide) (fun hl1 => ?_) ?_
  · refine tk0C (s := s) (h := h2) (P := fun y => wpAny _ _ _ _ _ y) fun _ => ?_
    refine Subscript_ ?_
    refine Constant_str ?_
    refine wpAny_BinOp ?_
    refine Subscript_ ?_
    refine nameX_L F2 (by rfl) ?_
    refine wpAny_Constant_int ?_
    refine item_listL hDl (by decide) (by decide) (by exact ht1) ?_
    refine wpAny_Constant_int ?_
    refine mod_int' (by decide) ?_
    refine item_str_fmod (by decide) (by decide) (by decide) (fun hl2 => ?_) ?_
    · have hg0 := Int.fmod_nonneg_of_pos (ds.getD 0 0) (show (0 : Int) < 6 by decide)
      have hg1 := Int.fmod_lt_of_pos (ds.getD 0 0) (show (0 : Int) < 6 by decide)
      have hg2 := Int.fmod_nonneg_of_pos (ds.getD 1 0) (show (0 : Int) < 8 by decide)
      have hg3 := Int.fmod_lt_of_pos (ds.getD 1 0) (show (0 : Int) < 8 by decide)
      generalize (ds.getD 0 0).fmod 6 = ia at hl1 hg0 hg1 ⊢
      generalize (ds.getD 1 0).fmod 8 = ib at hl2 hg2 hg3 ⊢
      obtain ⟨i, rfl⟩ := Int.eq_ofNat_of_zero_le hg0
      obtain ⟨j, rfl⟩ := Int.eq_ofNat_of_zero_le hg2
      obtain ⟨k1, k2, k3, k4, k5⟩ := okText_spec (all_ok i (by omega) j (by omega))
      refine tkC (s := s) (h := h2) (P := fun y => wpAny _ _ _ _ _ y) 1 (fun tk3 htk3 => ?_) (by dsimp only; omega)
      have hxl : (Txt.item s6 (i : Int)).length = 1 := Nat.le_antisymm hl1.2 hl1.1
      have hyl : (Txt.item s8 (j : Int)).length = 1 := Nat.le_antisymm hl2.2 hl2.1
      refine add_fresh hxl hyl ?_
      change wpAny _ _ (storeName _ _ (.str (txt i j) tk3)) _ _ { s with heap := h2, toks := tk3 + 1 }
      generalize txt i j = text at k1 k2 k3 k4 k5 ⊢
      refine stS F2 (fun h7 F7 hs7 => ?_)
      have hD7 : h7.IsList D ys.toArray := hDl.at fun o e => hs7.extBut _ _ hDL e
      have G7 := G.keeps F7.keep
      refine tkC (s := s) (h := h7) (P := fun y => wpC _ _ _ _ _ y) (tk3 + 1) (fun tk4 htk4 => ?_) (by dsimp only; omega)
      -- page
      refine wpC_execs_cons ?_
      refine wpC.any ?_
      refine wpAny_Assign_Name ?_
      refine call_def (k := 9) G7 (by decide) rfl hfes ?_
      refine args_cons ?_
      refine nameX_L F7 (by rfl) ?_
      refine args_nil ?_
      refine ⟨fun _ _ e => e, ?_⟩
      refine escape_ok G7 hfes (show A.depth + 1 < 900 by omega) k1 (Nat.ne_of_gt htk3) (Nat.lt_of_lt_of_le (Nat.lt_succ_self _) htk4) ?_
      intro h8 tp tk8 hk8 htp0 htp
      refine stS (Fr_up F7 hk8) (fun h9 F9 hs9 => ?_)
      have hD9 : h9.IsList D ys.toArray := hD7.at fun o e => hs9.extBut _ _ hDL (hk8 _ _ e)
      have G9 := G.keeps F9.keep
      generalize hpg : escT 7 text = page at *
      refine tkC (s := s) (h := h9) (P := fun y => wpC _ _ _ _ _ y) tk8 (fun tk9 htk9 => ?_) (Nat.le_succ _)
      -- return
      refine wpC_execs_cons ?_
      refine wpC_Return_some ?_
      refine wpC_BoolOp_and ?_
      refine wpAny_with_toks (n := tk9) (Nat.le_refl _) ?_
      refine wpAny_Compare1 ?_
      refine nameX_L F9 (by rfl) ?_
      refine call_def (k := 11) G9 (by decide) rfl hfto ?_
      refine args_cons ?_
      refine nameX_L F9 (by rfl) ?_
      refine args_nil ?_
      refine ⟨fun _ _ e => e, ?_⟩
      refine told_ok G9 hfto (show A.depth + 1 < 900 by omega) hh k5 (by rw [← k2]; omega) ?_
      intro h10 t10 tk10 hk10
      refine PyProof.Rows.eq_str ?_
      intro htk10
      refine wpAny_truthy_bool ?_
      rw [← k2, if_pos (by simp)]
      have F10 := Fr_up F9 hk10
      have G10 := G.keeps F10.keep
      have hD10 : h10.IsList D ys.toArray := hD9.at fun o e => hk10 _ _ e
      refine tkC (s := s) (h := h10) (P := fun y => wpC _ _ _ _ _ y) tk9 (fun tk11 htk11 => ?_) htk10
      refine wpC_BoolOp_one ?_
      refine callC_def (k := 14) G10 (by decide) rfl hfch (wpC.any ?_)
      refine args_cons ?_
      refine nameX_L F10 (by rfl) ?_
      refine args_cons ?_
      refine Subscript_ ?_
      refine nameX_L F10 (by rfl) ?_
      refine wpAny_Slice ?_
      refine evalPart_some_step ?_
      refine wpAny_Constant_int ?_
      refine evalPart_none_step ?_
      refine evalPart_none_step ?_
      refine sliceL hD10 (.int _ _) .none .none (by decide) (by have := hds.length; simp; omega) ?_
      intro D12 h12 hk12 _ hD12
      refine args_nil ?_
      refine ⟨fun b o e => hk12 b o e, ?_⟩
      have hpl : tp < tk11 := Nat.lt_of_lt_of_le htp (Nat.le_trans htk9 htk11)
      refine chosen_ok (draws := ds.drop 2) (G10.keeps hk12) hfch (show A.depth + 1 < 600 by omega) hh (show A.units + 3 < 100 by omega) (dvs := (slicePick ys.toArray (some 2) none none).toList) (by simpa using hD12) (slice_ints_fromW hds (by decide)) (by simp [hdl]) k3 k4 htp0
        (Nat.lt_of_lt_of_le hpl (by dsimp only; omega)) (Nat.lt_of_le_of_lt (Nat.zero_le _) (Nat.lt_of_lt_of_le hpl (by dsimp only; omega))) ?_
      intro h13 tk13 hk13
      exact h h13 tk13 fun b o e => hk13 b o (hk12 b o (F10.keep b o e))
    · rfl
  · rfl
end
end Mine
end

section
open PySem PySem.W PyProof.Rows PySem.Calls
open Sem (wp)
set_option Elab.async false
set_option maxRecDepth 100000
set_option maxHeartbeats 4000000
namespace Mine
/-- the claim's own caller stands alone, and holds nothing -/
theorem alone : CleanI (⟨.builtin "claim.caller" {}, none, none, [], none⟩ : Ctx) := ⟨(by show (!holders.contains "claim.caller") = true; decide +kernel), fun x hx => (by cases hx)⟩

/-- a tree that is well in every clean context: its thread comes to an end -/
theorem one_run {p : Program} {w : World} {t : Sem Fin} {s : Shared} {Back : Result → Shared → Prop} (hz : s.asleep)
    (h : wpC (model p w) callerA t (fun fin s' => ∃ f, fin = .done f ∧ Back (.ok f) s' ∧ AllBare s'.gens) (fun e s' => Back (.error e) s' ∧ AllBare s'.gens) s) :
    ∃ n r s' z, schedN (denote table) p w n (.single s ⟨t, .builtin "claim.caller" {}, default, []⟩) = .halted (outcomeOf r) s' ∧ s'.heap = z.heap ∧ s'.os = z.os ∧ s'.heap.life = s.heap.life ∧ Back r z := by
  have start : wp (model p w) ⟨.builtin "claim.caller" {}, none, none, [], none⟩ t
      (Sem.finPost (model p w) ⟨.builtin "claim.caller" {}, none, none, [], none⟩ fun r s' => Back r s' ∧ leftWithCleanup s'.gens = false)
      (fun e _ s' => Back (.error e) s' ∧ leftWithCleanup s'.gens = false) default s :=
    Sem.wp_mono _ _ t (fun fin _ s' q => by
      obtain ⟨f, rfl, b, g⟩ := q
      exact ⟨b, leftWithCleanup_false_of_bare g⟩) (fun _ _ _ q => ⟨q.1, leftWithCleanup_false_of_bare q.2⟩) default s (h _ default caller_in alone)
  obtain ⟨n, r, z, s', hs, hn, hfo, hb⟩ := wp_halts_full (M := model p w) (R := Back) hz start
  obtain ⟨eh, _, _, eo, _⟩ := Shared.forget_eq hfo
  exact ⟨n, r, s', z, hs, eh, eo, runN_life _ _ _ hn, hb⟩

/-- the head for an open row whose walk needs a clean stack: the way of the library's own head, its run by one_run -/
theorem PySem.W.holds_open {r : OpenRow} {q : Program} {loose : List Str} {Xt : Shared → Bool} {XP : (Str → Option Value) → Heap → Prop} {α : Type} {Yf : Shared → α} {Ya : World → α} {YP : World → Heap → Prop} {d : DefRec} {kwd : List (Str × Expr)} {N : Nat}
    (left : LeftO r.prog q loose Xt Yf Ya N) (hY : ∀ w s, Yf s = Ya w → YP w s.heap) (hYk : ∀ w h h', YP w h → (∀ b o, h.get? b = some o → h'.get? b = some o) → YP w h')
    (hX : ∀ s, Xt s = true → XP (s.heap.nsMap mainGlobals) s.heap) (hXk : ∀ mg h h', XP mg h → (∀ b o, h.get? b = some o → h'.get? b = some o) → XP mg h')
    (hdef : defOf q r.name = some (d, kwd)) (hp : r.prog.theDef r.name = some (d.params, d.body, d.scope)) (hk : kwWritten? d.params.kwonlyargs d.params.kw_defaults = some kwd)
    (hRf : ∀ s, Xt s = true → RecFacts r.records s.heap) (hwr : (!r.writes || r.records.isEmpty) = true)
    (k1 : r.wellSaid = true) (ok : (chainsOk q && opensWell r.prog && (frees r.toRowW && r.within.isEmpty)) = true) (hb : r.prog.bare) (hw : r.toRowW.promised)
    (call : ∀ (w : World) (s₀ s₁ : Shared) (mg mb : Str → Option Value), Ground q loose r.toRowW.records XP w s₀ mg mb s₁.heap → YP w s₁.heap →
      ∀ (args : List WData) (vals : List Value) (as : List Addr), r.toRowW.claim.pre args = true → WData.layableAll args = true → s₁.gens = #[] →
        ReadsAllW r.toRowW.records (classAt s₀.heap) s₁.heap vals args as → WellAll w.params s₁.heap vals args → (∀ a ∈ as, (a == sysModules) = false) →
        ∃ f, mg r.name = some f ∧ wpC (model r.toRowW.prog w) callerA (PySem.call f vals)
          (fun v s' => GoodWG r.toRowW.claim (classAt s₀.heap) (ExcName.means s₀.heap) args s₁ (.ok (.ret v)) s')
          (fun e s' => GoodWG r.toRowW.claim (classAt s₀.heap) (ExcName.means s₀.heap) args s₁ (.error e) s') s₁) : r.Holds := by
  simp only [Bool.and_eq_true] at ok
  obtain ⟨⟨hch, hopen⟩, hfree, hin⟩ := ok
  obtain ⟨hsame, hunder, hafter, hapart, hmakers⟩ := frees_parts hfree
  have top := fun w => left.behind (XP := fun mg h => XP mg h ∧ RecFacts r.records h) (fun s q => ⟨hX s q, hRf s q⟩) hch w
  refine ⟨k1, hw, ⟨hb, hopen, (by show r.makers.map _ = []; rw [hmakers]; rfl)⟩, hw.witness, fun w => ⟨(top w).1, fun s' hs' => ?_⟩⟩
  obtain ⟨s₀, hfence, hnone, s, hran, hz, hgens, hns, G2, hy⟩ := (top w).2 s' hs'
  have G0 : Ground q loose [] XP w s (s.heap.nsMap mainGlobals) (s.heap.nsMap builtinsNs) s.heap := { G2 with X := G2.X.1 }
  have recs := G2.X.2
  have empty : s.gens = #[] := Array.eq_empty_of_size_eq_zero (by simpa using hgens)
  refine ⟨s₀, hfence, hnone, s, hran, fun n hn => ?_, recs.1, recs.2.1, fun args hpre hlay ord hord => ?_⟩
  · have hnr : n = r.name := by
      cases hpin : r.pinned with
      | true => rw [hpin] at hn; simpa using hn
      | false => rw [hpin] at hn; simp at hn
    rw [hnr]
    exact pinned_of_view hns G0 hdef hp hk
  have G := recs.ground G0
  have some_laid := layAllW_isSome (P := w.params) (ord := ord) G.has args r.args s (pre_splitW hpre).1
  obtain ⟨p, hlaid⟩ := Option.isSome_iff_exists.mp some_laid
  obtain ⟨vs, s₁⟩ := p
  have kept := layAllW_keeps _ _ _ hlaid
  obtain ⟨rg, _, ro, rl⟩ := layAllW_rest _ _ _ hlaid
  obtain ⟨as, hreads, hinside, hold⟩ := reads_layAllW hord _ _ _ hlaid hlay s₁.heap (fun _ _ e => e)
  have laid : Laid r.records w s s₁ args vs as := { laid := ⟨ord, hord, hlaid⟩, reads := hreads, within := hinside, old := hold, keeps := kept, gens := rg.trans empty, os := ro }
  have G₁ := G.keeps hXk kept
  obtain ⟨f, hf, good⟩ := call w s s₁ _ _ G₁ (hYk _ _ _ (hY w s hy) kept) args vs as hpre hlay laid.gens laid.reads laid.well (laid.low G.low)
  have back : ∀ res z, GoodWG r.toRowW.claim (classAt s.heap) (ExcName.means s.heap) args s₁ res z →
      (r.toRowW.claim.Ends s args vs s₁ res z ∧ z.os = s.os ∧ (r.writes = true → namesKept r.prog r.keeps s.heap z.heap ∧ ∀ x ∈ r.records, ∀ a, classAt s.heap x.1 = some a → recordClass z.heap a x.1 (x.2.map (·.1)) = true)) ∧ AllBare z.gens := fun res z g => by
    obtain ⟨a, b, c⟩ := g.laid (c := r.toRowW.claim) hsame (List.isEmpty_iff.mp hin) (ident_freeW hunder hafter hapart) laid
    exact ⟨⟨a, b, fun wr => ⟨namesKept_of hran hns r.keeps kept g.2.1.old, noTable hwr wr⟩⟩, c⟩
  obtain ⟨n, res, t, z, hsched, eheap, eos, elife, ends, osz, keptz⟩ := one_run (p := r.prog) (w := w) (s := s₁)
    (t := do match ← nsGet mainNs r.name with
      | some f => do ret (← PySem.call f vs)
      | none => unsupported "claim.caller:no-such-global")
    (Back := fun res z => r.toRowW.claim.Ends s args vs s₁ res z ∧ z.os = s.os ∧ (r.writes = true → namesKept r.prog r.keeps s.heap z.heap ∧ ∀ x ∈ r.records, ∀ a, classAt s.heap x.1 = some a → recordClass z.heap a x.1 (x.2.map (·.1)) = true))
    (Shared.asleep_of_life rl hz)
    (wpC_bindA (wpAny_nsGet G₁.T.g (by
      rw [hf]
      exact wpC_bind (wpC_mono good (fun v z g => wpC_pure ⟨_, rfl, back _ z g⟩) fun e z g => back _ z g))))
  refine ⟨vs, s₁, hlaid, n, outcomeOf res, t, hsched, ?_, fun _ i x hx => (by rw [empty] at hx; simp at hx), (by rw [eheap]; exact keptz), (by rw [elife, rl]), Shared.rest_eq (eos.trans osz)⟩
  rcases ends.congr eheap with ⟨v, rfl, e1, e2, e3, e4, e5⟩ | ⟨e, ob, cls, rfl, e1, e2, e3, e4, e5⟩
  · exact .inl ⟨v, rfl, e1, e2, e3, fun b o ho _ => e4 b o ho, e5⟩
  · exact .inr ⟨e, ob, cls, rfl, e1, e2, e3, e4, fun b o ho _ => e5 b o ho⟩
end Mine
end

section
open PySem PySem.W PyProof.Rows PySem.Calls
set_option Elab.async false
set_option maxRecDepth 100000
set_option maxHeartbeats 800000
namespace Mine
theorem post_true (args : List WData) : PySem.Challenge.rw_wo0006_01.row.claim.post args (.bool true) args = true := by
  refine postW_of (r := PySem.Challenge.rw_wo0006_01.row.toRowW) (X := true) ?_ ?_ rfl
  · first | rfl | decide | simp [WShape.has]
  · show (WTm.eq .res (.lit (.bool true))).value _ _ = some (.bool true)
    exact w_eq_bool (k := true) (l := true) (w_res rfl) w_lit
end Mine
end

section
open PySem PySem.W PyProof.Rows PySem.Calls
set_option Elab.async false
set_option maxRecDepth 100000
set_option maxHeartbeats 8000000
namespace Mine
def posK (k : Nat) : Pos := match stm k with | .FunctionDef _ _ _ _ _ _ _ _ _ p => p | _ => ⟨0, 0, 0, 0⟩
theorem main : PySem.Challenge.rw_wo0006_01.Holds := by
  w_on
  o_law
  k_head
  (case hw => w_witness2)
  intro w s₀ s₁ mg mb G Y args vals as hpre hlay hg hrd hwl hlo
  have KX := kIn_of Y
  have T := Ground.T G
  have hfn : ∀ k ∈ defs, FnAt mg s₁.heap k := by
    intro k hk
    have hdef : ∃ pos, defOf main.view_39 (nameK k) = some (⟨nameK k, parK k, bodyK k, scopeK k, pos⟩, []) ∧ (parK k).defaults = [] := by
      refine ⟨posK k, ?_⟩
      simp only [defs, List.mem_cons, List.not_mem_nil, or_false] at hk
      rcases hk with rfl | rfl | rfl | rfl | rfl | rfl | rfl | rfl | rfl | rfl | rfl | rfl <;> exact ⟨by kernel_rfl, by rfl⟩
    obtain ⟨pos, h1, h2⟩ := hdef
    obtain ⟨a, o, pm, cd, doc, dV, kV, q1, q2, q3, q4, q5⟩ := G.fn h1
    have e1 : dV = .none := by
      rcases q5.pos with ⟨_, e⟩ | ⟨e, _⟩
      · exact e
      · exact absurd h2 e
    have e2 : kV = .none := by
      rcases q5.kw with ⟨_, e⟩ | ⟨e, _⟩
      · exact e
      · exact absurd rfl e
    subst e1 e2
    exact ⟨a, o, pm, cd, doc, q1, q2, q3, q4⟩
  obtain ⟨fa, hmg'⟩ : ∃ fa, mg "law" = some (.ref fa) := by
    obtain ⟨a, _, _, _, _, q, _⟩ := hfn 15 (by decide)
    exact ⟨a, q⟩
  refine ⟨.ref fa, hmg', ?_⟩
  wrow_args hpre hlay hrd hwl hlo
  rename_i ns _ _ _ _ _ _ _ sl vs _ hL _ _ _ hI _ hlen _
  have GG : Gd mg mb s₁.heap := {
    g := T.g
    b := T.b
    lim := T.nolimit
    bi := T.builtins
    fn := hfn
    told := by
      have h2 := KX 2 _ (by rfl)
      refine ⟨fun _ => none, ⟨_, _, _, h2, rfl, ?_, fun name => ?_⟩, rfl⟩
      · intro e he; simp at he
      · rfl
    free := by
      intro x hx
      refine T.free x ?_ ?_ ?_ ?_ ?_ <;> (revert x; decide +kernel) }
  have hz : vs.length ≤ 100 := by
    have := hI.length
    omega
  show wpC (model P₀ w) callerA (call (.ref fa) [.ref sl]) _ _ _
  refine wpC_mono (law_ok (Q := fun v s' => v = .bool true ∧ ∃ h' tk, s' = { s₁ with heap := h', toks := tk } ∧ Keep s₁.heap h') GG hmg' (by decide) rfl (by decide) hL hI hz ?_) ?_ (fun _ _ f => f.elim)
  · intro h' tk hk
    exact ⟨rfl, h', tk, rfl, hk⟩
  · rintro v s' ⟨rfl, h', tk, rfl, hk⟩
    refine GoodW.toG ⟨.inl ⟨.bool true, .bool true, [], rfl, ?_, .bool true, ?_, ?_⟩, hk, rfl, hg⟩
    · intro cls
      rfl
    · exact post_true _
    · intro _
      exact ⟨List.nodup_nil, fun a ha => (by cases ha)⟩
end Mine
end

theorem PySem.Challenge.cw_wo0006_01_holds : PySem.Challenge.rw_wo0006_01.Holds := by
  exact Mine.main
