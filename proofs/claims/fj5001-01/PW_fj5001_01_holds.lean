import PyProof.Rows.All
import Wide.All
import OpenK.AllK
import Wide.FinOn
import PySem.Challenge.RW_fj5001_01
set_option Elab.async false
set_option maxRecDepth 100000
set_option linter.unusedVariables false
open PySem PySem.W PyProof.Rows

namespace Mine
open Sem (wp)

/-- no exception -/
def noE : Value → Shared → Prop := fun _ _ => False

theorem wpNoE {α : Type} {M : Model} {A : Around} {t : Sem α} {Q : α → Shared → Prop} {E : Value → Shared → Prop} {s : Shared}
    (h : wpAny M A t Q noE s) : wpAny M A t Q E s := wpAny_mono h (fun _ _ x => x) fun _ _ x => x.elim

def Sub (h h' : Heap) : Prop := ∀ b o, h.get? b = some o → h'.get? b = some o
theorem Sub.refl (h : Heap) : Sub h h := fun _ _ e => e
theorem Sub.trans {a b c : Heap} (x : Sub a b) (y : Sub b c) : Sub a c := fun _ _ e => y _ _ (x _ _ e)
/-- new objects at most -/
def Kp (s s' : Shared) : Prop := ∃ h' tk, s' = { s with heap := h', toks := tk } ∧ Sub s.heap h'
theorem Kp.sub {s s' : Shared} (x : Kp s s') : Sub s.heap s'.heap := by obtain ⟨h', tk, rfl, hk⟩ := x; exact hk
theorem Kp.gens {s s' : Shared} (x : Kp s s') : s'.gens = s.gens := by obtain ⟨h', tk, rfl, hk⟩ := x; rfl
theorem Kp.refl (s : Shared) : Kp s s := ⟨s.heap, s.toks, rfl, fun _ _ e => e⟩
theorem Kp.trans {a b c : Shared} (x : Kp a b) (y : Kp b c) : Kp a c := by
  obtain ⟨h, tk, rfl, hk⟩ := x
  obtain ⟨h', tk', rfl, hk'⟩ := y
  exact ⟨h', tk', rfl, fun b o e => hk' b o (hk b o e)⟩
theorem Kp.mk {s : Shared} {h' : Heap} {tk : Tok} (hk : Sub s.heap h') : Kp s { s with heap := h', toks := tk } := ⟨h', tk, rfl, hk⟩
theorem Kp.tok {s : Shared} {tk : Tok} : Kp s { s with toks := tk } := ⟨s.heap, tk, rfl, fun _ _ e => e⟩

/-- kept below n but for wr -/
def Kept (n : Nat) (wr : List Nat) (h h' : Heap) : Prop := ∀ (b : Nat) o, b < n → b ∉ wr → h.get? b = some o → h'.get? b = some o

/-- the name x is bound to v in a comprehension's environment -/
def Bound (cenv : Env) (x : Str) (v : Value) (h : Heap) : Prop :=
  (cenv.kindOf x = some .local ∧ ∃ m, h.Ns cenv.locals m ∧ m x = some v) ∨
  (cenv.kindOf x = some .cell ∧ ∃ c, cenv.cells.lookup x = some c ∧ h.IsCell c (some v))

theorem Bound.keeps {cenv : Env} {x : Str} {v : Value} {h h' : Heap} (b : Bound cenv x v h) (hk : ∀ b o, h.get? b = some o → h'.get? b = some o) : Bound cenv x v h' := by
  rcases b with ⟨h1, m, h2, h3⟩ | ⟨h1, c, h2, h3⟩
  · exact .inl ⟨h1, m, h2.keeps hk, h3⟩
  · exact .inr ⟨h1, c, h2, h3.keeps hk⟩

theorem Bound.load {M : Model} {A : Around} {E : Value → Shared → Prop} {s : Shared} {cenv : Env} {x : Str} {v : Value} {Q : Value → Shared → Prop}
    (b : Bound cenv x v s.heap) (hk : cenv.scope.kind = .function) (h : Q v s) : wpAny M A (loadName cenv x) Q E s := by
  rcases b with ⟨h1, m, h2, h3⟩ | ⟨h1, c, h2, h3⟩
  · exact wpAny_loadName_local hk h1 h2 h3 h
  · exact wpAny_loadName_cell hk h1 h2 h3 h

theorem Bound.name {M : Model} {A : Around} {E : Value → Shared → Prop} {s : Shared} {cenv : Env} {x : Str} {v : Value} {pos : Pos} {Q : Value → Shared → Prop}
    (b : Bound cenv x v s.heap) (hk : cenv.scope.kind = .function) (h : Q v s) (hd : (x == ("__debug__" : Str)) = false := by decide) :
    wpAny M A (eval (.Name x pos) cenv) Q E s := wpAny_Name (b.load hk h) hd

section
variable {M : Model} {A : Around} {E : Value → Shared → Prop} {s : Shared}
/-- the environment of a comprehension (its names with cells of their own too) -/
theorem newEnv_around {scope : Scope} {globals : Addr} {cl : List (Str × Addr)} {qual : Str} {env : Env} {Q : Env → Shared → Prop}
    (h : Q { scope, locals := s.heap.objs.size, globals, cells := cellsFrom (s.heap.objs.size + 1) scope.names cl, qual, func := none, code := env.code, frame := env.frame, builtins := env.builtins }
      { s with heap := pushCells (s.heap.push { cls := .type "dict", data := .dict #[] }) scope.names }) :
    wpAny M A (newFunctionEnv scope globals cl [] qual none .none (some env)) Q E s := by
  simp only [newFunctionEnv, Option.isSome_some, if_true]
  refine wpAny_bind (wpAny_alloc ?_)
  refine wpAny_bind (wpAny_layCells _ (fun name kind cells => by cases kind == NameKind.cell <;> simp) _ _ _ _ ?_)
  rw [show ({ s with heap := s.heap.push { cls := .type "dict", data := .dict #[] } } : Shared).heap.objs.size = s.heap.objs.size + 1 from Heap.size_push ..]
  refine wpAny_bind ?_
  exact wpAny_pure (wpAny_pure h)
end

section
variable {prog : Program} {w : World} {A : Around} {R : Result → Shared → Prop}

/-- one element of a comprehension -/
def Turn (prog : Program) (w : World) (A : Around) (cenv : Env) (ifs : List Expr) (elt : Expr) (T' : List Value → Heap → Prop) (ys : List Value) (s : Shared) : Prop :=
  wpAny (model prog w) A (forIn ifs true fun c r => if r = true then do let ok ← isTrue c cenv (eval c cenv); pure (ForInStep.yield ok) else pure (ForInStep.yield r))
    (fun ok s₃ => Kp s s₃ ∧ if ok = true then wpAny (model prog w) A (eval elt cenv) (fun y s₄ => Kp s₃ s₄ ∧ T' (ys ++ [y]) s₄.heap) noE s₃ else T' ys s₃.heap) noE s

/-- where the comprehension's own name lies -/
def Own (cenv : Env) (x : Str) (n₂ N₀ D C : Nat) (h : Heap) : Prop :=
  cenv.kindOf x = some .local ∨ (cenv.kindOf x = some .cell ∧ ∃ c : Nat, cenv.cells.lookup x = some c ∧ n₂ ≤ c ∧ c < N₀ ∧ c ≠ D ∧ c ≠ C ∧ ∃ v, h.IsCell c v)

structure LInv (St : Nat → Heap → Prop) (cenv : Env) (x : Str) (n₂ N₀ D C : Nat) (wr : List Nat) (h₂ : Heap) (T : Nat → List Value → Heap → Prop) (i : Nat) (H : Heap) (ys : Array Value) : Prop where
  st : St i H
  acc : H.PlainList D ys
  ns : ∃ m, H.Ns C m
  t : T i ys.toList H
  len : ys.size ≤ i
  kept : Kept n₂ wr h₂ H
  last : ∃ o, H.get? (N₀ - 1) = some o
  own : Own cenv x n₂ N₀ D C H

theorem Own.keep {cenv : Env} {x : Str} {n₂ N₀ D C : Nat} {h h' : Heap} (o : Own cenv x n₂ N₀ D C h) (hk : ∀ (c : Nat) ob, n₂ ≤ c → c < N₀ → c ≠ D → c ≠ C → h.get? c = some ob → h'.get? c = some ob) : Own cenv x n₂ N₀ D C h' := by
  rcases o with o | ⟨h1, c, h2, h3, h4, h5, h6, v, ob, h7, h8⟩
  · exact .inl o
  · exact .inr ⟨h1, c, h2, h3, h4, h5, h6, v, ob, hk c ob h3 h4 h5 h6 h7, h8⟩

theorem comp_loop {elt iter : Expr} {x : Str} {px : Pos} {ifs : List Expr} {scope : Scope} {pos : Pos} {I D n₂ N₀ C : Nat} {wr fp : List Nat} {n : Nat} {P : Nat → Value → Prop}
    {St : Nat → Heap → Prop} {cenv : Env} {s : Shared} {h₂ : Heap} (W : Walks prog w A I fp wr n P St) (T : Nat → List Value → Heap → Prop)
    (hk : cenv.scope.kind = .function)
    (hD : n₂ ≤ D ∧ D < N₀) (hCe : cenv.locals = C) (hC : n₂ ≤ C ∧ C < N₀) (hDC : D ≠ C) (hfp : ∀ b ∈ fp, b < n₂) (hsz : n ≤ sizeLine)
    (hT : ∀ i ys h h', T i ys h → (∀ (b : Nat) o, (N₀ ≤ b ∨ (b < n₂ ∧ b ∉ wr)) → h.get? b = some o → h'.get? b = some o) → T i ys h')
    (h0 : LInv St cenv x n₂ N₀ D C wr h₂ T 0 s.heap #[])
    (turn : ∀ i v ys (s' : Shared), i < n → P i v → T i ys s'.heap → ys.length ≤ i → Bound cenv x v s'.heap → Kept n₂ wr h₂ s'.heap → (∃ o, s'.heap.get? (N₀ - 1) = some o) → s'.gens = s.gens →
      Turn prog w A cenv ifs elt (T (i + 1)) ys s')
    (hR : ∀ h' tk m ys, h'.Ns C m ∧ h'.PlainList D ys ∧ T n ys.toList h' ∧ ys.size ≤ n ∧ Kept n₂ wr h₂ h' → R (.ok .next) { s with heap := h', toks := tk }) :
    codeAny (model prog w) A (.compLoop (.ListComp elt [⟨.Name x px, iter, ifs, 0⟩] scope pos) 0 (.ref I) (.ref D) cenv) R s := by
  have hp : (cenv.scope.kind == .class || (cenv.scope.kind == .module && cenv.locals != cenv.globals)) = false := by rw [hk]; rfl
  have hwr : ∀ b ∈ wr, b < n₂ := fun b hb => hfp b (W.sub b hb)
  have hfD : ∀ b ∈ fp, b ≠ D := fun b hb => Nat.ne_of_lt (Nat.lt_of_lt_of_le (hfp b hb) hD.1)
  have hCw : C ∉ wr := fun h => Nat.lt_irrefl _ (Nat.lt_of_lt_of_le (hwr _ h) hC.1)
  have hDw : D ∉ wr := fun h => Nat.lt_irrefl _ (Nat.lt_of_lt_of_le (hwr _ h) hD.1)
  have hN₂ : n₂ < N₀ := Nat.lt_of_le_of_lt hD.1 hD.2
  refine codeAny_compLoop_tests
    (fun k s' => ∃ h' tk ys i, s' = { s with heap := h', toks := tk } ∧ LInv St cenv x n₂ N₀ D C wr h₂ T i h' ys ∧ i ≤ n ∧ k = n + 1 - i) ?_ (n + 1)
    ⟨s.heap, s.toks, #[], 0, rfl, h0, Nat.zero_le _, rfl⟩
  rintro k s' ⟨H, tk, ys, i, rfl, L, hi, rfl⟩
  by_cases hlt : i < n
  · refine W.item i _ _ _ hlt L.st fun v h₁ tk₁ hPv hst₁ hk₁ => ?_
    -- the state behind the iterator's step
    have hT₁ : T i ys.toList h₁ := hT _ _ _ _ L.t fun b o hb e => hk₁ b o (fun hm => by
      have := hwr _ hm
      rcases hb with hb | hb
      · omega
      · exact hb.2 hm) e
    have hkp₁ : Kept n₂ wr h₂ h₁ := fun b o hb hw e => hk₁ b o hw (L.kept b o hb hw e)
    have hacc₁ : h₁.PlainList D ys := L.acc.at fun o e => hk₁ _ o hDw e
    obtain ⟨m', hn'⟩ := L.ns
    have hn₁ : h₁.Ns C m' := hn'.at' fun o e => hk₁ _ o hCw e
    obtain ⟨ol, hol⟩ := L.last
    have hlast₁ : h₁.get? (N₀ - 1) = some ol := hk₁ _ _ (fun hm => by have := hwr _ hm; omega) hol
    have hown₁ : Own cenv x n₂ N₀ D C h₁ := L.own.keep fun c ob hc _ _ _ e => hk₁ c ob (fun hm => by have := hwr _ hm; omega) e
    -- behind the assignment
    have go : ∀ h₃ tk₃, St (i + 1) h₃ → (∃ m, h₃.Ns C m) → h₃.PlainList D ys → Bound cenv x v h₃ → Own cenv x n₂ N₀ D C h₃ → T i ys.toList h₃ → Kept n₂ wr h₂ h₃ → (∃ o, h₃.get? (N₀ - 1) = some o) →
        wpAny (model prog w) A (forIn ifs true fun c r => if r = true then do let ok ← isTrue c cenv (eval c cenv); pure (ForInStep.yield ok) else pure (ForInStep.yield r)) (fun ok s₃ =>
            if ok = true then wpAny (model prog w) A (eval elt cenv) (fun x_1 s₄ =>
              wpAny (model prog w) A (call (.builtin "list.append") [.ref D, x_1]) (fun _ s₅ => ∃ k', k' < n + 1 - i ∧ ∃ h' tk ys i, s₅ = { s with heap := h', toks := tk } ∧ LInv St cenv x n₂ N₀ D C wr h₂ T i h' ys ∧ i ≤ n ∧ k' = n + 1 - i) noE s₄) noE s₃
            else ∃ k', k' < n + 1 - i ∧ ∃ h' tk ys i, s₃ = { s with heap := h', toks := tk } ∧ LInv St cenv x n₂ N₀ D C wr h₂ T i h' ys ∧ i ≤ n ∧ k' = n + 1 - i) noE { s with heap := h₃, toks := tk₃ } := by
      intro h₃ tk₃ hst₃ hns₃ hacc₃ hb₃ hown₃ hT₃ hkp₃ ⟨oN, hoN⟩
      refine wpAny_mono (turn i v ys.toList { s with heap := h₃, toks := tk₃ } hlt hPv hT₃ (by simpa using L.len) hb₃ hkp₃ ⟨oN, hoN⟩ rfl) (fun ok s₄ h₄ => ?_) fun _ _ e => e
      obtain ⟨⟨h₄', tk₄, rfl, hk₄⟩, hif⟩ := h₄
      have hst₄ : St (i + 1) h₄' := W.frame _ _ _ hst₃ fun b _ o e => hk₄ b o e
      cases ok with
      | false =>
        simp only [Bool.false_eq_true, if_false] at hif ⊢
        obtain ⟨m₃, hm₃⟩ := hns₃
        exact ⟨n + 1 - (i + 1), by omega, h₄', tk₄, ys, i + 1, rfl, ⟨hst₄, hacc₃.at fun o e => hk₄ _ o e, ⟨m₃, hm₃.keeps hk₄⟩, hif, Nat.le_succ_of_le L.len, fun b o hb hw e => hk₄ b o (hkp₃ b o hb hw e), ⟨oN, hk₄ _ _ hoN⟩, hown₃.keep fun c ob _ _ _ _ e => hk₄ c ob e⟩, hlt, rfl⟩
      | true =>
        simp only [if_true] at hif ⊢
        refine wpAny_mono hif (fun y s₅ h₅ => ?_) fun _ _ e => e
        obtain ⟨⟨h₅', tk₅, rfl, hk₅⟩, hT₅⟩ := h₅
        have hk₅' : ∀ b o, h₃.get? b = some o → h₅'.get? b = some o := fun b o e => hk₅ b o (hk₄ b o e)
        refine wpAny_list_append_plain (hsz := Nat.le_trans L.len (Nat.le_trans hi hsz)) (hacc₃.at fun o e => hk₅' _ o e) fun h₆ hl₆ hs₆ => ?_
        obtain ⟨m₃, hm₃⟩ := hns₃
        refine ⟨n + 1 - (i + 1), by omega, h₆, tk₅, ys.push y, i + 1, rfl, ⟨?_, hl₆, ⟨m₃, (hm₃.keeps hk₅').sameBut hs₆ (Ne.symm hDC)⟩, ?_, by simpa using L.len, fun b o hb hw e => hs₆.extBut b o (Nat.ne_of_lt (Nat.lt_of_lt_of_le hb hD.1)) (hk₅' b o (hkp₃ b o hb hw e)), ?_, ?_⟩, hlt, rfl⟩
        · exact W.frame _ _ h₆ hst₃ fun b hb o e => hs₆.extBut b o (hfD b hb) (hk₅' b o e)
        · refine hT _ _ h₅' h₆ (by simpa using hT₅) fun b o hb e => ?_
          have hbD : b ≠ D := by rcases hb with hb | hb <;> omega
          exact hs₆.extBut b o hbD e
        · by_cases hND : N₀ - 1 = D
          · obtain ⟨nn, e⟩ := hl₆; exact ⟨_, hND ▸ e⟩
          · exact ⟨oN, hs₆.extBut _ _ hND (hk₅' _ _ hoN)⟩
        · exact hown₃.keep fun c ob _ _ hcD _ e => hs₆.extBut c ob hcD (hk₅' c ob e)
    have fin : ∀ {t : Sem Unit} {h₁' tk₁'}, wpAny (model prog w) A t (fun _ s₂ => ∃ h₃ tk₃, s₂ = { s with heap := h₃, toks := tk₃ } ∧ St (i + 1) h₃ ∧ (∃ m, h₃.Ns C m) ∧ h₃.PlainList D ys ∧ Bound cenv x v h₃ ∧ Own cenv x n₂ N₀ D C h₃ ∧ T i ys.toList h₃ ∧ Kept n₂ wr h₂ h₃ ∧ (∃ o, h₃.get? (N₀ - 1) = some o)) noE { s with heap := h₁', toks := tk₁' } →
        wpAny (model prog w) A t (fun _ s₂ => wpAny (model prog w) A (forIn ifs true fun c r => if r = true then do let ok ← isTrue c cenv (eval c cenv); pure (ForInStep.yield ok) else pure (ForInStep.yield r)) (fun ok s₃ =>
            if ok = true then wpAny (model prog w) A (eval elt cenv) (fun x_1 s₄ =>
              wpAny (model prog w) A (call (.builtin "list.append") [.ref D, x_1]) (fun _ s₅ => ∃ k', k' < n + 1 - i ∧ ∃ h' tk ys i, s₅ = { s with heap := h', toks := tk } ∧ LInv St cenv x n₂ N₀ D C wr h₂ T i h' ys ∧ i ≤ n ∧ k' = n + 1 - i) (notedBy (model prog w) A cenv fun e s' => R (.error e) s') s₄) (notedBy (model prog w) A cenv fun e s' => R (.error e) s') s₃
            else ∃ k', k' < n + 1 - i ∧ ∃ h' tk ys i, s₃ = { s with heap := h', toks := tk } ∧ LInv St cenv x n₂ N₀ D C wr h₂ T i h' ys ∧ i ≤ n ∧ k' = n + 1 - i) (notedBy (model prog w) A cenv fun e s' => R (.error e) s') s₂) (notedBy (model prog w) A cenv fun e s' => R (.error e) s') { s with heap := h₁', toks := tk₁' } := by
      intro t h₁' tk₁' ht
      refine wpAny_mono ht (fun _ s₂ h₂' => ?_) fun _ _ e => e.elim
      obtain ⟨h₃, tk₃, rfl, a1, a2, a3, a4, a5, a6, a7, a8⟩ := h₂'
      refine wpAny_mono (go h₃ tk₃ a1 a2 a3 a4 a5 a6 a7 a8) (fun ok s₃ h => ?_) fun _ _ e => e.elim
      cases ok with
      | false => simpa using h
      | true =>
        simp only [if_true] at h ⊢
        exact wpAny_mono h (fun y s₄ h' => wpNoE h') fun _ _ e => e.elim
    refine fin ?_
    rcases hown₁ with hl | ⟨hc, c, hcl, hc1, hc2, hc3, hc4, v₀, hcv⟩
    · refine wpAny_assign_Name (wpAny_storeName_local hl (hCe ▸ hn₁) (fun h₃ hn₃ hs₃ => ?_) hp)
      rw [hCe] at hn₃ hs₃
      refine ⟨h₃, _, rfl, W.frame _ _ _ hst₁ fun b hb o e => hs₃.extBut b o (Nat.ne_of_lt (Nat.lt_of_lt_of_le (hfp b hb) hC.1)) e, ⟨_, hn₃⟩, hacc₁.extBut hs₃.extBut hDC, .inl ⟨hl, _, by rw [hCe]; exact hn₃, by simp⟩, .inl hl,
        hT _ _ _ _ hT₁ fun b o hb e => (by have hbC : b ≠ C := (by rcases hb with hb | hb <;> omega); exact hs₃.extBut b o hbC e), fun b o hb hw e => hs₃.extBut b o (Nat.ne_of_lt (Nat.lt_of_lt_of_le hb hC.1)) (hkp₁ b o hb hw e), ?_⟩
      by_cases hNC : N₀ - 1 = C
      · obtain ⟨oC, _, _, e, _⟩ := hn₃; exact ⟨oC, hNC ▸ e⟩
      · exact ⟨ol, hs₃.extBut _ _ hNC hlast₁⟩
    · refine wpAny_assign_Name (wpAny_storeName_cell hk hc hcl hcv (fun h₃ hc₃ hs₃ => ?_))
      refine ⟨h₃, _, rfl, W.frame _ _ _ hst₁ fun b hb o e => hs₃.extBut b o (Nat.ne_of_lt (Nat.lt_of_lt_of_le (hfp b hb) hc1)) e, ⟨m', hn₁.sameBut hs₃ (Ne.symm hc4)⟩, hacc₁.extBut hs₃.extBut (Ne.symm hc3), .inr ⟨hc, c, hcl, hc₃⟩, .inr ⟨hc, c, hcl, hc1, hc2, hc3, hc4, _, hc₃⟩,
        hT _ _ _ _ hT₁ fun b o hb e => (by have hbC : b ≠ c := (by rcases hb with hb | hb <;> omega); exact hs₃.extBut b o hbC e), fun b o hb hw e => hs₃.extBut b o (Nat.ne_of_lt (Nat.lt_of_lt_of_le hb hc1)) (hkp₁ b o hb hw e), ?_⟩
      by_cases hNC : N₀ - 1 = c
      · obtain ⟨oC, e, _⟩ := hc₃; exact ⟨oC, hNC ▸ e⟩
      · exact ⟨ol, hs₃.extBut _ _ hNC hlast₁⟩
  · have hin : i = n := by omega
    subst hin
    refine W.done _ _ _ L.st fun h₁ tk₁ hk₁ => ?_
    obtain ⟨m', hn'⟩ := L.ns
    obtain ⟨ol, hol⟩ := L.last
    refine hR h₁ tk₁ m' ys ⟨hn'.at' fun o e => hk₁ _ o hCw e, L.acc.at fun o e => hk₁ _ o hDw e, ?_, L.len, fun b o hb hw e => hk₁ b o hw (L.kept b o hb hw e)⟩
    refine hT _ _ _ _ L.t fun b o hb e => hk₁ b o (fun hm => ?_) e
    have := hwr _ hm
    rcases hb with hb | hb
    · omega
    · exact hb.2 hm
end

theorem lookup_relabel {env : Env} {k : NameKind} (hk : k ≠ .free) : ∀ {names : List (Str × NameKind)} {x : Str}, names.lookup x = some k →
    (names.map fun (n, k) => if (k == NameKind.free && env.scope.kind == .function && env.kindOf n == some .cell) then (n, NameKind.cell) else (n, k)).lookup x = some k
  | [], _, h => by simp at h
  | (n, k') :: r, x, h => by
    have ih := @lookup_relabel env k hk r x
    show List.lookup x ((if (k' == NameKind.free && env.scope.kind == .function && env.kindOf n == some .cell) = true then (n, NameKind.cell) else (n, k')) :: _) = _
    cases hx : x == n with
    | true =>
      simp only [List.lookup_cons, hx] at h
      cases h
      simp [List.lookup_cons, hx, hk]
    | false =>
      simp only [List.lookup_cons, hx] at h
      by_cases hc : (k' == NameKind.free && env.scope.kind == .function && env.kindOf n == some .cell) = true
      · rw [if_pos hc]; simp only [List.lookup_cons, hx]; exact ih h
      · rw [if_neg hc]; simp only [List.lookup_cons, hx]; exact ih h

section
variable {prog : Program} {w : World} {A : Around} {E : Value → Shared → Prop}

def ownN (own : Bool) : Nat := if own then 3 else 2

/-- the cells of a comprehension's environment -/
def compCells (own : Bool) (x : Str) (cl : List (Str × Addr)) (n₂ : Nat) : List (Str × Addr) := if own then (x, n₂ + 2) :: cl else cl

structure CompShape (own : Bool) (x : Str) (scope : Scope) (cl : List (Str × Addr)) : Prop where
  cells : ∀ N, cellsFrom N scope.names cl = if own then (x, N) :: cl else cl
  push : ∀ h, pushCells h scope.names = if own then h.push { cls := .type "cell", data := .cell none } else h
  kind : scope.kind = .function
  x : scope.names.lookup x = some (if own then .cell else .local)
  names : ∀ y ∈ scope.names, y.2 = .local → scope.names.lookup y.1 = some .local

/-- what the user of the rule shows -/
structure CompUse (prog : Program) (w : World) (A : Around) (own : Bool) (env : Env) (scope : Scope) (cl : List (Str × Addr)) (x : Str) (ifs : List Expr) (elt : Expr) (I : Addr) (fp wr : List Nat) (n : Nat)
    (P : Nat → Value → Prop) (St : Nat → Heap → Prop) (T : Nat → List Value → Heap → Prop) (s₂ : Shared) : Prop where
  W : Walks prog w A I fp wr n P St
  size : n ≤ sizeLine
  st : St 0 s₂.heap
  low : ∀ b ∈ fp, b < s₂.heap.objs.size
  stable : ∀ i ys h h', T i ys h → (∀ (b : Nat) o, s₂.heap.objs.size + ownN own ≤ b → h.get? b = some o → h'.get? b = some o) → T i ys h'
  zero : ∀ h, T 0 [] h
  turn : ∀ i v ys (s' : Shared), i < n → P i v → T i ys s'.heap → ys.length ≤ i → Bound (compEnvC scope (compCells own x cl s₂.heap.objs.size) (s₂.heap.objs.size + 1) env) x v s'.heap →
    (∀ b o, b ∉ wr → s₂.heap.get? b = some o → s'.heap.get? b = some o) → (∃ o, s'.heap.get? (s₂.heap.objs.size + ownN own - 1) = some o) → s'.gens = s₂.gens →
    Turn prog w A (compEnvC scope (compCells own x cl s₂.heap.objs.size) (s₂.heap.objs.size + 1) env) ifs elt (T (i + 1)) ys s'

theorem comp_block {own : Bool} {env : Env} {elt iter : Expr} {x : Str} {px : Pos} {ifs : List Expr} {scope : Scope} {cl : List (Str × Addr)} {pos : Pos} {s₂ : Shared} {I : Addr} {fp wr : List Nat} {n : Nat} {P : Nat → Value → Prop}
    {St : Nat → Heap → Prop} {T : Nat → List Value → Heap → Prop} (S : CompShape own x scope cl) (U : CompUse prog w A own env scope cl x ifs elt I fp wr n P St T s₂) {RR : Value → Addr → Result → Shared → Prop}
    (hRR : ∀ h' tk m ys, h'.Ns (s₂.heap.objs.size + 1) m → h'.PlainList s₂.heap.objs.size ys → T n ys.toList h' → ys.size ≤ n → (∀ b o, b ∉ wr → s₂.heap.get? b = some o → h'.get? b = some o) →
      RR (.ref s₂.heap.objs.size) (s₂.heap.objs.size + 1) (.ok .next) { s₂ with heap := h', toks := tk }) :
    wpAny (model prog w) A (newList []) (fun acc s₃ => wpAny (model prog w) A (newFunctionEnv scope env.globals cl [] env.qual none .none (some env)) (fun cenv s₄ =>
      codeAny (model prog w) A (.compStart (.ListComp elt [⟨.Name x px, iter, ifs, 0⟩] scope pos) 0 (.ref I) acc { cenv with scope := relabel scope env }) (RR acc cenv.locals) s₄) E s₃) E s₂ := by
  refine wpAny_newObj_type (newEnv_around ?_)
  dsimp only
  have hwr : ∀ b ∈ wr, b < s₂.heap.objs.size := fun b hb => U.low b (U.W.sub b hb)
  generalize hH2 : s₂.heap.push { cls := .type "list", dict := none, data := .seq ([] : List Value).toArray } = H2
  have hC : H2.objs.size = s₂.heap.objs.size + 1 := by rw [← hH2, Heap.size_push]
  have hH2g : ∀ b o, s₂.heap.get? b = some o → H2.get? b = some o := fun b o e => hH2 ▸ Heap.get?_push_of_some _ e
  have hH2D : H2.get? s₂.heap.objs.size = some { cls := .type "list", dict := none, data := .seq ([] : List Value).toArray } := hH2 ▸ Heap.get?_push_size _ rfl
  rw [S.cells, S.push]
  rw [show (if own = true then (x, H2.objs.size + 1) :: cl else cl) = compCells own x cl s₂.heap.objs.size by rw [hC]; rfl]
  rw [hC]
  generalize hH3 : (if own = true then (H2.push { cls := .type "dict", data := .dict #[] }).push { cls := .type "cell", data := .cell none } else H2.push { cls := .type "dict", data := .dict #[] }) = H3
  have h3g : ∀ b o, (H2.push { cls := .type "dict", data := .dict #[] }).get? b = some o → H3.get? b = some o := fun b o e => by
    rw [← hH3]; cases own
    · exact e
    · exact Heap.get?_push_of_some _ e
  have h2g : ∀ b o, s₂.heap.get? b = some o → H3.get? b = some o := fun b o e => h3g b o (Heap.get?_push_of_some _ (hH2g b o e))
  have hNs : H3.Ns (s₂.heap.objs.size + 1) (fun _ => none) := by
    have := Heap.Ns.new H2 (.type "dict")
    rw [hC] at this
    exact this.keeps h3g
  have hAcc : H3.PlainList s₂.heap.objs.size #[] := ⟨_, h3g _ _ (Heap.get?_push_of_some _ hH2D)⟩
  have hsz2 : (H2.push { cls := .type "dict", data := .dict #[] }).objs.size = s₂.heap.objs.size + 2 := by rw [Heap.size_push, hC]
  have hlast : ∃ o, H3.get? (s₂.heap.objs.size + ownN own - 1) = some o := by
    cases own
    · obtain ⟨o, _, _, e, _⟩ := hNs; exact ⟨o, e⟩
    · refine ⟨{ cls := .type "cell", data := .cell none }, ?_⟩
      rw [← hH3]
      show ((H2.push { cls := .type "dict", data := .dict #[] }).push _).get? (s₂.heap.objs.size + 2) = _
      rw [← hsz2]; exact Heap.get?_push_size _ rfl
  have hown : Own (compEnvC scope (compCells own x cl s₂.heap.objs.size) (s₂.heap.objs.size + 1) env) x s₂.heap.objs.size (s₂.heap.objs.size + ownN own) s₂.heap.objs.size (s₂.heap.objs.size + 1) H3 := by
    have hx := S.x
    cases own
    · exact .inl (lookup_relabel (by decide) hx)
    · refine .inr ⟨lookup_relabel (by decide) hx, s₂.heap.objs.size + 2, by simp [compEnvC, compCells], by omega, by show _ < _ + 3; omega, by omega, by omega, none, { cls := .type "cell", data := .cell none }, ?_, rfl⟩
      rw [← hH3]
      show ((H2.push { cls := .type "dict", data := .dict #[] }).push _).get? (s₂.heap.objs.size + 2) = _
      rw [← hsz2]; exact Heap.get?_push_size _ rfl
  have hN : 2 ≤ ownN own := by cases own <;> decide
  have hSt : St 0 H3 := U.W.frame _ _ _ U.st fun b _ o e => h2g b o e
  have loop : codeAny (model prog w) A (.compLoop (.ListComp elt [⟨.Name x px, iter, ifs, 0⟩] scope pos) 0 (.ref I) (.ref s₂.heap.objs.size) (compEnvC scope (compCells own x cl s₂.heap.objs.size) (s₂.heap.objs.size + 1) env))
      (RR (.ref s₂.heap.objs.size) (s₂.heap.objs.size + 1)) { s₂ with heap := H3 } := by
    refine comp_loop (D := s₂.heap.objs.size) (n₂ := s₂.heap.objs.size) (N₀ := s₂.heap.objs.size + ownN own) (C := s₂.heap.objs.size + 1) (h₂ := s₂.heap) U.W T (by simp [compEnvC, relabel, S.kind]) ⟨Nat.le_refl _, by omega⟩ rfl ⟨by omega, by omega⟩ (by omega) U.low U.size
      (fun i ys h h' hT hk => U.stable i ys h h' hT fun b o hb e => hk b o (.inl hb) e) ⟨hSt, hAcc, ⟨_, hNs⟩, U.zero _, Nat.le_refl _, fun b o _ _ e => h2g b o e, hlast, hown⟩ (fun i v ys s' hi hP hT hl hb hkp hsz hg => U.turn i v ys s' hi hP hT hl hb (fun b o hw e => hkp b o (Heap.lt_size e) hw e) hsz hg) (fun h' tk m ys ⟨a1, a2, a3, a4, a5⟩ => ?_)
    exact hRR h' tk m ys a1 a2 a3 a4 fun b o hw e => a5 b o (Heap.lt_size e) hw e
  exact codeAny_compStart_list loop (U.W.self 0 _ _ _ hSt loop)

theorem lc_eval {own : Bool} {s : Shared} {env : Env} {elt iter : Expr} {x : Str} {px : Pos} {ifs : List Expr} {scope : Scope} {cl : List (Str × Addr)} {pos : Pos} {Q : Value → Shared → Prop}
    (hclos : closureFor scope env = pure cl) (S : CompShape own x scope cl)
    (h : wpAny (model prog w) A (eval iter env) (fun xv s₁ => wpAny (model prog w) A (pyIter xv) (fun it s₂ => ∃ I fp wr n P St T, it = .ref I ∧ CompUse prog w A own env scope cl x ifs elt I fp wr n P St T s₂ ∧
      ∀ h' tk ys, h'.PlainList s₂.heap.objs.size ys → T n ys.toList h' → ys.size ≤ n → (∀ b o, b ∉ wr → s₂.heap.get? b = some o → h'.get? b = some o) → Q (.ref s₂.heap.objs.size) { s₂ with heap := h', toks := tk }) E s₁) E s)
    (hs : ∀ x, foldedSetIterable iter env x = pure x := by intro _; rfl) :
    wpAny (model prog w) A (eval (.ListComp elt [⟨.Name x px, iter, ifs, 0⟩] scope pos) env) Q E s := by
  rw [eval_ListComp]
  refine wpAny_comprehension_free (use := none) rfl hs hclos S.kind S.names (wpAny_mono h (fun xv s₁ h₁ => wpAny_mono h₁ (fun it s₂ h₂ => ?_) fun _ _ e => e) fun _ _ e => e)
  obtain ⟨I, fp, wr, n, P, St, T, rfl, U, hQ⟩ := h₂
  refine comp_block S U (fun h' tk m ys hn hl hT hsz hk => ?_)
  refine ⟨m, hn, fun h'' hs'' => hQ h'' tk ys (hl.extBut hs''.extBut (Nat.ne_of_lt (Nat.lt_succ_self _))) (U.stable _ _ _ _ hT fun b o hb e => ?_) hsz fun b o hw e => ?_⟩
  · have hbC : b ≠ s₂.heap.objs.size + 1 := by
      have hN : 2 ≤ ownN own := by cases own <;> decide
      omega
    exact hs''.extBut b o hbC e
  · have hbl : @LT.lt Nat _ b s₂.heap.objs.size := Heap.lt_size e
    exact hs''.extBut b o (Nat.ne_of_lt (Nat.lt_succ_of_lt hbl)) (hk b o hw e)

theorem lc_assign {own : Bool} {s : Shared} {env : Env} {elt iter : Expr} {x y : Str} {px py : Pos} {ifs : List Expr} {scope : Scope} {cl : List (Str × Addr)} {pos spos : Pos} {Q : Flow → Shared → Prop}
    (hsw : swapsWith (.ListComp elt [⟨.Name x px, iter, ifs, 0⟩] scope pos) (some (.Name y py)) spos.line env = pure true)
    (hclos : closureFor scope env = pure cl) (S : CompShape own x scope cl)
    (hy : env.kindOf y = some .local) (hp : (env.scope.kind == .class || (env.scope.kind == .module && env.locals != env.globals)) = false)
    (h : wpAny (model prog w) A (eval iter env) (fun xv s₁ => wpAny (model prog w) A (pyIter xv) (fun it s₂ => ∃ I fp wr n P St T m, it = .ref I ∧ CompUse prog w A own env scope cl x ifs elt I fp wr n P St T s₂ ∧
      env.locals ∉ wr ∧ s₂.heap.Ns env.locals m ∧
      ∀ h' tk ys, h'.PlainList s₂.heap.objs.size ys → T n ys.toList h' → ys.size ≤ n → h'.Ns env.locals (fun z => if z = y then some (.ref s₂.heap.objs.size) else m z) →
        (∀ b o, b ≠ env.locals → b ∉ wr → s₂.heap.get? b = some o → h'.get? b = some o) → Q .next { s₂ with heap := h', toks := tk }) E s₁) E s)
    (hs : ∀ x, foldedSetIterable iter env x = pure x := by intro _; rfl) :
    wpAny (model prog w) A (exec (.Assign [.Name y py] (.ListComp elt [⟨.Name x px, iter, ifs, 0⟩] scope pos) spos) env) Q E s := by
  rw [exec_Assign_Name_used _ _ _ _ hsw]
  refine wpAny_bind (wpAny_standAt (wpAny_bind ?_))
  show wpAny _ A (do let _ ← comprehension (.ListComp elt [⟨.Name x px, iter, ifs, 0⟩] scope pos) scope env _ (newList []) false (eval iter env) (some (assign (.Name y py) env))) _ _ s
  refine wpAny_bind (wpAny_mono (wpAny_comprehension_free (use := some (assign (.Name y py) env)) (Q := fun _ s' => Q .next s') rfl hs hclos S.kind S.names
    (wpAny_mono h (fun xv s₁ h₁ => wpAny_mono h₁ (fun it s₂ h₂ => ?_) fun _ _ e => e) fun _ _ e => e)) (fun _ s' hq => wpAny_pure (wpAny_pure hq)) fun _ _ e => e)
  obtain ⟨I, fp, wr, n, P, St, T, m, rfl, U, hLw, hL, hQ⟩ := h₂
  refine comp_block S U (fun h' tk m' ys hn hl hT hsz hk => ?_)
  have hLlt : @LT.lt Nat _ env.locals s₂.heap.objs.size := hL.lt
  have hLC : env.locals ≠ s₂.heap.objs.size + 1 := Nat.ne_of_lt (Nat.lt_succ_of_lt hLlt)
  have hLD : env.locals ≠ s₂.heap.objs.size := Nat.ne_of_lt hLlt
  show wpAny _ A (assign (.Name y py) env (.ref s₂.heap.objs.size)) _ _ _
  refine wpAny_assign_Name (wpAny_storeName_local hy (hL.at' fun o e => hk _ o hLw e) (fun h₂ hn₂ hs₂ => ?_) hp)
  have sub : s₂.heap.objs.size + 1 ≠ env.locals := Ne.symm hLC
  refine ⟨m', hn.sameBut hs₂ sub, fun h₃ hs₃ => ?_⟩
  have old : ∀ b o, b ≠ env.locals → b ∉ wr → s₂.heap.get? b = some o → h₃.get? b = some o := fun b o hbL hw e => by
    have hbl : @LT.lt Nat _ b s₂.heap.objs.size := Heap.lt_size e
    exact hs₃.extBut b o (Nat.ne_of_lt (Nat.lt_succ_of_lt hbl)) (hs₂.extBut b o hbL (hk b o hw e))
  refine hQ h₃ _ ys ((hl.extBut hs₂.extBut (Ne.symm hLD)).extBut hs₃.extBut (Nat.ne_of_lt (Nat.lt_succ_self _))) ?_ hsz (hn₂.sameBut hs₃ hLC) old
  refine U.stable _ _ _ _ hT fun b o hb e => ?_
  have hN : 2 ≤ ownN own := by cases own <;> decide
  have hbC : b ≠ s₂.heap.objs.size + 1 := by omega
  have hbL : env.locals ≠ b := Nat.ne_of_lt (Nat.lt_of_lt_of_le hLlt (Nat.le_trans (Nat.le_add_right _ _) hb))
  exact hs₃.extBut b o hbC (hs₂.extBut b o (Ne.symm hbL) e)
end
end Mine

namespace Mine

abbrev pw : Program := PySem.Challenge.pw_fj5001_01
def stm (i : Nat) : Stmt := pw.main.body.getD i (.Pass default)
def fdOf (st : Stmt) (dv pm cd : Value) : FuncData := match st with
  | .FunctionDef name args body _ _ _ scope _ _ _ =>
    { name, qualname := name, params := args, body := .stmts body, scope, globals := mainGlobals, closure := [], defaults := dv, kwdefaults := .none, pyModule := pm, code := cd, builtins := builtinsNs }
  | _ => default
def fobj (st : Stmt) (dv pm cd : Value) : Obj := { cls := .type "function", data := .func (fdOf st dv pm cd) }

def pmT : Value := .str "concepts.tools" 328
def pmL : Value := .str "law_fj5001_01" 351

structure Base (mg mb : Str → Option Value) (h : Heap) : Prop where
  g : h.Ns mainGlobals mg
  b : h.Ns builtinsNs mb
  nl : h.NoLimit
  mod : h.get? 4 = some { cls := .type "module", dict := some builtinsNs }
  d33 : ∃ t, h.get? 33 = some { cls := .type "tuple", data := .seq #[.int 0 t] }
  d41 : h.get? 41 = some { cls := .type "tuple", data := .seq #[.builtin "_operator.lt"] }
  f40 : h.get? 40 = some (fobj (stm 2) (.ref 33) pmT (.ref 39))
  f48 : h.get? 48 = some (fobj (stm 3) (.ref 41) pmT (.ref 47))
  f55 : h.get? 55 = some (fobj (stm 5) .none pmL (.ref 54))
  f62 : h.get? 62 = some (fobj (stm 6) .none pmL (.ref 61))
  f69 : h.get? 69 = some (fobj (stm 7) .none pmL (.ref 68))
  f74 : h.get? 74 = some (fobj (stm 8) .none pmL (.ref 73))
  f79 : h.get? 79 = some (fobj (stm 9) .none pmL (.ref 78))
  c39 : h.CodeRec (.ref 39) "max_len"
  c47 : h.CodeRec (.ref 47) "maximal"
  c54 : h.CodeRec (.ref 54) "_law_at"
  c61 : h.CodeRec (.ref 61) "_law_raises"
  c68 : h.CodeRec (.ref 68) "_law_refused"
  c73 : h.CodeRec (.ref 73) "_law_same"
  c78 : h.CodeRec (.ref 78) "law"

structure Names (mg mb : Str → Option Value) : Prop where
  mod : mg "__builtins__" = some (.ref 4)
  name : mg "__name__" = some pmL
  max_len : mg "max_len" = some (.ref 40)
  maximal : mg "maximal" = some (.ref 48)
  at_ : mg "_law_at" = some (.ref 55)
  raises : mg "_law_raises" = some (.ref 62)
  refused : mg "_law_refused" = some (.ref 69)
  same : mg "_law_same" = some (.ref 74)
  gone : ∀ x ∈ (["len", "range", "list", "any", "all", "zip", "max", "map", "ValueError", "iter", "tuple"] : List Str), mg x = none
  built : ∀ x ∈ (["len", "range", "list", "any", "all", "zip", "max", "map", "ValueError", "iter", "tuple"] : List Str), mb x = bootBuiltins x

/-- what stands outside the two tables and below 80 -/
def Low (h h' : Heap) : Prop := ∀ (b : Nat) o, b < 80 → b ≠ 43 → b ≠ 76 → h.get? b = some o → h'.get? b = some o
theorem Base.low {mg mb : Str → Option Value} {h h' : Heap} (B : Base mg mb h) (k : Low h h') : Base mg mb h' where
  g := B.g.at' fun o e => k mainGlobals o (by decide) (by decide) (by decide) e
  b := B.b.at' fun o e => k builtinsNs o (by decide) (by decide) (by decide) e
  nl := let ⟨mc, hn, e⟩ := B.nl; ⟨mc, hn.at' fun o e => k cStatics o (by decide) (by decide) (by decide) e, e⟩
  mod := k _ _ (by decide) (by decide) (by decide) B.mod
  d33 := let ⟨t, e⟩ := B.d33; ⟨t, k _ _ (by decide) (by decide) (by decide) e⟩
  d41 := k _ _ (by decide) (by decide) (by decide) B.d41
  f40 := k _ _ (by decide) (by decide) (by decide) B.f40
  f48 := k _ _ (by decide) (by decide) (by decide) B.f48
  f55 := k _ _ (by decide) (by decide) (by decide) B.f55
  f62 := k _ _ (by decide) (by decide) (by decide) B.f62
  f69 := k _ _ (by decide) (by decide) (by decide) B.f69
  f74 := k _ _ (by decide) (by decide) (by decide) B.f74
  f79 := k _ _ (by decide) (by decide) (by decide) B.f79
  c39 := let ⟨c, o, vs, t, e, ho, r⟩ := B.c39; ⟨c, o, vs, t, e, by cases e; exact k _ _ (by decide) (by decide) (by decide) ho, r⟩
  c47 := let ⟨c, o, vs, t, e, ho, r⟩ := B.c47; ⟨c, o, vs, t, e, by cases e; exact k _ _ (by decide) (by decide) (by decide) ho, r⟩
  c54 := let ⟨c, o, vs, t, e, ho, r⟩ := B.c54; ⟨c, o, vs, t, e, by cases e; exact k _ _ (by decide) (by decide) (by decide) ho, r⟩
  c61 := let ⟨c, o, vs, t, e, ho, r⟩ := B.c61; ⟨c, o, vs, t, e, by cases e; exact k _ _ (by decide) (by decide) (by decide) ho, r⟩
  c68 := let ⟨c, o, vs, t, e, ho, r⟩ := B.c68; ⟨c, o, vs, t, e, by cases e; exact k _ _ (by decide) (by decide) (by decide) ho, r⟩
  c73 := let ⟨c, o, vs, t, e, ho, r⟩ := B.c73; ⟨c, o, vs, t, e, by cases e; exact k _ _ (by decide) (by decide) (by decide) ho, r⟩
  c78 := let ⟨c, o, vs, t, e, ho, r⟩ := B.c78; ⟨c, o, vs, t, e, by cases e; exact k _ _ (by decide) (by decide) (by decide) ho, r⟩
theorem Base.sub {mg mb : Str → Option Value} {h h' : Heap} (B : Base mg mb h) (k : Sub h h') : Base mg mb h' := B.low fun b o _ _ _ e => k b o e
theorem Base.size {mg mb : Str → Option Value} {h : Heap} (B : Base mg mb h) : @LE.le Nat _ 80 h.objs.size := Heap.lt_size B.f79

/-- room in the depth and the C stack -/
structure Room (k : Nat) (A : Around) : Prop where
  handled : A.handled = none
  depth : A.depth ≤ 301 + k
  units : A.units ≤ 4 + 10 * k
theorem Room.in1 {k : Nat} {A : Around} (r : Room k A) : Room (k + 1) A.in1 := ⟨r.handled, Nat.le_trans r.depth (by omega), by show A.units + 1 ≤ _; have := r.units; omega⟩
theorem Room.deeper {k : Nat} {A : Around} (r : Room k A) (env : Env) : Room (k + 1) (A.deeper env) := ⟨r.handled, by show A.depth + 1 ≤ _; have := r.depth; omega, by show A.units + 3 ≤ _; have := r.units; omega⟩
theorem Room.room {k : Nat} {A : Around} (r : Room k A) (hk : k ≤ 60) : A.depth < recursionLimit := by have := r.depth; show A.depth < 1000; omega
theorem Room.line {k : Nat} {A : Around} (r : Room k A) (hk : k ≤ 60) : A.units < cLine := by have := r.units; show A.units < 9900; omega
theorem Room.mono {k k' : Nat} {A : Around} (r : Room k A) (h : k ≤ k') : Room k' A := ⟨r.handled, Nat.le_trans r.depth (by omega), Nat.le_trans r.units (by omega)⟩

section
variable {prog : Program} {w : World} {A : Around} {env : Env} {h₀ : Heap}

/-- an expression that gives a value and makes new objects at most -/
def EvV (prog : Program) (w : World) (A : Around) (env : Env) (h₀ : Heap) (e : Expr) (P : Value → Prop) : Prop :=
  ∀ s : Shared, Sub h₀ s.heap → wpAny (model prog w) A (eval e env) (fun v s' => P v ∧ Kp s s') noE s
/-- a test -/
def EvB (prog : Program) (w : World) (A : Around) (env : Env) (h₀ : Heap) (e : Expr) (b : Bool) : Prop :=
  ∀ s : Shared, Sub h₀ s.heap → wpAny (model prog w) A (isTrue e env (eval e env)) (fun c s' => c = b ∧ Kp s s') noE s
def IsI (i : Int) (v : Value) : Prop := ∃ t, v = .int i t

theorem EvV.sub {h₁ : Heap} {e : Expr} {P : Value → Prop} (x : EvV prog w A env h₀ e P) (k : Sub h₀ h₁) : EvV prog w A env h₁ e P := fun s hs => x s (k.trans hs)
theorem EvV.mono {e : Expr} {P P' : Value → Prop} (x : EvV prog w A env h₀ e P) (h : ∀ v, P v → P' v) : EvV prog w A env h₀ e P' :=
  fun s hs => wpAny_mono (x s hs) (fun v _ q => ⟨h v q.1, q.2⟩) fun _ _ q => q
/-- use in a longer walk -/
theorem EvV.go {e : Expr} {P : Value → Prop} (x : EvV prog w A env h₀ e P) {s : Shared} (hs : Sub h₀ s.heap) {Q : Value → Shared → Prop} {E : Value → Shared → Prop}
    (h : ∀ v s', P v → Kp s s' → Q v s') : wpAny (model prog w) A (eval e env) Q E s :=
  wpAny_mono (x s hs) (fun v s' q => h v s' q.1 q.2) fun _ _ q => q.elim
theorem EvB.go {e : Expr} {b : Bool} (x : EvB prog w A env h₀ e b) {s : Shared} (hs : Sub h₀ s.heap) {Q : Bool → Shared → Prop} {E : Value → Shared → Prop}
    (h : ∀ s', Kp s s' → Q b s') : wpAny (model prog w) A (isTrue e env (eval e env)) Q E s :=
  wpAny_mono (x s hs) (fun v s' q => by obtain ⟨rfl, k⟩ := q; exact h s' k) fun _ _ q => q.elim

theorem EvV.local_ {x : Str} {pos : Pos} {m : Str → Option Value} {v : Value} (hn : h₀.Ns env.locals m) (hv : m x = some v) (hk : env.scope.kind = .function := by rfl) (hl : env.kindOf x = some .local := by rfl)
    (hd : (x == ("__debug__" : Str)) = false := by decide) : EvV prog w A env h₀ (.Name x pos) (· = v) :=
  fun s hs => wpAny_Name (wpAny_loadName_local hk hl (hn.keeps hs) hv ⟨rfl, Kp.refl s⟩) hd
theorem EvV.cell {x : Str} {pos : Pos} {c : Addr} {v : Value} (hc : h₀.IsCell c (some v)) (hk : env.scope.kind = .function := by rfl) (hl : env.kindOf x = some .cell := by rfl) (he : env.cells.lookup x = some c := by rfl)
    (hd : (x == ("__debug__" : Str)) = false := by decide) : EvV prog w A env h₀ (.Name x pos) (· = v) :=
  fun s hs => wpAny_Name (wpAny_loadName_cell hk hl he (hc.keeps hs) ⟨rfl, Kp.refl s⟩) hd
theorem EvV.free {x : Str} {pos : Pos} {c : Addr} {v : Value} (hc : h₀.IsCell c (some v)) (hk : env.scope.kind = .function := by rfl) (hl : env.kindOf x = some .free := by rfl) (he : env.cells.lookup x = some c := by rfl)
    (hd : (x == ("__debug__" : Str)) = false := by decide) (hn : (x == ("__classdict__" : Str)) = false := by decide) : EvV prog w A env h₀ (.Name x pos) (· = v) :=
  fun s hs => wpAny_Name (wpAny_loadName_free hk hl he (hc.keeps hs) ⟨rfl, Kp.refl s⟩ hn) hd
theorem EvV.bound {x : Str} {pos : Pos} {v : Value} (hb : Bound env x v h₀) (hk : env.scope.kind = .function := by rfl)
    (hd : (x == ("__debug__" : Str)) = false := by decide) : EvV prog w A env h₀ (.Name x pos) (· = v) :=
  fun s hs => (hb.keeps hs).name hk ⟨rfl, Kp.refl s⟩ hd
theorem EvV.glob {mg mb : Str → Option Value} {x : Str} {pos : Pos} {v : Value} (B : Base mg mb h₀) (hv : mg x = some v) (hk : env.scope.kind = .function := by rfl) (hl : env.kindOf x = some .globalImplicit := by rfl)
    (hg : env.globals = mainGlobals := by rfl) (hd : (x == ("__debug__" : Str)) = false := by decide) : EvV prog w A env h₀ (.Name x pos) (· = v) :=
  fun s hs => Calls.Name_function_global hk hl (Calls.loadGlobal_global (by rw [hg]; exact B.g.keeps hs) hv ⟨rfl, Kp.refl s⟩) hd
theorem EvV.boot {mg mb : Str → Option Value} {x : Str} {pos : Pos} {v : Value} (B : Base mg mb h₀) (N : Names mg mb) (hx : x ∈ (["len", "range", "list", "any", "all", "zip", "max", "map", "ValueError", "iter", "tuple"] : List Str))
    (hv : bootBuiltins x = some v) (hk : env.scope.kind = .function := by rfl) (hl : env.kindOf x = some .globalImplicit := by rfl)
    (hg : env.globals = mainGlobals := by rfl) (hb : env.builtins = builtinsNs := by rfl) (hd : (x == ("__debug__" : Str)) = false := by decide) : EvV prog w A env h₀ (.Name x pos) (· = v) :=
  fun s hs => Calls.Name_function_global hk hl (Calls.loadGlobal_builtin (by rw [hg]; exact B.g.keeps hs) (N.gone x hx) (by rw [hb]; exact B.b.keeps hs) (by rw [N.built x hx]; exact hv) ⟨rfl, Kp.refl s⟩) hd

theorem EvV.int {i : Int} {k : Nat} {pos : Pos} : EvV prog w A env h₀ (.Constant (.int i) k pos) (IsI i) := fun _ _ => wpAny_Constant_int ⟨⟨_, rfl⟩, Kp.tok⟩

theorem EvV.bin {op : Operator} {l r : Expr} {pos : Pos} {P₁ P₂ P : Value → Prop} (x : EvV prog w A env h₀ l P₁) (y : EvV prog w A env h₀ r P₂)
    (h : ∀ a b s, P₁ a → P₂ b → wpAny (model prog w) A (binaryOp op a b) (fun v s' => P v ∧ Kp s s') noE s) : EvV prog w A env h₀ (.BinOp l op r pos) P := fun _ hs =>
  wpAny_BinOp (x.go hs fun a _ ha ka => y.go (hs.trans ka.sub) fun b s₂ hb kb => wpAny_mono (h a b s₂ ha hb) (fun _ _ q => ⟨q.1, (ka.trans kb).trans q.2⟩) fun _ _ q => q)
theorem EvV.add {l r : Expr} {pos : Pos} {a b : Int} (x : EvV prog w A env h₀ l (IsI a)) (y : EvV prog w A env h₀ r (IsI b)) : EvV prog w A env h₀ (.BinOp l .Add r pos) (IsI (a + b)) :=
  x.bin y fun _ _ _ ⟨_, e₁⟩ ⟨_, e₂⟩ => by subst e₁ e₂; exact add_int ⟨⟨_, rfl⟩, Kp.tok⟩
theorem EvV.subI {l r : Expr} {pos : Pos} {a b : Int} (x : EvV prog w A env h₀ l (IsI a)) (y : EvV prog w A env h₀ r (IsI b)) : EvV prog w A env h₀ (.BinOp l .Sub r pos) (IsI (a - b)) :=
  x.bin y fun _ _ _ ⟨_, e₁⟩ ⟨_, e₂⟩ => by subst e₁ e₂; exact sub_int ⟨⟨_, rfl⟩, Kp.tok⟩
theorem EvV.mod {l r : Expr} {pos : Pos} {a b : Int} (hb : b ≠ 0) (x : EvV prog w A env h₀ l (IsI a)) (y : EvV prog w A env h₀ r (IsI b)) : EvV prog w A env h₀ (.BinOp l .Mod r pos) (IsI (a.fmod b)) :=
  x.bin y fun _ _ _ ⟨_, e₁⟩ ⟨_, e₂⟩ => by subst e₁ e₂; exact mod_int hb ⟨⟨_, rfl⟩, Kp.tok⟩
theorem EvV.xor {l r : Expr} {pos : Pos} {a b : Int} (x : EvV prog w A env h₀ l (IsI a)) (y : EvV prog w A env h₀ r (IsI b)) : EvV prog w A env h₀ (.BinOp l .BitXor r pos) (IsI (Builtin.bitXor a b)) :=
  x.bin y fun _ _ _ ⟨_, e₁⟩ ⟨_, e₂⟩ => by subst e₁ e₂; exact xor_int ⟨⟨_, rfl⟩, Kp.tok⟩
theorem EvV.band {l r : Expr} {pos : Pos} {a b : Int} (x : EvV prog w A env h₀ l (IsI a)) (y : EvV prog w A env h₀ r (IsI b)) : EvV prog w A env h₀ (.BinOp l .BitAnd r pos) (IsI (Builtin.bitAnd a b)) :=
  x.bin y fun _ _ _ ⟨_, e₁⟩ ⟨_, e₂⟩ => by subst e₁ e₂; exact and_int ⟨⟨_, rfl⟩, Kp.tok⟩
theorem EvV.shr {l r : Expr} {pos : Pos} {a b : Int} (hb : 0 ≤ b) (x : EvV prog w A env h₀ l (IsI a)) (y : EvV prog w A env h₀ r (IsI b)) : EvV prog w A env h₀ (.BinOp l .RShift r pos) (IsI (a.fdiv (2 ^ b.toNat))) :=
  x.bin y fun _ _ _ ⟨_, e₁⟩ ⟨_, e₂⟩ => by subst e₁ e₂; exact rshift_int hb ⟨⟨_, rfl⟩, Kp.tok⟩

theorem EvV.cmp {op : CmpOp} {l r : Expr} {pos : Pos} {P₁ P₂ P : Value → Prop} (x : EvV prog w A env h₀ l P₁) (y : EvV prog w A env h₀ r P₂)
    (h : ∀ a b s, Sub h₀ s.heap → P₁ a → P₂ b → wpAny (model prog w) A (compareOp op a b) (fun v s' => P v ∧ Kp s s') noE s) (hm : behindInMarks op r = false := by with_unfolding_all rfl) : EvV prog w A env h₀ (.Compare l [op] [r] pos) P := fun _ hs =>
  wpAny_Compare1 (x.go hs fun a _ ha ka => y.go (hs.trans ka.sub) fun b s₂ hb kb => wpAny_mono (h a b s₂ ((hs.trans ka.sub).trans kb.sub) ha hb) (fun _ _ q => ⟨q.1, (ka.trans kb).trans q.2⟩) fun _ _ q => q) hm
theorem EvB.cmp {op : CmpOp} {l r : Expr} {pos : Pos} {P₁ P₂ : Value → Prop} {c : Bool} (x : EvV prog w A env h₀ l P₁) (y : EvV prog w A env h₀ r P₂)
    (h : ∀ a b s, Sub h₀ s.heap → P₁ a → P₂ b → wpAny (model prog w) A (compareOp op a b) (fun v s' => v = .bool c ∧ Kp s s') noE s) (hm : behindInMarks op r = false := by with_unfolding_all rfl) : EvB prog w A env h₀ (.Compare l [op] [r] pos) c := fun _ hs =>
  wpAny_isTrue_Compare1 (x.go hs fun a _ ha ka => y.go (hs.trans ka.sub) fun b s₂ hb kb => wpAny_mono (h a b s₂ ((hs.trans ka.sub).trans kb.sub) ha hb) (fun v _ q => by obtain ⟨rfl, k⟩ := q; exact wpAny_truthy_bool ⟨rfl, (ka.trans kb).trans k⟩) fun _ _ q => q) hm

theorem EvV.eqI {l r : Expr} {pos : Pos} {a b : Int} (x : EvV prog w A env h₀ l (IsI a)) (y : EvV prog w A env h₀ r (IsI b)) (hm : behindInMarks .Eq r = false := by with_unfolding_all rfl) : EvV prog w A env h₀ (.Compare l [.Eq] [r] pos) (· = .bool (a == b)) :=
  x.cmp y (fun _ _ _ _ ⟨_, e₁⟩ ⟨_, e₂⟩ => by subst e₁ e₂; exact eq_int ⟨rfl, Kp.refl _⟩) hm
theorem EvB.eqI {l r : Expr} {pos : Pos} {a b : Int} (x : EvV prog w A env h₀ l (IsI a)) (y : EvV prog w A env h₀ r (IsI b)) (hm : behindInMarks .Eq r = false := by with_unfolding_all rfl) : EvB prog w A env h₀ (.Compare l [.Eq] [r] pos) (a == b) :=
  EvB.cmp x y (fun _ _ _ _ ⟨_, e₁⟩ ⟨_, e₂⟩ => by subst e₁ e₂; exact eq_int ⟨rfl, Kp.refl _⟩) hm
theorem EvB.neI {l r : Expr} {pos : Pos} {a b : Int} (x : EvV prog w A env h₀ l (IsI a)) (y : EvV prog w A env h₀ r (IsI b)) (hm : behindInMarks .NotEq r = false := by with_unfolding_all rfl) : EvB prog w A env h₀ (.Compare l [.NotEq] [r] pos) (a != b) :=
  EvB.cmp x y (fun _ _ _ _ ⟨_, e₁⟩ ⟨_, e₂⟩ => by subst e₁ e₂; exact ne_int ⟨rfl, Kp.refl _⟩) hm
theorem EvB.ltI {l r : Expr} {pos : Pos} {a b : Int} (x : EvV prog w A env h₀ l (IsI a)) (y : EvV prog w A env h₀ r (IsI b)) (hm : behindInMarks .Lt r = false := by with_unfolding_all rfl) : EvB prog w A env h₀ (.Compare l [.Lt] [r] pos) (decide (a < b)) :=
  EvB.cmp x y (fun _ _ _ _ ⟨_, e₁⟩ ⟨_, e₂⟩ => by subst e₁ e₂; exact lt_int ⟨rfl, Kp.refl _⟩) hm
theorem EvB.gtI {l r : Expr} {pos : Pos} {a b : Int} (x : EvV prog w A env h₀ l (IsI a)) (y : EvV prog w A env h₀ r (IsI b)) (hm : behindInMarks .Gt r = false := by with_unfolding_all rfl) : EvB prog w A env h₀ (.Compare l [.Gt] [r] pos) (decide (b < a)) :=
  EvB.cmp x y (fun _ _ _ _ ⟨_, e₁⟩ ⟨_, e₂⟩ => by subst e₁ e₂; exact gt_int ⟨rfl, Kp.refl _⟩) hm

/-- an item of a list at an index in bounds -/
theorem EvV.item {e i : Expr} {pos : Pos} {l : Addr} {its : Array Value} {k : Int} {v : Value} (x : EvV prog w A env h₀ e (· = .ref l)) (y : EvV prog w A env h₀ i (IsI k)) (hl : h₀.IsList l its) (h0 : 0 ≤ k) (hk : k < 2 ^ 63) (hv : its[k.toNat]? = some v)
    (hs : ∀ t, subscripted i false (.ref l) (.int k t) = operate [.ref l, .int k t] (getItem (.ref l) (.int k t)) := by intro _; with_unfolding_all rfl) :
    EvV prog w A env h₀ (.Subscript e i pos) (· = v) := fun _ hs' =>
  Subscript_ (x.go hs' fun a _ ha ka => y.go (hs'.trans ka.sub) fun b s₂ hb kb => by
    obtain ⟨t, rfl⟩ := hb
    subst ha
    have hl' : s₂.heap.IsList l its := hl.at fun o e => kb.sub _ _ (ka.sub _ _ (hs' _ _ e))
    exact tail_any hl'.typeIs slot_list_getitem.lookup (wpAny_getItem_list hl' h0 hk hv ⟨rfl, ka.trans kb⟩) (hs t))

theorem EvB.plain {e : Expr} {P : Value → Prop} {b : Bool} (x : EvV prog w A env h₀ e P) (h : ∀ v s, Sub h₀ s.heap → P v → wpAny (model prog w) A (truthy v) (fun c s' => c = b ∧ Kp s s') noE s)
    (he : ∀ whole, isTrue e env whole = (do let v ← whole; standAt e.pos; holding [v] (truthy v)) := by intro _; rfl) : EvB prog w A env h₀ e b := fun _ hs =>
  isTrue_plain (x.go hs fun v s₁ hv k => wpAny_mono (h v s₁ (hs.trans k.sub) hv) (fun _ _ q => ⟨q.1, k.trans q.2⟩) fun _ _ q => q) (he _)
theorem EvB.bool {e : Expr} {b : Bool} (x : EvV prog w A env h₀ e (· = .bool b))
    (he : ∀ whole, isTrue e env whole = (do let v ← whole; standAt e.pos; holding [v] (truthy v)) := by intro _; rfl) : EvB prog w A env h₀ e b :=
  EvB.plain x (fun v _ _ hv => by subst hv; exact wpAny_truthy_bool ⟨rfl, Kp.refl _⟩) he
theorem EvB.not {e : Expr} {pos : Pos} {b : Bool} (x : EvB prog w A env h₀ e b) : EvB prog w A env h₀ (.UnaryOp .Not e pos) (!b) := fun _ hs =>
  isTrue_not (x.go hs fun _ k => ⟨rfl, k⟩)
theorem EvV.ite {t a b : Expr} {pos : Pos} {c : Bool} {P : Value → Prop} (x : EvB prog w A env h₀ t c) (ha : c = true → EvV prog w A env h₀ a P) (hb : c = false → EvV prog w A env h₀ b P) : EvV prog w A env h₀ (.IfExp t a b pos) P := fun _ hs =>
  IfExp_ (x.go hs fun _ k => by
    cases c with
    | true => exact (ha rfl).go (hs.trans k.sub) fun _ _ q k' => ⟨q, k.trans k'⟩
    | false => exact (hb rfl).go (hs.trans k.sub) fun _ _ q k' => ⟨q, k.trans k'⟩)
end
end Mine

namespace Mine

section
variable {prog : Program} {w : World} {A : Around} {env : Env} {h₀ : Heap} {mg mb : Str → Option Value}

/-- len of a list -/
theorem EvV.lenList {p pos : Pos} {e : Expr} {l : Addr} {its : Array Value} (B : Base mg mb h₀) (N : Names mg mb) (x : EvV prog w A env h₀ e (· = .ref l)) (hl : h₀.IsList l its) (hs : (its.size : Int) < 2 ^ 63)
    (hk : env.scope.kind = .function := by rfl) (hn : env.kindOf "len" = some .globalImplicit := by rfl)
    (hg : env.globals = mainGlobals := by rfl) (hb : env.builtins = builtinsNs := by rfl) (he : starEach [e] env = [(false, eval e env)] := by rfl) :
    EvV prog w A env h₀ (.Call (.Name "len" p) [e] [] pos) (IsI its.size) := fun s hs' =>
  Call_Name1 ((EvV.boot B N (by decide) (by first | rfl | decide +kernel) hk hn hg hb).go hs' fun f s₁ hf k₁ => by
    subst hf
    refine Calls.callWith_builtin rfl (Calls.evalArgs_plain (Calls.spliced_cons (x.go (hs'.trans k₁.sub) fun v s₂ hv k₂ => Calls.spliced_nil ?_)))
    subst hv
    refine Calls.call_len_list (hl.at fun o e => k₂.sub _ _ (k₁.sub _ _ (hs' _ _ e))) hs ⟨⟨_, rfl⟩, (k₁.trans k₂).trans Kp.tok⟩) he

/-- a plain def of the text called; nothing comes out but a value -/
theorem call_fn {fd : FuncData} {body : List Stmt} {a : Addr} {args : Args} {binds : List (Str × Value)} {o : Obj} {s : Shared} {Q : Value → Shared → Prop} {k : Nat} (hA : Room k A) (hk : k ≤ 59) (nl : s.heap.NoLimit)
    (ho : s.heap.get? a = some o) (hd : o.data = .func fd) (hcd : s.heap.CodeRec fd.code fd.qualname) (hbody : fd.body = .stmts body) (hbind : BindsTo s fd args binds)
    (hcell : ∀ x ∈ fd.scope.names, x.2 ≠ .cell) (hloc : ∀ x ∈ binds, fd.scope.names.lookup x.1 = some .local)
    (h : ∀ h₁ tk, h₁.Ns s.heap.objs.size (fun x => binds.reverse.lookup x) → Sub s.heap h₁ →
      wpAny (model prog w) (A.deeper (callEnv fd s.heap.objs.size a)) (execs body (callEnv fd s.heap.objs.size a)) (fun f s' => Q (match f with | .ret v => v | _ => .none) s') noE { s with heap := h₁, toks := tk })
    (hco : fd.scope.isCoroutine = false := by rfl) (hgen : fd.scope.isGenerator = false := by rfl) (hkd : fd.scope.kind = .function := by rfl) :
    wpAny (model prog w) A (call (.ref a) args.pos args.kw) Q noE s :=
  wpAny_call (codeAny_call_def (hA.room (by omega)) ho hd nl hcd hbody hbind hcell hloc (fun h₁ hn hs =>
    wpAny_mono (h h₁ _ hn hs) (fun f s' q => q) fun _ _ q => q.elim) hco hgen hkd)

def cel (ns : List Int) (i : Int) : Int := ns.getD i.toNat 0

theorem ia_get {vs : List Value} {ns : List Int} (h : IntsAre vs ns) : ∀ (i : Nat) (n : Int), ns[i]? = some n → ∃ t, vs[i]? = some (Value.int n t) := by
  induction h with
  | nil => intro i n e; simp at e
  | cons m t _ ih =>
    intro i n e
    cases i with
    | zero => simp at e; subst e; exact ⟨t, rfl⟩
    | succ j => exact ih j n (by simpa using e)

theorem spec_at {k : Nat} (hA : Room k A) (hk : k ≤ 50) {s : Shared} (B : Base mg mb s.heap) (N : Names mg mb) {l : Addr} {vs : List Value} {ns : List Int} (hl : s.heap.IsList l vs.toArray) (hi : IntsAre vs ns) (hn : ns.length ≤ 63)
    {i : Int} {t : Tok} (h0 : 0 ≤ i) : wpAny (model prog w) A (call (.ref 55) [.ref l, .int i t]) (fun v s' => IsI (cel ns i) v ∧ Kp s s') noE s := by
  have hlen : vs.length = ns.length := hi.length
  refine call_fn (args := ⟨[.ref l, .int i t], []⟩) (fd := fdOf (stm 5) .none pmL (.ref 54)) (binds := [("script", .ref l), ("place", .int i t)]) hA (by omega) B.nl B.f55 rfl B.c54 rfl (BindsTo.of_eq rfl) (by decide) (locs rfl) (fun h₁ tk hns hsub => ?_)
  have hB := B.sub hsub
  have hl₁ : h₁.IsList l vs.toArray := hl.at fun o e => hsub _ _ e
  refine wpAny_execs_cons (wpAny_Return_some ?_)
  refine EvV.go (h₀ := h₁) (P := IsI (cel ns i)) ?_ (Sub.refl _) (fun v s' hv k => ⟨hv, (Kp.mk hsub).trans k⟩)
  refine EvV.ite (EvB.ltI ((EvV.local_ hns (v := .int i t) rfl).mono fun v hv => ⟨t, hv⟩) (EvV.lenList hB N (EvV.local_ hns (v := .ref l) rfl) hl₁ (by rw [List.size_toArray]; omega))) (fun hc => ?_) fun hc => ?_
  · have hlt : i < vs.toArray.size := of_decide_eq_true hc
    rw [List.size_toArray] at hlt
    obtain ⟨n, hn'⟩ : ∃ n, ns[i.toNat]? = some n := by
      refine ⟨ns[i.toNat]'(by omega), List.getElem?_eq_getElem _⟩
    obtain ⟨t', ht'⟩ := ia_get hi _ _ hn'
    refine (EvV.item (EvV.local_ hns (v := .ref l) rfl) ((EvV.local_ hns (v := .int i t) rfl).mono fun v hv => ⟨t, hv⟩) hl₁ h0 (by omega) (v := .int n t') (by simpa using ht')).mono fun v hv => ⟨t', ?_⟩
    rw [hv]; simp [cel, List.getD_eq_getElem?_getD, hn']
  · have hge : ¬ i < vs.toArray.size := of_decide_eq_false hc
    rw [List.size_toArray] at hge
    refine EvV.int.mono fun v hv => ?_
    have : cel ns i = 0 := by
      unfold cel
      rw [List.getD_eq_getElem?_getD, List.getElem?_eq_none (by omega)]; rfl
    rw [this]; exact hv
end
end Mine

namespace Mine

def fdL : FuncData := fdOf (stm 9) .none pmL (.ref 78)
def eL (L : Addr) : Env := callEnvC fdL L 79
def bodyL : List Stmt := match stm 9 with | .FunctionDef _ _ b .. => b | _ => []
def lst (i : Nat) : Stmt := bodyL.getD i (.Pass default)

/-- changes at W at most (and new objects) -/
def Kw (W : List Addr) (s s' : Shared) : Prop := ∃ h' tk, s' = { s with heap := h', toks := tk } ∧ ∀ b o, b ∉ W → s.heap.get? b = some o → h'.get? b = some o
theorem Kp.w {s s' : Shared} (x : Kp s s') (W : List Addr) : Kw W s s' := by obtain ⟨h', tk, rfl, hk⟩ := x; exact ⟨h', tk, rfl, fun b o _ e => hk b o e⟩
theorem Kw.keep {W : List Addr} {s s' : Shared} (x : Kw W s s') : ∀ b o, b ∉ W → s.heap.get? b = some o → s'.heap.get? b = some o := by obtain ⟨h', tk, rfl, hk⟩ := x; exact hk
theorem Kw.gens {W : List Addr} {s s' : Shared} (x : Kw W s s') : s'.gens = s.gens := by obtain ⟨h', tk, rfl, hk⟩ := x; rfl
theorem Kw.refl (W : List Addr) (s : Shared) : Kw W s s := ⟨s.heap, s.toks, rfl, fun _ _ _ e => e⟩
theorem Kw.trans {W : List Addr} {a b c : Shared} (x : Kw W a b) (y : Kw W b c) : Kw W a c := by
  obtain ⟨h, tk, rfl, hk⟩ := x
  obtain ⟨h', tk', rfl, hk'⟩ := y
  exact ⟨h', tk', rfl, fun b o hb e => hk' b o hb (hk b o hb e)⟩
theorem Kw.mk {W : List Addr} {s : Shared} {h' : Heap} {tk : Tok} (hk : ∀ b o, b ∉ W → s.heap.get? b = some o → h'.get? b = some o) : Kw W s { s with heap := h', toks := tk } := ⟨h', tk, rfl, hk⟩

section
variable {prog : Program} {w : World} {A : Around} {env : Env} {h₀ : Heap} {mg mb : Str → Option Value}

theorem EvV.at {p pos : Pos} {sc e : Expr} {l : Addr} {vs : List Value} {ns : List Int} {i : Int} {k : Nat} (hA : Room k A) (hk' : k ≤ 50) (B : Base mg mb h₀) (N : Names mg mb)
    (hl : h₀.IsList l vs.toArray) (hi : IntsAre vs ns) (hn : ns.length ≤ 63) (x : EvV prog w A env h₀ sc (· = .ref l)) (y : EvV prog w A env h₀ e (IsI i)) (h0 : 0 ≤ i)
    (hk : env.scope.kind = .function := by rfl) (hn' : env.kindOf "_law_at" = some .globalImplicit := by rfl)
    (hg : env.globals = mainGlobals := by rfl) (he : starEach [sc, e] env = [(false, eval sc env), (false, eval e env)] := by rfl) :
    EvV prog w A env h₀ (.Call (.Name "_law_at" p) [sc, e] [] pos) (IsI (cel ns i)) := fun s hs =>
  Call_Name2 ((EvV.glob B N.at_ hk hn' hg).go hs fun f s₁ hf k₁ => by
    subst hf
    refine Calls.callWith_function (o := fobj (stm 5) .none pmL (.ref 54)) (fd := fdOf (stm 5) .none pmL (.ref 54)) (Calls.evalArgs_plain (Calls.spliced_cons (x.go (hs.trans k₁.sub) fun v s₂ hv k₂ => Calls.spliced_cons (y.go ((hs.trans k₁.sub).trans k₂.sub) fun u s₃ hu k₃ => Calls.spliced_nil ?_))))
    subst hv
    obtain ⟨t, rfl⟩ := hu
    have hs₃ := ((hs.trans k₁.sub).trans k₂.sub).trans k₃.sub
    refine ⟨⟨(B.sub hs₃).f55, rfl⟩, ?_⟩
    exact wpAny_mono (spec_at hA hk' (B.sub hs₃) N (hl.at fun o e => hs₃ _ _ e) hi hn h0) (fun v s' q => ⟨q.1, ((k₁.trans k₂).trans k₃).trans q.2⟩) fun _ _ q => q) he

/-- a store into a cell of law's frame -/
theorem st_cell {x : Str} {L : Addr} {c : Addr} {v₀ : Option Value} {v : Value} {s : Shared} (hv : s.heap.IsCell c v₀)
    (hl : (eL L).kindOf x = some .cell := by rfl) (hc : (eL L).cells.lookup x = some c := by rfl) :
    wpAny (model prog w) A (storeName (eL L) x v) (fun _ s' => s'.heap.IsCell c (some v) ∧ Kw [c] s s') noE s :=
  wpAny_storeName_cell rfl hl hc hv fun h' hc' hs' => ⟨hc', Kw.mk fun b o hb e => hs'.extBut b o (by simpa using hb) e⟩

theorem asg_cell {x : Str} {pos' pos : Pos} {value : Expr} {L : Addr} {c : Addr} {v₀ : Option Value} {P : Value → Prop} {s : Shared} (hv : s.heap.IsCell c v₀) (y : EvV prog w A (eL L) s.heap value P)
    (hs : swapsWith value (some (.Name x pos')) pos.line (eL L) = pure false := by rfl)
    (hl : (eL L).kindOf x = some .cell := by rfl) (hc : (eL L).cells.lookup x = some c := by rfl) :
    wpAny (model prog w) A (exec (.Assign [.Name x pos'] value pos) (eL L)) (fun f s' => f = .next ∧ (∃ v, P v ∧ s'.heap.IsCell c (some v)) ∧ Kw [c] s s') noE s :=
  wpAny_Assign_Name (y.go (Sub.refl _) fun v s₁ hp k₁ => wpAny_mono (st_cell (hv.keeps k₁.sub) hl hc) (fun _ s₂ q => ⟨rfl, ⟨v, hp, q.1⟩, (k₁.w _).trans q.2⟩) fun _ _ q => q) hs

def szv (ns : List Int) : Int := 1 + (cel ns 0 + 3).fmod 6
theorem szv_pos (ns : List Int) : 1 ≤ szv ns ∧ szv ns ≤ 6 := by
  unfold szv
  have h1 := Int.fmod_nonneg_of_pos (a := cel ns 0 + 3) (b := 6) (by decide)
  have h2 := Int.fmod_lt_of_pos (a := cel ns 0 + 3) (b := 6) (by decide)
  omega

theorem s_size {k : Nat} (hA : Room k A) (hk : k ≤ 30) {L l : Addr} {vs : List Value} {ns : List Int} {s : Shared} (B : Base mg mb s.heap) (N : Names mg mb)
    (hsc : s.heap.IsCell (L + 1) (some (.ref l))) (hl : s.heap.IsList l vs.toArray) (hi : IntsAre vs ns) (hn : ns.length ≤ 63) {v₀ : Option Value} (hv : s.heap.IsCell (L + 2) v₀) :
    wpAny (model prog w) A (exec (lst 0) (eL L)) (fun f s' => f = .next ∧ (∃ v, IsI (szv ns) v ∧ s'.heap.IsCell (L + 2) (some v)) ∧ Kw [L + 2] s s') noE s := by
  refine asg_cell hv ?_
  exact EvV.add EvV.int (EvV.mod (by decide) (EvV.add (EvV.at hA (by omega) B N hl hi hn (EvV.cell hsc) EvV.int (by decide)) EvV.int) EvV.int)

end
end Mine

namespace Mine

section
variable {prog : Program} {w : World} {A : Around} {env : Env} {h₀ : Heap} {mg mb : Str → Option Value}

theorem none_of_lt {h : Heap} {D : Nat} (x : ∀ (b : Nat) o, h.get? b = some o → b < D) : h.get? D = none := by
  cases q : h.get? D with
  | none => rfl
  | some o => exact absurd (x _ _ q) (Nat.lt_irrefl _)
theorem get_none {h : Heap} {a : Nat} (ha : @LE.le Nat _ h.objs.size a) : h.get? a = none := Heap.get?_none_of_le ha

/-- range(e) and its iterator -/
theorem range_src {k : Nat} (hA : Room k A) {p pos : Pos} {e : Expr} {s : Shared} {n : Nat} (B : Base mg mb s.heap) (N : Names mg mb) (hn : n ≤ 1000) (y : EvV prog w A env s.heap e (IsI (n : Int)))
    (hk : env.scope.kind = .function := by rfl) (hr : env.kindOf "range" = some .globalImplicit := by rfl)
    (hg : env.globals = mainGlobals := by rfl) (hb : env.builtins = builtinsNs := by rfl) (hst : starEach [e] env = [(false, eval e env)] := by rfl) :
    wpAny (model prog w) A (eval (.Call (.Name "range" p) [e] [] pos) env) (fun xv s₁ => wpAny (model prog w) A (pyIter xv) (fun it s₂ => ∃ I, it = .ref I ∧ Kp s s₂ ∧ IsRangeIter s₂.heap I 0 n 1 ∧ s.heap.get? I = none) noE s₁) noE s := by
  refine Call_Name1 ((EvV.boot (v := .type "range") B N (by decide) (by first | rfl | decide +kernel) hk hr hg hb).go (Sub.refl _) fun f s₁ hf k₁ => ?_) hst
  subst hf
  refine PyProof.Rows.callWith_type rfl (Calls.evalArgs_plain (Calls.spliced_cons (y.go k₁.sub fun v s₂ hv k₂ => Calls.spliced_nil ?_)))
  obtain ⟨t, rfl⟩ := hv
  refine call_range_1 ?_
  have hR : IsRange (s₂.heap.push { cls := .type "range", data := .fields #[.int 0 s₂.toks, .int n t, .int 1 (s₂.toks + 1)] }) s₂.heap.objs.size 0 n 1 s₂.toks t (s₂.toks + 1) := IsRange.new ..
  have h12 := k₁.trans k₂
  refine wpAny_pyIter_range hR (small_one (by omega) (by omega) (by omega) (by omega)) ?_
  have hk₃ : Kp s₂ { s₂ with heap := s₂.heap.push { cls := .type "range", data := .fields #[.int 0 s₂.toks, .int n t, .int 1 (s₂.toks + 1)] }, toks := s₂.toks + 1 + 1 } := Kp.mk fun b o e => Heap.get?_push_of_some _ e
  refine ⟨_, rfl, (h12.trans hk₃).trans (Kp.mk fun b o e => Heap.get?_push_of_some _ e), ?_, ?_⟩
  · have hsz : Builtin.Range.rangeSize 0 n 1 = n := by rw [rangeSize_one]; split <;> omega
    rw [hsz]
    exact Heap.get?_push_size _ rfl
  · cases q : s.heap.get? (s₂.heap.push { cls := .type "range", data := .fields #[.int 0 s₂.toks, .int n t, .int 1 (s₂.toks + 1)] }).objs.size with
    | none => rfl
    | some o => exact absurd (Heap.lt_size ((h12.trans hk₃).sub _ _ q)) (Nat.lt_irrefl _)

/-- a list and its iterator -/
theorem list_src {e : Expr} {s : Shared} {l : Addr} {its : Array Value} (y : EvV prog w A env s.heap e (· = .ref l)) (hl : s.heap.IsList l its) :
    wpAny (model prog w) A (eval e env) (fun xv s₁ => wpAny (model prog w) A (pyIter xv) (fun it s₂ => ∃ I, it = .ref I ∧ Kp s s₂ ∧ s₂.heap.IsListIter I l 0 ∧ s.heap.get? I = none) noE s₁) noE s := by
  refine y.go (Sub.refl _) fun v s₁ hv k₁ => ?_
  subst hv
  refine wpAny_pyIter_list (hl.at fun o e => k₁.sub _ _ e) ?_
  refine ⟨_, rfl, k₁.trans (Kp.mk fun b o e => Heap.get?_push_of_some _ e), ⟨_, Heap.get?_push_size _ rfl, rfl, rfl⟩, ?_⟩
  cases q : s.heap.get? s₁.heap.objs.size with
  | none => rfl
  | some o => exact absurd (Heap.lt_size (k₁.sub _ _ q)) (Nat.lt_irrefl _)

def CE (own : Bool) (scope : Scope) (cl : List (Str × Addr)) (x : Str) (env : Env) (n₂ : Nat) : Env := compEnvC scope (compCells own x cl n₂) (n₂ + 1) env

theorem bound_cell {scope : Scope} {cl : List (Str × Addr)} {x : Str} {n₂ : Nat} {v : Value} {h : Heap} (hb : Bound (CE true scope cl x env n₂) x v h) (hk : (CE true scope cl x env n₂).kindOf x = some .cell := by rfl) : h.IsCell (n₂ + 2) (some v) := by
  rcases hb with ⟨h1, _⟩ | ⟨_, c, h2, h3⟩
  · rw [hk] at h1; cases h1
  · have h4 : (CE true scope cl x env n₂).cells.lookup x = some (n₂ + 2) := by simp [CE, compEnvC, compCells]
    have hc : c = n₂ + 2 := Option.some.inj (h2.symm.trans h4)
    exact hc ▸ h3

/-- what a comprehension's user shows: T holds of what is made so far; N₀ bounds the comprehension's own objects -/
structure TurnOk (prog : Program) (w : World) (A : Around) (own : Bool) (env : Env) (scope : Scope) (cl : List (Str × Addr)) (x : Str) (ifs : List Expr) (elt : Expr) (n : Nat) (P : Nat → Value → Prop) (h : Heap)
    (T : Nat → Nat → List Value → Heap → Prop) : Prop where
  zero : ∀ N₀ h, T N₀ 0 [] h
  stable : ∀ N₀ i ys h h', T N₀ i ys h → (∀ (b : Nat) o, N₀ ≤ b → h.get? b = some o → h'.get? b = some o) → T N₀ i ys h'
  turn : ∀ (n₂ N₀ i : Nat) v ys (s' : Shared), i < n → P i v → T N₀ i ys s'.heap → ys.length ≤ i → Bound (CE own scope cl x env n₂) x v s'.heap → Sub h s'.heap → (0 < N₀ ∧ ∃ o, s'.heap.get? (N₀ - 1) = some o) →
    Turn prog w A (CE own scope cl x env n₂) ifs elt (T N₀ (i + 1)) ys s'

theorem TurnOk.use {own : Bool} {scope : Scope} {cl : List (Str × Addr)} {x : Str} {ifs : List Expr} {elt : Expr} {n : Nat} {P : Nat → Value → Prop} {T : Nat → Nat → List Value → Heap → Prop} {s s₂ : Shared} {I : Addr} {fp : List Nat} {St : Nat → Heap → Prop}
    (K : TurnOk prog w A own env scope cl x ifs elt n P s.heap T) (k : Kp s s₂) (hI : s.heap.get? I = none) (W : Walks prog w A I fp [I] n P St) (hn : n ≤ sizeLine) (hst : St 0 s₂.heap) (hfp : ∀ b ∈ fp, b < s₂.heap.objs.size) :
    CompUse prog w A own env scope cl x ifs elt I fp [I] n P St (T (s₂.heap.objs.size + ownN own)) s₂ where
  W := W
  size := hn
  st := hst
  low := hfp
  stable := K.stable _
  zero := K.zero _
  turn := fun i v ys s' hi hP hT hl hb hk hsz _ => K.turn s₂.heap.objs.size _ i v ys s' hi hP hT hl hb (fun b o e => hk b o (fun hm => by
    rw [List.mem_singleton.mp hm, hI] at e; cases e) (k.sub b o e)) ⟨by cases own <;> simp [ownN], hsz⟩

def Src (prog : Program) (w : World) (A : Around) (env : Env) (iter : Expr) (n : Nat) (P : Nat → Value → Prop) (fp : List Nat) (s : Shared) : Prop :=
  wpAny (model prog w) A (eval iter env) (fun xv s₁ => wpAny (model prog w) A (pyIter xv) (fun it s₂ => ∃ I : Nat, ∃ St, it = .ref I ∧ Kp s s₂ ∧ s.heap.get? I = none ∧ Walks prog w A I (I :: fp) [I] n P St ∧ St 0 s₂.heap ∧ ∀ b ∈ I :: fp, b < s₂.heap.objs.size) noE s₁) noE s

/-- a comprehension as a value -/
theorem lc_val {own : Bool} {elt iter : Expr} {x : Str} {px : Pos} {ifs : List Expr} {scope : Scope} {cl : List (Str × Addr)} {pos : Pos} {s : Shared} {n : Nat} {P : Nat → Value → Prop} {T : Nat → Nat → List Value → Heap → Prop}
    (hclos : closureFor scope env = pure cl) (S : CompShape own x scope cl) (K : TurnOk prog w A own env scope cl x ifs elt n P s.heap T) (hn : n ≤ sizeLine)
    {fp : List Nat} (src : Src prog w A env iter n P fp s)
    (hs : ∀ x, foldedSetIterable iter env x = pure x := by intro _; rfl) :
    wpAny (model prog w) A (eval (.ListComp elt [⟨.Name x px, iter, ifs, 0⟩] scope pos) env) (fun v s' => ∃ (D N₀ : Nat) (ys : Array Value), v = .ref D ∧ (∀ (b : Nat) o, s.heap.get? b = some o → b < D) ∧ D < N₀ ∧ s'.heap.PlainList D ys ∧ T N₀ n ys.toList s'.heap ∧ ys.size ≤ n ∧ Kp s s') noE s := by
  refine lc_eval hclos S (wpAny_mono src (fun xv s₁ h₁ => wpAny_mono h₁ (fun it s₂ h₂ => ?_) fun _ _ e => e) fun _ _ e => e) hs
  obtain ⟨I, St, rfl, k, hI, W, hst, hfp⟩ := h₂
  refine ⟨I, I :: fp, [I], n, P, St, T (s₂.heap.objs.size + ownN own), rfl, K.use k hI W hn hst hfp, fun h' tk ys hl hT hsz hk => ?_⟩
  have hsub : Sub s.heap h' := fun b o e => hk b o (fun hm => by rw [List.mem_singleton.mp hm, hI] at e; cases e) (k.sub b o e)
  obtain ⟨h₂, tk₂, rfl, hk₂⟩ := k
  refine ⟨_, _, ys, rfl, ?_, ?_, hl, hT, hsz, Kp.mk hsub⟩
  · exact fun b o e => Heap.lt_size (hk₂ _ _ e)
  · have hN : 2 ≤ ownN own := by cases own <;> decide
    show (h₂.objs.size : Nat) < h₂.objs.size + ownN own
    omega

/-- a comprehension kept by a local name on the same line -/
theorem lc_asg {own : Bool} {elt iter : Expr} {x y : Str} {px py : Pos} {ifs : List Expr} {scope : Scope} {cl : List (Str × Addr)} {pos spos : Pos} {s : Shared} {n : Nat} {P : Nat → Value → Prop} {T : Nat → Nat → List Value → Heap → Prop} {m : Str → Option Value}
    (hsw : swapsWith (.ListComp elt [⟨.Name x px, iter, ifs, 0⟩] scope pos) (some (.Name y py)) spos.line env = pure true)
    (hclos : closureFor scope env = pure cl) (S : CompShape own x scope cl) (K : TurnOk prog w A own env scope cl x ifs elt n P s.heap T) (hn : n ≤ sizeLine)
    (hy : env.kindOf y = some .local) (hp : (env.scope.kind == .class || (env.scope.kind == .module && env.locals != env.globals)) = false) (hm : s.heap.Ns env.locals m)
    {fp : List Nat} (src : Src prog w A env iter n P fp s)
    (hs : ∀ x, foldedSetIterable iter env x = pure x := by intro _; rfl) :
    wpAny (model prog w) A (exec (.Assign [.Name y py] (.ListComp elt [⟨.Name x px, iter, ifs, 0⟩] scope pos) spos) env) (fun f s' => f = .next ∧ ∃ (D N₀ : Nat) (ys : Array Value), (∀ (b : Nat) o, s.heap.get? b = some o → b < D) ∧ D < N₀ ∧ s'.heap.PlainList D ys ∧ T N₀ n ys.toList s'.heap ∧ ys.size ≤ n ∧
      s'.heap.Ns env.locals (fun z => if z = y then some (.ref D) else m z) ∧ Kw [env.locals] s s') noE s := by
  refine lc_assign hsw hclos S hy hp (wpAny_mono src (fun xv s₁ h₁ => wpAny_mono h₁ (fun it s₂ h₂ => ?_) fun _ _ e => e) fun _ _ e => e) hs
  obtain ⟨I, St, rfl, k, hI, W, hst, hfp⟩ := h₂
  have hLI : env.locals ∉ ([I] : List Nat) := fun hm' => by
    obtain ⟨o, _, _, e, _⟩ := hm
    rw [List.mem_singleton.mp hm', hI] at e; cases e
  refine ⟨I, I :: fp, [I], n, P, St, T (s₂.heap.objs.size + ownN own), m, rfl, K.use k hI W hn hst hfp, hLI, hm.keeps k.sub, fun h' tk ys hl hT hsz hL hk => ?_⟩
  have hsub : ∀ b o, b ∉ [env.locals] → s.heap.get? b = some o → h'.get? b = some o := fun b o hb e => hk b o (by simpa using hb) (fun hm => by rw [List.mem_singleton.mp hm, hI] at e; cases e) (k.sub b o e)
  obtain ⟨h₂, tk₂, rfl, hk₂⟩ := k
  refine ⟨rfl, _, _, ys, ?_, ?_, hl, hT, hsz, hL, Kw.mk hsub⟩
  · exact fun b o e => Heap.lt_size (hk₂ _ _ e)
  · have hN : 2 ≤ ownN own := by cases own <;> decide
    show (h₂.objs.size : Nat) < h₂.objs.size + ownN own
    omega

theorem src_range {k : Nat} (hA : Room k A) {p pos : Pos} {e : Expr} {s : Shared} {n : Nat} (B : Base mg mb s.heap) (N : Names mg mb) (hn : n ≤ 1000) (y : EvV prog w A env s.heap e (IsI (n : Int)))
    (hk : env.scope.kind = .function := by rfl) (hr : env.kindOf "range" = some .globalImplicit := by rfl)
    (hg : env.globals = mainGlobals := by rfl) (hb : env.builtins = builtinsNs := by rfl) (hst : starEach [e] env = [(false, eval e env)] := by rfl) :
    Src prog w A env (.Call (.Name "range" p) [e] [] pos) n (fun i v => IsI (i : Int) v) [] s := by
  refine wpAny_mono (range_src hA B N hn y hk hr hg hb hst) (fun xv s₁ h₁ => wpAny_mono h₁ (fun it s₂ h₂ => ?_) fun _ _ e => e) fun _ _ e => e
  obtain ⟨I, rfl, k, hit, hI⟩ := h₂
  have W := Walks.range (prog := prog) (w := w) (A := A) hA.handled I 0 1 n
  refine ⟨I, _, rfl, k, hI, ⟨W.sub, W.frame, fun i s Q E hi st hQ => W.item i s Q E hi st fun v h' tk hv => hQ v h' tk ?_, W.done, W.self⟩, by simpa using hit, fun b hb => ?_⟩
  · obtain ⟨t, rfl⟩ := hv
    exact ⟨t, by simp⟩
  · rw [List.mem_singleton.mp hb]; exact Heap.lt_size hit

theorem src_list {k : Nat} (hA : Room k A) {e : Expr} {s : Shared} {l : Addr} {its : Array Value} (y : EvV prog w A env s.heap e (· = .ref l)) (hl : s.heap.IsList l its) :
    Src prog w A env e its.size (fun i v => its[i]? = some v) [l] s := by
  refine wpAny_mono (list_src y hl) (fun xv s₁ h₁ => wpAny_mono h₁ (fun it s₂ h₂ => ?_) fun _ _ e => e) fun _ _ e => e
  obtain ⟨I, rfl, k, hit, hI⟩ := h₂
  have hne : l ≠ I := fun q => by obtain ⟨o, e, _⟩ := hl; rw [q, hI] at e; cases e
  refine ⟨I, _, rfl, k, hI, Walks.list hA.handled I l hne its, ⟨hit, hl.at fun o e => k.sub _ _ e⟩, fun b hb => ?_⟩
  obtain ⟨o, e, _⟩ := hl
  obtain ⟨oi, ei, _⟩ := hit
  simp only [List.mem_cons, List.not_mem_nil, or_false] at hb
  rcases hb with rfl | rfl
  · exact Heap.lt_size ei
  · exact Heap.lt_size (k.sub _ _ e)

/-- a turn without tests -/
theorem turn_plain {cenv : Env} {elt : Expr} {T' : List Value → Heap → Prop} {ys : List Value} {s : Shared}
    (h : wpAny (model prog w) A (eval elt cenv) (fun y s₄ => Kp s s₄ ∧ T' (ys ++ [y]) s₄.heap) noE s) : Turn prog w A cenv [] elt T' ys s :=
  wpAny_tests_nil ⟨Kp.refl s, by simpa using h⟩
theorem turn_plainV {cenv : Env} {elt : Expr} {T' : List Value → Heap → Prop} {ys : List Value} {s : Shared} {P : Value → Prop} (y : EvV prog w A cenv s.heap elt P)
    (h : ∀ v h', P v → Sub s.heap h' → T' (ys ++ [v]) h') : Turn prog w A cenv [] elt T' ys s :=
  turn_plain (y.go (Sub.refl _) fun v s' hv k => ⟨k, h v _ hv k.sub⟩)
/-- a turn with one test -/
theorem turn_test {cenv : Env} {elt c : Expr} {T' : List Value → Heap → Prop} {ys : List Value} {s : Shared} {P : Value → Prop} {b : Bool} (x : EvB prog w A cenv s.heap c b)
    (y : b = true → EvV prog w A cenv s.heap elt P) (h : ∀ v h', b = true → P v → Sub s.heap h' → T' (ys ++ [v]) h') (h0 : ∀ h', b = false → Sub s.heap h' → T' ys h') : Turn prog w A cenv [c] elt T' ys s :=
  wpAny_tests_one (x.go (Sub.refl _) fun s₁ k => ⟨k, by
    cases b with
    | true => rw [if_pos rfl]; exact (y rfl).go k.sub fun v s' hv k' => ⟨k', h v _ rfl hv (k.sub.trans k'.sub)⟩
    | false => rw [if_neg Bool.false_ne_true]; exact h0 _ rfl k.sub⟩)
end
end Mine

namespace Mine

section
variable {prog : Program} {w : World} {A : Around} {env : Env} {h₀ : Heap} {mg mb : Str → Option Value}

def pvv (ns : List Int) (i : Nat) : Int := (cel ns (1 + i)).fmod 4
theorem pvv_range (ns : List Int) (i : Nat) : 0 ≤ pvv ns i ∧ pvv ns i < 4 := ⟨Int.fmod_nonneg_of_pos _ (by decide), Int.fmod_lt_of_pos _ (by decide)⟩

def PoolT (ns : List Int) (N₀ i : Nat) (ys : List Value) (h : Heap) : Prop :=
  ys.length = i ∧ ∃ pa : Nat → Nat, (∀ j, j < i → ys[j]? = some (.ref (pa j)) ∧ N₀ ≤ pa j ∧ ∃ t, h.PlainList (pa j) #[.int (pvv ns j) t]) ∧ ∀ j j', j < i → j' < i → pa j = pa j' → j = j'

theorem IsList.to {h h' : Heap} {a : Addr} {its : Array Value} (x : h.IsList a its) (k : Sub h h') : h'.IsList a its := x.at fun o e => k _ _ e

theorem PoolT.push {ns : List Int} {N₀ i : Nat} {ys : List Value} {h h' : Heap} (x : PoolT ns N₀ i ys h) (k : Sub h h') {a : Nat} {t : Tok} (hfresh : h.get? a = none) (hN : N₀ ≤ a) (hl : h'.PlainList a #[.int (pvv ns i) t]) :
    PoolT ns N₀ (i + 1) (ys ++ [.ref a]) h' := by
  obtain ⟨hlen, pa, h1, h2⟩ := x
  refine ⟨by simp [hlen], fun j => if j < i then pa j else a, fun j hj => ?_, fun j j' hj hj' e => ?_⟩
  · by_cases hji : j < i
    · simp only [hji, if_true]
      obtain ⟨a1, a2, t', a3⟩ := h1 j hji
      exact ⟨by rw [List.getElem?_append_left (by omega)]; exact a1, a2, t', a3.at fun o e => k _ _ e⟩
    · have : j = i := by omega
      subst this
      simp only [hji, if_false]
      exact ⟨by rw [List.getElem?_append_right (by omega), hlen]; simp, hN, t, hl⟩
  · have ne : ∀ q, q < i → pa q ≠ a := fun q hq e => by
      obtain ⟨_, _, t', n', ho⟩ := h1 q hq
      rw [e, hfresh] at ho; cases ho
    by_cases h3 : j < i <;> by_cases h4 : j' < i
    · simp only [h3, h4, if_true] at e; exact h2 j j' h3 h4 e
    · simp only [h3, h4, if_true, if_false] at e; exact absurd e (ne j h3)
    · simp only [h3, h4, if_true, if_false] at e; exact absurd e.symm (ne j' h4)
    · omega

theorem ne_cell {h : Heap} {c a : Addr} {v : Option Value} (hc : h.IsCell c v) (ha : h.get? a = none) : a ≠ c := fun e => by
  obtain ⟨o, ho, _⟩ := hc
  rw [← e, ha] at ho; cases ho

theorem s_pool {k : Nat} (hA : Room k A) (hk : k ≤ 30) {L l : Addr} {vs : List Value} {ns : List Int} {s : Shared} (B : Base mg mb s.heap) (N : Names mg mb)
    (hsc : s.heap.IsCell (L + 1) (some (.ref l))) (hl : s.heap.IsList l vs.toArray) (hi : IntsAre vs ns) (hn : ns.length ≤ 63) {t : Tok} (hsz : s.heap.IsCell (L + 2) (some (.int (szv ns) t)))
    {v₀ : Option Value} (hv : s.heap.IsCell (L + 3) v₀) :
    wpAny (model prog w) A (exec (lst 1) (eL L)) (fun f s' => f = .next ∧ (∃ (p N₀ : Nat) (ys : Array Value), s'.heap.IsCell (L + 3) (some (.ref p)) ∧ (∀ (b : Nat) o, s.heap.get? b = some o → b < p) ∧ p < N₀ ∧ s'.heap.PlainList p ys ∧ PoolT ns N₀ (szv ns).toNat ys.toList s'.heap) ∧ Kw [L + 3] s s') noE s := by
  have hp := szv_pos ns
  refine wpAny_Assign_Name (wpAny_mono (lc_val (own := false) (T := PoolT ns) (n := (szv ns).toNat) (cl := [("script", L + 1)]) rfl ⟨fun _ => rfl, fun _ => rfl, rfl, rfl, by decide⟩ ⟨?z, ?st, ?tn⟩ (by rw [sizeLine_eq]; omega)
    (src_range hA B N (by omega) ((EvV.cell hsz).mono fun v e => ⟨t, by rw [e]; congr 1; omega⟩))) (fun v s₁ q => ?_) fun _ _ q => q) rfl
  case z => exact fun N₀ h => ⟨rfl, fun _ => 0, fun j hj => absurd hj (Nat.not_lt_zero _), fun j _ hj => absurd hj (Nat.not_lt_zero _)⟩
  case st =>
    rintro N₀ i ys h h' ⟨h1, pa, h2, h3⟩ hk
    exact ⟨h1, pa, fun j hj => let ⟨a, b, t, c⟩ := h2 j hj; ⟨a, b, t, c.at fun o e => hk _ o b e⟩, h3⟩
  case tn =>
    intro n₂ N₀ i v ys s' hi' hP hT hlen hb hsub hsize
    obtain ⟨t', rfl⟩ := hP
    refine turn_plain (List_ ?_)
    refine Calls.spliced_cons (EvV.go (P := IsI (pvv ns i)) (h₀ := s'.heap) (EvV.mod (by decide) (EvV.at hA (by omega) (B.sub hsub) N (IsList.to hl hsub) hi hn (EvV.cell (hsc.keeps hsub)) (EvV.add EvV.int ((EvV.bound hb).mono fun v e => ⟨t', e⟩)) (by omega)) EvV.int) (Sub.refl _) fun v s₁ hv k₁ => Calls.spliced_nil ?_)
    obtain ⟨tv, rfl⟩ := hv
    refine wpAny_newObj_type ⟨k₁.trans (Kp.mk fun b o e => Heap.get?_push_of_some _ e), ?_⟩
    have hfr : s'.heap.get? s₁.heap.objs.size = none := by
      cases q : s'.heap.get? s₁.heap.objs.size with
      | none => rfl
      | some o => exact absurd (Heap.lt_size (k₁.sub _ _ q)) (Nat.lt_irrefl _)
    refine PoolT.push hT (fun b o e => Heap.get?_push_of_some _ (k₁.sub _ _ e)) hfr ?_ ⟨_, Heap.get?_push_size _ rfl⟩
    obtain ⟨h0, o, ho⟩ := hsize
    have h9 : @LT.lt Nat _ (N₀ - 1) s₁.heap.objs.size := Heap.lt_size (k₁.sub _ _ ho)
    show N₀ ≤ (s₁.heap.objs.size : Nat)
    omega
  obtain ⟨D, N₀, ys, rfl, hD, hDN, hpl, hT, hsz', k₁⟩ := q
  refine wpAny_mono (st_cell (hv.keeps k₁.sub) rfl rfl) (fun _ s₂ q => ⟨rfl, ⟨D, N₀, ys, q.1, hD, hDN, ?_, ?_⟩, (k₁.w _).trans q.2⟩) fun _ _ q => q
  · exact hpl.at fun o e => q.2.keep _ _ (by rw [List.mem_singleton]; exact ne_cell hv (none_of_lt hD)) e
  · obtain ⟨h1, pa, h2, h3⟩ := hT
    obtain ⟨oc, hoc, _⟩ := hv
    have hlt : L + 3 < N₀ := Nat.lt_trans (hD _ _ hoc) hDN
    refine ⟨h1, pa, fun j hj => ?_, h3⟩
    obtain ⟨a, b, t, c⟩ := h2 j hj
    exact ⟨a, b, t, c.at fun o e => q.2.keep _ _ (by rw [List.mem_singleton]; intro h; rw [h] at b; exact absurd hlt (Nat.not_lt.mpr b)) e⟩

theorem ia_snoc {vs : List Value} {ns : List Int} (h : IntsAre vs ns) (n : Int) (t : Tok) : IntsAre (vs ++ [Value.int n t]) (ns ++ [n]) := by
  induction h with
  | nil => exact .cons n t .nil
  | cons m u _ ih => exact .cons m u ih

def npv (ns : List Int) : Int := 1 + (cel ns 20 + 5).fmod 8
theorem npv_pos (ns : List Int) : 1 ≤ npv ns ∧ npv ns ≤ 8 := by
  unfold npv
  have h1 := Int.fmod_nonneg_of_pos (a := cel ns 20 + 5) (b := 8) (by decide)
  have h2 := Int.fmod_lt_of_pos (a := cel ns 20 + 5) (b := 8) (by decide)
  omega
def pkv (ns : List Int) (k : Nat) : Int := (cel ns (7 + k) + k).fmod (szv ns)
theorem pkv_range (ns : List Int) (k : Nat) : 0 ≤ pkv ns k ∧ pkv ns k < szv ns := by
  have := szv_pos ns
  exact ⟨Int.fmod_nonneg_of_pos _ (by omega), Int.fmod_lt_of_pos _ (by omega)⟩
def picksL (ns : List Int) : List Int := (List.range (npv ns).toNat).map (pkv ns)

theorem s_picks {k : Nat} (hA : Room k A) (hk : k ≤ 30) {L l : Addr} {vs : List Value} {ns : List Int} {s : Shared} (B : Base mg mb s.heap) (N : Names mg mb)
    (hsc : s.heap.IsCell (L + 1) (some (.ref l))) (hl : s.heap.IsList l vs.toArray) (hi : IntsAre vs ns) (hn : ns.length ≤ 63) {t : Tok} (hsz : s.heap.IsCell (L + 2) (some (.int (szv ns) t)))
    {m : Str → Option Value} (hm : s.heap.Ns L m) :
    wpAny (model prog w) A (exec (lst 2) (eL L)) (fun f s' => f = .next ∧ (∃ (D : Nat) (ys : Array Value), (∀ (b : Nat) o, s.heap.get? b = some o → b < D) ∧ s'.heap.Ns L (fun z => if z = "picks" then some (.ref D) else m z) ∧ s'.heap.PlainList D ys ∧ IntsAre ys.toList (picksL ns)) ∧ Kw [L] s s') noE s := by
  have hp := szv_pos ns
  have hp' := npv_pos ns
  refine wpAny_mono (lc_asg (own := false) (T := fun _ i ys _ => IntsAre ys ((List.range i).map (pkv ns))) (n := (npv ns).toNat) (cl := [("size", L + 2), ("script", L + 1)]) (m := m) rfl rfl ⟨fun _ => rfl, fun _ => rfl, rfl, rfl, by decide⟩ ⟨?z, ?st, ?tn⟩ (by rw [sizeLine_eq]; omega) rfl rfl hm
    (src_range hA B N (by omega) (EvV.mono (EvV.add EvV.int (EvV.mod (by decide) (EvV.add (EvV.at hA (by omega) B N hl hi hn (EvV.cell hsc) EvV.int (by decide)) EvV.int) EvV.int)) fun v e => ?sz))) (fun f s₁ q => ?_) fun _ _ q => q
  case sz =>
    have : ((npv ns).toNat : Int) = npv ns := by omega
    rw [this]; exact e
  case z => exact fun N₀ h => .nil
  case st => exact fun N₀ i ys h h' x _ => x
  case tn =>
    intro n₂ N₀ i v ys s' hi' hP hT hlen hb hsub hsize
    obtain ⟨t', rfl⟩ := hP
    refine turn_plainV (P := IsI (pkv ns i)) (EvV.mod (by omega) (EvV.add (EvV.at hA (by omega) (B.sub hsub) N (IsList.to hl hsub) hi hn (EvV.cell (hsc.keeps hsub)) (EvV.add EvV.int ((EvV.bound hb).mono fun v e => ⟨t', e⟩)) (by omega)) ((EvV.bound hb).mono fun v e => ⟨t', e⟩))
      ((EvV.cell (hsz.keeps hsub)).mono fun v e => ⟨t, e⟩)) fun v h' hv _ => ?_
    obtain ⟨tv, rfl⟩ := hv
    rw [List.range_succ, List.map_append]
    exact ia_snoc hT _ _
  obtain ⟨rfl, D, N₀, ys, h1, h2, h3, h4, h5, h6, h7⟩ := q
  exact ⟨rfl, ⟨D, ys, h1, h6, h3, h4⟩, h7⟩

def tbv (ns : List Int) (i j : Nat) : Bool := Builtin.bitAnd ((Builtin.bitXor (cel ns (15 + i)) 6).fdiv (2 ^ ((j : Int)).toNat)) 1 == 1
def tbRow (ns : List Int) (i : Nat) : List Value := (List.range 4).map fun j => Value.bool (tbv ns i j)
def TabT (ns : List Int) (N₀ i : Nat) (ys : List Value) (h : Heap) : Prop := ys.length = i ∧ ∀ j, j < i → ∃ a : Nat, N₀ ≤ a ∧ ys[j]? = some (.ref a) ∧ h.IsList a (tbRow ns j).toArray

theorem s_table {k : Nat} (hA : Room k A) (hk : k ≤ 30) {L l : Addr} {vs : List Value} {ns : List Int} {s : Shared} (B : Base mg mb s.heap) (N : Names mg mb)
    (hsc : s.heap.IsCell (L + 1) (some (.ref l))) (hl : s.heap.IsList l vs.toArray) (hi : IntsAre vs ns) (hn : ns.length ≤ 63)
    {v₀ : Option Value} (hv : s.heap.IsCell (L + 9) v₀) :
    wpAny (model prog w) A (exec (lst 3) (eL L)) (fun f s' => f = .next ∧ (∃ (p N₀ : Nat) (ys : Array Value), s'.heap.IsCell (L + 9) (some (.ref p)) ∧ (∀ (b : Nat) o, s.heap.get? b = some o → b < p) ∧ p < N₀ ∧ s'.heap.PlainList p ys ∧ TabT ns N₀ 4 ys.toList s'.heap) ∧ Kw [L + 9] s s') noE s := by
  refine wpAny_Assign_Name (wpAny_mono (lc_val (own := true) (T := TabT ns) (n := 4) (cl := [("script", L + 1)]) rfl ⟨fun _ => rfl, fun _ => rfl, rfl, rfl, by decide⟩ ⟨?z, ?st, ?tn⟩ (by rw [sizeLine_eq]; omega)
    (src_range hA B N (by omega) EvV.int)) (fun v s₁ q => ?_) fun _ _ q => q) rfl
  case z => exact fun N₀ h => ⟨rfl, fun j hj => absurd hj (Nat.not_lt_zero _)⟩
  case st =>
    rintro N₀ i ys h h' ⟨h1, h2⟩ hk
    exact ⟨h1, fun j hj => let ⟨a, b, c, d⟩ := h2 j hj; ⟨a, b, c, d.at fun o e => hk _ o b e⟩⟩
  case tn =>
    intro n₂ N₀ i v ys s' hi' hP hT hlen hb hsub hsize
    obtain ⟨t', rfl⟩ := hP
    refine turn_plain (wpAny_mono (lc_val (own := false) (T := fun _ j zs _ => zs = (List.range j).map fun q => Value.bool (tbv ns i q)) (n := 4) (cl := [("script", L + 1), ("i", n₂ + 2)]) rfl ⟨fun _ => rfl, fun _ => rfl, rfl, rfl, by decide⟩ ⟨?z, ?st, ?tn⟩ (by rw [sizeLine_eq]; omega)
      (src_range hA (B.sub hsub) N (by omega) EvV.int)) (fun v s₁ q => ?_) fun _ _ q => q)
    case z => exact fun N₀ h => rfl
    case st => exact fun N₀ i ys h h' x _ => x
    case tn =>
      intro n₃ N₁ j v zs s₂ hj hP hT hlen hb' hsub' hsize
      obtain ⟨t₂, rfl⟩ := hP
      have hsub₂ := hsub.trans hsub'
      refine turn_plainV (P := (· = Value.bool (tbv ns i j))) (EvV.eqI (EvV.band (EvV.shr (by omega) (EvV.xor (EvV.at hA (by omega) (B.sub hsub₂) N (IsList.to hl hsub₂) hi hn (EvV.cell (hsc.keeps hsub₂)) (EvV.add EvV.int ?ci) (by omega)) EvV.int) ((EvV.bound hb').mono fun v e => ⟨t₂, e⟩)) EvV.int) EvV.int) fun v h' hv _ => ?_
      case ci => exact (EvV.cell ((bound_cell hb).keeps hsub')).mono fun v e => ⟨t', e⟩
      rw [hT, List.range_succ, List.map_append, hv]; rfl
    obtain ⟨D, N₁, zs, rfl, hD, hDN, hpl, hT', hsz', k₁⟩ := q
    obtain ⟨h0, o, ho⟩ := hsize
    have hlt := hD _ _ ho
    refine ⟨k₁, by simp [hT.1], fun j hj => ?_⟩
    by_cases hji : j < i
    · obtain ⟨a, h1, h2, h3⟩ := hT.2 j hji
      exact ⟨a, h1, by rw [List.getElem?_append_left (by rw [hT.1]; exact hji)]; exact h2, IsList.to h3 k₁.sub⟩
    · have : j = i := by omega
      subst this
      refine ⟨D, by omega, by rw [List.getElem?_append_right (by rw [hT.1]; omega), hT.1]; simp, ?_⟩
      have := hpl.isList
      have e : zs = (tbRow ns j).toArray := by
        unfold tbRow
        rw [← hT']
      rw [← e]; exact this
  obtain ⟨D, N₀, ys, rfl, hD, hDN, hpl, hT, hsz', k₁⟩ := q
  refine wpAny_mono (st_cell (hv.keeps k₁.sub) rfl rfl) (fun _ s₂ q => ⟨rfl, ⟨D, N₀, ys, q.1, hD, hDN, ?_, ?_⟩, (k₁.w _).trans q.2⟩) fun _ _ q => q
  · exact hpl.at fun o e => q.2.keep _ _ (by rw [List.mem_singleton]; exact ne_cell hv (none_of_lt hD)) e
  · obtain ⟨h1, h2⟩ := hT
    obtain ⟨oc, hoc, _⟩ := hv
    have hlt : L + 9 < N₀ := Nat.lt_trans (hD _ _ hoc) hDN
    refine ⟨h1, fun j hj => ?_⟩
    obtain ⟨a, b, c, d⟩ := h2 j hj
    exact ⟨a, b, c, d.at fun o e => q.2.keep _ _ (by rw [List.mem_singleton]; intro h; rw [h] at b; exact absurd hlt (Nat.not_lt.mpr b)) e⟩
end
end Mine

namespace Mine

section
variable {prog : Program} {w : World} {A : Around} {env : Env} {h₀ : Heap} {mg mb : Str → Option Value}

/-- a for over a source (a list, a range), its target a name -/
theorem for_rule {x : Str} {px pos : Pos} {iter : Expr} {body : List Stmt} {n : Nat} {P : Nat → Value → Prop} {s : Shared} {Wl fp : List Nat} (src : Src prog w A env iter n P fp s) (J : Nat → Heap → Prop)
    (hJ : ∀ (I : Nat) i h h', s.heap.get? I = none → J i h → (∀ b o, b ≠ I → h.get? b = some o → h'.get? b = some o) → J i h')
    (hW : ∀ b ∈ Wl, ∃ o, s.heap.get? b = some o) (hfp : ∀ b ∈ fp, b ∉ Wl) (h0 : J 0 s.heap)
    (step : ∀ i v (s' : Shared), i < n → P i v → J i s'.heap → (∀ b o, b ∉ Wl → s.heap.get? b = some o → s'.heap.get? b = some o) → s'.gens = s.gens →
      wpAny (model prog w) A (assign (.Name x px) env v) (fun _ s₂ => wpAny (model prog w) A (execs body env) (fun f s₃ => f = .next ∧ J (i + 1) s₃.heap ∧ Kw Wl s' s₃) noE s₂) noE s')
    (hs : ∀ x, foldedSetIterable iter env x = pure x := by intro _; rfl) :
    wpAny (model prog w) A (exec (.For (.Name x px) iter body [] pos) env) (fun f s' => f = .next ∧ J n s'.heap ∧ Kw Wl s s') noE s := by
  refine wpAny_For (wpAny_mono src (fun xv s₁ h₁ => wpAny_mono h₁ (fun it s₂ h₂ => ?_) fun _ _ e => e) fun _ _ e => e) hs
  obtain ⟨I, St, rfl, k, hI, W, hst, hlow⟩ := h₂
  have hIW : I ∉ Wl := fun h => by obtain ⟨o, e⟩ := hW I h; rw [hI] at e; cases e
  refine codeAny_forLoop (fun m s' => ∃ i, i ≤ n ∧ m = n + 1 - i ∧ St i s'.heap ∧ J i s'.heap ∧ Kw Wl s s') ?_ (n + 1) ⟨0, Nat.zero_le _, rfl, hst, hJ I 0 _ _ hI h0 (fun b o _ e => k.sub b o e), k.w _⟩
  rintro m s' ⟨i, hi, rfl, hst', hj, hk⟩
  by_cases hlt : i < n
  · refine W.item i _ _ _ hlt hst' fun v h' tk hP hst₁ hk₁ => ?_
    have hk₁' : Kw Wl s { s' with heap := h', toks := tk } := by
      obtain ⟨h₂, tk₂, rfl, hk₂⟩ := hk
      exact Kw.mk fun b o hb e => hk₁ b o (fun hm => by rw [List.mem_singleton.mp hm, hI] at e; cases e) (hk₂ b o hb e)
    refine wpNoE (wpAny_mono (step i v { s' with heap := h', toks := tk } hlt hP (hJ I i _ _ hI hj fun b o hb e => hk₁ b o (by simpa using hb) e) hk₁'.keep hk₁'.gens) (fun _ s₂ h₂ => wpNoE (wpAny_mono h₂ (fun f s₃ h₃ => ?_) fun _ _ e => e)) fun _ _ e => e)
    obtain ⟨rfl, hj₃, hk₃⟩ := h₃
    refine ⟨n + 1 - (i + 1), by omega, i + 1, hlt, rfl, ?_, hj₃, hk₁'.trans hk₃⟩
    refine W.frame _ _ _ hst₁ fun b hb o e => hk₃.keep b o ?_ e
    rcases List.mem_cons.mp hb with rfl | hb
    · exact hIW
    · exact hfp b hb
  · have hin : i = n := by omega
    subst hin
    refine W.done _ _ _ hst' fun h' tk hk₁ => wpAny_execs_nil ⟨rfl, hJ I i _ _ hI hj fun b o hb e => hk₁ b o (by simpa using hb) e, ?_⟩
    obtain ⟨h₂, tk₂, rfl, hk₂⟩ := hk
    exact Kw.mk fun b o hb e => hk₁ b o (fun hm => by rw [List.mem_singleton.mp hm, hI] at e; cases e) (hk₂ b o hb e)
end
end Mine

namespace Mine

/-- the pool: a list of refs to lists of one int each, all different -/
structure PoolAt (h : Heap) (ns : List Int) (p : Nat) (pa : Nat → Nat) : Prop where
  list : ∃ its, h.IsList p its ∧ ∀ j, j < (szv ns).toNat → its[j]? = some (.ref (pa j))
  item : ∀ j, j < (szv ns).toNat → ∃ t, h.PlainList (pa j) #[.int (pvv ns j) t]
  inj : ∀ j j', j < (szv ns).toNat → j' < (szv ns).toNat → pa j = pa j' → j = j'
theorem PoolAt.keep {h h' : Heap} {ns : List Int} {p : Nat} {pa : Nat → Nat} (x : PoolAt h ns p pa) (k : ∀ b o, (b = p ∨ ∃ j, j < (szv ns).toNat ∧ b = pa j) → h.get? b = some o → h'.get? b = some o) : PoolAt h' ns p pa where
  list := let ⟨its, a, b⟩ := x.list; ⟨its, a.at fun o e => k _ _ (.inl rfl) e, b⟩
  item := fun j hj => let ⟨t, a⟩ := x.item j hj; ⟨t, a.at fun o e => k _ _ (.inr ⟨j, hj, rfl⟩) e⟩
  inj := x.inj
theorem PoolAt.sub {h h' : Heap} {ns : List Int} {p : Nat} {pa : Nat → Nat} (x : PoolAt h ns p pa) (k : Sub h h') : PoolAt h' ns p pa := x.keep fun b o _ e => k b o e
theorem PoolAt.of {h : Heap} {ns : List Int} {p N₀ : Nat} {ys : Array Value} (hp : h.PlainList p ys) (T : PoolT ns N₀ (szv ns).toNat ys.toList h) : ∃ pa, PoolAt h ns p pa ∧ ∀ j, j < (szv ns).toNat → N₀ ≤ pa j := by
  obtain ⟨hlen, pa, h1, h2⟩ := T
  exact ⟨pa, ⟨⟨ys, hp.isList, fun j hj => by simpa using (h1 j hj).1⟩, fun j hj => (h1 j hj).2.2, h2⟩, fun j hj => (h1 j hj).2.1⟩
/-- objects at lists: they are no frames, cells or tables -/
theorem PoolAt.cls {h : Heap} {ns : List Int} {p : Nat} {pa : Nat → Nat} (x : PoolAt h ns p pa) {b : Nat} (hb : b = p ∨ ∃ j, j < (szv ns).toNat ∧ b = pa j) : ∃ o, h.get? b = some o ∧ o.cls = .type "list" := by
  rcases hb with rfl | ⟨j, hj, rfl⟩
  · obtain ⟨its, ⟨o, a, b, _⟩, _⟩ := x.list; exact ⟨o, a, b⟩
  · obtain ⟨t, n, a⟩ := x.item j hj; exact ⟨_, a, rfl⟩

def refs (pa : Nat → Nat) (ps : List Int) : List Value := ps.map fun q => Value.ref (pa q.toNat)
def uniq (ps : List Int) : List Int := ps.foldl (fun acc k => if acc.any (· == k) then acc else acc ++ [k]) []

theorem uniq_snoc (ps : List Int) (k : Int) : uniq (ps ++ [k]) = if (uniq ps).any (· == k) then uniq ps else uniq ps ++ [k] := by
  unfold uniq; rw [List.foldl_append]; rfl
theorem uniq_sub (ps : List Int) : ∀ k ∈ uniq ps, k ∈ ps := by
  suffices ∀ (ps acc : List Int), ∀ k ∈ ps.foldl (fun acc k => if acc.any (· == k) then acc else acc ++ [k]) acc, k ∈ acc ∨ k ∈ ps by
    intro k hk; rcases this ps [] k hk with h | h
    · cases h
    · exact h
  intro ps
  induction ps with
  | nil => intro acc k hk; exact .inl hk
  | cons a ps ih =>
    intro acc k hk
    rcases ih _ k hk with h | h
    · dsimp only at h
      split at h
      · exact .inl h
      · rcases List.mem_append.mp h with h | h
        · exact .inl h
        · rw [List.mem_singleton.mp h]; exact .inr (List.mem_cons_self ..)
    · exact .inr (List.mem_cons_of_mem _ h)
theorem uniq_nodup (ps : List Int) : (uniq ps).Nodup := by
  suffices ∀ (ps acc : List Int), acc.Nodup → (ps.foldl (fun acc k => if acc.any (· == k) then acc else acc ++ [k]) acc).Nodup from this ps [] List.nodup_nil
  intro ps
  induction ps with
  | nil => intro acc h; exact h
  | cons a ps ih =>
    intro acc h
    refine ih _ ?_
    dsimp only
    split
    · exact h
    · rename_i hn
      refine List.nodup_append.mpr ⟨h, by simp, fun x hx y hy e => ?_⟩
      subst e
      rw [List.mem_singleton] at hy
      subst hy
      exact hn (List.any_eq_true.mpr ⟨_, hx, by simp⟩)
theorem uniq_length (ps : List Int) : (uniq ps).length ≤ ps.length := by
  suffices ∀ (ps acc : List Int), (ps.foldl (fun acc k => if acc.any (· == k) then acc else acc ++ [k]) acc).length ≤ acc.length + ps.length by
    have h := this ps []
    rw [List.length_nil, Nat.zero_add] at h; exact h
  intro ps
  induction ps with
  | nil => intro acc; simp
  | cons a ps ih =>
    intro acc
    refine Nat.le_trans (ih _) ?_
    dsimp only
    split <;> simp <;> omega
theorem picks_range (ns : List Int) : ∀ k ∈ picksL ns, 0 ≤ k ∧ k < szv ns := by
  intro k hk
  obtain ⟨j, _, rfl⟩ := List.mem_map.mp hk
  exact pkv_range ns j
def orderL (ns : List Int) : List Int := uniq (picksL ns)
theorem order_range (ns : List Int) : ∀ k ∈ orderL ns, 0 ≤ k ∧ k < szv ns := fun k hk => picks_range ns k (uniq_sub _ k hk)

section
variable {prog : Program} {w : World} {A : Around} {env : Env} {h₀ : Heap} {mg mb : Str → Option Value}

theorem ia_at {vs : List Value} {ns : List Int} (h : IntsAre vs ns) : ∀ (i : Nat) (v : Value), vs[i]? = some v → ∃ n t, v = .int n t ∧ ns[i]? = some n := by
  induction h with
  | nil => intro i v e; simp at e
  | cons m t _ ih =>
    intro i v e
    cases i with
    | zero => simp at e; exact ⟨m, t, e.symm, rfl⟩
    | succ j => exact ih j v (by simpa using e)

theorem s_row {k : Nat} (hA : Room k A) (hk : k ≤ 30) {L p D : Nat} {pa : Nat → Nat} {ns : List Int} {s : Shared} (hpc : s.heap.IsCell (L + 3) (some (.ref p))) (hP : PoolAt s.heap ns p pa)
    {m : Str → Option Value} (hm : s.heap.Ns L m) (hmD : m "picks" = some (.ref D)) {its : Array Value} (hD : s.heap.IsList D its) (hi : IntsAre its.toList (picksL ns)) {v₀ : Option Value} (hv : s.heap.IsCell (L + 8) v₀) :
    wpAny (model prog w) A (exec (lst 4) (eL L)) (fun f s' => f = .next ∧ (∃ (q : Nat) (ys : Array Value), s'.heap.IsCell (L + 8) (some (.ref q)) ∧ (∀ (b : Nat) o, s.heap.get? b = some o → b < q) ∧ s'.heap.PlainList q ys ∧ ys.toList = refs pa (picksL ns)) ∧ Kw [L + 8] s s') noE s := by
  have hsz : its.size = (picksL ns).length := by rw [← hi.length, Array.length_toList]
  have hlen : (picksL ns).length ≤ 8 := by have := npv_pos ns; simp [picksL]; omega
  refine wpAny_Assign_Name (wpAny_mono (lc_val (own := false) (T := fun _ i ys _ => ys = refs pa ((picksL ns).take i)) (n := its.size) (cl := [("pool", L + 3)]) rfl ⟨fun _ => rfl, fun _ => rfl, rfl, rfl, by decide⟩ ⟨fun N₀ h => rfl, fun N₀ i ys h h' x _ => x, ?tn⟩ (by rw [sizeLine_eq]; omega)
    (src_list hA (EvV.local_ hm hmD) hD)) (fun v s₁ q => ?_) fun _ _ q => q) rfl
  case tn =>
    intro n₂ N₀ i v ys s' hi' hPv hT hlen' hb hsub hsize
    obtain ⟨n, t, rfl, hn⟩ := ia_at hi i v (by simpa using hPv)
    have hr := picks_range ns n (List.mem_of_getElem? hn)
    obtain ⟨pits, hp1, hp2⟩ := hP.list
    refine turn_plainV (P := (· = Value.ref (pa n.toNat))) (EvV.item (EvV.cell (hpc.keeps hsub)) ((EvV.bound hb).mono fun v e => ⟨t, e⟩) (IsList.to hp1 hsub) hr.1 (by have := szv_pos ns; omega) (hp2 n.toNat (by omega))) fun v h' hv _ => ?_
    rw [hT, hv, List.take_add_one, hn]
    simp [refs]
  obtain ⟨q, N₀, ys, rfl, hq, hqN, hpl, hT, hsz', k₁⟩ := q
  refine wpAny_mono (st_cell (hv.keeps k₁.sub) rfl rfl) (fun _ s₂ z => ⟨rfl, ⟨q, ys, z.1, hq, ?_, ?_⟩, (k₁.w _).trans z.2⟩) fun _ _ q => q
  · exact hpl.at fun o e => z.2.keep _ _ (by rw [List.mem_singleton]; exact ne_cell hv (none_of_lt hq)) e
  · rw [hT, hsz, List.take_length]

theorem s_order0 {L : Nat} {s : Shared} {v₀ : Option Value} (hv : s.heap.IsCell (L + 4) v₀) :
    wpAny (model prog w) A (exec (lst 5) (eL L)) (fun f s' => f = .next ∧ (∃ q : Nat, s'.heap.IsCell (L + 4) (some (.ref q)) ∧ (∀ (b : Nat) o, s.heap.get? b = some o → b < q) ∧ s'.heap.PlainList q #[]) ∧ Kw [L + 4] s s') noE s := by
  refine wpAny_Assign_Name (List_ (Calls.spliced_nil (wpAny_newObj_type ?_))) rfl
  have hk : Kp s { s with heap := s.heap.push { cls := .type "list", data := .seq ([] : List Value).toArray } } := Kp.mk fun b o e => Heap.get?_push_of_some _ e
  refine wpAny_mono (st_cell (hv.keeps hk.sub) rfl rfl) (fun _ s₂ z => ⟨rfl, ⟨s.heap.objs.size, z.1, fun b o e => Heap.lt_size e, ?_⟩, (hk.w _).trans z.2⟩) fun _ _ q => q
  exact ⟨_, z.2.keep _ _ (by rw [List.mem_singleton]; exact fun e => by obtain ⟨o, ho, _⟩ := hv; rw [← e] at ho; exact absurd (Heap.lt_size ho) (Nat.lt_irrefl _)) (Heap.get?_push_size _ rfl)⟩

theorem s_order {k : Nat} (hA : Room k A) (hk : k ≤ 30) {L D O : Nat} {ns : List Int} {s : Shared} (hoc : s.heap.IsCell (L + 4) (some (.ref O))) (hO : s.heap.PlainList O #[])
    {m : Str → Option Value} (hm : s.heap.Ns L m) (hmD : m "picks" = some (.ref D)) {its : Array Value} (hD : s.heap.IsList D its) (hi : IntsAre its.toList (picksL ns)) (hDO : D ≠ O) :
    wpAny (model prog w) A (exec (lst 6) (eL L)) (fun f s' => f = .next ∧ (∃ m' ys, s'.heap.Ns L m' ∧ (∀ z : Str, z ≠ "k" → m' z = m z) ∧ s'.heap.PlainList O ys ∧ IntsAre ys.toList (orderL ns)) ∧ Kw [L, O] s s') noE s := by
  have hsz : its.size = (picksL ns).length := by rw [← hi.length, Array.length_toList]
  have hlen : (picksL ns).length ≤ 8 := by have := npv_pos ns; simp [picksL]; omega
  have hLO : L ≠ O := fun e => by
    obtain ⟨o, es, ep, ho, hd, _⟩ := hm
    obtain ⟨n, ho'⟩ := hO
    rw [e, ho'] at ho; cases ho; cases hd
  have hLD : D ≠ L := fun e => by
    obtain ⟨o, es, ep, ho, hd, _⟩ := hm
    obtain ⟨o', ho', hc, n, hd'⟩ := hD
    rw [← e, ho'] at ho; cases ho; rw [hd'] at hd; cases hd
  refine wpAny_mono (for_rule (Wl := [L, O]) (src_list hA (EvV.local_ hm hmD) hD) (fun i h => ∃ m' ys, h.Ns L m' ∧ (∀ z : Str, z ≠ "k" → m' z = m z) ∧ h.PlainList O ys ∧ IntsAre ys.toList (uniq ((picksL ns).take i)))
    ?hJ ?hW ?hfp ⟨m, #[], hm, fun _ _ => rfl, hO, .nil⟩ ?step) (fun f s' q => ?_) fun _ _ q => q
  case hJ =>
    rintro I i h h' hI ⟨m', ys, h1, h2, h3, h4⟩ hk'
    obtain ⟨oL, _, _, hoL, _⟩ := hm
    obtain ⟨nO, hoO⟩ := hO
    exact ⟨m', ys, h1.at' fun o e => hk' _ _ (fun z => by rw [z, hI] at hoL; cases hoL) e, h2, h3.at fun o e => hk' _ _ (fun z => by rw [z, hI] at hoO; cases hoO) e, h4⟩
  case hW =>
    intro b hb
    simp only [List.mem_cons, List.not_mem_nil, or_false] at hb
    rcases hb with rfl | rfl
    · obtain ⟨o, _, _, e, _⟩ := hm; exact ⟨o, e⟩
    · obtain ⟨n, e⟩ := hO; exact ⟨_, e⟩
  case hfp =>
    intro b hb
    rw [List.mem_singleton] at hb
    subst hb
    simp only [List.mem_cons, List.not_mem_nil, or_false, not_or]
    exact ⟨hLD, hDO⟩
  case step =>
    rintro i v s' hi' hPv ⟨m', ys, h1, h2, h3, h4⟩ hkeep hg
    obtain ⟨n, t, rfl, hn⟩ := ia_at hi i v (by simpa using hPv)
    refine wpAny_assign_Name (wpAny_storeName_local rfl h1 (fun h₁ hn₁ hs₁ => ?_) rfl)
    have hO₁ : h₁.PlainList O ys := h3.extBut hs₁.extBut (Ne.symm hLO)
    have hcO : L + 4 ≠ O := fun e => by
      obtain ⟨o, ho, hd⟩ := hoc
      obtain ⟨n, ho'⟩ := hO
      rw [e, ho'] at ho; cases ho; cases hd
    have hoc₁ : h₁.IsCell (L + 4) (some (.ref O)) := by
      obtain ⟨o, ho, hd⟩ := hoc
      refine ⟨o, hs₁.extBut _ _ (show L + 4 ≠ L by omega) (hkeep _ _ ?_ ho), hd⟩
      simp only [List.mem_cons, List.not_mem_nil, or_false, not_or]
      exact ⟨by omega, hcO⟩
    have hN₁ : h₁.Ns (eL L).locals (fun z => if z = "k" then some (Value.int n t) else m' z) := hn₁
    have hsub₁ : ∀ b o, b ∉ [L, O] → s'.heap.get? b = some o → h₁.get? b = some o := fun b o hb e => hs₁.extBut b o (fun (z : b = L) => hb (by simp [z])) e
    refine wpAny_execs_cons (wpAny_If (EvB.go (h₀ := h₁) (b := !((uniq ((picksL ns).take i)).any (· == n))) ?tst (Sub.refl _) fun s₂ k₂ => ?_))
    case tst =>
      refine EvB.cmp (EvV.local_ hN₁ (v := .int n t) rfl) (EvV.cell hoc₁) (fun a b s₃ hs₃ ha hb => ?_)
      subst ha hb
      exact notin_list_ints (IsList.to hO₁.isList hs₃) h4 ⟨rfl, Kp.refl _⟩
    have hstep : uniq ((picksL ns).take (i + 1)) = if (uniq ((picksL ns).take i)).any (· == n) then uniq ((picksL ns).take i) else uniq ((picksL ns).take i) ++ [n] := by
      rw [List.take_add_one, hn]; exact uniq_snoc _ _
    have hm₂ : ∀ z : Str, z ≠ "k" → (fun z : Str => if z = "k" then some (Value.int n t) else m' z) z = m z := fun z hz => by simp only [hz, if_false]; exact h2 z hz
    cases hc : (uniq ((picksL ns).take i)).any (· == n) with
    | true =>
      simp only [Bool.not_true, Bool.false_eq_true, if_false]
      refine wpAny_execs_nil (wpAny_execs_nil ⟨rfl, ⟨_, ys, hn₁.keeps k₂.sub, hm₂, hO₁.at fun o e => k₂.sub _ _ e, ?_⟩, ?_⟩)
      · rw [hstep, hc, if_pos rfl]; exact h4
      · obtain ⟨h₂', tk₂, rfl, hk₂⟩ := k₂
        exact Kw.mk fun b o hb e => hk₂ b o (hsub₁ b o hb e)
    | false =>
      simp only [Bool.not_false, if_true]
      refine wpAny_execs_cons (wpAny_Expr (wpAny_Call_append rfl rfl rfl rfl (EvV.go (P := (· = Value.ref O)) (h₀ := h₁) (EvV.cell hoc₁) k₂.sub fun v s₃ hv k₃ => ?_)) rfl rfl)
      subst hv
      have hO₃ : s₃.heap.PlainList O ys := hO₁.at fun o e => k₃.sub _ _ (k₂.sub _ _ e)
      obtain ⟨nO, hoO⟩ := id hO₃
      refine ⟨O, ys, rfl, ⟨_, nO, hoO, rfl, rfl, rfl⟩, EvV.go (P := (· = Value.int n t)) (h₀ := h₁) (EvV.local_ hN₁ rfl) (k₂.sub.trans k₃.sub) fun v s₄ hv k₄ => ?_⟩
      subst hv
      have hk₄ := (k₂.trans k₃).trans k₄
      have hlen4 : ys.size ≤ 8 := by
        have := h4.length
        have h8 : (uniq ((picksL ns).take i)).length ≤ 8 := Nat.le_trans (uniq_length _) (by rw [List.length_take]; omega)
        rw [Array.length_toList] at this; omega
      refine wpAny_list_append_plain (hsz := by rw [sizeLine_eq]; omega) (hO₁.at fun o e => hk₄.sub _ _ e) fun h₅ hl₅ hs₅ => ?_
      refine wpAny_execs_nil (wpAny_execs_nil ⟨rfl, ⟨_, ys.push (.int n t), (hn₁.keeps hk₄.sub).sameBut hs₅ hLO, hm₂, hl₅, ?_⟩, ?_⟩)
      · rw [hstep, hc, if_neg Bool.false_ne_true]; simpa using ia_snoc h4 n t
      · obtain ⟨h₂', tk₂, rfl, hk₂⟩ := hk₄
        exact Kw.mk fun b o hb e => hs₅.extBut b o (fun z => hb (by simp [z])) (hk₂ b o (hsub₁ b o hb e))
  obtain ⟨rfl, ⟨m', ys, h1, h2, h3, h4⟩, hk'⟩ := q
  refine ⟨rfl, ⟨m', ys, h1, h2, h3, ?_⟩, hk'⟩
  rw [hsz, List.take_length] at h4; exact h4
end
end Mine

namespace Mine
section
open AutoSeq1 (wpAny_loadPart')
open MeetsSeq

theorem list_lt_end (l b : Addr) (x y : Value) (n n2 : Nat) :
    Meets (Builtin.«list.__eq__.loop» ⟨[.ref l, .ref b, rawInt (0 + 1), rawInt 0], []⟩)
      (fun A R s => s.heap.get? l = some { cls := .type "list", dict := none, data := .seq #[x] n, slots := #[] } ∧ s.heap.get? b = some { cls := .type "list", dict := none, data := .seq #[y] n2, slots := #[] } ∧
        R (.ok (.ret (.bool false))) s) := by
  intro prog w A R s h
  obtain ⟨hp, g, d, tk, os⟩ := s; obtain ⟨hl, hb, h⟩ := h
  wp_walk using wpAny_loadPart' hl, wpAny_loadPart' hb
  exact h

theorem list_lt_loop1 (l b : Addr) (x y : Int) (t u : Tok) (n n2 : Nat) :
    Meets (Builtin.«list.__eq__.loop» ⟨[.ref l, .ref b, rawInt 0, rawInt 0], []⟩)
      (fun A R s => s.heap.get? l = some { cls := .type "list", dict := none, data := .seq #[.int x t] n, slots := #[] } ∧ s.heap.get? b = some { cls := .type "list", dict := none, data := .seq #[.int y u] n2, slots := #[] } ∧
        R (.ok (.ret (.bool (decide (x < y))))) s) := by
  intro prog w A R s h
  obtain ⟨hp, g, d, tk, os⟩ := s; obtain ⟨hl, hb, h⟩ := h
  wp_walk using wpAny_loadPart' hl, wpAny_loadPart' hb
  show wpAny _ _ (eqBool (.int x t) (.int y u)) _ _ _
  refine wpAny_eqBool_int ?_
  cases hc : x == y with
  | true =>
    have hxy : x = y := by simpa using hc
    subst hxy
    simp only [if_true]
    refine wpAny_pure ⟨plainId_quiet MeetsSeq3.plain_eq_loop _, codeAny_builtin MeetsSeq3.entry_eq_loop (by
      rw [Around.under_plainId MeetsSeq3.plain_eq_loop _]
      exact list_lt_end l b _ _ n n2 prog w A R _ ⟨hl, hb, by simpa using h⟩)⟩
  | false =>
    simp only [Bool.false_eq_true, if_false]
    refine wpAny_bind (PyProof.Rows.listItems_at hl rfl (wpAny_bind (PyProof.Rows.listItems_at hb rfl ?_)))
    show wpAny _ _ (richCompare .Lt (.int x t) (.int y u) >>= fun v => ret v) _ _ _
    have hq : (decide (x < y)) = decide (x < y) := rfl
    exact wpAny_bind (lt_int (wpAny_pure h))

theorem list_lt1 (l b : Addr) (x y : Int) (t u : Tok) (n n2 : Nat) :
    Meets (Builtin.«list.__lt__» ⟨[.ref l, .ref b], []⟩)
      (fun A R s => s.heap.get? l = some { cls := .type "list", dict := none, data := .seq #[.int x t] n, slots := #[] } ∧ s.heap.get? b = some { cls := .type "list", dict := none, data := .seq #[.int y u] n2, slots := #[] } ∧
        R (.ok (.ret (.bool (decide (x < y))))) s) := by
  intro prog w A R s h
  obtain ⟨hp, g, d, tk, os⟩ := s; obtain ⟨hl, hb, h⟩ := h
  have f3 := AutoSeq1.sub_list_list
  wp_walk using wpAny_loadPart' hl, wpAny_loadPart' hb
  exact ⟨plainId_quiet MeetsSeq3.plain_eq_loop _, codeAny_builtin MeetsSeq3.entry_eq_loop (by
    rw [Around.under_plainId MeetsSeq3.plain_eq_loop _]
    exact list_lt_loop1 l b x y t u n n2 prog w A R _ ⟨hl, hb, h⟩)⟩
end

section
variable {prog : Program} {w : World} {A : Around} {env : Env} {h₀ : Heap} {mg mb : Str → Option Value}

/-- two lists of one int each: less than -/
theorem lt_list1 {a b : Addr} {x y : Int} {t u : Tok} {s : Shared} {Q : Value → Shared → Prop} {E : Value → Shared → Prop} (ha : s.heap.PlainList a #[.int x t]) (hb : s.heap.PlainList b #[.int y u]) (hu : A.units < cLine) (h : Q (.bool (decide (x < y))) s) :
    wpAny (model prog w) A (richCompare .Lt (.ref a) (.ref b)) Q E s := by
  obtain ⟨n, ha⟩ := ha
  obtain ⟨n2, hb⟩ := hb
  exact richCompare_meets_room (T := "list") ⟨_, ha, rfl⟩ ⟨_, hb, rfl⟩ F.slot_list_lt F.entry_list_lt (F.args_list_lt_2 _ _) (list_lt1 a b x y t u n n2) ⟨ha, hb, by
    refine ⟨?_, h⟩
    intro e; cases e⟩ hu

/-- any over a list of bools -/
theorem call_any_bools {k : Nat} (hA : Room k A) {D : Addr} {bs : List Bool} {s : Shared} (hl : s.heap.IsList D (bs.map Value.bool).toArray) :
    wpAny (model prog w) A (call (.builtin "any") [.ref D]) (fun v s' => v = .bool (bs.any id) ∧ Kp s s') noE s := by
  refine call_any_walkS ?_
  refine wpAny_pyIter_list hl ?_
  have hne : D ≠ s.heap.objs.size := by obtain ⟨o, e, _⟩ := hl; exact Nat.ne_of_lt (Heap.lt_size e)
  have W := (Walks.list (prog := prog) (w := w) (A := A.in1) hA.handled s.heap.objs.size D hne (bs.map Value.bool).toArray).toS
  refine ⟨_, _, _, _, _, _, _, fun i => (bs[i]?).getD false, rfl, W, ⟨⟨_, Heap.get?_push_size _ rfl, rfl, rfl⟩, hl.push _⟩, ?_, fun s' hm => ⟨?_, ?_⟩⟩
  · intro i v s Q E hP hQ
    have hb : ∃ b, bs[i]? = some b ∧ v = .bool b := by
      have h1 : (bs.map Value.bool)[i]? = some v := by simpa using hP
      rw [List.getElem?_map] at h1
      cases hq : bs[i]? with
      | none => rw [hq] at h1; cases h1
      | some b => rw [hq] at h1; exact ⟨b, rfl, (Option.some.inj h1).symm⟩
    obtain ⟨b, hb1, rfl⟩ := hb
    refine wpAny_truthy_bool ?_
    simp only [hb1, Option.getD_some] at hQ; exact hQ
  · congr 1
    rw [List.size_toArray, List.length_map]
    rw [Bool.eq_iff_iff, List.any_eq_true, List.any_eq_true]
    constructor
    · rintro ⟨i, hi, h⟩
      have hi' : i < bs.length := by simpa using hi
      exact ⟨bs[i], List.getElem_mem _, by simpa [List.getElem?_eq_getElem hi'] using h⟩
    · rintro ⟨b, hb, h⟩
      obtain ⟨i, hi, rfl⟩ := List.getElem_of_mem hb
      exact ⟨i, by simpa using hi, by simpa [List.getElem?_eq_getElem hi] using h⟩
  · obtain ⟨hp, g, d, tk, os⟩ := s
    obtain ⟨hp', g', d', tk', os'⟩ := s'
    obtain ⟨h1, h2, h3, h4, h5⟩ := hm
    dsimp only at h1 h2 h3 h4 h5
    subst h2 h3 h4
    refine ⟨hp', tk', rfl, fun b o e => h1 b o ?_ (Heap.get?_push_of_some _ e)⟩
    rw [List.mem_singleton]
    exact Nat.ne_of_lt (Heap.lt_size e)
end
end Mine

namespace Mine

def TabAt (h : Heap) (ns : List Int) (q : Nat) : Prop := ∃ its, h.IsList q its ∧ ∀ j, j < 4 → ∃ a : Nat, its[j]? = some (.ref a) ∧ h.IsList a (tbRow ns j).toArray
theorem TabAt.sub {h h' : Heap} {ns : List Int} {q : Nat} (x : TabAt h ns q) (k : Sub h h') : TabAt h' ns q :=
  let ⟨its, a, b⟩ := x; ⟨its, IsList.to a k, fun j hj => let ⟨c, d, e⟩ := b j hj; ⟨c, d, IsList.to e k⟩⟩

def rel (ns : List Int) (k h : Int) : Bool := tbv ns (pvv ns k.toNat).toNat (pvv ns h.toNat).toNat
def lss (ns : List Int) (k h : Int) : Bool := decide (pvv ns k.toNat < pvv ns h.toNat)
def fil (R : Int → Int → Bool) (os : List Int) : List Int := os.filter fun k => !((os.filter (· != k)).any (R k))

theorem take_filter_snoc {α : Type} (p : α → Bool) (l : List α) (i : Nat) (v : α) (h : l[i]? = some v) : (l.take (i + 1)).filter p = if p v then (l.take i).filter p ++ [v] else (l.take i).filter p := by
  rw [take_succ_filter p l i v h]; cases p v <;> simp

section
variable {prog : Program} {w : World} {A : Around} {env : Env} {h₀ : Heap} {mg mb : Str → Option Value}

/-- any of a list of bools that an expression makes -/
theorem EvV.anyL {k : Nat} (hA : Room k A) {p pos : Pos} {e : Expr} {bs : List Bool} (B : Base mg mb h₀) (N : Names mg mb)
    (x : ∀ s : Shared, Sub h₀ s.heap → wpAny (model prog w) A (eval e env) (fun v s' => ∃ D : Nat, v = .ref D ∧ s'.heap.IsList D (bs.map Value.bool).toArray ∧ Kp s s') noE s)
    (hk : env.scope.kind = .function := by rfl) (hn : env.kindOf "any" = some .globalImplicit := by rfl)
    (hg : env.globals = mainGlobals := by rfl) (hb : env.builtins = builtinsNs := by rfl) (he : starEach [e] env = [(false, eval e env)] := by rfl) :
    EvV prog w A env h₀ (.Call (.Name "any" p) [e] [] pos) (· = .bool (bs.any id)) := fun s hs =>
  Call_Name1 ((EvV.boot (v := .builtin "any") B N (by decide) (by first | rfl | decide +kernel) hk hn hg hb).go hs fun f s₁ hf k₁ => by
    subst hf
    refine Calls.callWith_builtin rfl (Calls.evalArgs_plain (Calls.spliced_cons (wpAny_mono (x s₁ (hs.trans k₁.sub)) (fun v s₂ q => ?_) fun _ _ q => q)))
    obtain ⟨D, rfl, hl, k₂⟩ := q
    exact Calls.spliced_nil (wpAny_mono (call_any_bools hA hl) (fun v s₃ q => ⟨q.1, (k₁.trans k₂).trans q.2⟩) fun _ _ q => q)) he

theorem s_due {k : Nat} (hA : Room k A) (hk : k ≤ 30) {L p O T : Nat} {pa : Nat → Nat} {ns : List Int} {s : Shared} (B : Base mg mb s.heap) (N : Names mg mb)
    (hpc : s.heap.IsCell (L + 3) (some (.ref p))) (hP : PoolAt s.heap ns p pa) (htc : s.heap.IsCell (L + 9) (some (.ref T))) (hT : TabAt s.heap ns T)
    (hoc : s.heap.IsCell (L + 4) (some (.ref O))) {its : Array Value} (hO : s.heap.IsList O its) (hi : IntsAre its.toList (orderL ns)) {m : Str → Option Value} (hm : s.heap.Ns L m) :
    wpAny (model prog w) A (exec (lst 7) (eL L)) (fun f s' => f = .next ∧ (∃ (D : Nat) (ys : Array Value), (∀ (b : Nat) o, s.heap.get? b = some o → b < D) ∧ s'.heap.Ns L (fun z => if z = "due" then some (.ref D) else m z) ∧ s'.heap.PlainList D ys ∧ ys.toList = refs pa (fil (rel ns) (orderL ns))) ∧ Kw [L] s s') noE s := by
  have hsz : its.size = (orderL ns).length := by rw [← hi.length, Array.length_toList]
  have hlen : (orderL ns).length ≤ 8 := by
    have := npv_pos ns
    have h2 := uniq_length (picksL ns)
    unfold orderL; simp [picksL] at h2 ⊢; omega
  obtain ⟨pits, hp1, hp2⟩ := hP.list
  obtain ⟨tits, ht1, ht2⟩ := hT
  have hszv := szv_pos ns
  refine wpAny_mono (lc_asg (own := true) (T := fun _ i ys _ => ys = refs pa (((orderL ns).take i).filter fun k => !(((orderL ns).filter (· != k)).any (rel ns k)))) (n := its.size) (cl := _) (m := m) rfl rfl ⟨fun _ => rfl, fun _ => rfl, rfl, rfl, by decide⟩ ⟨fun _ _ => rfl, fun _ _ _ _ _ x _ => x, ?tn⟩ (by rw [sizeLine_eq]; omega) rfl rfl hm
    (src_list hA (EvV.cell hoc) hO)) (fun f s₁ q => ?_) fun _ _ q => q
  case tn =>
    intro n₂ N₀ i v ys s' hi' hPv hTi hlen' hb hsub hsize
    obtain ⟨n, t, rfl, hn⟩ := ia_at hi i v (by simpa using hPv)
    have hr := order_range ns n (List.mem_of_getElem? hn)
    have hkc := bound_cell hb
    refine turn_test (b := !(((orderL ns).filter (· != n)).any (rel ns n))) (P := (· = Value.ref (pa n.toNat))) (EvB.not (EvB.bool ?any)) (fun _ => EvV.item (EvV.cell (hpc.keeps hsub)) ((EvV.cell hkc).mono fun v e => ⟨t, e⟩) (IsList.to hp1 hsub) hr.1 (by omega) (hp2 n.toNat (by omega))) (fun v h' hc hv _ => ?h1) (fun h' hc _ => ?h0)
    case h1 => rw [hTi, hv, take_filter_snoc _ _ _ _ hn, if_pos hc]; simp [refs]
    case h0 => rw [hTi, take_filter_snoc _ _ _ _ hn, if_neg (by rw [hc]; exact Bool.false_ne_true)]
    case any =>
      have he : ((orderL ns).filter (· != n)).any (rel ns n) = ((((orderL ns).filter (· != n)).map (rel ns n)).any id) := by rw [List.any_map]; rfl
      rw [he]
      refine EvV.anyL hA (B.sub hsub) N (fun s₂ hs₂ => ?_)
      have hsub₂ := hsub.trans hs₂
      refine wpAny_mono (lc_val (own := false) (T := fun _ j zs _ => zs = (((orderL ns).take j).filter (· != n)).map fun q => Value.bool (rel ns n q)) (n := its.size) (cl := _) rfl ⟨fun _ => rfl, fun _ => rfl, rfl, rfl, by decide⟩ ⟨fun _ _ => rfl, fun _ _ _ _ _ x _ => x, ?tn⟩ (by rw [sizeLine_eq]; omega)
        (src_list hA (EvV.cell (hoc.keeps hsub₂)) (IsList.to hO hsub₂))) (fun v s₃ q => ?_) fun _ _ q => q
      case tn =>
        intro n₃ N₁ j v zs s₄ hj hPv hTj hlen' hb' hsub₃ hsize
        obtain ⟨h, u, rfl, hh⟩ := ia_at hi j v (by simpa using hPv)
        have hr' := order_range ns h (List.mem_of_getElem? hh)
        have hsub₄ := hsub₂.trans hsub₃
        have hk₄ := hkc.keeps (hs₂.trans hsub₃)
        obtain ⟨t1, hl1⟩ := hP.item n.toNat (by omega)
        obtain ⟨t2, hl2⟩ := hP.item h.toNat (by omega)
        have hv1 := pvv_range ns n.toNat
        have hv2 := pvv_range ns h.toNat
        obtain ⟨ra, hra1, hra2⟩ := ht2 (pvv ns n.toNat).toNat (by omega)
        refine turn_test (b := h != n) (P := (· = Value.bool (rel ns n h))) (EvB.neI ((EvV.bound hb').mono fun v e => ⟨u, e⟩) ((EvV.cell hk₄).mono fun v e => ⟨t, e⟩)) (fun _ => ?elt) (fun v h' hc hv _ => ?h1) (fun h' hc _ => ?h0)
        case elt =>
          refine EvV.item (EvV.item (EvV.cell (htc.keeps hsub₄)) (EvV.mono (EvV.item (EvV.item (EvV.cell (hpc.keeps hsub₄)) ((EvV.cell hk₄).mono fun v e => ⟨t, e⟩) (IsList.to hp1 hsub₄) hr.1 (by omega) (hp2 n.toNat (by omega))) EvV.int (IsList.to hl1.isList hsub₄) (by decide) (by decide) (v := .int (pvv ns n.toNat) t1) rfl) fun v e => ⟨t1, e⟩) (IsList.to ht1 hsub₄) hv1.1 (by omega) hra1)
            (EvV.mono (EvV.item (EvV.item (EvV.cell (hpc.keeps hsub₄)) ((EvV.bound hb').mono fun v e => ⟨u, e⟩) (IsList.to hp1 hsub₄) hr'.1 (by omega) (hp2 h.toNat (by omega))) EvV.int (IsList.to hl2.isList hsub₄) (by decide) (by decide) (v := .int (pvv ns h.toNat) t2) rfl) fun v e => ⟨t2, e⟩) (IsList.to hra2 hsub₄) hv2.1 (by omega) ?_
          unfold tbRow rel
          have h4 : (pvv ns h.toNat).toNat < 4 := by omega
          simp [h4]
        case h1 => rw [hTj, hv, take_filter_snoc _ _ _ _ hh, if_pos hc]; simp
        case h0 => rw [hTj, take_filter_snoc _ _ _ _ hh, if_neg (by rw [hc]; exact Bool.false_ne_true)]
      obtain ⟨D, N₁, zs, rfl, hD, hDN, hpl, hTz, hsz', k₃⟩ := q
      refine ⟨D, rfl, ?_, k₃⟩
      have e : zs = ((((orderL ns).filter (· != n)).map (rel ns n)).map Value.bool).toArray := by
        rw [List.map_map]
        have : zs.toList = (((orderL ns).take its.size).filter (· != n)).map fun q => Value.bool (rel ns n q) := hTz
        rw [hsz, List.take_length] at this
        rw [← Array.toArray_toList (xs := zs), this]; rfl
      rw [← e]; exact hpl.isList
  obtain ⟨rfl, D, N₀, ys, h1, h2, h3, h4, h5, h6, h7⟩ := q
  refine ⟨rfl, ⟨D, ys, h1, h6, h3, ?_⟩, h7⟩
  rw [h4, hsz, List.take_length]; rfl
theorem s_least {k : Nat} (hA : Room k A) (hk : k ≤ 30) {L p O : Nat} {pa : Nat → Nat} {ns : List Int} {s : Shared} (B : Base mg mb s.heap) (N : Names mg mb)
    (hpc : s.heap.IsCell (L + 3) (some (.ref p))) (hP : PoolAt s.heap ns p pa) (hoc : s.heap.IsCell (L + 4) (some (.ref O))) {its : Array Value} (hO : s.heap.IsList O its) (hi : IntsAre its.toList (orderL ns)) {m : Str → Option Value} (hm : s.heap.Ns L m) :
    wpAny (model prog w) A (exec (lst 13) (eL L)) (fun f s' => f = .next ∧ (∃ (D : Nat) (ys : Array Value), (∀ (b : Nat) o, s.heap.get? b = some o → b < D) ∧ s'.heap.Ns L (fun z => if z = "least" then some (.ref D) else m z) ∧ s'.heap.PlainList D ys ∧ ys.toList = refs pa (fil (lss ns) (orderL ns))) ∧ Kw [L] s s') noE s := by
  have hsz : its.size = (orderL ns).length := by rw [← hi.length, Array.length_toList]
  have hlen : (orderL ns).length ≤ 8 := by
    have := npv_pos ns
    have h2 := uniq_length (picksL ns)
    unfold orderL; simp [picksL] at h2 ⊢; omega
  obtain ⟨pits, hp1, hp2⟩ := hP.list
  have hszv := szv_pos ns
  refine wpAny_mono (lc_asg (own := true) (T := fun _ i ys _ => ys = refs pa (((orderL ns).take i).filter fun k => !(((orderL ns).filter (· != k)).any (lss ns k)))) (n := its.size) (cl := _) (m := m) rfl rfl ⟨fun _ => rfl, fun _ => rfl, rfl, rfl, by decide⟩ ⟨fun _ _ => rfl, fun _ _ _ _ _ x _ => x, ?tn⟩ (by rw [sizeLine_eq]; omega) rfl rfl hm
    (src_list hA (EvV.cell hoc) hO)) (fun f s₁ q => ?_) fun _ _ q => q
  case tn =>
    intro n₂ N₀ i v ys s' hi' hPv hTi hlen' hb hsub hsize
    obtain ⟨n, t, rfl, hn⟩ := ia_at hi i v (by simpa using hPv)
    have hr := order_range ns n (List.mem_of_getElem? hn)
    have hkc := bound_cell hb
    refine turn_test (b := !(((orderL ns).filter (· != n)).any (lss ns n))) (P := (· = Value.ref (pa n.toNat))) (EvB.not (EvB.bool ?any)) (fun _ => EvV.item (EvV.cell (hpc.keeps hsub)) ((EvV.cell hkc).mono fun v e => ⟨t, e⟩) (IsList.to hp1 hsub) hr.1 (by omega) (hp2 n.toNat (by omega))) (fun v h' hc hv _ => ?h1) (fun h' hc _ => ?h0)
    case h1 => rw [hTi, hv, take_filter_snoc _ _ _ _ hn, if_pos hc]; simp [refs]
    case h0 => rw [hTi, take_filter_snoc _ _ _ _ hn, if_neg (by rw [hc]; exact Bool.false_ne_true)]
    case any =>
      have he : ((orderL ns).filter (· != n)).any (lss ns n) = ((((orderL ns).filter (· != n)).map (lss ns n)).any id) := by rw [List.any_map]; rfl
      rw [he]
      refine EvV.anyL hA (B.sub hsub) N (fun s₂ hs₂ => ?_)
      have hsub₂ := hsub.trans hs₂
      refine wpAny_mono (lc_val (own := false) (T := fun _ j zs _ => zs = (((orderL ns).take j).filter (· != n)).map fun q => Value.bool (lss ns n q)) (n := its.size) (cl := _) rfl ⟨fun _ => rfl, fun _ => rfl, rfl, rfl, by decide⟩ ⟨fun _ _ => rfl, fun _ _ _ _ _ x _ => x, ?tn⟩ (by rw [sizeLine_eq]; omega)
        (src_list hA (EvV.cell (hoc.keeps hsub₂)) (IsList.to hO hsub₂))) (fun v s₃ q => ?_) fun _ _ q => q
      case tn =>
        intro n₃ N₁ j v zs s₄ hj hPv hTj hlen' hb' hsub₃ hsize
        obtain ⟨h, u, rfl, hh⟩ := ia_at hi j v (by simpa using hPv)
        have hr' := order_range ns h (List.mem_of_getElem? hh)
        have hsub₄ := hsub₂.trans hsub₃
        have hk₄ := hkc.keeps (hs₂.trans hsub₃)
        obtain ⟨t1, hl1⟩ := hP.item n.toNat (by omega)
        obtain ⟨t2, hl2⟩ := hP.item h.toNat (by omega)
        have hv1 := pvv_range ns n.toNat
        have hv2 := pvv_range ns h.toNat
        refine turn_test (b := h != n) (P := (· = Value.bool (lss ns n h))) (EvB.neI ((EvV.bound hb').mono fun v e => ⟨u, e⟩) ((EvV.cell hk₄).mono fun v e => ⟨t, e⟩)) (fun _ => ?elt) (fun v h' hc hv _ => ?h1) (fun h' hc _ => ?h0)
        case elt =>
          refine EvV.cmp (EvV.item (EvV.cell (hpc.keeps hsub₄)) ((EvV.cell hk₄).mono fun v e => ⟨t, e⟩) (IsList.to hp1 hsub₄) hr.1 (by omega) (hp2 n.toNat (by omega))) (EvV.item (EvV.cell (hpc.keeps hsub₄)) ((EvV.bound hb').mono fun v e => ⟨u, e⟩) (IsList.to hp1 hsub₄) hr'.1 (by omega) (hp2 h.toNat (by omega))) (fun a b s₅ hs₅ ha hb => ?_)
          subst ha hb
          exact cmp_ofLt (lt_list1 (hl1.at fun o e => hs₅ _ _ (hsub₄ _ _ e)) (hl2.at fun o e => hs₅ _ _ (hsub₄ _ _ e)) (hA.line (by omega)) ⟨rfl, Kp.refl _⟩)
        case h1 => rw [hTj, hv, take_filter_snoc _ _ _ _ hh, if_pos hc]; simp
        case h0 => rw [hTj, take_filter_snoc _ _ _ _ hh, if_neg (by rw [hc]; exact Bool.false_ne_true)]
      obtain ⟨D, N₁, zs, rfl, hD, hDN, hpl, hTz, hsz', k₃⟩ := q
      refine ⟨D, rfl, ?_, k₃⟩
      have e : zs = ((((orderL ns).filter (· != n)).map (lss ns n)).map Value.bool).toArray := by
        rw [List.map_map]
        have : zs.toList = (((orderL ns).take its.size).filter (· != n)).map fun q => Value.bool (lss ns n q) := hTz
        rw [hsz, List.take_length] at this
        rw [← Array.toArray_toList (xs := zs), this]; rfl
      rw [← e]; exact hpl.isList
  obtain ⟨rfl, D, N₀, ys, h1, h2, h3, h4, h5, h6, h7⟩ := q
  refine ⟨rfl, ⟨D, ys, h1, h6, h3, ?_⟩, h7⟩
  rw [h4, hsz, List.take_length]; rfl
end
end Mine

namespace Mine

def AllB (a : Array GenState) : Prop := ∀ x ∈ a, x.bare = true
def GR (a b : Array GenState) : Prop := a.size ≤ b.size ∧ (AllB a → AllB b)
theorem GR.refl (a : Array GenState) : GR a a := ⟨Nat.le_refl _, fun h => h⟩
theorem GR.trans {a b c : Array GenState} (x : GR a b) (y : GR b c) : GR a c := ⟨Nat.le_trans x.1 y.1, fun h => y.2 (x.2 h)⟩
theorem GR.push {a : Array GenState} {g : GenState} (h : g.bare = true) : GR a (a.push g) :=
  ⟨by simp, fun ha x hx => by rcases Array.mem_push.mp hx with hx | rfl; exact ha x hx; exact h⟩
theorem GR.set (s : Shared) (g : Nat) {x : GenState} (h : x.bare = true) : GR s.gens (s.setGen g x).gens := by
  refine ⟨by simp [Shared.setGen], fun ha y hy => ?_⟩
  obtain ⟨i, hi, rfl⟩ := Array.mem_iff_getElem.mp hy
  simp only [Shared.setGen] at hi ⊢
  have hi' : i < s.gens.size := by simpa using hi
  rw [Array.getElem_setIfInBounds]
  · split
    · exact h
    · exact ha _ (Array.getElem_mem hi')
  · exact hi'

/-- a tuple -/
def TupO (o : Obj) : Prop := o.cls = .type "tuple" ∧ ∃ xs n, o.data = .seq xs n
/-- kept at fp, and the tuples -/
def KpF (fp : List Addr) (h h' : Heap) : Prop := ∀ (b : Nat) o, (b ∈ fp ∨ TupO o) → h.get? b = some o → h'.get? b = some o

def Mv (wr : List Addr) (s s' : Shared) : Prop := ∃ h' tk g', s' = { s with heap := h', toks := tk, gens := g' } ∧ (∀ b o, b ∉ wr → s.heap.get? b = some o → h'.get? b = some o) ∧ GR s.gens g'
theorem Mv.keep {W : List Addr} {s s' : Shared} (x : Mv W s s') : ∀ b o, b ∉ W → s.heap.get? b = some o → s'.heap.get? b = some o := by obtain ⟨h', tk, g, rfl, hk, _⟩ := x; exact hk
theorem Mv.gens {W : List Addr} {s s' : Shared} (x : Mv W s s') : GR s.gens s'.gens := by obtain ⟨h', tk, g, rfl, hk, hg⟩ := x; exact hg
theorem Mv.refl (W : List Addr) (s : Shared) : Mv W s s := ⟨s.heap, s.toks, s.gens, rfl, fun _ _ _ e => e, GR.refl _⟩
theorem Mv.trans {W : List Addr} {a b c : Shared} (x : Mv W a b) (y : Mv W b c) : Mv W a c := by
  obtain ⟨h, tk, g, rfl, hk, hg⟩ := x
  obtain ⟨h', tk', g', rfl, hk', hg'⟩ := y
  exact ⟨h', tk', g', rfl, fun b o hb e => hk' b o hb (hk b o hb e), hg.trans hg'⟩
theorem Mv.mono {W W' : List Addr} {s s' : Shared} (x : Mv W s s') (h : ∀ b ∈ W, b ∈ W') : Mv W' s s' := by
  obtain ⟨h', tk, g, rfl, hk, hg⟩ := x
  exact ⟨h', tk, g, rfl, fun b o hb e => hk b o (fun hm => hb (h b hm)) e, hg⟩
theorem Kw.mv {W : List Addr} {s s' : Shared} (x : Kw W s s') : Mv W s s' := by obtain ⟨h', tk, rfl, hk⟩ := x; exact ⟨h', tk, s.gens, rfl, hk, GR.refl _⟩
theorem Kp.mv {s s' : Shared} (x : Kp s s') (W : List Addr) : Mv W s s' := (x.w W).mv
theorem Mv.setGen {s : Shared} {g : Nat} {x : GenState} (h : x.bare = true) (W : List Addr) : Mv W s (s.setGen g x) := ⟨s.heap, s.toks, _, rfl, fun _ _ _ e => e, GR.set s g h⟩
theorem Mv.toMoved {W : List Addr} {s s' : Shared} (x : Mv W s s') (ht : s.toks ≤ s'.toks) : Moved W GR s s' := by
  obtain ⟨h', tk, g, rfl, hk, hg⟩ := x; exact ⟨hk, hg, rfl, rfl, ht⟩
theorem Mv.ofMoved {W : List Addr} {s s' : Shared} (x : Moved W GR s s') : Mv W s s' := by
  obtain ⟨h1, h2, h3, h4, h5⟩ := x
  obtain ⟨hp, g, d, tk, os⟩ := s
  obtain ⟨hp', g', d', tk', os'⟩ := s'
  dsimp only at h3 h4
  subst h3 h4
  exact ⟨hp', tk', g', rfl, h1, h2⟩
/-- objects made behind N need not be told -/
theorem Mv.drop {W W' : List Addr} {s s' : Shared} (x : Mv W s s') (h : ∀ b ∈ W, b ∈ W' ∨ s.heap.get? b = none) : Mv W' s s' := by
  obtain ⟨h', tk, g, rfl, hk, hg⟩ := x
  refine ⟨h', tk, g, rfl, fun b o hb e => hk b o (fun hm => ?_) e, hg⟩
  rcases h b hm with h | h
  · exact hb h
  · rw [h] at e; cases e

section
variable {prog : Program} {w : World} {A : Around}

/-- a ValueError under way, the frames l still to be left; told from s: wr may be touched (frames by their slots alone), wn written -/
def ErV (r : Heap → Prop) (l : List Env) (wr wn : List Addr) (s : Shared) (e : Value) (s' : Shared) : Prop :=
  ∃ (base : Heap) (x : Nat) (a0 : Value) (h' : Heap) (tk : Tok) (g' : Array GenState), r base ∧ e = .ref x ∧ s' = { s with heap := h', toks := tk, gens := g' } ∧ GR s.gens g' ∧ Heap.FlyingW base l x (.type "ValueError") a0 h' ∧
    (∀ b o, b ∉ wr → s.heap.get? b = some o → base.get? b = some o) ∧ ∀ b o, b ∉ wn → s.heap.get? b = some o → (∀ vs, o.data ≠ .fields vs) → ∃ sl, h'.get? b = some { o with slots := sl }
theorem ErV.mv {r : Heap → Prop} {l : List Env} {wr wn : List Addr} {s s' : Shared} {e : Value} (x : ErV r l wr wn s e s') : Mv wr s s' := by
  obtain ⟨base, a, a0, h', tk, g', _, rfl, rfl, hg, hf, hk, _⟩ := x
  exact ⟨h', tk, g', rfl, fun b o hb e => hf.1 b o (hk b o hb e), hg⟩
theorem ErV.isE {r : Heap → Prop} {l : List Env} {wr wn : List Addr} {s s' : Shared} {e : Value} (x : ErV r l wr wn s e s') : s'.TypeIs e "ValueError" := by
  obtain ⟨base, a, a0, h', tk, g', _, rfl, rfl, hg, hf, hk, _⟩ := x
  obtain ⟨ob, h1, h2⟩ := hf.there
  exact ⟨ob, h1, h2⟩
theorem ErV.lift {r : Heap → Prop} {l : List Env} {w₁ wr wn wr' wn' : List Addr} {s₀ s s' : Shared} {e : Value} (m : Mv w₁ s₀ s) (x : ErV r l wr wn s e s') (h : ∀ b, (b ∈ w₁ ∨ b ∈ wr) → b ∈ wr' ∨ s₀.heap.get? b = none) (hn : ∀ b, (b ∈ w₁ ∨ b ∈ wn) → b ∈ wn' ∨ s₀.heap.get? b = none) : ErV r l wr' wn' s₀ e s' := by
  obtain ⟨h₁, tk₁, g₁, rfl, hk₁, hg₁⟩ := m
  obtain ⟨base, a, a0, h', tk, g', hr, rfl, rfl, hg, hf, hk, hs⟩ := x
  refine ⟨base, a, a0, h', tk, g', hr, rfl, rfl, hg₁.trans hg, hf, fun b o hb e => ?_, fun b o hb e hd => ?_⟩
  · have hn : ∀ q : Prop, (b ∈ w₁ ∨ b ∈ wr) → q := fun q hq => by
      rcases h b hq with h | h
      · exact absurd h hb
      · rw [h] at e; cases e
    exact hk b o (fun hm => hn _ (.inr hm)) (hk₁ b o (fun hm => hn _ (.inl hm)) e)
  · have hn : ∀ q : Prop, (b ∈ w₁ ∨ b ∈ wn) → q := fun q hq => by
      rcases hn b hq with h | h
      · exact absurd h hb
      · rw [h] at e; cases e
    exact hs b o (fun hm => hn _ (.inr hm)) (hk₁ b o (fun hm => hn _ (.inl hm)) e) hd
theorem ErV.stop {r : Heap → Prop} {l : List Env} {wr wn : List Addr} {s s' : Shared} {e : Value} {g : Nat} (x : ErV r l wr wn s e s') : ErV r l wr wn s e (s'.setGen g .finished) := by
  obtain ⟨base, a, a0, h', tk, g', hr, rfl, rfl, hg, hf, hk⟩ := x
  exact ⟨base, a, a0, h', tk, _, hr, rfl, rfl, hg.trans (GR.set { s with heap := h', toks := tk, gens := g' } g rfl), hf, hk⟩
theorem ErV.leave {M : Model} {r : Heap → Prop} {env : Env} {C : Nat} {l : List Env} {wr wn : List Addr} {s s' : Shared} {e : Value} (hf : A.frames = some (env :: l)) (hC : env.frame = some C) (x : ErV r (env :: l) wr wn s e s') :
    wpAny M A (leaving env e) (fun _ s'' => ErV r l wr wn s e s'') noE s' := by
  obtain ⟨base, a, a0, h', tk, g', hr, rfl, rfl, hg, hfl, hk, hs⟩ := x
  refine wpAny_leaves_onW hf hC hfl fun h'' hf'' hu => ⟨base, a, a0, h'', tk, g', hr, rfl, rfl, hg, hf'', hk, fun b o hb e hd => ?_⟩
  obtain ⟨sl, hsl⟩ := hs b o hb e hd
  obtain ⟨sl', hsl'⟩ := hu b _ hsl hd
  exact ⟨sl', hsl'⟩

theorem ErV.no {l : List Env} {wr wn : List Addr} {s s' : Shared} {e : Value} (x : ErV (fun _ => False) l wr wn s e s') : False := by
  obtain ⟨_, _, _, _, _, _, h, _⟩ := x; exact h

theorem ErV.more {r r' : Heap → Prop} {l : List Env} {wr wn : List Addr} {s s' : Shared} {e : Value} (x : ErV r l wr wn s e s') (h : ∀ base : Heap, (∀ b o, b ∉ wr → s.heap.get? b = some o → base.get? b = some o) → r base → r' base) : ErV r' l wr wn s e s' := by
  obtain ⟨base, a, a0, h', tk, g', hr, h1, h2, h3, h4, h5, h6⟩ := x
  exact ⟨base, a, a0, h', tk, g', h base h5 hr, h1, h2, h3, h4, h5, h6⟩

/-- what one turn of a generator expression does -/
structure GT (prog : Program) (w : World) (cenv : Env) (I : Addr) (x : Str) (px : Pos) (ifs : List Expr) (elt : Expr) (n : Nat) (fp wr : List Addr) (pz : Nat → Bool) (F : Nat → Value → Prop) (OI : Heap → Prop) (J : Nat → Heap → Prop) (k : Nat)
    (r : Heap → Prop) (fl : List Env) (wrE : List Addr) : Prop where
  sub : ∀ b ∈ wr, b ∈ fp
  subE : ∀ b ∈ wr, b ∈ wrE
  fr : ∃ C, cenv.frame = some C
  co : cenv.scope.isCoroutine = false
  oi : ∀ i h, J i h → OI h
  frame : ∀ i h h', J i h → KpF fp h h' → J i h'
  self : ∀ (A' : Around) (s : Shared) (Q : Value → Shared → Prop) (E : Value → Shared → Prop), J 0 s.heap → Q (.ref I) s → wpAny (model prog w) A' (pyIter (.ref I)) Q E s
  item : ∀ (A' : Around), Room k A' → A'.frames = some (cenv :: fl) → ∀ i (s : Shared), i < n → J i s.heap → wpAny (model prog w) A' (pyNext (.ref I)) (fun o s₁ => ∃ v, o = some v ∧
    wpAny (model prog w) A' (assign (.Name x px) cenv v) (fun _ s₂ =>
      wpAny (model prog w) A' (forIn ifs true fun c r => if r = true then do let ok ← isTrue c cenv (eval c cenv); pure (ForInStep.yield ok) else pure (ForInStep.yield r)) (fun ok s₃ => ok = pz i ∧
        if ok = true then wpAny (model prog w) A' (eval elt cenv) (fun y s₄ => F i y ∧ J (i + 1) s₄.heap ∧ Mv wr s s₄) (ErV r (cenv :: fl) wrE wr s) s₃ else J (i + 1) s₃.heap ∧ Mv wr s s₃) (ErV r (cenv :: fl) wrE wr s) s₂) (ErV r (cenv :: fl) wrE wr s) s₁) (ErV r (cenv :: fl) wrE wr s) s
  done : ∀ (A' : Around), Room k A' → ∀ (s : Shared), J n s.heap → wpAny (model prog w) A' (pyNext (.ref I)) (fun o s' => o = none ∧ OI s'.heap ∧ Mv wr s s') noE s

def gRes (wr : List Addr) (OI : Heap → Prop) (r : Heap → Prop) (fl : List Env) (wrE : List Addr) : GenEnd := fun m s₀ x s₁ => (x = .ok .next ∧ m = 0 ∧ Mv wr s₀ s₁ ∧ OI s₁.heap) ∨ ∃ e, x = .error e ∧ ErV r fl wrE wr s₀ e s₁
def gPr (fp wr : List Addr) (pz : Nat → Bool) (n : Nat) (F : Nat → Value → Prop) (OI : Heap → Prop) : Protocol := fun m s₀ v s kap =>
  (∃ i, (passing pz n 0)[(passing pz n 0).length - 1 - m]? = some i ∧ F i v) ∧ Mv wr s₀ s ∧ OI s.heap ∧ ∀ s'' : Shared, KpF fp s.heap s''.heap → kap (.send .none) s''

theorem Room.over {k : Nat} {A : Around} (hA : Room k A) {c : Code} (h1 : c.weight ≤ 1) (h2 : c.cUnits ≤ 10) : Room (k + 1) (A.over c []) :=
  ⟨hA.handled, by show A.depth + 0 + c.weight ≤ _; have := hA.depth; omega, by show A.units + 0 + c.cUnits ≤ _; have := hA.units; omega⟩

theorem frames_over {cenv : Env} {fl : List Env} (h : A.frames = some fl) {c : Code} (hc : c.envs = [cenv]) : (A.over c []).frames = some (cenv :: fl) := by
  show pushEnvs c.envs (pushEnvs [] A.frames) = _
  rw [hc, h]; rfl

theorem seg_err {cenv : Env} {fl : List Env} {wr wrE : List Addr} {n : Nat} {r : Heap → Prop} {OI : Heap → Prop} {Y : Protocol} {c : Code} {s₀ s s' : Shared} {e : Value} (hf : (A.over c []).frames = some (cenv :: fl)) (hC : ∃ C, cenv.frame = some C) (hsub : ∀ b ∈ wr, b ∈ wrE)
    (hm : Mv wr s₀ s) (h : ErV r (cenv :: fl) wrE wr s e s') :
    Seg (model prog w) A (gRes wr OI r fl wrE) Y n s₀ c ((leaving cenv e).bind fun _ => .raise e) [] s' := by
  obtain ⟨C, hC⟩ := hC
  refine seg_bind (wpAny_mono (ErV.leave hf hC h) (fun _ s'' h'' => ?_) fun _ _ e => e.elim)
  exact seg_end (.error e) (.inr ⟨e, rfl, h''.lift hm (fun b hb => .inl (hb.elim (hsub b) id)) fun b hb => .inl (hb.elim id id)⟩)

theorem seg_gl {elt iter : Expr} {x : Str} {px : Pos} {ifs : List Expr} {scope : Scope} {pos : Pos} {I : Addr} {fp wr : List Addr} {n : Nat} {cenv : Env} {pz : Nat → Bool} {F : Nat → Value → Prop} {OI : Heap → Prop} {J : Nat → Heap → Prop} {k : Nat} {r : Heap → Prop} {fl : List Env} {wrE : List Addr}
    (T : GT prog w cenv I x px ifs elt n fp wr pz F OI J (k + 1) r fl wrE) (hA : Room k A) (hf : A.frames = some fl) :
    ∀ (q i : Nat) (s₀ s : Shared), n - i = q → i ≤ n → J i s.heap → Mv wr s₀ s →
      Seg (model prog w) A (gRes wr OI r fl wrE) (gPr fp wr pz n F OI) (passing pz n i).length s₀
        (.compLoop (.GeneratorExp elt [⟨.Name x px, iter, ifs, 0⟩] scope pos) 0 (.ref I) .none cenv)
        ((model prog w).den (.compLoop (.GeneratorExp elt [⟨.Name x px, iter, ifs, 0⟩] scope pos) 0 (.ref I) .none cenv)) [] s := by
  have hA' : Room (k + 1) (A.over (.compLoop (.GeneratorExp elt [⟨.Name x px, iter, ifs, 0⟩] scope pos) 0 (.ref I) .none cenv) []) := hA.over (by first | decide | (simp [Code.weight, Code.frames, Code.isCreation, Code.isGuard, Code.isCaller, Code.isFrame])) (by simp [Code.cUnits, Code.frames, Code.isFrame])
  have hf' := frames_over (cenv := cenv) hf (c := .compLoop (.GeneratorExp elt [⟨.Name x px, iter, ifs, 0⟩] scope pos) 0 (.ref I) .none cenv) rfl
  intro q
  induction q with
  | zero =>
    intro i s₀ s hk hi hst hsince
    have hin : i = n := by omega
    subst hin
    show Seg _ A _ _ _ s₀ _ ((compTurn (.GeneratorExp elt [⟨.Name x px, iter, ifs, 0⟩] scope pos) 0 (.ref I) .none cenv).onRaise (leaving cenv)) [] s
    rw [compTurn_gen, Sem.onRaise_eq_wrap]
    refine seg_bind_wrap (wpAny_standAt ?_)
    refine seg_bind_wrap (wpAny_mono (T.done _ hA' s hst) (fun o s' h => ?_) fun _ _ e => e.elim)
    obtain ⟨rfl, ho, hm⟩ := h
    exact seg_end (.ok .next) (.inl ⟨rfl, by rw [passing_end]; rfl, hsince.trans hm, ho⟩)
  | succ q ih =>
    intro i s₀ s hk hi hst hsince
    have hlt : i < n := by omega
    show Seg _ A _ _ _ s₀ _ ((compTurn (.GeneratorExp elt [⟨.Name x px, iter, ifs, 0⟩] scope pos) 0 (.ref I) .none cenv).onRaise (leaving cenv)) [] s
    rw [compTurn_gen, Sem.onRaise_eq_wrap]
    refine seg_bind_wrap (wpAny_standAt ?_)
    refine seg_bind_wrap (wpAny_mono (T.item _ hA' hf' i s hlt hst) (fun o s₁ h₁ => ?_) fun _ _ e => seg_err hf' T.fr T.subE hsince e)
    obtain ⟨v, rfl, h₁⟩ := h₁
    refine seg_bind_wrap (wpAny_of_eq (rfl : letOwnedTupleGo (.Name x px) (.ref I) v = pure ()) ?_)
    refine seg_bind_wrap (wpAny_mono h₁ (fun _ s₂ h₂ => ?_) fun _ _ e => seg_err hf' T.fr T.subE hsince e)
    refine seg_bind_wrap (wpAny_mono h₂ (fun ok s₃ h₃ => ?_) fun _ _ e => seg_err hf' T.fr T.subE hsince e)
    obtain ⟨rfl, h₃⟩ := h₃
    cases hpz : pz i with
    | false =>
      rw [passing_false hlt hpz]
      rw [hpz] at h₃
      simp only [Bool.false_eq_true, if_false] at h₃ ⊢
      exact seg_again rfl (ih (i + 1) s₀ _ (by omega) hlt h₃.1 (hsince.trans h₃.2))
    | true =>
      rw [passing_true hlt hpz, List.length_cons]
      rw [hpz] at h₃
      simp only [if_true] at h₃ ⊢
      have hy : ∀ v, yieldOut cenv v = yieldValue v := fun v => by simp only [yieldOut, T.co, Bool.false_eq_true, if_false]
      simp only [hy]
      rw [Sem.bind_eq_wrap', Sem.bind_eq_wrap', Sem.wrap_wrap, Sem.wrap_wrap]
      refine seg_wrap (wpAny_mono h₃ (fun y s₄ h₄ => ?_) fun _ _ e => seg_err hf' T.fr T.subE hsince e)
      obtain ⟨hFy, hJ₄, hm₄⟩ := h₄
      refine seg_at (seg_yield rfl rfl rfl ⟨⟨i, passing_here hlt hpz, hFy⟩, hsince.trans hm₄, T.oi _ _ hJ₄, fun s'' hal => ?_⟩)
      exact seg_again rfl (ih (i + 1) s'' s'' (by omega) hlt (T.frame _ _ _ hJ₄ hal) (Mv.refl _ _))

theorem seg_gs {elt iter : Expr} {x : Str} {px : Pos} {ifs : List Expr} {scope : Scope} {pos : Pos} {I : Addr} {fp wr : List Addr} {n : Nat} {cenv : Env} {pz : Nat → Bool} {F : Nat → Value → Prop} {OI : Heap → Prop} {J : Nat → Heap → Prop} {k : Nat} {r : Heap → Prop} {fl : List Env} {wrE : List Addr}
    (T : GT prog w cenv I x px ifs elt n fp wr pz F OI J (k + 1) r fl wrE) (hA : Room k A) (hf : A.frames = some fl) (s₀ s : Shared) (hst : J 0 s.heap) (hm : Mv wr s₀ s) :
    Seg (model prog w) A (gRes wr OI r fl wrE) (gPr fp wr pz n F OI) (passing pz n 0).length s₀
      (.compStart (.GeneratorExp elt [⟨.Name x px, iter, ifs, 0⟩] scope pos) 0 (.ref I) .none cenv)
      ((model prog w).den (.compStart (.GeneratorExp elt [⟨.Name x px, iter, ifs, 0⟩] scope pos) 0 (.ref I) .none cenv)) [] s := by
  have loop := seg_gl (iter := iter) (px := px) (scope := scope) (pos := pos) T hA hf n 0 s₀ s (Nat.sub_zero _) (Nat.zero_le _) hst hm
  show Seg _ A _ _ _ s₀ _ ((compStart (.GeneratorExp elt [⟨.Name x px, iter, ifs, 0⟩] scope pos) 0 (.ref I) .none cenv).onRaise (leaving cenv)) [] s
  unfold compStart
  rw [Sem.onRaise_eq_wrap]
  show Seg _ A _ _ _ s₀ _ ((ask >>= _).wrap _ _ _ _) [] s
  refine seg_bind_wrap (wpAny_askSetting ?_)
  split
  · exact seg_again rfl loop
  · first
      | exact seg_bind_wrap (wpAny_rule (seg_bind_wrap (wpAny_standAt (seg_bind_wrap (T.self _ s _ _ hst (seg_again rfl loop))))))
      | (refine seg_bind_wrap (wpAny_rule ?_); show Seg _ A _ _ _ s₀ _ ((standAt iter.pos >>= _).wrap _ _ _ _) [] s; exact seg_bind_wrap (wpAny_standAt (seg_bind_wrap (T.self _ s _ _ hst (seg_again rfl loop)))))

/-- the generator a, its state g, before its j-th value -/
def GA (prog : Program) (w : World) (A : Around) (a : Addr) (g : Nat) (fp wr : List Addr) (pz : Nat → Bool) (n : Nat) (F : Nat → Value → Prop) (OI : Heap → Prop) (r : Heap → Prop) (fl : List Env) (wrE : List Addr) (j : Nat) (s : Shared) : Prop :=
  s.heap.IsGen a g ∧ s.heap.NoLimit ∧ ∃ gs, s.gens[g]? = some gs ∧ ∀ s'' : Shared, KpF fp s.heap s''.heap →
    gs.Goes (model prog w) A.in1 (gRes wr OI r fl wrE) (gPr fp wr pz n F OI) ((passing pz n 0).length - j) (.send .none) s''

theorem GA.fresh {elt iter : Expr} {x : Str} {px : Pos} {ifs : List Expr} {scope : Scope} {pos : Pos} {I a : Addr} {g : Nat} {fp wr : List Addr} {n : Nat} {cenv : Env} {pz : Nat → Bool} {F : Nat → Value → Prop} {OI : Heap → Prop} {J : Nat → Heap → Prop} {k : Nat} {r : Heap → Prop} {fl : List Env} {wrE : List Addr}
    (T : GT prog w cenv I x px ifs elt n fp wr pz F OI J (k + 2) r fl wrE) (hA : Room k A) (hf : A.frames = some fl) {s : Shared}
    (hg : s.heap.IsGen a g) (hgs : s.gens[g]? = some (.fresh (.compStart (.GeneratorExp elt [⟨.Name x px, iter, ifs, 0⟩] scope pos) 0 (.ref I) .none cenv)))
    (hst : J 0 s.heap) (hl : s.heap.NoLimit) : GA prog w A a g fp wr pz n F OI r fl wrE 0 s :=
  ⟨hg, hl, _, hgs, fun s'' hal => ⟨rfl, seg_gs (A := A.in1) T hA.in1 hf s'' s'' (T.frame _ _ _ hst hal) (Mv.refl _ _)⟩⟩

theorem GA.frame {a : Addr} {g : Nat} {fp wr : List Addr} {pz : Nat → Bool} {n : Nat} {F : Nat → Value → Prop} {OI : Heap → Prop} {r : Heap → Prop} {fl : List Env} {wrE : List Addr} {j : Nat} {s : Shared} {h' : Heap} {tk : Nat} (st : GA prog w A a g fp wr pz n F OI r fl wrE j s)
    (hcs : cStatics ∈ fp) (hk : ∀ (b : Nat) o, (b = a ∨ b ∈ fp ∨ TupO o) → s.heap.get? b = some o → h'.get? b = some o) : GA prog w A a g fp wr pz n F OI r fl wrE j { s with heap := h', toks := tk } :=
  ⟨let ⟨o, nm, qn, ho, r⟩ := st.1; ⟨o, nm, qn, hk a o (.inl rfl) ho, r⟩,
   (let ⟨mc, hns, hnn⟩ := st.2.1; ⟨mc, hns.at' fun o e => hk cStatics o (.inr (.inl hcs)) e, hnn⟩),
   let ⟨gs, hgs, hgo⟩ := st.2.2; ⟨gs, hgs, fun s'' hal => hgo s'' fun b o hb e => hal b o hb (hk b o (.inr hb) e)⟩⟩

theorem sub_value_stop : isSubtype (.type "ValueError") (.type "StopIteration") = pure false := by rw [isSubtype_type]; kernel_rfl

theorem pyNext_gen {k : Nat} (hA : Room k A) (hk : k ≤ 50) {a : Addr} {g : Nat} {fp wr : List Addr} {pz : Nat → Bool} {n : Nat} {F : Nat → Value → Prop} {OI : Heap → Prop} {r : Heap → Prop} {fl : List Env} {wrE : List Addr} {j : Nat} {s : Shared} {Q : Option Value → Shared → Prop} {E : Value → Shared → Prop}
    (hOs : ∀ h h', OI h → Sub h h' → OI h')
    (haw : a ∉ wr) (hae : a ∉ wrE) (hsubE : ∀ b ∈ wr, b ∈ wrE) (hcw : cStatics ∉ wr) (st : GA prog w A a g fp wr pz n F OI r fl wrE j s)
    (hY : ∀ i v s', j < (passing pz n 0).length → (passing pz n 0)[j]? = some i → F i v → GA prog w A a g fp wr pz n F OI r fl wrE (j + 1) s' → OI s'.heap → Mv wr s s' → Q (some v) s')
    (hD : (passing pz n 0).length ≤ j → ∀ s', OI s'.heap → Mv wr s s' → Q none s')
    (hX : ∀ e s', ErV r fl wrE wr s e s' → E e s') :
    wpAny (model prog w) A (pyNext (.ref a)) Q E s := by
  obtain ⟨hg, hl, gs, hgs, hgo⟩ := st
  have hgo' := hgo (s.setGen g .running) fun _ _ _ e => e
  have hlt : g < s.gens.size := by
    rcases Nat.lt_or_ge g s.gens.size with h' | h'
    · exact h'
    · rw [Array.getElem?_eq_none h'] at hgs; cases hgs
  have go : ∀ (m : Nat), (passing pz n 0).length - j = m → wpAny (model prog w) A (pyNext (.ref a)) Q E s := by
    intro m hm
    rw [hm] at hgo'
    unfold pyNext
    refine wpAny_bind (wpAny_attempt (wpAny_callSpecial?_slot (name := Str.ofString "__next__") hg.typeIs slot_gen_next
      (wpAny_call_entry slot_gen_next hg.typeIs entry_gen_next ?_ (args_gen_next _))))
    show wpAny _ A.in1 (Builtin.Generator.genWake (.ref a) (.send .none)) _ _ s
    unfold Builtin.Generator.genWake
    refine wpAny_bind (wpAny_holding (wpAny_genNumber hg (wpAny_bind (wpAny_genState hgs ?_))))
    cases gs with
    | running => exact hgo'.elim
    | finished => exact hgo'.elim
    | _ =>
      refine wpAny_bind (wpAny_roomToWake hl (hA.room (by omega)) ?_)
      show wpAny _ A.in1 (.resume g (.send .none) [] _) _ _ s
      refine wpAny_resumeQ hgs hgo' (fun x s₁ hx => ?_) (fun v s₁ gs' hb hv => ?_)
      · rcases hx with ⟨rfl, hm0, hm₁, ho⟩ | ⟨e, rfl, he⟩
        · show wpAny _ A.in1 (newExc (.type "StopIteration") [] >>= _) _ _ _
          refine wpAny_bind ?_
          simp only [newExc, newTuple]
          refine wpAny_bind (wpAny_newObj_type ?_ (by size_fits))
          refine wpAny_bind (m := firstArgMember _ _) (wpAny_of_eq (a := Value.none) (by first | rfl | (simp only [firstArgMember]; rfl)) ?_)
          refine wpAny_newObj_type ?_ (by size_fits)
          simp only [raiseNew]
          refine wpAny_bind (wpAny_bind (wpAny_handled ?_))
          rw [show A.in1.handled = none from hA.handled]
          refine wpAny_throw ?_
          refine wpAny_bind (wpAny_isInstance (T := "StopIteration") (b := true) ⟨_, Heap.get?_push_size _ rfl, rfl⟩ isSubtype_stop ?_)
          have hmv : Mv wr s (s₁.setGen g .finished) := ((Mv.setGen (x := .running) rfl wr).trans hm₁).trans (Mv.setGen rfl wr)
          refine wpAny_pure (hD (by omega) _ (hOs _ _ ho fun b o e => Heap.get?_push_of_some _ (Heap.get?_push_of_some _ e)) (hmv.trans ⟨_, _, _, rfl, fun b o _ e => Heap.get?_push_of_some _ (Heap.get?_push_of_some _ e), GR.refl _⟩))
        · have he' := he.stop (g := g)
          have hT : (s₁.setGen g .finished).TypeIs e "ValueError" := he'.isE
          obtain ⟨o, nm, qn, ho, hc, hd, hsl⟩ := hg
          have hoa : (s₁.setGen g .finished).heap.get? a = some o := he'.mv.keep a o hae ho
          show wpAny _ A.in1 (Builtin.Generator.genLeft (.ref a) e) _ _ _
          unfold Builtin.Generator.genLeft Builtin.Generator.madeByALambda Builtin.Generator.genEscaped
          refine wpAny_bind (wpAny_bind (wpAny_load hoa ?_))
          rw [hc, hd]
          refine wpAny_pure (wpAny_bind (wpAny_isInstance hT sub_value_stop ?_))
          refine wpAny_bind (wpAny_isInstance hT sub_value_stop ?_)
          refine wpAny_throw ?_
          refine wpAny_bind (wpAny_isInstance hT sub_value_stop ?_)
          exact wpAny_throw (hX e _ (he'.lift (Mv.setGen (x := .running) rfl []) (fun b hb => .inl (hb.elim (fun h => nomatch h) id)) fun b hb => .inl (hb.elim (fun h => nomatch h) id)))
      · obtain ⟨⟨i, hi, hF⟩, hm₁, ho, hkap⟩ := hv
        cases m with
        | zero => exact False.elim (hkap s₁ fun _ _ _ e => e)
        | succ m =>
          have hidx : (passing pz n 0).length - 1 - (m + 1 - 1) = j := by omega
          rw [hidx] at hi
          have hmv : Mv wr s (s₁.setGen g gs') := ((Mv.setGen (x := .running) rfl wr).trans hm₁).trans (Mv.setGen hb wr)
          have hgs₁ : (s₁.setGen g gs').gens[g]? = some gs' := by
            have h1 := hm₁.gens.1
            have h2 : (s.setGen g .running).gens.size = s.gens.size := by simp [Shared.setGen]
            have : g < s₁.gens.size := by omega
            simp [Shared.setGen, this]
          refine wpAny_pure ⟨v, rfl, wpAny_pure (hY i v _ (by omega) hi hF ⟨?_, ?_, gs', hgs₁, fun s'' hal => ?_⟩ ho hmv)⟩
          · obtain ⟨o, nm, qn, ho, r⟩ := hg; exact ⟨o, nm, qn, hm₁.keep a o haw ho, r⟩
          · obtain ⟨mc, hns, hnn⟩ := hl; exact ⟨mc, hns.at' fun o e => hm₁.keep cStatics o hcw e, hnn⟩
          · have e : (passing pz n 0).length - (j + 1) = m := by omega
            rw [e]
            exact hkap s'' hal
  exact go _ rfl
end
end Mine

namespace Mine

section
variable {prog : Program} {w : World} {A : Around} {E : Value → Shared → Prop} {s : Shared}

def gcells (own : Bool) (x : Str) (cl : List (Str × Addr)) (C : Nat) : List (Str × Addr) := if own then (x, C + 1) :: cl else cl
def ownW (own : Bool) (C : Nat) : List Addr := if own then [C, C + 1] else [C]

/-- the environment of a generator expression (its name with a cell of its own too) -/
theorem newEnv_gen {own : Bool} {x : Str} {scope : Scope} {globals bi : Addr} {cl : List (Str × Addr)} {qual : Str} {code it : Value} {Q : Env → Shared → Prop} (S : CompShape own x scope cl) (h0 : scope.names.lookup (".0" : Str) = some .local)
    (h : ∀ h' tk, h'.Ns s.heap.objs.size (fun y => if y = ".0" then some it else none) → (own = true → h'.IsCell (s.heap.objs.size + 1) none) → Sub s.heap h' → h'.objs.size = s.heap.objs.size + (if own then 2 else 1) →
      Q { scope, locals := s.heap.objs.size, globals, cells := gcells own x cl s.heap.objs.size, qual, func := none, code, frame := some s.heap.objs.size, builtins := bi } { s with heap := h', toks := tk }) :
    wpAny (model prog w) A (newFunctionEnv scope globals cl [(".0", it)] qual none code none bi) Q E s := by
  simp only [newFunctionEnv, Option.isSome_none, Bool.false_eq_true, if_false]
  refine wpAny_bind (wpAny_alloc ?_)
  refine wpAny_bind (wpAny_layCells _ (fun name kind cells => by cases kind == NameKind.cell <;> simp) _ _ _ _ ?_)
  rw [show ({ s with heap := s.heap.push { cls := .type "frame", data := .dict #[] } } : Shared).heap.objs.size = s.heap.objs.size + 1 from Heap.size_push ..]
  rw [S.cells]
  dsimp only
  rw [S.push]
  have hns : (if own = true then (s.heap.push { cls := .type "frame", data := .dict #[] }).push { cls := .type "cell", data := .cell none } else s.heap.push { cls := .type "frame", data := .dict #[] }).Ns s.heap.objs.size (fun _ => none) := by
    have := Heap.Ns.new s.heap (.type "frame")
    cases own
    · exact this
    · exact this.push _
  have hsub : Sub s.heap (if own = true then (s.heap.push { cls := .type "frame", data := .dict #[] }).push { cls := .type "cell", data := .cell none } else s.heap.push { cls := .type "frame", data := .dict #[] }) := fun b o e => by
    cases own
    · exact Heap.get?_push_of_some _ e
    · exact Heap.get?_push_of_some _ (Heap.get?_push_of_some _ e)
  have hcell : own = true → (if own = true then (s.heap.push { cls := .type "frame", data := .dict #[] }).push { cls := .type "cell", data := .cell none } else s.heap.push { cls := .type "frame", data := .dict #[] }).IsCell (s.heap.objs.size + 1) none := fun ho => by
    subst ho
    have := Heap.get?_push_size (o := ({ cls := .type "cell", data := .cell none } : Obj)) (s.heap.push { cls := .type "frame", data := .dict #[] }) rfl
    rw [Heap.size_push] at this
    exact ⟨_, this, rfl⟩
  have hsz : (if own = true then (s.heap.push { cls := .type "frame", data := .dict #[] }).push { cls := .type "cell", data := .cell none } else s.heap.push { cls := .type "frame", data := .dict #[] }).objs.size = s.heap.objs.size + (if own then 2 else 1) := by
    cases own
    · exact Heap.size_push ..
    · show ((s.heap.push _).push _).objs.size = _
      rw [Heap.size_push, Heap.size_push]; rfl
  simp only [List.forIn_cons, List.forIn_nil]
  refine wpAny_bind (wpAny_bind (wpAny_bind (wpAny_storeName_local h0 hns (fun h' hn' hs' => ?_) (by rw [S.kind]; rfl))))
  refine wpAny_pure (wpAny_pure (wpAny_pure ?_))
  refine h h' _ ?_ (fun ho => (hcell ho).sameBut hs' (Nat.succ_ne_self _)) (fun b o e => hs'.extBut b o (Nat.ne_of_lt (Heap.lt_size e)) (hsub b o e)) (hs'.1.trans hsz)
  exact hn'

theorem ge_make {own : Bool} {env : Env} {elt iter : Expr} {x : Str} {px : Pos} {ifs : List Expr} {scope : Scope} {cl : List (Str × Addr)} {pos : Pos} {Q : Value → Shared → Prop}
    (hco : scope.isCoroutine = false) (hclos : closureFor scope env = pure cl) (h0 : scope.names.lookup (".0" : Str) = some NameKind.local) (S : CompShape own x scope cl) (hroom : A.depth < recursionLimit)
    (h : wpAny (model prog w) A (eval iter env) (fun xv s₁ => wpAny (model prog w) A (pyIter xv) (fun it s₂ => s₂.heap.NoLimit ∧
      wpAny (model prog w) A (genexprCode env pos (env.qual ++ "<genexpr>") scope) (fun code s₃ => wpAny (model prog w) A (builtinsFor env.globals env.builtins) (fun bi s₄ =>
        ∀ h' tk, h'.Ns s₄.heap.objs.size (fun y => if y = ".0" then some it else none) → (own = true → h'.IsCell (s₄.heap.objs.size + 1) none) → Sub s₄.heap h' → h'.objs.size = s₄.heap.objs.size + (if own then 2 else 1) →
          ∀ o : Obj, o.cls = .type "generator" → (∃ nm qn, o.data = .fields #[.int s₄.gens.size 0, nm, qn]) → o.slots = #[] →
          Q (.ref h'.objs.size) { s₄ with
            gens := s₄.gens.push (.fresh (.compStart (.GeneratorExp elt [⟨.Name x px, iter, ifs, 0⟩] scope pos) 0 it .none (genEnv scope (gcells own x cl s₄.heap.objs.size) s₄.heap.objs.size code bi env))),
            toks := tk, heap := h'.push o }) E s₃) E s₂) E s₁) E s)
    (hs : ∀ x, genFold iter env x = pure x) :
    wpAny (model prog w) A (eval (.GeneratorExp elt [⟨.Name x px, iter, ifs, 0⟩] scope pos) env) Q E s := by
  rw [eval_GeneratorExp1 _ _ _ _ _ _ _ hco, hclos]
  refine wpAny_bind (wpAny_mono h (fun xv s₁ h₁ => ?_) fun _ _ e => e)
  refine wpAny_bind (wpAny_standAt ?_)
  refine wpAny_bind (wpAny_of_eq (hs xv) ?_)
  refine wpAny_bind (wpAny_holding (wpAny_mono h₁ (fun it s₂ h₂ => ?_) fun _ _ e => e))
  refine wpAny_bind (wpAny_enterFrame h₂.1 hroom ?_)
  refine wpAny_bind (wpAny_pure ?_)
  refine wpAny_bind (wpAny_mono h₂.2 (fun code s₃ h₃ => ?_) fun _ _ e => e)
  refine wpAny_bind (wpAny_mono h₃ (fun bi s₄ h₄ => ?_) fun _ _ e => e)
  refine wpAny_bind (newEnv_gen S h0 fun h' tk hn hc hk hz => ?_)
  simp only [newGenerator, newFields]
  refine wpAny_bind (wpAny_newGen (wpAny_bind (wpAny_mkText (wpAny_bind (wpAny_mkText (wpAny_newObj_type ?_ (by size_fits)))))))
  exact h₄ h' _ hn hc hk hz _ rfl ⟨_, _, rfl⟩ rfl

/-- what a user shows of one turn of a generator expression over a list -/
def GTurn (prog : Program) (w : World) (cenv : Env) (x : Str) (ifs : List Expr) (elt : Expr) (its : Array Value) (OI : Nat → Heap → Prop) (wr : List Addr) (pz : Nat → Bool) (F : Nat → Value → Prop) (kk : Nat) (r : Heap → Prop) (fl : List Env) (wrT : List Addr) : Prop :=
  ∀ A' : Around, Room kk A' → A'.frames = some (cenv :: fl) → ∀ i v (s' : Shared), its[i]? = some v → OI i s'.heap → Bound cenv x v s'.heap → (∃ m, s'.heap.Ns cenv.locals m) →
    wpAny (model prog w) A' (forIn ifs true fun c r => if r = true then do let ok ← isTrue c cenv (eval c cenv); pure (ForInStep.yield ok) else pure (ForInStep.yield r)) (fun ok s₃ => ok = pz i ∧
      if ok = true then wpAny (model prog w) A' (eval elt cenv) (fun y s₄ => F i y ∧ OI (i + 1) s₄.heap ∧ Mv wr s' s₄) (ErV r (cenv :: fl) wrT wr s') s₃ else OI (i + 1) s₃.heap ∧ Mv wr s' s₃) (ErV r (cenv :: fl) wrT wr s') s'

theorem ge_GT {own : Bool} {cenv : Env} {x : Str} {px : Pos} {ifs : List Expr} {elt : Expr} {its : Array Value} {OI : Nat → Heap → Prop} {OIe : Heap → Prop} {wr : List Addr} {pz : Nat → Bool} {F : Nat → Value → Prop} {kk : Nat} {r : Heap → Prop} {fl : List Env} {wrT : List Addr}
    {I X C M a : Nat} (hturn : GTurn prog w cenv x ifs elt its OI wr pz F kk r fl wrT) (hsubE : ∀ b ∈ wr, b ∈ wrT) (hfr : cenv.frame = some C)
    (hoi : ∀ i h, OI i h → OIe h) (hOI : ∀ i h h', OI i h → (∀ (b : Nat) o, (b < M ∧ b ≠ I ∨ TupO o) → h.get? b = some o → h'.get? b = some o) → OI i h')
    (hkind : cenv.scope.kind = .function) (hco : cenv.scope.isCoroutine = false) (hC : cenv.locals = C) (hx : cenv.kindOf x = some (if own then .cell else .local)) (hcl : own = true → cenv.cells.lookup x = some (C + 1))
    (hI : I < M) (hMC : M ≤ C) (ha : a = C + (if own then 2 else 1)) (hX : X < M) (hXI : X ≠ I) (hw : ∀ b : Nat, b ∈ wr → b < M) (hIw : I ∉ wr) (hXw : X ∉ wr) :
    GT prog w cenv I x px ifs elt its.size (List.range a) (I :: (ownW own C ++ wr)) pz F OIe
      (fun i h => OI i h ∧ h.IsListIter I X i ∧ h.IsList X its ∧ (∃ m, h.Ns C m) ∧ (own = true → ∃ v, h.IsCell (C + 1) v)) kk r fl (I :: (ownW own C ++ wrT)) := by
  have hp : (cenv.scope.kind == .class || (cenv.scope.kind == .module && cenv.locals != cenv.globals)) = false := by rw [hkind]; rfl
  have hca : C < a := by rw [ha]; split <;> omega
  have hca1 : own = true → C + 1 < a := fun ho => by rw [ha, ho]; simp
  have hIC : I ≠ C := by omega
  have hIa : I < a := by omega
  have hXa : X < a := by omega
  have hXC : X ≠ C := by omega
  have hCw : C ∉ wr := fun h => absurd (hw _ h) (by omega)
  have hC1w : C + 1 ∉ wr := fun h => absurd (hw _ h) (by omega)
  refine { sub := ?_, co := hco, oi := fun i h st => hoi i h st.1, frame := ?_, self := ?_, item := ?_, done := ?_, fr := ⟨C, hfr⟩, subE := ?subE }
  case subE =>
    intro b hb
    rcases List.mem_cons.mp hb with hb | hb
    · exact List.mem_cons.mpr (.inl hb)
    · rcases List.mem_append.mp hb with hb | hb
      · exact List.mem_cons_of_mem _ (List.mem_append_left _ hb)
      · exact List.mem_cons_of_mem _ (List.mem_append_right _ (hsubE b hb))
  · intro b hb
    refine List.mem_range.mpr ?_
    rcases List.mem_cons.mp hb with rfl | hb
    · omega
    rcases List.mem_append.mp hb with hb | hb
    · cases own with
      | false => rw [List.mem_singleton.mp hb]; exact hca
      | true =>
        have := hca1 rfl
        simp only [ownW, if_true, List.mem_cons, List.not_mem_nil, or_false] at hb
        rcases hb with rfl | rfl <;> omega
    · have := hw b hb
      exact Nat.lt_of_lt_of_le this (Nat.le_trans hMC (Nat.le_of_lt hca))
  · rintro i h h' ⟨h1, h2, h3, ⟨m, h4⟩, h5⟩ hk
    have k : ∀ (b : Nat) o, b < a → h.get? b = some o → h'.get? b = some o := fun b o hb e => hk b o (.inl (List.mem_range.mpr hb)) e
    exact ⟨hOI i h h' h1 (fun b o hb e => hk b o (hb.imp (fun q => List.mem_range.mpr (by omega)) id) e), h2.at fun o e => k I o hIa e, h3.at fun o e => k X o hXa e, ⟨m, h4.at' fun o e => k C o hca e⟩,
      fun ho => let ⟨v, o, e, d⟩ := h5 ho; ⟨v, o, k _ o (hca1 ho) e, d⟩⟩
  · exact fun A' s Q E st hQ => wpAny_pyIter_listiter st.2.1 hQ
  · rintro A' hA' hf' i s hi ⟨h1, h2, h3, ⟨m, h4⟩, h5⟩
    have W := Walks.list (prog := prog) (w := w) (A := A') hA'.handled I X hXI its
    refine W.item i s _ _ hi ⟨h2, h3⟩ fun v h₁ tk₁ hPv hst₁ hk₁ => ?_
    have k₁ : ∀ (b : Nat) o, b ≠ I → s.heap.get? b = some o → h₁.get? b = some o := fun b o hb e => hk₁ b o (by rw [List.mem_singleton]; exact hb) e
    have hOI₁ := hOI i _ h₁ h1 fun b o hb e => k₁ b o (by
      rcases hb with hb | hb
      · exact hb.2
      · intro q
        obtain ⟨o', e', hc', _⟩ := h2
        rw [q, e'] at e; cases e
        rw [hb.1] at hc'; exact absurd hc' (by decide)) e
    have hn₁ : h₁.Ns C m := h4.at' fun o e => k₁ _ o (Ne.symm hIC) e
    refine ⟨v, rfl, ?_⟩
    have fin : ∀ h₂ tk₁, OI i h₂ → h₂.IsListIter I X (i + 1) → h₂.IsList X its → (∃ m, h₂.Ns C m) → (own = true → ∃ v, h₂.IsCell (C + 1) v) → Bound cenv x v h₂ → (∀ b o, b ∉ I :: (ownW own C ++ wr) → s.heap.get? b = some o → h₂.get? b = some o) →
        wpAny (model prog w) A' (forIn ifs true fun c r => if r = true then do let ok ← isTrue c cenv (eval c cenv); pure (ForInStep.yield ok) else pure (ForInStep.yield r)) (fun ok s₃ => ok = pz i ∧
        if ok = true then wpAny (model prog w) A' (eval elt cenv) (fun y s₄ => F i y ∧ (OI (i + 1) s₄.heap ∧ s₄.heap.IsListIter I X (i + 1) ∧ s₄.heap.IsList X its ∧ (∃ m, s₄.heap.Ns C m) ∧ (own = true → ∃ v, s₄.heap.IsCell (C + 1) v)) ∧ Mv (I :: (ownW own C ++ wr)) s s₄) (ErV r (cenv :: fl) (I :: (ownW own C ++ wrT)) (I :: (ownW own C ++ wr)) s) s₃
        else (OI (i + 1) s₃.heap ∧ s₃.heap.IsListIter I X (i + 1) ∧ s₃.heap.IsList X its ∧ (∃ m, s₃.heap.Ns C m) ∧ (own = true → ∃ v, s₃.heap.IsCell (C + 1) v)) ∧ Mv (I :: (ownW own C ++ wr)) s s₃) (ErV r (cenv :: fl) (I :: (ownW own C ++ wrT)) (I :: (ownW own C ++ wr)) s) { s with heap := h₂, toks := tk₁ } := by
      intro h₂ tk₁ a1 a2 a3 ⟨m₂, a4⟩ a5 a6 a7
      have liftb : ∀ b, (b ∈ I :: (ownW own C ++ wr) ∨ b ∈ wrT) → b ∈ I :: (ownW own C ++ wrT) ∨ s.heap.get? b = none := fun b hb => by
        refine .inl ?_
        rcases hb with hb | hb
        · rcases List.mem_cons.mp hb with hb | hb
          · exact List.mem_cons.mpr (.inl hb)
          · rcases List.mem_append.mp hb with hb | hb
            · exact List.mem_cons_of_mem _ (List.mem_append_left _ hb)
            · exact List.mem_cons_of_mem _ (List.mem_append_right _ (hsubE b hb))
        · exact List.mem_cons_of_mem _ (List.mem_append_right _ hb)
      have liftn : ∀ b, (b ∈ I :: (ownW own C ++ wr) ∨ b ∈ wr) → b ∈ I :: (ownW own C ++ wr) ∨ s.heap.get? b = none := fun b hb =>
        .inl (hb.elim id fun hb => List.mem_cons_of_mem _ (List.mem_append_right _ hb))
      have hm₀ : Mv (I :: (ownW own C ++ wr)) s { s with heap := h₂, toks := tk₁ } := ⟨h₂, tk₁, s.gens, rfl, a7, GR.refl _⟩
      have up : ∀ s₄ : Shared, OI (i + 1) s₄.heap → Mv wr { s with heap := h₂, toks := tk₁ } s₄ → (OI (i + 1) s₄.heap ∧ s₄.heap.IsListIter I X (i + 1) ∧ s₄.heap.IsList X its ∧ (∃ m, s₄.heap.Ns C m) ∧ (own = true → ∃ v, s₄.heap.IsCell (C + 1) v)) ∧ Mv (I :: (ownW own C ++ wr)) s s₄ :=
        fun s₄ o4 m4 => ⟨⟨o4, a2.at fun o e => m4.keep _ o hIw e, a3.at fun o e => m4.keep _ o hXw e, ⟨m₂, a4.at' fun o e => m4.keep _ o hCw e⟩, fun ho => let ⟨v, o, e, d⟩ := a5 ho; ⟨v, o, m4.keep _ o hC1w e, d⟩⟩,
          hm₀.trans (m4.mono fun b hb => List.mem_cons_of_mem _ (List.mem_append_right _ hb))⟩
      refine wpAny_mono (hturn A' hA' hf' i v { s with heap := h₂, toks := tk₁ } hPv a1 a6 ⟨m₂, hC ▸ a4⟩) (fun ok s₃ h => ?_) fun e s' h => h.lift hm₀ liftb liftn
      obtain ⟨rfl, h⟩ := h
      refine ⟨rfl, ?_⟩
      cases hpz : pz i with
      | false =>
        rw [hpz] at h
        simp only [Bool.false_eq_true, if_false] at h ⊢
        exact up s₃ h.1 h.2
      | true =>
        rw [hpz] at h
        simp only [if_true] at h ⊢
        exact wpAny_mono h (fun y s₄ h => ⟨h.1, up s₄ h.2.1 h.2.2⟩) fun e s' h => h.lift hm₀ liftb liftn
    cases own with
    | false =>
      refine wpAny_assign_Name (wpAny_storeName_local hx (hC ▸ hn₁) (fun h₂ hn₂ hs₂ => ?_) hp)
      rw [hC] at hn₂ hs₂
      have k₂ : ∀ (b : Nat) o, b ≠ C → h₁.get? b = some o → h₂.get? b = some o := fun b o hb e => hs₂.extBut b o hb e
      refine fin h₂ _ (hOI i _ h₂ hOI₁ fun b o hb e => k₂ b o (by
        rcases hb with hb | hb
        · omega
        · intro q
          obtain ⟨o', es, ep, e', hd', _⟩ := hn₁
          obtain ⟨xs, n', hd⟩ := hb.2
          rw [q, e'] at e; cases e
          rw [hd] at hd'; cases hd') e) (hst₁.1.at fun o e => k₂ _ o hIC e) (hst₁.2.at fun o e => k₂ _ o hXC e) ⟨_, hn₂⟩ (fun ho => nomatch ho) (.inl ⟨hx, _, by rw [hC]; exact hn₂, by simp⟩) fun b o hb e => ?_
      simp only [ownW, List.mem_cons, List.mem_append, not_or, List.not_mem_nil, Bool.false_eq_true, if_false] at hb
      exact k₂ b o hb.2.1.1 (k₁ b o hb.1 e)
    | true =>
      obtain ⟨v₀, hcv⟩ := h5 rfl
      have hcv₁ : h₁.IsCell (C + 1) v₀ := let ⟨o, e, d⟩ := hcv; ⟨o, k₁ _ o (by omega) e, d⟩
      refine wpAny_assign_Name (wpAny_storeName_cell hkind hx (hcl rfl) hcv₁ (fun h₂ hc₂ hs₂ => ?_))
      have k₂ : ∀ (b : Nat) o, b ≠ C + 1 → h₁.get? b = some o → h₂.get? b = some o := fun b o hb e => hs₂.extBut b o hb e
      refine fin h₂ _ (hOI i _ h₂ hOI₁ fun b o hb e => k₂ b o (by
        rcases hb with hb | hb
        · omega
        · intro q
          obtain ⟨o', e', hd'⟩ := hcv₁
          obtain ⟨xs, n', hd⟩ := hb.2
          rw [q, e'] at e; cases e
          rw [hd] at hd'; cases hd') e) (hst₁.1.at fun o e => k₂ _ o (by omega) e) (hst₁.2.at fun o e => k₂ _ o (by omega) e) ⟨m, hn₁.at' fun o e => k₂ _ o (by omega) e⟩ (fun _ => ⟨_, hc₂⟩) (.inr ⟨hx, C + 1, hcl rfl, hc₂⟩) fun b o hb e => ?_
      simp only [ownW, if_true, List.mem_cons, List.mem_append, not_or, List.not_mem_nil] at hb
      exact k₂ b o hb.2.1.2.1 (k₁ b o hb.1 e)
  · rintro A' hA' s ⟨h1, h2, h3, ⟨m, h4⟩, h5⟩
    have W := Walks.list (prog := prog) (w := w) (A := A') hA'.handled I X hXI its
    refine W.done s _ _ ⟨h2, h3⟩ fun h' tk hk => ⟨rfl, hoi _ _ (hOI _ _ h' h1 fun b o hb e => hk b o (by
      rw [List.mem_singleton]
      rcases hb with hb | hb
      · exact hb.2
      · intro q
        obtain ⟨o', e', hc', _⟩ := h2
        rw [q, e'] at e; cases e
        rw [hb.1] at hc'; exact absurd hc' (by decide)) e), h', tk, s.gens, rfl, fun b o hb e => hk b o (fun hm => hb (by rw [List.mem_singleton.mp hm]; exact List.mem_cons_self)) e, GR.refl _⟩
end
end Mine

namespace Mine

section
variable {prog : Program} {w : World} {A : Around} {s : Shared} {mg mb : Str → Option Value}

theorem list_src2 {env : Env} {e : Expr} {s : Shared} {l : Addr} {its : Array Value} (y : EvV prog w A env s.heap e (· = .ref l)) (hl : s.heap.IsList l its) :
    wpAny (model prog w) A (eval e env) (fun xv s₁ => wpAny (model prog w) A (pyIter xv) (fun it s₂ => ∃ I : Nat, it = .ref I ∧ Kp s s₂ ∧ s₂.heap.IsListIter I l 0 ∧ ∀ (b : Nat) o, s.heap.get? b = some o → b < I) noE s₁) noE s := by
  refine y.go (Sub.refl _) fun v s₁ hv k₁ => ?_
  subst hv
  refine wpAny_pyIter_list (hl.at fun o e => k₁.sub _ _ e) ?_
  exact ⟨_, rfl, k₁.trans (Kp.mk fun b o e => Heap.get?_push_of_some _ e), ⟨_, Heap.get?_push_size _ rfl, rfl, rfl⟩, fun b o e => Heap.lt_size (k₁.sub _ _ e)⟩

theorem bi_for {env : Env} {Q : Addr → Shared → Prop} {E : Value → Shared → Prop} (B : Base mg mb s.heap) (N : Names mg mb) (hg : env.globals = mainGlobals) (h : Q builtinsNs s) : wpAny (model prog w) A (builtinsFor env.globals env.builtins) Q E s := by
  rw [hg]
  exact wpAny_builtinsFor (bm := 4) B.g N.mod (by decide) B.mod rfl rfl rfl h

theorem ge_list {k kk : Nat} (hA : Room k A) (hk : k ≤ 50) {own : Bool} {env : Env} {elt iter : Expr} {x : Str} {px : Pos} {ifs : List Expr} {scope : Scope} {cl : List (Str × Addr)} {pos : Pos} {X : Nat} {its : Array Value} {Wc : List Addr} {r : Heap → Prop} {fl : List Env} {Q : Value → Shared → Prop} {E : Value → Shared → Prop}
    (hco : scope.isCoroutine = false) (hclos : closureFor scope env = pure cl) (h0 : scope.names.lookup (".0" : Str) = some NameKind.local) (S : CompShape own x scope cl)
    (B : Base mg mb s.heap) (N : Names mg mb) (hg : env.globals = mainGlobals) (hit : EvV prog w A env s.heap iter (· = .ref X)) (hX : s.heap.IsList X its) (hXW : X ∉ Wc) (hWc : ∀ b ∈ Wc, ∃ o, s.heap.get? b = some o)
    (hs : ∀ x, genFold iter env x = pure x)
    (h : ∀ (I : Nat) s₂, Kp s s₂ → (∀ (b : Nat) o, s.heap.get? b = some o → b < I) → I < s₂.heap.objs.size →
      wpAny (model prog w) A (genexprCode env pos (env.qual ++ "<genexpr>") scope) (fun code s₃ => Kw Wc s₂ s₃ ∧ Base mg mb s₃.heap ∧
        ∃ (OI : Nat → Heap → Prop) (wr : List Addr) (pz : Nat → Bool) (F : Nat → Value → Prop) (wrT : List Addr), OI 0 s₃.heap ∧ (∀ i h, i ≤ its.size → OI i h → OI its.size h) ∧ (∀ i h h', OI i h → (∀ (b : Nat) o, (b < s₃.heap.objs.size ∧ b ≠ I ∨ TupO o) → h.get? b = some o → h'.get? b = some o) → OI i h') ∧ (∀ b : Nat, b ∈ wr → b < s₃.heap.objs.size) ∧ I ∉ wr ∧ X ∉ wr ∧ cStatics ∉ wr ∧
          GTurn prog w (genEnv scope (gcells own x cl s₃.heap.objs.size) s₃.heap.objs.size code builtinsNs env) x ifs elt its OI wr pz F (kk + 2) r fl wrT ∧
          (∀ b ∈ wr, b ∈ wrT) ∧ (∀ b : Nat, b ∈ wrT → b ≤ s₃.heap.objs.size) ∧
          ∀ (a : Nat) g s₄, Mv [] s₃ s₄ → s₃.heap.objs.size < a → s₄.heap.objs.size = a + 1 → (∀ b : Nat, b ∈ I :: (ownW own s₃.heap.objs.size ++ wr) → b < a) → cStatics ∉ I :: (ownW own s₃.heap.objs.size ++ wr) → (∀ b : Nat, b ∈ I :: (ownW own s₃.heap.objs.size ++ wrT) → b < a) → (∀ b ∈ I :: (ownW own s₃.heap.objs.size ++ wr), b ∈ I :: (ownW own s₃.heap.objs.size ++ wrT)) →
            (∀ A'' : Around, Room kk A'' → A''.frames = some fl → GA prog w A'' a g (List.range a) (I :: (ownW own s₃.heap.objs.size ++ wr)) pz its.size F (OI its.size) r fl (I :: (ownW own s₃.heap.objs.size ++ wrT)) 0 s₄) → OI 0 s₄.heap →
            Q (.ref a) s₄) E s₂) :
    wpAny (model prog w) A (eval (.GeneratorExp elt [⟨.Name x px, iter, ifs, 0⟩] scope pos) env) Q E s := by
  refine ge_make hco hclos h0 S (hA.room (by omega)) (wpAny_mono (list_src2 hit hX) (fun xv s₁ h₁ => wpNoE (wpAny_mono h₁ (fun it s₂ h₂ => ?_) fun _ _ e => e)) fun _ _ e => e.elim) hs
  obtain ⟨I, rfl, k₂, hIit, hIl⟩ := h₂
  have hI := none_of_lt hIl
  have B₂ := B.sub k₂.sub
  refine ⟨B₂.nl, wpAny_mono (h I s₂ k₂ hIl (by obtain ⟨o, e, _⟩ := hIit; exact Heap.lt_size e)) (fun code s₃ h₃ => ?_) fun _ _ e => e⟩
  obtain ⟨k₃, B₃, OI, wr, pz, F, wrT, hOI, hmo, hst, hwr, hIw, hXw, hcw, hT, hsE, hbE, hQ⟩ := h₃
  refine bi_for B₃ N hg ?_
  intro h' tk hn hc hsub hz o ho1 ho2 ho3
  have hIW : I ∉ Wc := fun hm => by obtain ⟨o, e⟩ := hWc I hm; rw [hI] at e; cases e
  have hX₂ := IsList.to hX k₂.sub
  have hX₃ : s₃.heap.IsList X its := hX₂.at fun o e => k₃.keep _ o hXW e
  have hI₃ : s₃.heap.IsListIter I X 0 := hIit.at fun o e => k₃.keep _ o hIW e
  have hsub₄ : Sub s₃.heap (h'.push o) := fun b ob e => Heap.get?_push_of_some _ (hsub b ob e)
  have hIlt : I < s₃.heap.objs.size := by obtain ⟨o, e, _⟩ := hI₃; exact Heap.lt_size e
  have hXlt : X < s₃.heap.objs.size := by obtain ⟨o, e, _⟩ := hX₃; exact Heap.lt_size e
  have hXI : X ≠ I := fun q => by obtain ⟨o, e, _⟩ := hX; rw [q, hI] at e; cases e
  obtain ⟨nm, qn, ho2⟩ := ho2
  have hkind : (genEnv scope (gcells own x cl s₃.heap.objs.size) s₃.heap.objs.size code builtinsNs env).scope.kind = .function := S.kind
  refine hQ h'.objs.size s₃.gens.size _ ⟨_, _, _, rfl, fun b ob _ e => hsub₄ b ob e, GR.push rfl⟩ ?_ (Heap.size_push ..) ?hw ?hc ?hwE ?hsE ?_ (hst 0 _ _ hOI fun b o _ e => hsub₄ b o e)
  · rw [hz]; show (s₃.heap.objs.size : Nat) < s₃.heap.objs.size + _; split <;> omega
  case hw =>
    intro b hb
    have hC : (s₃.heap.objs.size : Nat) + (if own then 2 else 1) = h'.objs.size := hz.symm
    rcases List.mem_cons.mp hb with rfl | hb
    · rw [← hC]; exact Nat.lt_of_lt_of_le hIlt (Nat.le_add_right _ _)
    rcases List.mem_append.mp hb with hb | hb
    · rw [← hC]
      cases own
      · rw [List.mem_singleton.mp hb]; exact Nat.lt_succ_self _
      · simp only [ownW, if_true, List.mem_cons, List.not_mem_nil, or_false] at hb
        rcases hb with rfl | rfl
        · show (_ : Nat) < s₃.heap.objs.size + 2; omega
        · exact Nat.lt_succ_self _
    · have := hwr b hb
      rw [← hC]; exact Nat.lt_of_lt_of_le this (Nat.le_add_right _ _)
  case hwE =>
    intro b hb
    have hC : (s₃.heap.objs.size : Nat) + (if own then 2 else 1) = h'.objs.size := hz.symm
    rcases List.mem_cons.mp hb with rfl | hb
    · rw [← hC]; exact Nat.lt_of_lt_of_le hIlt (Nat.le_add_right _ _)
    rcases List.mem_append.mp hb with hb | hb
    · rw [← hC]
      cases own
      · rw [List.mem_singleton.mp hb]; exact Nat.lt_succ_self _
      · simp only [ownW, if_true, List.mem_cons, List.not_mem_nil, or_false] at hb
        rcases hb with rfl | rfl
        · show (_ : Nat) < s₃.heap.objs.size + 2; omega
        · exact Nat.lt_succ_self _
    · have := hbE b hb
      rw [← hC]
      refine Nat.lt_of_le_of_lt this ?_
      show (s₃.heap.objs.size : Nat) < s₃.heap.objs.size + _
      cases own
      · exact Nat.lt_succ_self _
      · exact Nat.lt_succ_of_lt (Nat.lt_succ_self _)
  case hsE =>
    intro b hb
    rcases List.mem_cons.mp hb with hb | hb
    · exact List.mem_cons.mpr (.inl hb)
    · rcases List.mem_append.mp hb with hb | hb
      · exact List.mem_cons_of_mem _ (List.mem_append_left _ hb)
      · exact List.mem_cons_of_mem _ (List.mem_append_right _ (hsE b hb))
  case hc =>
    obtain ⟨mc, hns, _⟩ := B.nl
    obtain ⟨mc₃, hns₃, _⟩ := B₃.nl
    have hlt₃ : @LT.lt Nat _ cStatics s₃.heap.objs.size := hns₃.lt
    obtain ⟨oc, _, _, hoc, _⟩ := hns
    intro hb
    rcases List.mem_cons.mp hb with hb | hb
    · rw [← hb, hoc] at hI; cases hI
    rcases List.mem_append.mp hb with hb | hb
    · cases own
      · rw [List.mem_singleton.mp hb] at hlt₃; exact absurd hlt₃ (Nat.lt_irrefl _)
      · simp only [ownW, if_true, List.mem_cons, List.not_mem_nil, or_false] at hb
        rcases hb with hb | hb
        · rw [hb] at hlt₃; exact absurd hlt₃ (Nat.lt_irrefl _)
        · rw [hb] at hlt₃; exact absurd hlt₃ (Nat.not_lt.mpr (Nat.le_succ _))
    · exact hcw hb
  intro A'' hA'' hf''
  refine GA.fresh (elt := elt) (iter := iter) (x := x) (px := px) (ifs := ifs) (scope := scope) (pos := pos) (I := I) (cenv := genEnv scope (gcells own x cl s₃.heap.objs.size) s₃.heap.objs.size code builtinsNs env) (k := kk)
    (ge_GT (own := own) (X := X) (C := s₃.heap.objs.size) (M := s₃.heap.objs.size) (OI := fun i h => OI i h ∧ i ≤ its.size) (OIe := OI its.size) (fun A' hA' hf' i v s' hv hO hb hn => ?turn) hsE rfl (fun i h q => hmo i h q.2 q.1) (fun i h h' q kk => ⟨hst i h h' q.1 kk, q.2⟩) S.kind hco rfl S.x (fun hh => by subst hh; simp [genEnv, gcells]) hIlt (Nat.le_refl _) hz hXlt hXI hwr hIw hXw) hA'' hf'' ⟨o, nm, qn, Heap.get?_push_size _ ?_, ho1, ho2, ho3⟩ (Array.getElem?_push_size ..)
    ⟨⟨hst 0 _ _ hOI fun b o _ e => hsub₄ b o e, Nat.zero_le _⟩, hI₃.at fun o e => hsub₄ _ o e, IsList.to hX₃ hsub₄, ⟨_, hn.push _⟩, fun hh => ⟨none, (hc hh).keeps fun b o e => Heap.get?_push_of_some _ e⟩⟩ (B₃.sub hsub₄).nl
  case turn =>
    have hi : i < its.size := (Array.getElem?_eq_some_iff.mp hv).1
    refine wpAny_mono (hT A' hA' hf' i v s' hv hO.1 hb hn) (fun ok s₃ h => ⟨h.1, ?_⟩) fun _ _ e => e
    cases ok with
    | true => exact wpAny_mono h.2 (fun y s₄ h => ⟨h.1, ⟨h.2.1, hi⟩, h.2.2⟩) fun _ _ e => e
    | false => exact ⟨⟨h.2.1, hi⟩, h.2.2⟩
  exact Obj.isFreed_of_fields ho2
end
end Mine

namespace Mine

section
variable {prog : Program} {w : World} {A : Around} {s : Shared} {mg mb : Str → Option Value}
variable {a : Nat} {g : Nat} {fp wr : List Addr} {pz : Nat → Bool} {n : Nat} {Fv : Nat → Value → Prop} {OI : Heap → Prop} {r : Heap → Prop} {fl : List Env} {wrE : List Addr}
variable {k : Nat}

theorem any_GA_loop (hA : Room k A.in1) (hk : k ≤ 50) (hae : a ∉ wrE) (hsE : ∀ b ∈ wr, b ∈ wrE) (hOs : ∀ h h', OI h → Sub h h' → OI h') (haw : a ∉ wr) (hcw : cStatics ∉ wr) {tr : Nat → Bool} (hF : ∀ i v, Fv i v → v = .bool (tr i)) {R : Result → Shared → Prop} :
    ∀ (q j : Nat) (s : Shared), (passing pz n 0).length - j = q → GA prog w A.in1 a g fp wr pz n Fv OI r fl wrE j s →
      (∀ s', OI s'.heap → Mv wr s s' → ((passing pz n 0).drop j ≠ [] → ∃ i v, Fv i v) → R (.ok (.ret (.bool (((passing pz n 0).drop j).any tr)))) s') → (∀ e s', ErV r fl wrE wr s e s' → R (.error e) s') →
      codeAny (model prog w) A (.builtin "any.loop" ⟨[.ref a], []⟩) R s := by
  intro q
  induction q with
  | zero =>
    intro j s hq st hR hX
    refine codeAny_builtin F.entry_any_loop ?_
    rw [Around.under_plainId F.plain_any_loop _]
    show wpAny _ A.in1 (pyNext (.ref a) >>= _) _ _ s
    refine wpAny_bind (pyNext_gen hA hk hOs haw hae hsE hcw st (fun i v s' hlt => absurd hlt (by omega)) (fun hle s' ho hm => ?_) hX)
    refine wpAny_bind (wpAny_rule (wpAny_pure ?_))
    have := hR s' ho hm
    rw [List.drop_of_length_le hle] at this
    exact this fun h => absurd rfl h
  | succ q ih =>
    intro j s hq st hR hX
    refine codeAny_builtin F.entry_any_loop ?_
    rw [Around.under_plainId F.plain_any_loop _]
    show wpAny _ A.in1 (pyNext (.ref a) >>= _) _ _ s
    refine wpAny_bind (pyNext_gen hA hk hOs haw hae hsE hcw st (fun i v s' hlt hi hFv st' ho hm => ?_) (fun hle => absurd hle (by omega)) hX)
    have hd : (passing pz n 0).drop j = i :: (passing pz n 0).drop (j + 1) := by
      rw [List.drop_eq_getElem_cons hlt]
      rw [List.getElem?_eq_getElem hlt] at hi
      rw [Option.some.inj hi]
    have hv := hF i v hFv
    subst hv
    refine wpAny_bind (wpAny_holding (wpAny_truthy_bool ?_))
    refine wpAny_bind (wpAny_letGo ?_)
    cases hb : tr i with
    | false =>
      simp only [Bool.false_eq_true, if_false]
      refine wpAny_pure ⟨plainId_quiet F.plain_any_loop _, ih (j + 1) s' (by omega) st' (fun s'' ho' hm' _ => ?_) fun e s'' he => hX e s'' (he.lift hm (fun b hb => .inl (hb.elim (hsE b) id)) fun b hb => .inl (hb.elim id id))⟩
      have := hR s'' ho' (hm.trans hm') fun _ => ⟨i, _, hFv⟩
      rw [hd, List.any_cons, hb, Bool.false_or] at this
      exact this
    | true =>
      simp only [if_true]
      refine wpAny_bind (wpAny_rule (wpAny_pure ?_))
      have := hR s' ho hm fun _ => ⟨i, _, hFv⟩
      rw [hd, List.any_cons, hb, Bool.true_or] at this
      exact this

theorem call_any_GA (hA : Room k A) (hk : k ≤ 45) (hae : a ∉ wrE) (hsE : ∀ b ∈ wr, b ∈ wrE) (hOs : ∀ h h', OI h → Sub h h' → OI h') (haw : a ∉ wr) (hcw : cStatics ∉ wr) {tr : Nat → Bool} (hF : ∀ i v, Fv i v → v = .bool (tr i)) {Q : Value → Shared → Prop} {E : Value → Shared → Prop}
    (st : GA prog w A.in1 a g fp wr pz n Fv OI r fl wrE 0 s) (hQ : ∀ s', OI s'.heap → Mv wr s s' → (passing pz n 0 ≠ [] → ∃ i v, Fv i v) → Q (.bool ((passing pz n 0).any tr)) s') (hX : ∀ e s', ErV r fl wrE wr s e s' → E e s') :
    wpAny (model prog w) A (call (.builtin "any") [.ref a]) Q E s := by
  refine call_function_tree F.kind_any F.plain_any F.entry_any (F.args_any1 _) ?_
  unfold Builtin.«any»
  refine wpAny_bind (m := oneArg "any" _) (wpAny_pure ?_)
  refine wpAny_bind (wpAny_pyIter_gen st.1 ?_)
  exact wpAny_pure ⟨plainId_quiet F.plain_any_loop _, any_GA_loop hA.in1 (by omega) hae hsE hOs haw hcw hF _ 0 s rfl st (fun s' ho hm hf => by simpa using hQ s' ho hm hf) hX⟩

theorem passing_any (n : Nat) (pz tr : Nat → Bool) : (passing pz n 0).any tr = (List.range n).any fun i => pz i && tr i := by
  unfold passing
  rw [List.drop_zero, List.any_filter]

/-- the items told so far -/
def Told (Fv : Nat → Value → Prop) (l : List Nat) (acc : List Value) : Prop := acc.length = l.length ∧ ∀ (j : Nat) i v, l[j]? = some i → acc[j]? = some v → Fv i v

theorem extend_GA_loop (hA : Room k A.in1) (hk : k ≤ 50) (hae : a ∉ wrE) (hsE : ∀ b ∈ wr, b ∈ wrE) (hOs : ∀ h h', OI h → Sub h h' → OI h') (haw : a ∉ wr) (hcw : cStatics ∉ wr) (hcs : cStatics ∈ fp) (hsub : ∀ b ∈ wr, b ∈ fp)
    (S : Nat) (hSf : S ∉ fp) (hSa : S ≠ a) (res : Value) (hn : (passing pz n 0).length ≤ sizeLine) {R : Result → Shared → Prop} :
    ∀ (q j : Nat) (s : Shared) (acc : Array Value) (c : Nat), (passing pz n 0).length - j = q → j ≤ (passing pz n 0).length → GA prog w A.in1 a g fp wr pz n Fv OI r fl wrE j s →
      s.heap.get? S = some { cls := .type "list", dict := none, data := .seq acc c, slots := #[] } → Told Fv ((passing pz n 0).take j) acc.toList →
      (∀ s' acc' c', OI s'.heap → Mv (S :: wr) s s' → s'.heap.get? S = some { cls := .type "list", dict := none, data := .seq acc' c', slots := #[] } → Told Fv (passing pz n 0) acc'.toList → R (.ok (.ret res)) s') → (∀ s₁ e s', Mv (S :: wr) s s₁ → ErV r fl wrE wr s₁ e s' → R (.error e) s') →
      codeAny (model prog w) A (.builtin "list.extend.loop" ⟨[.ref S, .ref a, res], []⟩) R s := by
  have hSw : S ∉ wr := fun h => hSf (hsub _ h)
  have hsub' : ∀ b ∈ wr, b ∈ S :: wr := fun b hb => List.mem_cons_of_mem _ hb
  intro q
  induction q with
  | zero =>
    intro j s acc c hq hj st hS hacc hR hX
    refine codeAny_builtin F.entry_extend_loop ?_
    rw [Around.under_plainId F.plain_extend_loop _]
    show wpAny _ A.in1 (pyNext (.ref a) >>= _) _ _ s
    refine wpAny_bind (pyNext_gen hA hk hOs haw hae hsE hcw st (fun i v s' hlt => absurd hlt (by omega)) (fun hle s' ho hm => ?_) fun e s' he => hX s e s' (Mv.refl _ _) he)
    rw [List.take_of_length_le hle] at hacc
    exact wpAny_pure (hR s' acc c ho (hm.mono hsub') (hm.keep S _ hSw hS) hacc)
  | succ q ih =>
    intro j s acc c hq hj st hS hacc hR hX
    refine codeAny_builtin F.entry_extend_loop ?_
    rw [Around.under_plainId F.plain_extend_loop _]
    show wpAny _ A.in1 (pyNext (.ref a) >>= _) _ _ s
    refine wpAny_bind (pyNext_gen hA hk hOs haw hae hsE hcw st (fun i v s' hlt hi hFv st' ho hm => ?_) (fun hle => absurd hle (by omega)) fun e s' he => hX s e s' (Mv.refl _ _) he)
    have hS' := hm.keep S _ hSw hS
    have hsz : acc.size = j := by
      have := hacc.1
      rw [Array.length_toList, List.length_take] at this; omega
    show wpAny _ A.in1 (updateSeq S (·.push v) >>= _) _ _ _
    refine wpAny_bind ?_
    have oth : ∀ (b : Nat) o, b ≠ S → s'.heap.get? b = some o → (s'.heap.update S (Obj.mapSeq (·.push v))).get? b = some o := fun b o hb e => (Heap.get?_update_other _ _ (Ne.symm hb)).trans e
    have hm' : Mv (S :: wr) s' { s' with heap := s'.heap.update S (Obj.mapSeq (·.push v)) } := ⟨_, _, _, rfl, fun b o hb e => oth b o (fun h => hb (h ▸ List.mem_cons_self)) e, GR.refl _⟩
    have hm₂ := (hm.mono hsub').trans hm'
    refine wpAny_updateSeq hS' rfl (wpAny_pure ⟨plainId_quiet F.plain_extend_loop _, ih (j + 1) _ (acc.push v) _ (by omega) (by omega) (st'.frame (tk := s'.toks) hcs fun b o hb e => oth b o (fun h => ?_) e) (Heap.get?_update_self _ hS' rfl) ?_ (fun s'' acc' c' ho'' hm'' hS'' hacc' => hR s'' acc' c' ho'' (hm₂.trans hm'') hS'' hacc') fun s₁ e s'' h1 he => hX s₁ e s'' (hm₂.trans h1) he⟩)
      (by rw [hsz]; omega) (by show (acc.push v).size ≤ sizeLine + 1; rw [Array.size_push, hsz]; omega)
    · rcases hb with rfl | hb | hb
      · exact hSa h.symm
      · exact hSf (h ▸ hb)
      · rw [h, hS'] at e; cases e; exact absurd hb.1 (by show ¬ (Value.type "list" = Value.type "tuple"); decide)
    · have ht : (passing pz n 0).take (j + 1) = (passing pz n 0).take j ++ [i] := by rw [List.take_add_one, hi]; rfl
      rw [ht, Array.toList_push]
      refine ⟨by rw [List.length_append, List.length_append, hacc.1]; rfl, fun q i' v' h1 h2 => ?_⟩
      have hl : ((passing pz n 0).take j).length = j := by rw [List.length_take]; omega
      have hl' : acc.toList.length = j := by rw [Array.length_toList, hsz]
      rcases Nat.lt_or_ge q j with hqj | hqj
      · rw [List.getElem?_append_left (by omega)] at h1 h2
        exact hacc.2 q i' v' h1 h2
      · rw [List.getElem?_append_right (by omega), hl] at h1
        rw [List.getElem?_append_right (by omega), hl'] at h2
        cases hqj' : q - j with
        | zero =>
          rw [hqj'] at h1 h2
          simp at h1 h2
          subst h1 h2; exact hFv
        | succ r => rw [hqj'] at h1; simp at h1

theorem call_list_GA (hA : Room k A) (hk : k ≤ 45) (hae : a ∉ wrE) (hsE : ∀ b ∈ wr, b ∈ wrE) (hOs : ∀ h h', OI h → Sub h h' → OI h') (haw : a ∉ wr) (hcw : cStatics ∉ wr) (hcs : cStatics ∈ fp) (hsub : ∀ b ∈ wr, b ∈ fp)
    (hfp : ∀ b : Nat, b ∈ fp → b < s.heap.objs.size) (hn : (passing pz n 0).length ≤ sizeLine) {Q : Value → Shared → Prop} {E : Value → Shared → Prop}
    (st : GA prog w A.in1.in1 a g fp wr pz n Fv OI r fl wrE 0 s)
    (hQ : ∀ s' acc, OI s'.heap → Mv wr s s' → s'.heap.PlainList s.heap.objs.size acc → Told Fv (passing pz n 0) acc.toList → Q (.ref s.heap.objs.size) s') (hX : ∀ s₁ e s', Mv wr s s₁ → ErV r fl wrE wr s₁ e s' → E e s') :
    wpAny (model prog w) A (call (.type "list") [.ref a]) Q E s := by
  have hSf : s.heap.objs.size ∉ fp := fun hm => Nat.lt_irrefl _ (hfp _ hm)
  have ha : @LT.lt Nat _ a s.heap.objs.size := by obtain ⟨o, _, _, e, _⟩ := st.1; exact Heap.lt_size e
  have hSa : s.heap.objs.size ≠ a := Nat.ne_of_gt ha
  have hsub' : ∀ b ∈ wr, b ∈ s.heap.objs.size :: wr := fun b hb => List.mem_cons_of_mem _ hb
  refine callType_codes (Q₁ := fun obj s₁ => obj = .ref s.heap.objs.size ∧ s₁ = { s with heap := s.heap.push { cls := .type "list", data := .seq #[] } }) F.called_list (F.typeCall_list_1 _) F.entry_list_init
    (code_list_new _ ⟨rfl, rfl⟩) fun obj s₁ h₁ => ?_
  obtain ⟨rfl, rfl⟩ := h₁
  have hS : (s.heap.push { cls := .type "list", data := .seq #[] }).get? s.heap.objs.size = some { cls := .type "list", data := .seq #[] } := Heap.get?_push_size _ rfl
  refine ⟨⟨_, hS, rfl⟩, F.args_list_init_2 _ _, ?_⟩
  show wpAny _ A.in1.in1 (do let old ← Builtin.List.listItems (.ref s.heap.objs.size); Builtin.List.listUpdate (.ref s.heap.objs.size) (fun _ => #[]); letGo old.toList.reverse; Builtin.List.listExtendWith (.ref s.heap.objs.size) (.ref a) .none) _ _ _
  refine wpAny_bind ?_
  unfold Builtin.List.listItems
  refine wpAny_bind (wpAny_seqItems hS rfl (wpAny_pure ?_))
  show wpAny _ A.in1.in1 (updateSeq s.heap.objs.size (fun _ => #[]) >>= fun _ => letGo (#[] : Array Value).toList.reverse >>= fun _ => Builtin.List.listExtendWith (.ref s.heap.objs.size) (.ref a) .none) _ _ _
  refine wpAny_bind (wpAny_updateSeq hS rfl ?_)
  have hS₂ := Heap.get?_update_self (Obj.mapSeq (fun _ => (#[] : Array Value))) hS rfl
  refine wpAny_bind (wpAny_letGo ?_)
  unfold Builtin.List.listExtendWith
  have old₂ : ∀ (b : Nat) o, s.heap.get? b = some o → ((s.heap.push { cls := .type "list", data := .seq #[] }).update s.heap.objs.size (Obj.mapSeq (fun _ => (#[] : Array Value)))).get? b = some o :=
    fun b o e => (Heap.get?_update_other _ _ (Ne.symm (Nat.ne_of_lt (Heap.lt_size e)))).trans (Heap.get?_push_of_some _ e)
  have st₂ : GA prog w A.in1.in1 a g fp wr pz n Fv OI r fl wrE 0 { s with heap := (s.heap.push { cls := .type "list", data := .seq #[] }).update s.heap.objs.size (Obj.mapSeq (fun _ => (#[] : Array Value))) } := st.frame (tk := s.toks) hcs fun b o _ e => old₂ b o e
  refine wpAny_bind (wpAny_typeOf st₂.1.typeIs ?_)
  have h1 : Builtin.List.listSameRef (.ref s.heap.objs.size) (.ref a) = false := by simp [Builtin.List.listSameRef, hSa]
  have h2 : (Value.type "generator" == Value.type "list") = false := by decide
  have h3 : (Value.type "generator" == Value.type "tuple") = false := by decide
  simp only [h1, h2, h3, Bool.or_false, Bool.false_eq_true, if_false]
  refine wpAny_bind (wpAny_pyIter_gen st₂.1 ?_)
  refine wpAny_bind (wpAny_holding ?_)
  unfold Builtin.List.listLengthHint
  refine wpAny_bind (wpAny_specialOf st₂.1.typeIs F.gen_no_len ?_)
  show wpAny _ A.in1.in1 (specialOf (Value.ref a) (Str.ofString "__length_hint__") >>= _) _ _ _
  refine wpAny_bind (wpAny_specialOf st₂.1.typeIs F.gen_no_hint ?_)
  refine wpAny_pure ?_
  show wpAny _ A.in1.in1 (rule "list.extend.makes-room" >>= fun _ => Builtin.List.listTouch (.ref s.heap.objs.size) >>= fun _ =>
    again (.builtin "list.extend.loop" ⟨[.ref s.heap.objs.size, .ref a, .none], []⟩)) _ _ _
  refine wpAny_bind (wpAny_rule ?_)
  refine wpAny_bind ?_
  show wpAny _ A.in1.in1 (updateSeq s.heap.objs.size (·.push .none) >>= fun _ => updateSeq s.heap.objs.size (·.pop)) _ _ _
  refine wpAny_bind (wpAny_updateSeq hS₂ rfl ?_)
  have hS₃ := Heap.get?_update_self (Obj.mapSeq (·.push Value.none)) hS₂ rfl
  refine wpAny_updateSeq (hz := by seq_fits) hS₃ rfl ?_
  have hS₄ := Heap.get?_update_self (Obj.mapSeq (·.pop)) hS₃ rfl
  have oth : ∀ (b : Nat) o, s.heap.get? b = some o → ((((s.heap.push { cls := .type "list", data := .seq #[] }).update s.heap.objs.size (Obj.mapSeq (fun _ => (#[] : Array Value)))).update s.heap.objs.size (Obj.mapSeq (·.push Value.none))).update s.heap.objs.size (Obj.mapSeq (·.pop))).get? b = some o :=
    fun b o e => (Heap.get?_update_other _ _ (Ne.symm (Nat.ne_of_lt (Heap.lt_size e)))).trans ((Heap.get?_update_other _ _ (Ne.symm (Nat.ne_of_lt (Heap.lt_size e)))).trans (old₂ b o e))
  have hm₄ : ∀ h tk, (∀ (b : Nat) o, s.heap.get? b = some o → h.get? b = some o) → Mv wr s { s with heap := h, toks := tk } := fun h tk hh => ⟨h, tk, s.gens, rfl, fun b o _ e => hh b o e, GR.refl _⟩
  have dropS : ∀ s₂ s₃, Mv wr s s₂ → Mv (s.heap.objs.size :: wr) s₂ s₃ → Mv wr s s₃ := fun s₂ s₃ x y =>
    Mv.drop ((x.mono hsub').trans y) fun b hb => by
      rcases List.mem_cons.mp hb with rfl | hb
      · exact .inr (get_none (Nat.le_refl _))
      · exact .inl hb
  refine wpAny_pure ⟨plainId_quiet F.plain_extend_loop _, extend_GA_loop (A := A.in1) hA.in1.in1 (by omega) hae hsE hOs haw hcw hcs hsub s.heap.objs.size hSf hSa .none hn _ 0 _ _ _ rfl (Nat.zero_le _)
    (st.frame (tk := s.toks) hcs fun b o _ e => oth b o e) hS₄ ⟨by simp, fun q i v h1 h2 => by simp at h1⟩ (fun s' acc' c' ho hm hS' hacc => ?_) fun s₁ e s' hm he => ?_⟩
  · exact ⟨rfl, hQ s' acc' ho (dropS _ _ (hm₄ _ _ oth) hm) ⟨c', hS'⟩ hacc⟩
  · exact hX s₁ e s' (dropS _ _ (hm₄ _ _ oth) hm) he
end
end Mine

namespace Mine

section
variable {prog : Program} {w : World} {A : Around} {s : Shared} {mg mb : Str → Option Value}

/-- any over a generator expression over a list -/
theorem any_ge {k kk : Nat} {r : Heap → Prop} {fl : List Env} (hA : Room k A) (hf : A.frames = some fl) (hk : k ≤ 40) (hkk : k + 1 ≤ kk) {own : Bool} {env : Env} {elt iter : Expr} {x : Str} {px p cpos : Pos} {ifs : List Expr} {scope : Scope} {cl : List (Str × Addr)} {pos : Pos} {X : Nat} {its : Array Value} {Wc : List Addr} {Q : Value → Shared → Prop} {E : Value → Shared → Prop}
    (hco : scope.isCoroutine = false) (hclos : closureFor scope env = pure cl) (h0 : scope.names.lookup (".0" : Str) = some NameKind.local) (S : CompShape own x scope cl)
    (B : Base mg mb s.heap) (N : Names mg mb) (hit : EvV prog w A env s.heap iter (· = .ref X)) (hX : s.heap.IsList X its) (hXW : X ∉ Wc) (hWc : ∀ b ∈ Wc, ∃ o, s.heap.get? b = some o)
    (hs : ∀ x, genFold iter env x = pure x)
    (h : ∀ (I : Nat) s₂, Kp s s₂ → (∀ (b : Nat) o, s.heap.get? b = some o → b < I) → I < s₂.heap.objs.size →
      wpAny (model prog w) A (genexprCode env pos (env.qual ++ "<genexpr>") scope) (fun code s₃ => Kw Wc s₂ s₃ ∧ Base mg mb s₃.heap ∧
        ∃ (OI : Nat → Heap → Prop) (wr : List Addr) (pz tr : Nat → Bool) (Fv : Nat → Value → Prop) (wrT : List Addr), OI 0 s₃.heap ∧ (∀ i h, i ≤ its.size → OI i h → OI its.size h) ∧ (∀ i h h', OI i h → (∀ (b : Nat) o, (b < s₃.heap.objs.size ∧ b ≠ I ∨ TupO o) → h.get? b = some o → h'.get? b = some o) → OI i h') ∧ (∀ b : Nat, b ∈ wr → b < s₃.heap.objs.size) ∧ I ∉ wr ∧ X ∉ wr ∧ cStatics ∉ wr ∧
          GTurn prog w (genEnv scope (gcells own x cl s₃.heap.objs.size) s₃.heap.objs.size code builtinsNs env) x ifs elt its OI wr pz Fv (kk + 2) r fl wrT ∧ (∀ i v, Fv i v → v = .bool (tr i)) ∧
          (∀ b ∈ wr, b ∈ wrT) ∧ (∀ b : Nat, b ∈ wrT → b ≤ s₃.heap.objs.size) ∧
          (∀ s', OI its.size s'.heap → Mv (Wc ++ wr) s s' → (passing pz its.size 0 ≠ [] → ∃ i v, Fv i v) → Q (.bool ((List.range its.size).any fun i => pz i && tr i)) s') ∧ ∀ e s', ErV r fl (Wc ++ wrT) (Wc ++ wr) s e s' → E e s') E s₂)
    (hkd : env.scope.kind = .function := by rfl) (hn : env.kindOf "any" = some .globalImplicit := by rfl)
    (hg : env.globals = mainGlobals := by rfl) (hb : env.builtins = builtinsNs := by rfl) (he : starEach [.GeneratorExp elt [⟨.Name x px, iter, ifs, 0⟩] scope pos] env = [(false, eval (.GeneratorExp elt [⟨.Name x px, iter, ifs, 0⟩] scope pos) env)] := by rfl) :
    wpAny (model prog w) A (eval (.Call (.Name "any" p) [.GeneratorExp elt [⟨.Name x px, iter, ifs, 0⟩] scope pos] [] cpos) env) Q E s := by
  refine Call_Name1 ((EvV.boot (v := .builtin "any") B N (by decide) (by first | rfl | decide +kernel) hkd hn hg hb).go (Sub.refl _) fun f s₁ hf' k₁ => ?_) he
  subst hf'
  refine Calls.callWith_builtin rfl (Calls.evalArgs_plain (Calls.spliced_cons (ge_list (kk := kk) (r := r) (fl := fl) hA (by omega) hco hclos h0 S (B.sub k₁.sub) N hg (hit.sub k₁.sub) (IsList.to hX k₁.sub) hXW (fun b hb' => let ⟨o, e⟩ := hWc b hb'; ⟨o, k₁.sub _ _ e⟩) hs fun I s₂ k₂ hI hIlt => ?_)))
  have hI₀ := none_of_lt fun (b : Nat) o e => hI b o (k₁.sub _ _ e)
  refine wpAny_mono (h I s₂ (k₁.trans k₂) (fun b o e => hI b o (k₁.sub _ _ e)) hIlt) (fun code s₃ h₃ => ?_) fun _ _ e => e
  obtain ⟨k₃, B₃, OI, wr, pz, tr, Fv, wrT, hOI, hmo, hst, hwr, hIw, hXw, hcw, hT, hFt, hsE, hbE, hQ, hXe⟩ := h₃
  refine ⟨k₃, B₃, OI, wr, pz, Fv, wrT, hOI, hmo, hst, hwr, hIw, hXw, hcw, hT, hsE, hbE, fun a g s₄ hm₄ ha hsz₄ hwa hcw' hwaE hsE' hGA hO₄ => Calls.spliced_nil ?_⟩
  have hlt₃ : ∀ (wr : List Addr) (b : Nat), b ∈ I :: (ownW own s₃.heap.objs.size ++ wr) → b ∈ Wc ++ wr ∨ s.heap.get? b = none := by
    intro wr b hb'
    have old : ∀ b : Nat, s₃.heap.objs.size ≤ b → b ∈ Wc ++ wr ∨ s.heap.get? b = none := fun b hle => by
      by_cases hbW : b ∈ Wc
      · exact .inl (List.mem_append_left _ hbW)
      · cases q : s.heap.get? b with
        | none => exact .inr rfl
        | some o => exact absurd (Heap.lt_size (k₃.keep b o hbW ((k₁.trans k₂).sub _ _ q))) (Nat.not_lt.mpr hle)
    rcases List.mem_cons.mp hb' with rfl | hb'
    · exact .inr hI₀
    rcases List.mem_append.mp hb' with hb' | hb'
    · refine old b ?_
      cases own
      · rw [List.mem_singleton.mp hb']
        exact Nat.le_refl _
      · simp only [ownW, if_true, List.mem_cons, List.not_mem_nil, or_false] at hb'
        rcases hb' with rfl | rfl
        · exact Nat.le_refl _
        · exact Nat.le_succ _
    · exact .inl (List.mem_append_right _ hb')
  have hm₃ : Mv (Wc ++ wr) s s₄ := (((k₁.trans k₂).mv _).trans (k₃.mv.mono fun b hb' => List.mem_append_left _ hb')).trans (hm₄.mono fun b hb' => nomatch hb')
  have haw : a ∉ I :: (ownW own s₃.heap.objs.size ++ wr) := fun hm => absurd (hwa a hm) (Nat.lt_irrefl _)
  refine call_any_GA (n := its.size) hA (by omega) (fun hm => absurd (hwaE a hm) (Nat.lt_irrefl _)) hsE' (fun h h' ho hs' => hst its.size h h' ho fun b o _ e => hs' _ _ e) haw hcw' hFt (hGA A.in1 (hA.in1.mono hkk) hf) (fun s' ho hm hfl => ?_) fun e s' he => hXe e s' (he.lift hm₃ (fun b hb => ?_) fun b hb => hb.elim .inl (hlt₃ wr b))
  · rw [passing_any]
    refine hQ s' ho ?_ hfl
    obtain ⟨h4, tk4, g4, rfl, hk4, hg4⟩ := hm₃
    obtain ⟨h5, tk5, g5, rfl, hk5, hg5⟩ := hm
    refine ⟨h5, tk5, g5, rfl, fun b o hb' e => hk5 b o (fun hm => ?_) (hk4 b o hb' e), hg4.trans hg5⟩
    rcases hlt₃ wr b hm with h | h
    · exact hb' h
    · rw [h] at e; cases e
  · rcases hb with hb | hb
    · refine .inl ?_
      rcases List.mem_append.mp hb with hb | hb
      · exact List.mem_append_left _ hb
      · exact List.mem_append_right _ (hsE b hb)
    · exact hlt₃ wrT b hb
end
end Mine

namespace Mine

def fdM : FuncData := fdOf (stm 3) (.ref 41) pmT (.ref 47)
def eM (L : Addr) : Env := callEnvC fdM L 48
def bodyM : List Stmt := match stm 3 with | .FunctionDef _ _ b .. => b | _ => []
def mst (i : Nat) : Stmt := bodyM.getD i (.Pass default)
def geO : Expr := match mst 2 with | .Return (some e) _ => e | _ => .Constant .none 0 default
def geI : Expr := match mst 1 with | .For _ _ [.If (.UnaryOp _ (.Call _ [e] _ _) _) _ _ _] _ _ => e | _ => .Constant .none 0 default
def posOf : Expr → Pos
  | .GeneratorExp _ _ _ p => p
  | _ => default
def scpOf : Expr → Scope
  | .GeneratorExp _ _ s _ => s
  | _ => default
def posO : Pos := posOf geO
def posI : Pos := posOf geI

theorem codeAmong_skip {pos p : Pos} (c : Value) (h : ¬ (p.line = pos.line ∧ p.col = pos.col)) : ∀ (l : List Value), TriplesOk l → codeAmong pos (l ++ [rawInt p.line, rawInt p.col, c]) = codeAmong pos l := by
  intro l hl
  fun_induction TriplesOk l with
  | case1 =>
    have hb : (((p.line : Nat) : Int) == ((pos.line : Nat) : Int) && ((p.col : Nat) : Int) == ((pos.col : Nat) : Int)) = false := by
      rw [Bool.and_eq_false_iff]
      by_cases h1 : p.line = pos.line
      · right
        have : p.col ≠ pos.col := fun h2 => h ⟨h1, h2⟩
        simp only [beq_eq_false_iff_ne]; omega
      · left; simp only [beq_eq_false_iff_ne]; omega
    simp [codeAmong, rawInt, hb]
  | case2 a t b u x rest ih =>
    simp only [List.cons_append, codeAmong]
    rw [ih hl]
  | case3 => exact hl.elim

theorem IsCode.to {h h' : Heap} {c P : Nat} {ps : Array Value} (x : h.IsCode c P ps) (hc : ∀ o, h.get? c = some o → h'.get? c = some o) (hP : ∀ o, h.get? P = some o → h'.get? P = some o) : h'.IsCode c P ps :=
  let ⟨o, vs, file, tf, flags, tg, inF, text, tt, op, a, r1, r2, r3, r4, r5, r6, b, r⟩ := x
  ⟨o, vs, file, tf, flags, tg, inF, text, tt, op, hc _ a, r1, r2, r3, r4, r5, r6, hP _ b, r⟩
theorem TableAt.to {h h' : Heap} {c P : Nat} {ps : Array Value} (x : h.TableAt c P ps) (hc : ∀ o, h.get? c = some o → h'.get? c = some o) (hP : ∀ o, h.get? P = some o → h'.get? P = some o) : h'.TableAt c P ps :=
  let ⟨⟨o, vs, a, r⟩, t⟩ := x; ⟨⟨o, vs, hc _ a, r⟩, hP _ t⟩
theorem IsCode.tri {h : Heap} {c P : Addr} {ps : Array Value} (x : h.IsCode c P ps) : TriplesOk ps.toList := let ⟨_, _, _, _, _, _, _, _, _, _, _, _, _, _, _, _, _, _, _, r, _⟩ := x; r
theorem IsCode.gets {h : Heap} {c P : Addr} {ps : Array Value} (x : h.IsCode c P ps) : (∃ o vs, h.get? c = some o ∧ o.data = .fields vs) ∧ ∃ o vs, h.get? P = some o ∧ o.data = .fields vs :=
  let ⟨o, vs, _, _, _, _, _, _, _, op, a, r1, _, _, _, _, _, b, d, _⟩ := x; ⟨⟨o, vs, a, r1⟩, ⟨op, _, b, d⟩⟩

/-- the table of maximal's code: what stands for the outer generator expression is a code with a table of its own -/
def Tab (h : Heap) : Prop := ∃ ps, h.IsCode 47 43 ps ∧ h.TableAt 47 43 ps ∧ ∀ c', codeAmong posO ps.toList = some c' → ∃ (c2 P2 : Nat) (ps2 : Array Value), c' = .ref c2 ∧ (h.IsCode c2 P2 ps2 ∧ h.TableAt c2 P2 ps2) ∧ 80 ≤ c2 ∧ 80 ≤ P2
def TabE (c2 P2 : Nat) (h : Heap) : Prop := (∃ ps, h.IsCode 47 43 ps ∧ h.TableAt 47 43 ps ∧ codeAmong posO ps.toList = some (.ref c2)) ∧ (∃ ps2, h.IsCode c2 P2 ps2 ∧ h.TableAt c2 P2 ps2) ∧ 80 ≤ c2 ∧ 80 ≤ P2
theorem TabE.tab {c2 P2 : Nat} {h : Heap} (x : TabE c2 P2 h) : Tab h := by
  obtain ⟨⟨ps, h1, h2, h3⟩, ⟨ps2, h4⟩, h5, h6⟩ := x
  exact ⟨ps, h1, h2, fun c' hc => ⟨c2, P2, ps2, by rw [h3] at hc; exact (Option.some.inj hc).symm, h4, h5, h6⟩⟩
theorem Tab.keep {h h' : Heap} (x : Tab h) (k : ∀ (b : Nat) o, (∃ vs, o.data = .fields vs) → h.get? b = some o → h'.get? b = some o) : Tab h' := by
  obtain ⟨ps, h1, h2, h3⟩ := x
  have k' : ∀ (c P : Nat) qs, h.IsCode c P qs ∧ h.TableAt c P qs → h'.IsCode c P qs ∧ h'.TableAt c P qs := fun c P qs ⟨z, z2⟩ => by
    obtain ⟨⟨o, vs, e, d⟩, op, vp, ep, dp⟩ := IsCode.gets z
    have k1 : ∀ o', h.get? c = some o' → h'.get? c = some o' := fun o' e' => k c o' (by rw [e] at e'; cases e'; exact ⟨vs, d⟩) e'
    have k2 : ∀ o', h.get? P = some o' → h'.get? P = some o' := fun o' e' => k P o' (by rw [ep] at e'; cases e'; exact ⟨vp, dp⟩) e'
    exact ⟨IsCode.to z k1 k2, TableAt.to z2 k1 k2⟩
  obtain ⟨⟨o, vs, e, d⟩, op, vp, ep, dp⟩ := IsCode.gets h1
  exact ⟨ps, (k' _ _ _ ⟨h1, h2⟩).1, TableAt.to h2 (fun o' e' => k 47 o' (by rw [e] at e'; cases e'; exact ⟨vs, d⟩) e') (fun o' e' => k 43 o' (by rw [ep] at e'; cases e'; exact ⟨vp, dp⟩) e'),
    fun c' hc => let ⟨c2, P2, ps2, a, b, c, d⟩ := h3 c' hc; ⟨c2, P2, ps2, a, k' _ _ _ b, c, d⟩⟩
theorem TabE.keep {c2 P2 : Nat} {h h' : Heap} (x : TabE c2 P2 h) (k : ∀ (b : Nat) o, (b = 43 ∨ b = 47 ∨ b = c2 ∨ b = P2) → h.get? b = some o → h'.get? b = some o) : TabE c2 P2 h' := by
  obtain ⟨⟨ps, h1, h2, h3⟩, ⟨ps2, h4⟩, h5, h6⟩ := x
  exact ⟨⟨ps, IsCode.to h1 (fun o => k 47 o (by simp)) (fun o => k 43 o (by simp)), TableAt.to h2 (fun o => k 47 o (by simp)) (fun o => k 43 o (by simp)), h3⟩, ⟨ps2, IsCode.to h4.1 (fun o => k c2 o (by simp)) (fun o => k P2 o (by simp)), TableAt.to h4.2 (fun o => k c2 o (by simp)) (fun o => k P2 o (by simp))⟩, h5, h6⟩

/-- the same, what stands in the table told -/
def TabF (tb : Option (Nat × Nat)) (h : Heap) : Prop := ∃ ps, h.IsCode 47 43 ps ∧ h.TableAt 47 43 ps ∧ codeAmong posO ps.toList = tb.map (fun q => Value.ref q.1) ∧ ∀ c2 P2, tb = some (c2, P2) → (∃ ps2, h.IsCode c2 P2 ps2 ∧ h.TableAt c2 P2 ps2) ∧ 80 ≤ c2 ∧ 80 ≤ P2
theorem Tab.f {h : Heap} (x : Tab h) : ∃ tb, TabF tb h := by
  obtain ⟨ps, h1, h2, h3⟩ := x
  cases hq : codeAmong posO ps.toList with
  | none => exact ⟨none, ps, h1, h2, hq, fun _ _ e => nomatch e⟩
  | some c' =>
    obtain ⟨c2, P2, ps2, rfl, h4, h5, h6⟩ := h3 c' hq
    exact ⟨some (c2, P2), ps, h1, h2, hq, fun c2' P2' e => by cases e; exact ⟨⟨ps2, h4⟩, h5, h6⟩⟩
theorem TabF.tab {tb : Option (Nat × Nat)} {h : Heap} (x : TabF tb h) : Tab h := by
  obtain ⟨ps, h1, h2, h3, h4⟩ := x
  refine ⟨ps, h1, h2, fun c' hc => ?_⟩
  cases tb with
  | none => rw [h3] at hc; cases hc
  | some q =>
    obtain ⟨⟨ps2, h5⟩, h6, h7⟩ := h4 q.1 q.2 rfl
    rw [h3] at hc; cases hc
    exact ⟨q.1, q.2, ps2, rfl, h5, h6, h7⟩
theorem TabF.keep {tb : Option (Nat × Nat)} {h h' : Heap} (x : TabF tb h) (k : ∀ (b : Nat) o, (b = 43 ∨ b = 47 ∨ ∃ c2 P2, tb = some (c2, P2) ∧ (b = c2 ∨ b = P2)) → h.get? b = some o → h'.get? b = some o) : TabF tb h' := by
  obtain ⟨ps, h1, h2, h3, h4⟩ := x
  refine ⟨ps, IsCode.to h1 (fun o => k 47 o (by simp)) (fun o => k 43 o (by simp)), TableAt.to h2 (fun o => k 47 o (by simp)) (fun o => k 43 o (by simp)), h3, fun c2 P2 e => ?_⟩
  obtain ⟨⟨ps2, h5, h8⟩, h6, h7⟩ := h4 c2 P2 e
  have k1 : ∀ o, h.get? c2 = some o → h'.get? c2 = some o := fun o => k c2 o (.inr (.inr ⟨c2, P2, e, .inl rfl⟩))
  have k2 : ∀ o, h.get? P2 = some o → h'.get? P2 = some o := fun o => k P2 o (.inr (.inr ⟨c2, P2, e, .inr rfl⟩))
  exact ⟨⟨ps2, IsCode.to h5 k1 k2, TableAt.to h8 k1 k2⟩, h6, h7⟩
/-- where the two lie -/
theorem TabF.gets {tb : Option (Nat × Nat)} {h : Heap} (x : TabF tb h) {c2 P2 : Nat} (e : tb = some (c2, P2)) : (∃ o vs, h.get? c2 = some o ∧ o.data = .fields vs ∧ o.cls = .type "code") ∧ (∃ ps, h.get? P2 = some { cls := .none, data := .fields ps }) ∧ 80 ≤ c2 ∧ 80 ≤ P2 := by
  obtain ⟨ps, h1, h2, h3, h4⟩ := x
  obtain ⟨⟨ps2, h5, ⟨o, vs, h9, h10, h11, _⟩, h12⟩, h6, h7⟩ := h4 c2 P2 e
  exact ⟨⟨o, vs, h9, h11, h10⟩, ⟨ps2, h12⟩, h6, h7⟩

section
variable {prog : Program} {w : World} {A : Around} {s : Shared} {mg mb : Str → Option Value}

/-- the code of the inner generator expression of the loop -/
theorem code_in {env : Env} {qual : Str} {scope : Scope} {tb : Option (Nat × Nat)} (hc : env.code = .ref 47) (hT : TabF tb s.heap) :
    wpAny (model prog w) A (genexprCode env posI qual scope) (fun code s₃ => TabF tb s₃.heap ∧ Kw [43] s s₃) noE s := by
  obtain ⟨ps, h1, h2, h3, h4⟩ := hT
  cases hq : codeAmong posI ps.toList with
  | some c' => exact wpAny_genexprCode_hit hc h1 hq ⟨⟨ps, h1, h2, h3, h4⟩, Kw.refl _ _⟩
  | none =>
    refine wpAny_genexprCodeX hc h1 h2 hq fun c' h' tk hx hge hlt hcode hrec htab hnew => ⟨⟨_, hcode, htab, ?_, fun c2 P2 e => ?_⟩, h', tk, rfl, fun b o hb e => hx b o (by simpa using hb) e⟩
    · rw [show (ps ++ #[rawInt posI.line, rawInt posI.col, Value.ref c']).toList = ps.toList ++ [rawInt posI.line, rawInt posI.col, Value.ref c'] by simp, codeAmong_skip _ (by decide) _ (IsCode.tri h1)]
      exact h3
    · obtain ⟨⟨ps2, b1, b2⟩, c, d⟩ := h4 c2 P2 e
      have h43 : ∀ (q : Nat) o, q ≠ 43 → s.heap.get? q = some o → h'.get? q = some o := fun q o hq e => hx q o hq e
      exact ⟨⟨ps2, IsCode.to b1 (fun o => h43 c2 o (by omega)) (fun o => h43 P2 o (by omega)), TableAt.to b2 (fun o => h43 c2 o (by omega)) (fun o => h43 P2 o (by omega))⟩, c, d⟩

/-- the code of the generator expression that maximal gives back -/
theorem code_out {env : Env} {qual : Str} {scope : Scope} {s₀ : Shared} {tb : Option (Nat × Nat)} (hc : env.code = .ref 47) (hT : TabF tb s₀.heap) (k : Kp s₀ s) (hlt : @LE.le Nat _ 80 s.heap.objs.size) {I : Nat} (hI : ∀ (b : Nat) o, s₀.heap.get? b = some o → b < I) (hIlt : I < s.heap.objs.size) :
    wpAny (model prog w) A (genexprCode env posO qual scope) (fun code s₃ => Kw [43] s s₃ ∧ ∃ c2 P2 : Nat, code = .ref c2 ∧ TabE c2 P2 s₃.heap ∧ c2 ≠ I ∧ P2 ≠ I ∧ (tb = some (c2, P2) ∨ (tb = none ∧ @LE.le Nat _ s.heap.objs.size c2 ∧ @LE.le Nat _ s.heap.objs.size P2))) noE s := by
  obtain ⟨ps, h1, h2, h3, h4⟩ := hT
  have h1' := h1.keeps k.sub
  have h2' := h2.keeps k.sub
  cases tb with
  | some q =>
    obtain ⟨c2, P2⟩ := q
    obtain ⟨⟨ps2, b1, b2⟩, c, d⟩ := h4 c2 P2 rfl
    obtain ⟨⟨oc, vc, ec, dc⟩, op, vp, ep, dp⟩ := IsCode.gets b1
    exact wpAny_genexprCode_hit hc h1' h3 ⟨Kw.refl _ _, c2, P2, rfl, ⟨⟨ps, h1', h2', h3⟩, ⟨ps2, b1.keeps k.sub, b2.keeps k.sub⟩, c, d⟩, Nat.ne_of_lt (hI c2 _ ec), Nat.ne_of_lt (hI P2 _ ep), .inl rfl⟩
  | none =>
    refine wpAny_genexprCodeX hc h1' h2' h3 fun c' h' tk hx hge hlt' hcode hrec htab ⟨P', hP', hcode', htab'⟩ => ⟨⟨h', tk, rfl, fun b o hb e => hx b o (by simpa using hb) e⟩, c', P', rfl, ⟨⟨_, hcode, htab, ?_⟩, ⟨_, hcode', htab'⟩, ?_, ?_⟩, ?_, ?_, .inr ⟨rfl, ?_, ?_⟩⟩
    · rw [show (ps ++ #[rawInt posO.line, rawInt posO.col, Value.ref c']).toList = ps.toList ++ [rawInt posO.line, rawInt posO.col, Value.ref c'] by simp]
      exact codeAmong_snoc _ (IsCode.tri h1) h3
    · exact Nat.le_trans hlt hge
    · exact Nat.le_trans hlt hP'
    · exact Nat.ne_of_gt (Nat.lt_of_lt_of_le hIlt hge)
    · exact Nat.ne_of_gt (Nat.lt_of_lt_of_le hIlt hP')
    · exact hge
    · exact hP'

theorem TabE.f {c2 P2 : Nat} {h : Heap} (x : TabE c2 P2 h) : TabF (some (c2, P2)) h := by
  obtain ⟨⟨ps, h1, h2, h3⟩, h4, h5, h6⟩ := x
  exact ⟨ps, h1, h2, h3, fun c2' P2' e => by cases e; exact ⟨h4, h5, h6⟩⟩
def tbP (tb : Option (Nat × Nat)) : List Addr := match tb with | some (_, P2) => [P2] | none => []

/-- a code's table of places -/
def TblO (o : Obj) : Prop := ∃ vs, o.data = .fields vs ∧ TriplesOk vs.toList
def LstAt (h : Heap) (a : Nat) : Prop := ∃ o, h.get? a = some o ∧ o.cls = .type "list" ∧ ∃ xs n, o.data = .seq xs n

theorem is_refs {x y : Nat} {Q : Value → Shared → Prop} {E : Value → Shared → Prop} (hx : LstAt s.heap x) (hy : LstAt s.heap y) (h : Q (.bool (x == y)) s) : wpAny (model prog w) A (compareOp .Is (.ref x) (.ref y)) Q E s := by
  by_cases e : x = y
  · subst e
    rw [beq_self_eq_true] at h
    exact wpAny_is_ref_self h
  · obtain ⟨ox, hox, hc, _⟩ := hx
    obtain ⟨oy, hoy, _⟩ := hy
    rw [beq_false_of_ne e] at h
    exact wpAny_is_ref_other e hox hoy (by rw [hc]; decide) h
theorem isnot_refs {x y : Nat} {Q : Value → Shared → Prop} {E : Value → Shared → Prop} (hx : LstAt s.heap x) (hy : LstAt s.heap y) (h : Q (.bool (!(x == y))) s) : wpAny (model prog w) A (compareOp .IsNot (.ref x) (.ref y)) Q E s := by
  by_cases e : x = y
  · subst e
    rw [beq_self_eq_true] at h
    exact wpAny_isNot_ref_self h
  · obtain ⟨ox, hox, hc, _⟩ := hx
    obtain ⟨oy, hoy, _⟩ := hy
    rw [beq_false_of_ne e] at h
    exact wpAny_isNot_ref_other e hox hoy (by rw [hc]; decide) h

theorem codeAny_call_cellsB {R : Result → Shared → Prop} {a : Addr} {o : Obj} {fd : FuncData} {body : List Stmt} {args : Args} {binds : List (Str × Value)}
    (hroom : A.depth < recursionLimit) (ho : s.heap.get? a = some o) (hdata : o.data = .func fd) (hlim : s.heap.NoLimit) (hcd : s.heap.CodeRec fd.code fd.qualname)
    (hbody : fd.body = .stmts body) (hbind : BindsTo s fd args binds) (hclo : fd.closure = [])
    (hkind : ∀ x ∈ binds, fd.scope.names.lookup x.1 = some .local ∨ (fd.scope.names.lookup x.1 = some .cell ∧ ((cellsFrom (s.heap.objs.size + 1) fd.scope.names []).lookup x.1).isSome = true))
    (h : ∀ s₁, InCallC s (callEnvC fd s.heap.objs.size a).locals (bindL (callEnvC fd s.heap.objs.size a).kindOf binds fun _ => none) (callEnvC fd s.heap.objs.size a).cells
        (bindC (callEnvC fd s.heap.objs.size a).kindOf binds fun _ => none) s₁ →
      wpAny (model prog w) (A.deeper (callEnvC fd s.heap.objs.size a)) (execs body (callEnvC fd s.heap.objs.size a)) (fun f s' => R (.ok (.ret (match f with | .ret v => v | _ => .none))) s')
        (fun e s' => wpAny (model prog w) (A.deeper (callEnvC fd s.heap.objs.size a)) (leaving (callEnvC fd s.heap.objs.size a) e) (fun _ s'' => R (.error e) s'') (fun e' s'' => R (.error e') s'') s') s₁)
    (hco : fd.scope.isCoroutine = false := by rfl) (hgen : fd.scope.isGenerator = false := by rfl) (hk : fd.scope.kind = .function := by rfl) :
    codeAny (model prog w) A (.call (.ref a) args) R s := by
  refine codeAny_call_function hroom ho hdata hco hgen hbody hcd (hbind _ _ _ _ ?_)
  rw [hclo]
  refine wpAny_newFunctionEnv_cells hk hkind fun env he s' x => ?_
  subst he
  exact ⟨hlim.keeps x.toInCall.keep, codeAny_func (h s' x)⟩
end
end Mine

namespace Mine

def onJ (as : List Nat) (j : Nat) (p : Nat → Bool) : Bool := ((as[j]?).map p).getD false
theorem onJ_some {as : List Nat} {j y : Nat} (h : as[j]? = some y) (p : Nat → Bool) : onJ as j p = p y := by unfold onJ; rw [h]; rfl

/-- the frames of the list stand, below n -/
def FunFr (n : Nat) (l : List Env) (h : Heap) : Prop := ∀ env ∈ l, env.scope.kind ≠ .module ∧ ∃ (L : Nat) (m : Str → Option Value), env.frame = some L ∧ L < n ∧ h.Ns L m
def frs (l : List Env) : List Addr := l.filterMap (·.frame)

/-- what is asked of a comparison -/
structure Cmp (prog : Program) (w : World) (cmp : Value) (as : List Nat) (rl : Nat → Nat → Bool) (Flag : Prop) (CI : Nat → Heap → Prop) (wrc bad : List Addr) (nR kc : Nat) (r : Prop) : Prop where
  callable : ∀ c h, CI c h → (∃ (b : Addr) (fd : FuncData) (o : Obj), cmp = .ref b ∧ h.get? b = some o ∧ o.data = .func fd) ∨ cmp = .builtin "_operator.lt"
  go : ∀ (A' : Around) (l : List Env), Room kc A' → A'.frames = some l → ∀ c x y (s : Shared), c ≤ 2000 → x ∈ as → y ∈ as → x ≠ y → CI c s.heap → (r → ∃ n, FunFr n l s.heap) →
    wpAny (model prog w) A' (call cmp [.ref x, .ref y]) (fun v s' => v = .bool (rl x y) ∧ Flag ∧ CI (c + 1) s'.heap ∧ Kw wrc s s') (ErV (fun _ => r) l (frs l) [] s) s
  stable : ∀ c h h', CI c h → (∀ (b : Nat) o, (b < nR ∧ ¬ TblO o ∧ b ∉ bad ∨ TupO o) → h.get? b = some o → h'.get? b = some o) → CI c h'
  stable0 : ∀ h h', CI 0 h → (∀ (b : Nat) o, b < nR → ¬ TblO o → b ∉ bad → h.get? b = some o → h'.get? b = some o) → CI 0 h'
  mono : ∀ c c' h, c ≤ c' → CI c h → CI c' h
  items : ∀ c h, CI c h → ∀ a ∈ as, LstAt h a
  low : ∀ b : Nat, b ∈ wrc → b < nR ∧ 80 ≤ b
  rw : r → wrc = []

/-- what stands while the outer generator lives -/
structure OIo (mg mb : Str → Option Value) (cmp : Value) (CI : Heap → Prop) (c2 P2 X L nR : Nat) (its : Array Value) (r : Prop) (fl : List Env) (h : Heap) : Prop where
  base : Base mg mb h
  ci : CI h
  tab : TabE c2 P2 h
  list : h.IsList X its
  items : h.IsCell (L + 3) (some (.ref X))
  cmp : h.IsCell (L + 1) (some cmp)
  fr : r → FunFr nR fl h

variable {mg mb : Str → Option Value} {cmp : Value} {as : List Nat} {rl : Nat → Nat → Bool} {Flag : Prop} {CI : Nat → Heap → Prop} {c0 : Nat} {wrc bad : List Addr} {nR kc : Nat} {r : Prop} {c2 P2 X L : Nat} {its : Array Value} {fl : List Env}

theorem FunFr.to {n : Nat} {l : List Env} {h h' : Heap} (x : FunFr n l h) (k : ∀ (b : Nat) o, b < n → h.get? b = some o → h'.get? b = some o) : FunFr n l h' := fun env he => by
  obtain ⟨h1, F, m, h2, h3, h4⟩ := x env he
  exact ⟨h1, F, m, h2, h3, h4.at' fun o e => k F o h3 e⟩

theorem FunFr.to' {n : Nat} {l : List Env} {h h' : Heap} (x : FunFr n l h) (k : ∀ (b : Nat) o, b < n → (∀ vs, o.data ≠ .fields vs) → h.get? b = some o → h'.get? b = some o) : FunFr n l h' := fun env he => by
  obtain ⟨h1, F, m, h2, h3, h4⟩ := x env he
  exact ⟨h1, F, m, h2, h3, h4.at' fun o e => k F o h3 (fun vs q => by obtain ⟨o', es, ep, e', d', _⟩ := h4; rw [e'] at e; cases e; rw [d'] at q; cases q) e⟩

theorem OIo.keep {prog : Program} {w : World} (C : Cmp prog w cmp as rl Flag CI wrc bad nR kc r) {h h' : Heap} (x : OIo mg mb cmp (CI c0) c2 P2 X L nR its r fl h)
    (k : ∀ (b : Nat) o, (b < 80 ∨ b < nR ∨ b = c2 ∨ b = P2 ∨ b = X ∨ b = L + 1 ∨ b = L + 3 ∨ TupO o) → h.get? b = some o → h'.get? b = some o) : OIo mg mb cmp (CI c0) c2 P2 X L nR its r fl h' where
  base := x.base.low fun b o hb _ _ e => k b o (.inl hb) e
  ci := C.stable c0 h h' x.ci fun b o hb e => k b o (by rcases hb with hb | hb; exact .inr (.inl hb.1); simp [hb]) e
  tab := x.tab.keep fun b o hb e => k b o (by rcases hb with rfl | rfl | rfl | rfl <;> simp) e
  list := x.list.at fun o e => k X o (by simp) e
  items := let ⟨o, e, d⟩ := x.items; ⟨o, k (L + 3) o (by simp) e, d⟩
  cmp := let ⟨o, e, d⟩ := x.cmp; ⟨o, k (L + 1) o (by simp) e, d⟩
  fr := fun hr => (x.fr hr).to fun b o hb e => k b o (.inr (.inl hb)) e

theorem OIo.mono {prog : Program} {w : World} (C : Cmp prog w cmp as rl Flag CI wrc bad nR kc r) {c c' : Nat} {h : Heap} (x : OIo mg mb cmp (CI c) c2 P2 X L nR its r fl h) (hc : c ≤ c') : OIo mg mb cmp (CI c') c2 P2 X L nR its r fl h :=
  { base := x.base, ci := C.mono c c' h hc x.ci, tab := x.tab, list := x.list, items := x.items, cmp := x.cmp, fr := x.fr }

def ifO : Expr := match geO with | .GeneratorExp _ [⟨_, _, [c], _⟩] _ _ => c | _ => geO
def eltO : Expr := match geO with | .GeneratorExp e _ _ _ => e | _ => geO
def geN : Expr := match ifO with | .UnaryOp .Not (.Call _ [e] _ _) _ => e | _ => geO
def ifN : Expr := match geN with | .GeneratorExp _ [⟨_, _, [c], _⟩] _ _ => c | _ => geO
def eltN : Expr := match geN with | .GeneratorExp e _ _ _ => e | _ => geO
def clO (L : Nat) : List (Str × Addr) := [("items", L + 3), ("comparison", L + 1)]
def clN (L C : Nat) : List (Str × Addr) := [("item", C + 1), ("comparison", L + 1)]
def envO (L C c2 : Nat) : Env := genEnv (scpOf geO) (gcells true "item" (clO L) C) C (.ref c2) builtinsNs (eM L)
def envN (L C c2 D : Nat) (code : Value) : Env := genEnv (scpOf geN) (gcells false "other" (clN L C) D) D code builtinsNs (envO L C c2)

section
variable {prog : Program} {w : World} {A : Around}

/-- one item asked against another -/
theorem turn_in (Cm : Cmp prog w cmp as rl Flag CI wrc bad nR kc r) {C D : Nat} {code : Value} {i : Nat} {x : Nat} (hx : x ∈ as) (hnd : as.Nodup) (hits : its = (as.map Value.ref).toArray) {fx : List Addr} (hfx : r → ∀ b ∈ frs fl, b ∈ fx)
    (hwC : nR ≤ C) (hXC : X < C) (hLC : L + 3 < C) (hcC : c2 < C) (hPC : P2 < C) (hCD : C + 1 < D)
    (hw1 : P2 ∉ wrc) (hw2 : c2 ∉ wrc) (hwX : nR ≤ X) (hwL : nR ≤ L) {k : Nat} (hkc : k + 1 ≤ kc) (hc0 : c0 + as.length ≤ 2000) :
    GTurn prog w (envN L C c2 D code) "other" [ifN] eltN its (fun j h => OIo mg mb cmp (CI (c0 + j)) c2 P2 X L nR its r fl h ∧ h.IsCell (C + 1) (some (.ref x)) ∧ ∃ m, h.Ns C m) wrc (fun j => onJ as j fun y => !(y == x))
      (fun j v => v = .bool (onJ as j fun y => rl x y) ∧ Flag) k (fun h => r ∧ TabE c2 P2 h) (envO L C c2 :: fl) (D :: C :: (fx ++ wrc)) := by
  intro A' hA' hf' j v s' hv hO hb hns
  obtain ⟨hO, hc, mC, hC⟩ := hO
  obtain ⟨y, hy, rfl⟩ : ∃ y, as[j]? = some y ∧ v = .ref y := by
    subst hits
    simp only [List.getElem?_toArray, List.getElem?_map] at hv
    cases h : as[j]? with
    | none => rw [h] at hv; cases hv
    | some y => rw [h] at hv; exact ⟨y, rfl, (Option.some.inj hv).symm⟩
  have hym : y ∈ as := List.mem_of_getElem? hy
  simp only [onJ_some hy]
  have hit := Cm.items _ _ hO.ci
  have hjl : j < as.length := (List.getElem?_eq_some_iff.mp hy).1
  refine wpAny_tests_one (wpNoE ((EvB.cmp (h₀ := s'.heap) (c := !(y == x)) (P₁ := (· = Value.ref y)) (P₂ := (· = Value.ref x)) (EvV.bound hb) (EvV.free hc) (fun a b s₁ hs₁ ha hb' => ?_)).go (Sub.refl _) fun s₁ k₁ => ⟨rfl, ?_⟩))
  · subst ha hb'
    have up : ∀ a, LstAt s'.heap a → LstAt s₁.heap a := fun a ⟨o, e, r⟩ => ⟨o, hs₁ _ _ e, r⟩
    exact isnot_refs (up _ (hit y hym)) (up _ (hit x hx)) ⟨rfl, Kp.refl _⟩
  · have hO₁ : OIo mg mb cmp (CI (c0 + j)) c2 P2 X L nR its r fl s₁.heap := hO.keep Cm fun b o _ e => k₁.sub _ _ e
    cases hxy : (!(y == x)) with
    | false => exact ⟨⟨hO₁.mono Cm (by omega), hc.keeps k₁.sub, mC, hC.keeps k₁.sub⟩, k₁.mv _⟩
    | true =>
      have hne : x ≠ y := fun e => by subst e; simp at hxy
      rw [if_pos rfl]
      refine Call_Name2 ((EvV.free (h₀ := s₁.heap) (v := cmp) hO₁.cmp).go (Sub.refl _) fun f s₂ hf k₂ => ?_) rfl
      subst hf
      have go : ∀ s₃, Kp s₁ s₃ → wpAny (model prog w) A' (call f [.ref x, .ref y]) (fun y_1 s₄ => (y_1 = .bool (rl x y) ∧ Flag) ∧ (OIo mg mb f (CI (c0 + (j + 1))) c2 P2 X L nR its r fl s₄.heap ∧ s₄.heap.IsCell (C + 1) (some (.ref x)) ∧ ∃ m, s₄.heap.Ns C m) ∧ Mv wrc s' s₄) (ErV (fun h => r ∧ TabE c2 P2 h) (envN L C c2 D code :: envO L C c2 :: fl) (D :: C :: (fx ++ wrc)) wrc s') s₃ := by
        intro s₃ k₃
        have hO₃ : OIo mg mb f (CI (c0 + j)) c2 P2 X L nR its r fl s₃.heap := hO₁.keep Cm fun b o _ e => k₃.sub _ _ e
        have kk := k₁.trans k₃
        have hFr : ∀ s₃ : Shared, OIo mg mb f (CI (c0 + j)) c2 P2 X L nR its r fl s₃.heap → Sub s'.heap s₃.heap → r → FunFr (D + 1 + nR) (envN L C c2 D code :: envO L C c2 :: fl) s₃.heap := by
          intro s₃ hO₃ kk hr env he
          rcases List.mem_cons.mp he with rfl | he
          · obtain ⟨m, hm⟩ := hns
            exact ⟨show (scpOf geN).kind ≠ .module by decide, D, m, rfl, by omega, hm.keeps kk⟩
          rcases List.mem_cons.mp he with rfl | he
          · exact ⟨show (scpOf geO).kind ≠ .module by decide, C, mC, rfl, by omega, hC.keeps kk⟩
          · obtain ⟨h1, F, m, h2, h3, h4⟩ := hO₃.fr hr env he
            exact ⟨h1, F, m, h2, by omega, h4⟩
        refine wpAny_mono (Cm.go A' _ (hA'.mono (by omega)) hf' (c0 + j) x y s₃ (by omega) hx hym hne hO₃.ci (fun hr => ⟨D + 1 + nR, hFr s₃ hO₃ kk.sub hr⟩)) (fun v s₄ h => ?_) fun e s₄ h => ?_
        · obtain ⟨rfl, hF, hci, hk⟩ := h
          have hk' : ∀ (b : Nat) o, b ∉ wrc → s₃.heap.get? b = some o → s₄.heap.get? b = some o := fun b o hb e => hk.keep b o hb e
          have hbig : ∀ b : Nat, nR ≤ b → b ∉ wrc := fun b hb hm => absurd (Cm.low b hm).1 (by omega)
          refine ⟨⟨rfl, hF⟩, ⟨⟨?_, hci, ?_, ?_, ?_, ?_, fun hr => ?_⟩, ?_, mC, ?_⟩, (kk.mv _).trans hk.mv⟩
          · exact hO₃.base.low fun b o hb _ _ e => hk' b o (fun hm => absurd (Cm.low b hm).2 (by omega)) e
          · refine hO₃.tab.keep fun b o hb e => hk' b o ?_ e
            rcases hb with rfl | rfl | rfl | rfl
            · exact fun hm => absurd (Cm.low 43 hm).2 (by decide)
            · exact fun hm => absurd (Cm.low 47 hm).2 (by decide)
            · exact hw2
            · exact hw1
          · exact hO₃.list.at fun o e => hk' X o (hbig X hwX) e
          · obtain ⟨o, e, d⟩ := hO₃.items; exact ⟨o, hk' _ o (hbig _ (by omega)) e, d⟩
          · obtain ⟨o, e, d⟩ := hO₃.cmp; exact ⟨o, hk' _ o (hbig _ (by omega)) e, d⟩
          · exact (hO₃.fr hr).to fun b o _ e => hk' b o (by rw [Cm.rw hr]; exact fun h => nomatch h) e
          · obtain ⟨o, e, d⟩ := hc; exact ⟨o, hk' _ o (hbig _ (by omega)) (kk.sub _ _ e), d⟩
          · exact (hC.keeps kk.sub).at' fun o e => hk' C o (hbig C hwC) e
        · have hr : r := by obtain ⟨_, _, _, _, _, _, hr, _⟩ := h; exact hr
          have h := h.more (r' := fun h => r ∧ TabE c2 P2 h) fun base hb _ => ⟨hr, hO₃.tab.keep fun b o hbb e => hb b o (fun hm => by
            obtain ⟨env, he, hfe⟩ := List.mem_filterMap.mp hm
            obtain ⟨_, F, m, g2, _, g4⟩ := hFr s₃ hO₃ kk.sub hr env he
            rw [g2] at hfe; cases hfe
            obtain ⟨o', es, ep, e', d', _⟩ := g4
            obtain ⟨⟨ps, q1, q2, _⟩, ⟨ps2, q3, q4⟩, _⟩ := hO₃.tab
            obtain ⟨⟨o1, v1, e1, d1⟩, o2, v2, e2, d2⟩ := IsCode.gets q1
            obtain ⟨⟨o3, v3, e3, d3⟩, o4, v4, e4, d4⟩ := IsCode.gets q3
            rcases hbb with rfl | rfl | rfl | rfl
            · rw [e2] at e'; cases e'; rw [d2] at d'; cases d'
            · rw [e1] at e'; cases e'; rw [d1] at d'; cases d'
            · rw [e3] at e'; cases e'; rw [d3] at d'; cases d'
            · rw [e4] at e'; cases e'; rw [d4] at d'; cases d') e⟩
          refine h.lift (kk.mv []) (fun b hb => .inl ?_) fun b hb => hb.elim (fun h => nomatch h) fun h => nomatch h
          rcases hb with hb | hb
          · cases hb
          · simp only [frs, List.filterMap_cons] at hb
            rcases List.mem_cons.mp hb with rfl | hb
            · simp
            rcases List.mem_cons.mp hb with rfl | hb
            · simp
            · exact List.mem_cons_of_mem _ (List.mem_cons_of_mem _ (List.mem_append_left _ (hfx hr b hb)))
      have hc₂ := hc.keeps (k₁.sub.trans k₂.sub)
      have hb₂ := hb.keeps (k₁.sub.trans k₂.sub)
      have sp := fun (Q : List Value → Shared → Prop) (E : Value → Shared → Prop) (hq : ∀ s₃, Kp s₂ s₃ → Q [.ref x, .ref y] s₃) =>
        (Calls.spliced_cons (M := model prog w) (A := A') (s := s₂) (E := E) (Q := Q) ((EvV.free (env := envN L C c2 D code) (x := "item") (pos := match eltN with | .Call _ [.Name _ p, _] _ _ => p | _ => default) hc₂).go (prog := prog) (w := w) (A := A') (Sub.refl _) fun v s₃ hv k₃ => Calls.spliced_cons ((EvV.bound (env := envN L C c2 D code) (x := "other") (pos := match eltN with | .Call _ [_, .Name _ p] _ _ => p | _ => default) (hb₂.keeps k₃.sub)).go (prog := prog) (w := w) (A := A') (Sub.refl _) fun u s₄ hu k₄ => Calls.spliced_nil (by subst hv hu; exact hq s₄ (k₃.trans k₄)))))
      rcases Cm.callable _ _ (hO₁.keep Cm fun b o _ e => k₂.sub _ _ e).ci with ⟨b, fd, o, rfl, ho, hd⟩ | rfl
      · refine Calls.callWith_function (o := o) (fd := fd) (Calls.evalArgs_plain (sp _ _ fun s₃ k₃ => ⟨⟨k₃.sub _ _ ho, hd⟩, go s₃ (k₂.trans k₃)⟩))
      · exact Calls.callWith_builtin rfl (Calls.evalArgs_plain (sp _ _ fun s₃ k₃ => go s₃ (k₂.trans k₃)))
end
end Mine

namespace Mine

variable {mg mb : Str → Option Value} {cmp : Value} {as : List Nat} {rl : Nat → Nat → Bool} {Flag : Prop} {CI : Nat → Heap → Prop} {wrc bad : List Addr} {nR kc : Nat} {r : Prop} {c2 P2 X L : Nat} {its : Array Value} {fl : List Env}

/-- the objects that the comparison leaves -/
def keepA (rl : Nat → Nat → Bool) (as : List Nat) (x : Nat) : Bool := !(as.any fun y => !(y == x) && rl x y)

theorem any_range (as : List Nat) (p : Nat → Bool) (q : Nat → Bool) : ((List.range as.length).any fun j => onJ as j p && onJ as j q) = as.any fun y => p y && q y := by
  rw [Bool.eq_iff_iff, List.any_eq_true, List.any_eq_true]
  constructor
  · rintro ⟨j, hj, h⟩
    cases hy : as[j]? with
    | none => unfold onJ at h; rw [hy] at h; simp at h
    | some y => rw [onJ_some hy, onJ_some hy] at h; exact ⟨y, List.mem_of_getElem? hy, h⟩
  · rintro ⟨y, hy, h⟩
    obtain ⟨j, hj⟩ := List.getElem?_of_mem hy
    obtain ⟨hlt, _⟩ := List.getElem?_eq_some_iff.mp hj
    exact ⟨j, by simpa using hlt, by rw [onJ_some hj, onJ_some hj]; exact h⟩

theorem passing_ne {pz : Nat → Bool} {n i : Nat} (hi : i < n) (h : pz i = true) : passing pz n 0 ≠ [] := by
  intro e
  have : i ∈ passing pz n 0 := by
    unfold passing
    rw [List.drop_zero, List.mem_filter]
    exact ⟨List.mem_range.mpr hi, h⟩
  rw [e] at this; cases this

section
variable {prog : Program} {w : World} {A : Around}

theorem turn_out (N : Names mg mb) (Cm : Cmp prog w cmp as rl Flag CI wrc bad nR kc r) {C : Nat} (hnd : as.Nodup) (hits : its = (as.map Value.ref).toArray) {fx : List Addr} (hfx : r → ∀ b ∈ frs fl, b ∈ fx) (hfxC : ∀ b : Nat, b ∈ fx → b < C)
    (hwC : nR ≤ C) (hXC : X < C) (hLC : L + 3 < C) (hcC : c2 < C) (hPC : P2 < C) (hw1 : P2 ∉ wrc) (hw2 : c2 ∉ wrc) (hwX : nR ≤ X) (hwL : nR ≤ L) {k : Nat} (hkc : k + 4 ≤ kc) (hk : k ≤ 30) (hn : as.length ≤ 40) :
    GTurn prog w (envO L C c2) "item" [ifO] eltO its (fun i h => OIo mg mb cmp (CI (i * as.length)) c2 P2 X L nR its r fl h) (P2 :: wrc) (fun i => onJ as i (keepA rl as))
      (fun i v => (∃ x, as[i]? = some x ∧ v = .ref x) ∧ (2 ≤ as.length → Flag)) k (fun h => r ∧ TabE c2 P2 h) fl (C :: (fx ++ P2 :: wrc)) := by
  intro A' hA' hf' i v s' hv hO hb hns
  obtain ⟨x, hx, rfl⟩ : ∃ x, as[i]? = some x ∧ v = .ref x := by
    subst hits
    simp only [List.getElem?_toArray, List.getElem?_map] at hv
    cases h : as[i]? with
    | none => rw [h] at hv; cases hv
    | some y => rw [h] at hv; exact ⟨y, rfl, (Option.some.inj hv).symm⟩
  have hxm : x ∈ as := List.mem_of_getElem? hx
  have hc : s'.heap.IsCell (C + 1) (some (.ref x)) := by
    rcases hb with ⟨h1, _⟩ | ⟨_, c, h2, h3⟩
    · cases h1
    · have h4 : (envO L C c2).cells.lookup ("item" : Str) = some (C + 1) := by rfl
      rw [h2] at h4; cases h4; exact h3
  obtain ⟨mC, hC⟩ := hns
  have hC : s'.heap.Ns C mC := hC
  simp only [onJ_some hx]
  have hsz : its.size = as.length := by rw [hits, List.size_toArray, List.length_map]
  obtain ⟨⟨ps, t1, t2, t3⟩, ⟨ps2, t4, t4'⟩, t5, t6⟩ := hO.tab
  have hXP : X ≠ P2 := fun e => by
    obtain ⟨o, e1, _, n, d1⟩ := hO.list
    obtain ⟨_, o2, vs, e2, d2⟩ := IsCode.gets t4
    rw [e, e2] at e1; cases e1; rw [d2] at d1; cases d1
  obtain ⟨⟨oc, vc, ec, _⟩, op, vp, ep, _⟩ := IsCode.gets t4
  refine wpAny_tests_one (isTrue_not (isTrue_plain ?_))
  refine any_ge (kk := k + 1) (own := false) (cl := clN L C) (X := X) (its := its) (Wc := [P2]) (r := fun h => r ∧ TabE c2 P2 h) (fl := envO L C c2 :: fl) hA' hf' (by omega) (Nat.le_refl _) rfl rfl rfl ⟨fun _ => rfl, fun _ => rfl, rfl, rfl, by decide⟩ hO.base N (EvV.free hO.items) hO.list (by simpa using hXP) (fun b hb => by rw [List.mem_singleton.mp hb]; exact ⟨op, ep⟩) (fun _ => rfl) (fun I s₂ k₂ hI hIlt => ?_)
  have gen : wpAny (model prog w) A' (genexprCode (envO L C c2) (posOf geN) ((envO L C c2).qual ++ "<genexpr>") (scpOf geN)) (fun code s₃ => Kw [P2] s₂ s₃ ∧ ∃ ps', s₃.heap.IsCode c2 P2 ps' ∧ s₃.heap.TableAt c2 P2 ps') noE s₂ := by
    have q1 := t4.keeps k₂.sub
    have q2 := t4'.keeps k₂.sub
    cases hq : codeAmong (posOf geN) ps2.toList with
    | some c' => exact wpAny_genexprCode_hit rfl q1 hq ⟨Kw.refl _ _, ps2, q1, q2⟩
    | none => exact wpAny_genexprCodeX rfl q1 q2 hq fun c' h' tk hx hge hlt hcode hrec htab hnew => ⟨⟨h', tk, rfl, fun b o hb e => hx b o (by simpa using hb) e⟩, _, hcode, htab⟩
  refine wpNoE (wpAny_mono gen (fun code s₃ h₃ => ?_) fun _ _ e => e.elim)
  obtain ⟨⟨h', tk, rfl, hx'⟩, ps', hcode', htab'⟩ := h₃
  have hx'' : ∀ (b : Nat) o, b ≠ P2 → s₂.heap.get? b = some o → h'.get? b = some o := fun b o hb e => hx' b o (by simpa using hb) e
  have hCI : C + 1 < I := by obtain ⟨o, e, _⟩ := hc; exact hI (C + 1) o e
  have hc₃ : h'.IsCell (C + 1) (some (.ref x)) := by obtain ⟨o, e, d⟩ := hc; exact ⟨o, hx'' (C + 1) o (by omega) (k₂.sub _ _ e), d⟩
  have hCD : @LT.lt Nat _ (C + 1) h'.objs.size := by obtain ⟨o, e, d⟩ := hc₃; exact Heap.lt_size e
  have hO₂ := hO.keep Cm fun b o _ e => k₂.sub _ _ e
  have hP₂ : s₂.heap.get? P2 = some { cls := .none, data := .fields ps2 } := k₂.sub _ _ t4'.2
  have hO₃ : OIo mg mb cmp (CI (i * as.length)) c2 P2 X L nR its r fl h' := {
    base := hO₂.base.low fun b o hb _ _ e => hx'' b o (by omega) e
    ci := Cm.stable _ _ _ hO₂.ci fun b o hb e => hx'' b o (fun q => by rw [q, hP₂] at e; cases e; rcases hb with hb | hb; exact hb.2.1 ⟨_, rfl, IsCode.tri t4⟩; cases hb.1) e
    tab := ⟨⟨ps, IsCode.to (t1.keeps k₂.sub) (fun o => hx'' 47 o (by omega)) (fun o => hx'' 43 o (by omega)), TableAt.to (t2.keeps k₂.sub) (fun o => hx'' 47 o (by omega)) (fun o => hx'' 43 o (by omega)), t3⟩, ⟨ps', hcode', htab'⟩, t5, t6⟩
    list := hO₂.list.at fun o e => hx'' X o hXP e
    items := let ⟨o, e, d⟩ := hO₂.items; ⟨o, hx'' (L + 3) o (fun q => by rw [q, hP₂] at e; cases e; cases d) e, d⟩
    cmp := let ⟨o, e, d⟩ := hO₂.cmp; ⟨o, hx'' (L + 1) o (fun q => by rw [q, hP₂] at e; cases e; cases d) e, d⟩
    fr := fun hr => (hO₂.fr hr).to' fun b o hb hnf e => hx'' b o (fun q => by rw [q, hP₂] at e; cases e; exact hnf _ rfl) e }
  have hCP : C ≠ P2 := by omega
  have hC₃ : h'.Ns C mC := (hC.keeps k₂.sub).at' fun o e => hx'' C o hCP e
  have hlen : its.size = as.length := hsz
  have hil : i < as.length := (List.getElem?_eq_some_iff.mp hx).1
  have hnn : i * as.length + as.length ≤ 2000 := by
    have h1 : (i + 1) * as.length ≤ 40 * 40 := Nat.mul_le_mul (by omega) hn
    rw [Nat.add_mul, Nat.one_mul] at h1; omega
  refine ⟨⟨h', tk, rfl, hx'⟩, hO₃.base, _, wrc, _, _, _, h'.objs.size :: C :: (fx ++ wrc), ⟨hO₃, hc₃, mC, hC₃⟩, ?mono, ?stable, ?wrlt, ?Iw, ?Xw, ?cS, turn_in Cm (i := 0) (c0 := i * as.length) (C := C) (D := h'.objs.size) (x := x) hxm hnd hits (fx := fx) hfx hwC hXC hLC hcC hPC hCD hw1 hw2 hwX hwL (by omega) hnn, fun j v h => h.1, ?hsub, ?hle, ?hQ, ?hE⟩
  case mono => exact fun j h hj q => ⟨q.1.mono Cm (by omega), q.2⟩
  case stable =>
    rintro j h h'' ⟨q1, q2, m, q3⟩ kk
    have kk' : ∀ (b : Nat) o, b ≤ C + 1 → h.get? b = some o → h''.get? b = some o := fun b o hb e => kk b o (.inl ⟨by show b < h'.objs.size; omega, by omega⟩) e
    refine ⟨q1.keep Cm fun b o hb e => ?_, let ⟨o, e, d⟩ := q2; ⟨o, kk' (C + 1) o (Nat.le_refl _) e, d⟩, m, q3.at' fun o e => kk' C o (by omega) e⟩
    have := hO.base.size
    rcases hb with hb | hb | rfl | rfl | rfl | rfl | rfl | hb
    · exact kk' _ o (by omega) e
    · exact kk' _ o (by omega) e
    · exact kk' _ o (by omega) e
    · exact kk' _ o (by omega) e
    · exact kk' _ o (by omega) e
    · exact kk' _ o (by omega) e
    · exact kk' _ o (by omega) e
    · exact kk b o (.inr hb) e
  case wrlt => exact fun b hb => by have := (Cm.low b hb).1; show b < h'.objs.size; omega
  case Iw => exact fun hm => by have := (Cm.low I hm).1; omega
  case Xw => exact fun hm => by have := (Cm.low X hm).1; omega
  case cS => exact fun hm => absurd (Cm.low cStatics hm).2 (by decide)
  case hsub => exact fun b hb => List.mem_cons_of_mem _ (List.mem_cons_of_mem _ (List.mem_append_right _ hb))
  case hle =>
    intro b hb
    show b ≤ h'.objs.size
    rcases List.mem_cons.mp hb with rfl | hb
    · exact Nat.le_refl _
    rcases List.mem_cons.mp hb with rfl | hb
    · omega
    rcases List.mem_append.mp hb with hb | hb
    · have := hfxC b hb; omega
    · have := (Cm.low b hb).1; omega
  case hE =>
    intro e s₄ he
    refine he.lift (Mv.refl [] s') (fun b hb => ?_) fun b hb => .inl (hb.elim (fun h => nomatch h) fun h => by simpa using h)
    rcases hb with hb | hb
    · cases hb
    rcases List.mem_append.mp hb with hb | hb
    · rw [List.mem_singleton.mp hb]; exact .inl (by simp)
    rcases List.mem_cons.mp hb with rfl | hb
    · right
      cases q : s'.heap.get? h'.objs.size with
      | none => rfl
      | some o =>
        exfalso
        have : @LT.lt Nat _ h'.objs.size h'.objs.size := by
          by_cases hz : h'.objs.size = P2
          · omega
          · exact Heap.lt_size (hx'' _ _ hz (k₂.sub _ _ q))
        exact Nat.lt_irrefl _ this
    rcases List.mem_cons.mp hb with rfl | hb
    · exact .inl (by simp)
    rcases List.mem_append.mp hb with hb | hb
    · exact .inl (by simp [hb])
    · exact .inl (by simp [hb])
  case hQ =>
    intro s₄ hO₄ hm₄ hfl
    rw [hlen] at hO₄ ⊢
    have hO₄1 : OIo mg mb cmp (CI ((i + 1) * as.length)) c2 P2 X L nR its r fl s₄.heap := by rw [Nat.add_mul, Nat.one_mul]; exact hO₄.1
    have ev : ((List.range as.length).any fun i => (onJ as i fun y => !(y == x)) && (onJ as i fun y => rl x y)) = as.any fun y => !(y == x) && rl x y := any_range as _ _
    rw [ev]
    refine wpAny_truthy_bool ?_
    refine ⟨rfl, ?_⟩
    have hkA : (!(as.any fun y => !(y == x) && rl x y)) = keepA rl as x := rfl
    cases hz : (!(as.any fun y => !(y == x) && rl x y)) with
    | false => exact ⟨hO₄1, hm₄⟩
    | true =>
      rw [if_pos rfl]
      refine wpNoE ((EvV.cell (h₀ := s₄.heap) hO₄.2.1).go (Sub.refl _) fun v s₅ hv k₅ => ⟨⟨⟨x, hx, hv⟩, fun h2 => ?_⟩, hO₄1.keep Cm fun b o _ e => k₅.sub _ _ e, hm₄.trans (k₅.mv _)⟩)
      obtain ⟨j, hj, hjx⟩ : ∃ j, j < as.length ∧ ∃ y, as[j]? = some y ∧ y ≠ x := by
        by_cases h0 : as[0]? = some x
        · refine ⟨1, by omega, ?_⟩
          cases h1 : as[1]? with
          | none => rw [List.getElem?_eq_none_iff] at h1; omega
          | some y =>
            refine ⟨y, rfl, fun e => ?_⟩
            subst e
            obtain ⟨l0, e0⟩ := List.getElem?_eq_some_iff.mp h0
            obtain ⟨l1, e1⟩ := List.getElem?_eq_some_iff.mp h1
            exact absurd ((List.getElem_inj hnd).mp (e0.trans e1.symm)) (by decide)
        · refine ⟨0, by omega, ?_⟩
          cases h1 : as[0]? with
          | none => rw [List.getElem?_eq_none_iff] at h1; omega
          | some y => exact ⟨y, rfl, fun e => h0 (by rw [h1, e])⟩
      obtain ⟨y, hy, hyx⟩ := hjx
      obtain ⟨_, _, hF⟩ := hfl (passing_ne (i := j) (by omega) (by rw [onJ_some hy]; simpa using hyx))
      exact hF.2
end
end Mine

namespace Mine

theorem beq_swap (y z : Nat) : (y == z) = (z == y) := by
  by_cases h : y = z
  · subst h; rfl
  · rw [beq_false_of_ne h, beq_false_of_ne (Ne.symm h)]
def uniqA (ps : List Nat) : List Nat := ps.foldl (fun acc k => if acc.any (· == k) then acc else acc ++ [k]) []
theorem uniqA_snoc (ps : List Nat) (k : Nat) : uniqA (ps ++ [k]) = if (uniqA ps).any (· == k) then uniqA ps else uniqA ps ++ [k] := by
  unfold uniqA; rw [List.foldl_append]; rfl
theorem uniqA_nodup (ps : List Nat) : (uniqA ps).Nodup := by
  suffices ∀ (ps acc : List Nat), acc.Nodup → (ps.foldl (fun acc k => if acc.any (· == k) then acc else acc ++ [k]) acc).Nodup from this ps [] List.nodup_nil
  intro ps
  induction ps with
  | nil => intro acc h; exact h
  | cons a ps ih =>
    intro acc h
    refine ih _ ?_
    dsimp only
    split
    · exact h
    · rename_i hn
      refine List.nodup_append.mpr ⟨h, by simp, fun x hx y hy e => ?_⟩
      subst e
      rw [List.mem_singleton] at hy
      subst hy
      exact hn (List.any_eq_true.mpr ⟨_, hx, by simp⟩)
theorem uniqA_mem (ps : List Nat) : ∀ k, k ∈ uniqA ps ↔ k ∈ ps := by
  suffices ∀ (ps acc : List Nat) k, k ∈ ps.foldl (fun acc k => if acc.any (· == k) then acc else acc ++ [k]) acc ↔ k ∈ acc ∨ k ∈ ps by
    intro k; rw [uniqA, this ps [] k]; simp
  intro ps
  induction ps with
  | nil => intro acc k; simp
  | cons a ps ih =>
    intro acc k
    rw [List.foldl_cons, ih]
    split
    · rename_i h
      obtain ⟨x, hx, he⟩ := List.any_eq_true.mp h
      have : x = a := by simpa using he
      subst this
      constructor
      · rintro (h | h)
        · exact .inl h
        · exact .inr (List.mem_cons_of_mem _ h)
      · rintro (h | h)
        · exact .inl h
        · rcases List.mem_cons.mp h with rfl | h
          · exact .inl hx
          · exact .inr h
    · constructor
      · rintro (h | h)
        · rcases List.mem_append.mp h with h | h
          · exact .inl h
          · rw [List.mem_singleton.mp h]; exact .inr (List.mem_cons_self ..)
        · exact .inr (List.mem_cons_of_mem _ h)
      · rintro (h | h)
        · exact .inl (List.mem_append_left _ h)
        · rcases List.mem_cons.mp h with rfl | h
          · exact .inl (List.mem_append_right _ (List.mem_singleton.mpr rfl))
          · exact .inr h
theorem uniqA_length (ps : List Nat) : (uniqA ps).length ≤ ps.length := by
  suffices ∀ (ps acc : List Nat), (ps.foldl (fun acc k => if acc.any (· == k) then acc else acc ++ [k]) acc).length ≤ acc.length + ps.length by
    have h := this ps []
    rw [List.length_nil, Nat.zero_add] at h; exact h
  intro ps
  induction ps with
  | nil => intro acc; simp
  | cons a ps ih =>
    intro acc
    refine Nat.le_trans (ih _) ?_
    dsimp only
    split <;> simp <;> omega

section
variable {prog : Program} {w : World} {A : Around} {env : Env}

/-- a source whose iterator is new, or one of bad -/
def SrcB (prog : Program) (w : World) (A : Around) (env : Env) (iter : Expr) (n : Nat) (P : Nat → Value → Prop) (fp bad : List Addr) (s : Shared) : Prop :=
  wpAny (model prog w) A (eval iter env) (fun xv s₁ => wpAny (model prog w) A (pyIter xv) (fun it s₂ => ∃ I : Nat, ∃ St, it = .ref I ∧ Kp s s₂ ∧ ((∀ (b : Nat) o, s.heap.get? b = some o → b < I) ∨ I ∈ bad) ∧ Walks prog w A I (I :: fp) [I] n P St ∧ St 0 s₂.heap) noE s₁) noE s

theorem for_ruleM {x : Str} {px pos : Pos} {iter : Expr} {body : List Stmt} {n : Nat} {P : Nat → Value → Prop} {s : Shared} {Wl fp bad : List Addr} (src : SrcB prog w A env iter n P fp bad s) (J : Nat → Heap → Prop)
    (hJ : ∀ (I : Nat) i h h', ((∀ (b : Nat) o, s.heap.get? b = some o → b < I) ∨ I ∈ bad) → J i h → (∀ (b : Nat) o, b ≠ I → h.get? b = some o → h'.get? b = some o) → J i h')
    (hW : ∀ b ∈ Wl, ∃ o, s.heap.get? b = some o) (hbW : ∀ b ∈ bad, b ∉ Wl) (hfp : ∀ b ∈ fp, b ∉ Wl) (h0 : J 0 s.heap)
    (step : ∀ i v (s' : Shared), i < n → P i v → J i s'.heap →
      wpAny (model prog w) A (assign (.Name x px) env v) (fun _ s₂ => wpAny (model prog w) A (execs body env) (fun f s₃ => f = .next ∧ J (i + 1) s₃.heap ∧ Mv Wl s' s₃) noE s₂) noE s')
    (hs : ∀ x, foldedSetIterable iter env x = pure x := by intro _; rfl) :
    wpAny (model prog w) A (exec (.For (.Name x px) iter body [] pos) env) (fun f s' => f = .next ∧ J n s'.heap ∧ Mv (bad ++ Wl) s s') noE s := by
  refine wpAny_For (wpAny_mono src (fun xv s₁ h₁ => wpAny_mono h₁ (fun it s₂ h₂ => ?_) fun _ _ e => e) fun _ _ e => e) hs
  obtain ⟨I, St, rfl, k, hI, W, hst⟩ := h₂
  have hIW : I ∉ Wl := fun h => by
    rcases hI with hI | hI
    · obtain ⟨o, e⟩ := hW I h; exact absurd (hI I o e) (Nat.lt_irrefl _)
    · exact hbW I hI h
  have hIb : I ∈ bad ++ Wl ∨ s.heap.get? I = none := by
    rcases hI with hI | hI
    · exact .inr (none_of_lt hI)
    · exact .inl (List.mem_append_left _ hI)
  refine codeAny_forLoop (fun m s' => ∃ i, i ≤ n ∧ m = n + 1 - i ∧ St i s'.heap ∧ J i s'.heap ∧ Mv (bad ++ Wl) s s') ?_ (n + 1) ⟨0, Nat.zero_le _, rfl, hst, hJ I 0 _ _ hI h0 (fun b o _ e => k.sub b o e), k.mv _⟩
  have stepI : ∀ s' : Shared, Mv (bad ++ Wl) s s' → ∀ h' tk, (∀ b o, b ∉ [I] → s'.heap.get? b = some o → h'.get? b = some o) → Mv (bad ++ Wl) s { s' with heap := h', toks := tk } := by
    rintro s' ⟨h₂, tk₂, g₂, rfl, hk₂, hg₂⟩ h' tk hk₁
    refine ⟨h', tk, g₂, rfl, fun b o hb e => hk₁ b o (fun hm => ?_) (hk₂ b o hb e), hg₂⟩
    rw [List.mem_singleton.mp hm] at hb e
    rcases hIb with h | h
    · exact hb h
    · rw [h] at e; cases e
  rintro m s' ⟨i, hi, rfl, hst', hj, hk⟩
  by_cases hlt : i < n
  · refine W.item i _ _ _ hlt hst' fun v h' tk hP hst₁ hk₁ => ?_
    have hk₁' := stepI s' hk h' tk hk₁
    refine wpNoE (wpAny_mono (step i v { s' with heap := h', toks := tk } hlt hP (hJ I i _ _ hI hj fun b o hb e => hk₁ b o (by simpa using hb) e)) (fun _ s₂ h₂ => wpNoE (wpAny_mono h₂ (fun f s₃ h₃ => ?_) fun _ _ e => e)) fun _ _ e => e)
    obtain ⟨rfl, hj₃, hk₃⟩ := h₃
    refine ⟨n + 1 - (i + 1), by omega, i + 1, hlt, rfl, ?_, hj₃, hk₁'.trans (hk₃.mono fun b hb => List.mem_append_right _ hb)⟩
    refine W.frame _ _ _ hst₁ fun b hb o e => hk₃.keep b o ?_ e
    rcases List.mem_cons.mp hb with rfl | hb
    · exact hIW
    · exact hfp b hb
  · have hin : i = n := by omega
    subst hin
    refine W.done _ _ _ hst' fun h' tk hk₁ => wpAny_execs_nil ⟨rfl, hJ I i _ _ hI hj fun b o hb e => hk₁ b o (by simpa using hb) e, stepI s' hk h' tk hk₁⟩
end

variable {mg mb : Str → Option Value} {cmp : Value} {as as0 : List Nat} {rl : Nat → Nat → Bool} {Flag : Prop} {CI : Nat → Heap → Prop} {wrc bad : List Addr} {nR kc : Nat} {r : Prop} {X L : Nat} {tb : Option (Nat × Nat)} {fl : List Env}

/-- what stands in maximal's loop -/
structure LJ (mg mb : Str → Option Value) (cmp : Value) (CI : Heap → Prop) (X L nR : Nat) (as0 : List Nat) (tb : Option (Nat × Nat)) (r : Prop) (fl : List Env) (i : Nat) (h : Heap) : Prop where
  base : Base mg mb h
  ci : CI h
  tab : TabF tb h
  acc : ∃ xs : Array Value, h.PlainList X xs ∧ xs.toList = (uniqA (as0.take i)).map Value.ref
  items : h.IsCell (L + 3) (some (.ref X))
  item : ∃ v, h.IsCell (L + 2) v
  cmp : h.IsCell (L + 1) (some cmp)
  fr : r → FunFr nR fl h

theorem LJ.keep {prog : Program} {w : World} (C : Cmp prog w cmp as rl Flag CI wrc bad nR kc r) {i : Nat} {h h' : Heap} (x : LJ mg mb cmp (CI 0) X L nR as0 tb r fl i h)
    (k : ∀ (b : Nat) o, (b < 80 ∨ (b < nR ∧ b ∉ bad) ∨ (b < nR ∧ ∃ m : Str → Option Value, r ∧ h.Ns b m ∧ b ∈ frs fl) ∨ (∃ c2 P2, tb = some (c2, P2) ∧ (b = c2 ∨ b = P2)) ∨ b = X ∨ b = L + 1 ∨ b = L + 2 ∨ b = L + 3) → h.get? b = some o → h'.get? b = some o) : LJ mg mb cmp (CI 0) X L nR as0 tb r fl i h' where
  base := x.base.low fun b o hb _ _ e => k b o (.inl hb) e
  ci := C.stable0 h h' x.ci fun b o hb _ hbad e => k b o (.inr (.inl ⟨hb, hbad⟩)) e
  tab := x.tab.keep fun b o hb e => k b o (by rcases hb with rfl | rfl | hb; exact .inl (by decide); exact .inl (by decide); exact .inr (.inr (.inr (.inl hb)))) e
  acc := let ⟨xs, ⟨n, e⟩, f⟩ := x.acc; ⟨xs, ⟨n, k X _ (by simp) e⟩, f⟩
  items := let ⟨o, e, d⟩ := x.items; ⟨o, k (L + 3) o (by simp) e, d⟩
  item := let ⟨v, o, e, d⟩ := x.item; ⟨v, o, k (L + 2) o (by simp) e, d⟩
  cmp := let ⟨o, e, d⟩ := x.cmp; ⟨o, k (L + 1) o (by simp) e, d⟩
  fr := fun hr env he => by
    obtain ⟨h1, F, m, h2, h3, h4⟩ := x.fr hr env he
    exact ⟨h1, F, m, h2, h3, h4.at' fun o e => k F o (.inr (.inr (.inl ⟨h3, m, hr, h4, List.mem_filterMap.mpr ⟨env, he, h2⟩⟩))) e⟩
theorem LJ.sub {prog : Program} {w : World} (C : Cmp prog w cmp as rl Flag CI wrc bad nR kc r) {i : Nat} {h h' : Heap} (x : LJ mg mb cmp (CI 0) X L nR as0 tb r fl i h) (k : Sub h h') : LJ mg mb cmp (CI 0) X L nR as0 tb r fl i h' := x.keep C fun b o _ e => k b o e

def eltI : Expr := match geI with | .GeneratorExp e _ _ _ => e | _ => geI

section
variable {prog : Program} {w : World} {A : Around}

set_option maxHeartbeats 1000000 in
theorem m_loop (N : Names mg mb) (Cm : Cmp prog w cmp as rl Flag CI wrc bad nR kc r) (has : ∀ a ∈ as0, a ∈ as) (hlen : as0.length ≤ 1000) {k : Nat} (hA : Room k A) (hk : k ≤ 30) {fl' : List Env} (hf : A.frames = some fl') {s : Shared} {fp : List Addr}
    (src : SrcB prog w A (eM L) (match mst 1 with | .For _ it _ _ _ => it | _ => geI) as0.length (fun i v => ∃ a, as0[i]? = some a ∧ v = .ref a) fp bad s)
    (h0 : LJ mg mb cmp (CI 0) X L nR as0 tb r fl 0 s.heap) (hX80 : 80 ≤ L) (hXL : L + 3 < X) (hLR : nR ≤ L) (hbad : ∀ b : Nat, b ∈ bad → 80 ≤ b ∧ b < nR ∧ b ∉ frs fl ∧ ∀ c2 P2, tb = some (c2, P2) → b ≠ c2 ∧ b ≠ P2)
    (hfp : ∀ b : Nat, b ∈ fp → b ≠ X ∧ b ≠ L + 2 ∧ b ≠ 43) :
    wpAny (model prog w) A (exec (mst 1) (eM L)) (fun f s' => f = .next ∧ LJ mg mb cmp (CI 0) X L nR as0 tb r fl as0.length s'.heap ∧ Mv (bad ++ [X, L + 2, 43]) s s') noE s := by
  have h80 := h0.base.size
  refine for_ruleM (Wl := [X, L + 2, 43]) src (fun i h => LJ mg mb cmp (CI 0) X L nR as0 tb r fl i h) ?hJ ?hW ?hbW ?hfp h0 ?step
  case hJ =>
    intro I i h h' hI x kk
    refine x.keep Cm fun b o hb e => kk b o ?_ e
    rcases hI with hI | hI
    · have hXI : X < I := by obtain ⟨xs, ⟨n, e⟩, _⟩ := h0.acc; exact hI X _ e
      have h79 : 79 < I := hI 79 _ h0.base.f79
      rcases hb with hb | ⟨hb, _⟩ | ⟨hb, _⟩ | ⟨c2, P2, e2, hb⟩ | rfl | rfl | rfl | rfl <;> try omega
      obtain ⟨⟨o1, vs, e1, _⟩, ⟨ps, e3⟩, _⟩ := h0.tab.gets e2
      have h1 := hI c2 _ e1
      have h2 := hI P2 _ e3
      rcases hb with rfl | rfl <;> omega
    · obtain ⟨b1, b2, b3, b4⟩ := hbad I hI
      rcases hb with hb | ⟨hb, hb'⟩ | ⟨hb, m, hr, hm, hb'⟩ | ⟨c2, P2, e2, hb⟩ | rfl | rfl | rfl | rfl <;> try omega
      · exact fun e => hb' (e ▸ hI)
      · exact fun e => b3 (e ▸ hb')
      · obtain ⟨q1, q2⟩ := b4 c2 P2 e2
        rcases hb with rfl | rfl
        · exact Ne.symm q1
        · exact Ne.symm q2
  case hW =>
    intro b hb
    simp only [List.mem_cons, List.not_mem_nil, or_false] at hb
    rcases hb with rfl | rfl | rfl
    · obtain ⟨xs, ⟨n, e⟩, _⟩ := h0.acc; exact ⟨_, e⟩
    · obtain ⟨v, o, e, _⟩ := h0.item; exact ⟨o, e⟩
    · obtain ⟨ps, h1, _⟩ := h0.tab
      obtain ⟨_, o, vs, e, _⟩ := IsCode.gets h1
      exact ⟨o, e⟩
  case hbW =>
    intro b hb
    obtain ⟨b1, b2, _⟩ := hbad b hb
    simp only [List.mem_cons, List.not_mem_nil, or_false, not_or]
    exact ⟨Nat.ne_of_lt (Nat.lt_of_lt_of_le b2 (by omega)), Nat.ne_of_lt (Nat.lt_of_lt_of_le b2 (by omega)), Nat.ne_of_gt (Nat.lt_of_lt_of_le (by decide) b1)⟩
  case hfp =>
    intro b hb
    obtain ⟨b1, b2, b3⟩ := hfp b hb
    simp only [List.mem_cons, List.not_mem_nil, or_false, not_or]
    exact ⟨b1, b2, b3⟩
  case step =>
    rintro i v s' hi ⟨y, hy, rfl⟩ x
    obtain ⟨v₀, hcv⟩ := x.item
    have hym : y ∈ as := has y (List.mem_of_getElem? hy)
    refine wpAny_assign_Name (wpAny_storeName_cell rfl rfl rfl hcv (fun h₁ hc₁ hs₁ => ?_))
    have k₁ : ∀ (b : Nat) o, b ≠ L + 2 → s'.heap.get? b = some o → h₁.get? b = some o := fun b o hb e => hs₁.extBut b o hb e
    have hcl : ∀ c2 P2, tb = some (c2, P2) → c2 ≠ L + 2 ∧ P2 ≠ L + 2 := fun c2 P2 e => by
      obtain ⟨⟨o1, vs, e1, d1, _⟩, ⟨ps, e3⟩, _⟩ := x.tab.gets e
      obtain ⟨o, e4, d4⟩ := hcv
      refine ⟨fun q => ?_, fun q => ?_⟩
      · rw [q, e4] at e1; cases e1; rw [d4] at d1; cases d1
      · rw [q, e4] at e3; cases e3; cases d4
    have x₁ : LJ mg mb cmp (CI 0) X L nR as0 tb r fl i h₁ := {
      base := x.base.low fun b o hb _ _ e => k₁ b o (by omega) e
      ci := Cm.stable0 _ _ x.ci fun b o hb _ _ e => k₁ b o (by omega) e
      tab := x.tab.keep fun b o hb e => k₁ b o (by
        rcases hb with rfl | rfl | ⟨c2, P2, e2, hb⟩
        · omega
        · omega
        · obtain ⟨q1, q2⟩ := hcl c2 P2 e2
          rcases hb with rfl | rfl
          · exact q1
          · exact q2) e
      acc := let ⟨xs, ⟨n, e⟩, f⟩ := x.acc; ⟨xs, ⟨n, k₁ X _ (by omega) e⟩, f⟩
      items := let ⟨o, e, d⟩ := x.items; ⟨o, k₁ (L + 3) o (by omega) e, d⟩
      item := ⟨_, hc₁⟩
      cmp := let ⟨o, e, d⟩ := x.cmp; ⟨o, k₁ (L + 1) o (by omega) e, d⟩
      fr := fun hr => (x.fr hr).to fun b o hb e => k₁ b o (by omega) e }
    have hm₁ : Mv [X, L + 2, 43] s' { s' with heap := h₁ } := ⟨h₁, s'.toks, s'.gens, rfl, fun b o hb e => k₁ b o (fun q => hb (by rw [q]; simp)) e, GR.refl _⟩
    obtain ⟨xs, hxs, hxe⟩ := x₁.acc
    have hlxs : xs.size = (uniqA (as0.take i)).length := by rw [← Array.length_toList, hxe, List.length_map]
    have hle : (uniqA (as0.take i)).length ≤ 1000 := Nat.le_trans (uniqA_length _) (by rw [List.length_take]; omega)
    have hitm := Cm.items _ _ x₁.ci
    have hstep : uniqA (as0.take (i + 1)) = if (uniqA (as0.take i)).any (· == y) then uniqA (as0.take i) else uniqA (as0.take i) ++ [y] := by
      rw [List.take_add_one, hy]; exact uniqA_snoc _ _
    refine wpAny_execs_cons (wpAny_If (isTrue_not (isTrue_plain ?_)))
    refine any_ge (kk := k + 1) (own := false) (cl := [("item", L + 2)]) (X := X) (its := xs) (Wc := [43]) (r := fun _ => False) (fl := fl') hA hf (by omega) (Nat.le_refl _) rfl rfl rfl ⟨fun _ => rfl, fun _ => rfl, rfl, rfl, by decide⟩ x₁.base N (EvV.cell x₁.items) hxs.isList (by rw [List.mem_singleton]; exact Nat.ne_of_gt (show 43 < X by omega))
      (fun b hb => by rw [List.mem_singleton.mp hb]; obtain ⟨ps, q1, _⟩ := x₁.tab; obtain ⟨_, o, vs, e, _⟩ := IsCode.gets q1; exact ⟨o, e⟩) (fun _ => rfl) (fun I s₂ k₂ hI hIlt => ?_)
    have x₂ : LJ mg mb cmp (CI 0) X L nR as0 tb r fl i s₂.heap := x₁.sub Cm k₂.sub
    refine wpNoE (wpAny_mono (code_in (tb := tb) rfl x₂.tab) (fun code s₃ h₃ => ?_) fun _ _ e => e.elim)
    obtain ⟨hT₃, hk₃⟩ := h₃
    have kk₃ : ∀ (b : Nat) o, b ≠ 43 → s₂.heap.get? b = some o → s₃.heap.get? b = some o := fun b o hb e => hk₃.keep b o (by rw [List.mem_singleton]; exact hb) e
    have x₃ : LJ mg mb cmp (CI 0) X L nR as0 tb r fl i s₃.heap := {
      base := x₂.base.low fun b o hb h43 _ e => kk₃ b o h43 e
      ci := Cm.stable0 _ _ x₂.ci fun b o hb hcl _ e => kk₃ b o (fun q => by
        obtain ⟨ps, q1, q2, _⟩ := x₂.tab
        rw [q, q2.2] at e; cases e; exact hcl ⟨_, rfl, IsCode.tri q1⟩) e
      tab := hT₃
      acc := let ⟨xs, ⟨n, e⟩, f⟩ := x₂.acc; ⟨xs, ⟨n, kk₃ X _ (by omega) e⟩, f⟩
      items := let ⟨o, e, d⟩ := x₂.items; ⟨o, kk₃ (L + 3) o (by omega) e, d⟩
      item := let ⟨v, o, e, d⟩ := x₂.item; ⟨v, o, kk₃ (L + 2) o (by omega) e, d⟩
      cmp := let ⟨o, e, d⟩ := x₂.cmp; ⟨o, kk₃ (L + 1) o (by omega) e, d⟩
      fr := fun hr => (x₂.fr hr).to' fun b o hb hnf e => kk₃ b o (fun q => by
        obtain ⟨ps, q1, q2, _⟩ := x₂.tab
        rw [q, q2.2] at e; cases e; exact hnf _ rfl) e }
    have hc₃ : s₃.heap.IsCell (L + 2) (some (.ref y)) := by
      obtain ⟨o, e, d⟩ := hc₁
      exact ⟨o, kk₃ (L + 2) o (by omega) (k₂.sub _ _ e), d⟩
    have hXI : X < I := by obtain ⟨n, e⟩ := hxs; exact hI X _ e
    have hXs : @LT.lt Nat _ X s₃.heap.objs.size := by obtain ⟨xs, ⟨n, e⟩, _⟩ := x₃.acc; exact Heap.lt_size e
    refine ⟨hk₃, x₃.base, fun _ h => LJ mg mb cmp (CI 0) X L nR as0 tb r fl i h ∧ h.IsCell (L + 2) (some (.ref y)), [], fun _ => true, fun j => onJ (uniqA (as0.take i)) j fun z => y == z, fun j v => v = .bool (onJ (uniqA (as0.take i)) j fun z => y == z), [], ⟨x₃, hc₃⟩, (fun _ _ _ q => q), ?stable, (fun b hb => nomatch hb), (fun h => nomatch h), (fun h => nomatch h), (fun h => nomatch h), ?turn, (fun j v h => h), (fun b hb => nomatch hb), (fun b hb => nomatch hb), ?hQ, fun e s₄ he => he.no.elim⟩
    case stable =>
      rintro _ h h' ⟨q1, q2⟩ kk
      refine ⟨q1.keep Cm fun b o hb e => ?_, let ⟨o, e, d⟩ := q2; ⟨o, kk (L + 2) o (.inl ⟨by omega, by omega⟩) e, d⟩⟩
      rcases hb with hb | ⟨hb, _⟩ | ⟨hb, _⟩ | ⟨c2, P2, e2, hb⟩ | rfl | rfl | rfl | rfl
      · exact kk b o (.inl ⟨by omega, by omega⟩) e
      · exact kk b o (.inl ⟨by omega, by omega⟩) e
      · exact kk b o (.inl ⟨by omega, by omega⟩) e
      · obtain ⟨⟨o1, vs, e1, d1, _⟩, ⟨ps, e3⟩, _⟩ := x₁.tab.gets e2
        obtain ⟨⟨o1', vs', e1', d1', _⟩, ⟨ps', e3'⟩, _⟩ := x₃.tab.gets e2
        have h1 := hI c2 _ e1
        have h2 := hI P2 _ e3
        have h3 : @LT.lt Nat _ c2 s₃.heap.objs.size := Heap.lt_size e1'
        have h4 : @LT.lt Nat _ P2 s₃.heap.objs.size := Heap.lt_size e3'
        rcases hb with rfl | rfl
        · exact kk _ o (.inl ⟨h3, by omega⟩) e
        · exact kk _ o (.inl ⟨h4, by omega⟩) e
      · exact kk _ o (.inl ⟨by omega, by omega⟩) e
      · exact kk _ o (.inl ⟨by omega, by omega⟩) e
      · exact kk _ o (.inl ⟨by omega, by omega⟩) e
      · exact kk _ o (.inl ⟨by omega, by omega⟩) e
    case turn =>
      rintro A' hA' hf' j v s₅ hv ⟨hO, hcO⟩ hb hns
      obtain ⟨z, hz, rfl⟩ : ∃ z, (uniqA (as0.take i))[j]? = some z ∧ v = .ref z := by
        have : xs.toList[j]? = some v := by simpa using hv
        rw [hxe, List.getElem?_map] at this
        cases h : (uniqA (as0.take i))[j]? with
        | none => rw [h] at this; cases this
        | some z => rw [h] at this; exact ⟨z, rfl, (Option.some.inj this).symm⟩
      have hzm : z ∈ as := has z (List.mem_of_mem_take ((uniqA_mem _ _).mp (List.mem_of_getElem? hz)))
      refine wpAny_tests_nil ⟨rfl, ?_⟩
      rw [if_pos rfl]
      refine wpNoE ((EvV.cmp (h₀ := s₅.heap) (P := (· = Value.bool (y == z))) (P₁ := (· = Value.ref y)) (P₂ := (· = Value.ref z)) (EvV.free hcO) (EvV.bound hb) (fun a b s₆ hs₆ ha hb' => ?_)).go (Sub.refl _) fun u s₆ hu k₆ => ⟨by rw [hu]; show Value.bool (y == z) = Value.bool (onJ _ _ _); rw [onJ_some hz], ⟨hO.sub Cm k₆.sub, hcO.keeps k₆.sub⟩, k₆.mv _⟩)
      subst ha hb'
      have up : ∀ a, a ∈ as → LstAt s₆.heap a := fun a ha => by obtain ⟨o, e, r⟩ := Cm.items _ _ hO.ci a ha; exact ⟨o, hs₆ _ _ e, r⟩
      exact is_refs (up y hym) (up z hzm) ⟨rfl, Kp.refl _⟩
    case hQ =>
      rintro s₄ ⟨hO₄, hc₄⟩ hm₄ _
      have ev : ((List.range xs.size).any fun j => true && onJ (uniqA (as0.take i)) j fun z => y == z) = (uniqA (as0.take i)).any (· == y) := by
        have h1 := any_range (uniqA (as0.take i)) (fun _ => true) (fun z => y == z)
        rw [hlxs]
        have e1 : ((List.range (uniqA (as0.take i)).length).any fun j => true && onJ (uniqA (as0.take i)) j fun z => y == z) = (List.range (uniqA (as0.take i)).length).any fun j => onJ (uniqA (as0.take i)) j (fun _ => true) && onJ (uniqA (as0.take i)) j fun z => y == z := by
          rw [Bool.eq_iff_iff, List.any_eq_true, List.any_eq_true]
          have hh : ∀ j, j ∈ List.range (uniqA (as0.take i)).length → onJ (uniqA (as0.take i)) j (fun _ => true) = true := fun j hj => by
            rw [onJ_some (List.getElem?_eq_getElem (List.mem_range.mp hj))]
          constructor
          · rintro ⟨j, hj, h⟩; exact ⟨j, hj, by rw [hh j hj]; exact h⟩
          · rintro ⟨j, hj, h⟩; exact ⟨j, hj, by rw [hh j hj] at h; exact h⟩
        rw [e1, h1]
        congr 1
        funext z
        rw [Bool.true_and]
        exact beq_swap y z
      rw [ev]
      refine wpAny_truthy_bool ?_
      have hm₅ := hm₁.trans (hm₄.mono fun b hb => by
        rcases List.mem_append.mp hb with hb | hb
        · rw [List.mem_singleton.mp hb]; simp
        · cases hb)
      cases hc : (uniqA (as0.take i)).any (· == y) with
      | true =>
        simp only [Bool.not_true, Bool.false_eq_true, if_false]
        refine wpAny_execs_nil (wpAny_execs_nil ⟨rfl, ?_, hm₅⟩)
        exact { hO₄ with acc := let ⟨xs, a, b⟩ := hO₄.acc; ⟨xs, a, by rw [hstep, hc, if_pos rfl]; exact b⟩ }
      | false =>
        simp only [Bool.not_false, if_true]
        refine wpAny_execs_cons (wpAny_Expr (wpAny_Call_append rfl rfl rfl rfl (EvV.go (P := (· = Value.ref X)) (h₀ := s₄.heap) (EvV.cell hO₄.items) (Sub.refl _) fun v s₅ hv k₅ => ?_)) rfl rfl)
        subst hv
        obtain ⟨zs, hzs, hze⟩ := hO₄.acc
        have hzs₅ : s₅.heap.PlainList X zs := hzs.at fun o e => k₅.sub _ _ e
        obtain ⟨nX, hoX⟩ := id hzs₅
        refine ⟨X, zs, rfl, ⟨_, nX, hoX, rfl, rfl, rfl⟩, EvV.go (P := (· = Value.ref y)) (h₀ := s₄.heap) (EvV.cell hc₄) k₅.sub fun v s₆ hv k₆ => ?_⟩
        subst hv
        have hk₆ := k₅.trans k₆
        have hzl : zs.size = (uniqA (as0.take i)).length := by rw [← Array.length_toList, hze, List.length_map]
        refine wpAny_list_append_plain (hsz := by rw [sizeLine_eq]; omega) (hzs.at fun o e => hk₆.sub _ _ e) fun h₇ hl₇ hs₇ => ?_
        have k₇ : ∀ (b : Nat) o, b ≠ X → s₆.heap.get? b = some o → h₇.get? b = some o := fun b o hb e => hs₇.extBut b o hb e
        have hO₆ : LJ mg mb cmp (CI 0) X L nR as0 tb r fl i s₆.heap := hO₄.sub Cm hk₆.sub
        have hXt : ∀ c2 P2, tb = some (c2, P2) → c2 ≠ X ∧ P2 ≠ X := fun c2 P2 e => by
          obtain ⟨⟨o1, vs, e1, d1, _⟩, ⟨ps, e3⟩, _⟩ := hO₄.tab.gets e
          obtain ⟨n4, e4⟩ := hzs
          refine ⟨fun q => ?_, fun q => ?_⟩
          · rw [q, e4] at e1; cases e1; cases d1
          · rw [q, e4] at e3; cases e3
        refine wpAny_execs_nil (wpAny_execs_nil ⟨rfl, ?_, (hm₅.trans (hk₆.mv _)).trans ⟨h₇, _, _, rfl, fun b o hb e => k₇ b o (fun q => hb (by rw [q]; simp)) e, GR.refl _⟩⟩)
        exact {
          base := hO₆.base.low fun b o hb _ _ e => k₇ b o (by omega) e
          ci := Cm.stable0 _ _ hO₆.ci fun b o hb _ _ e => k₇ b o (by omega) e
          tab := hO₆.tab.keep fun b o hb e => k₇ b o (by
            rcases hb with rfl | rfl | ⟨c2, P2, e2, hb⟩
            · omega
            · omega
            · obtain ⟨q1, q2⟩ := hXt c2 P2 e2
              rcases hb with rfl | rfl
              · exact q1
              · exact q2) e
          acc := ⟨_, hl₇, by rw [hstep, hc, if_neg Bool.false_ne_true, Array.toList_push, hze, List.map_append]; rfl⟩
          items := let ⟨o, e, d⟩ := hO₆.items; ⟨o, k₇ (L + 3) o (by omega) e, d⟩
          item := let ⟨v, o, e, d⟩ := hO₆.item; ⟨v, o, k₇ (L + 2) o (by omega) e, d⟩
          cmp := let ⟨o, e, d⟩ := hO₆.cmp; ⟨o, k₇ (L + 1) o (by omega) e, d⟩
          fr := fun hr => (hO₆.fr hr).to fun b o hb e => k₇ b o (by omega) e }
end
end Mine

namespace Mine

variable {mg mb : Str → Option Value} {cmp : Value} {as0 : List Nat} {rl : Nat → Nat → Bool} {Flag : Prop} {CI : Nat → Heap → Prop} {wrc bad : List Addr} {nR kc : Nat} {r : Prop} {X L : Nat} {tb : Option (Nat × Nat)} {fl : List Env}

/-- what an error that comes through leaves of the table -/
def ErT (r : Prop) (tb : Option (Nat × Nat)) (h : Heap) : Prop := r ∧ ∃ tb', TabF tb' h ∧ (tb = none ∨ tb' = tb)

theorem GTurn.er {prog : Program} {w : World} {cenv : Env} {x : Str} {ifs : List Expr} {elt : Expr} {its : Array Value} {OI : Nat → Heap → Prop} {wr : List Addr} {pz : Nat → Bool} {F : Nat → Value → Prop} {kk : Nat} {r r' : Heap → Prop} {fl : List Env} {wrT : List Addr} (h : ∀ h, r h → r' h)
    (x0 : GTurn prog w cenv x ifs elt its OI wr pz F kk r fl wrT) : GTurn prog w cenv x ifs elt its OI wr pz F kk r' fl wrT := fun A' hA' hf' i v s' h1 h2 h3 h4 =>
  wpAny_mono (x0 A' hA' hf' i v s' h1 h2 h3 h4) (fun ok s₃ q => ⟨q.1, by
    cases ok with
    | true => exact wpAny_mono q.2 (fun _ _ z => z) fun e s' z => z.more fun base _ => h base
    | false => exact q.2⟩) fun e s' z => z.more fun base _ => h base

theorem told_filter (as : List Nat) (p : Nat → Bool) (G : Prop) (acc : List Value) (h : Told (fun i v => (∃ x, as[i]? = some x ∧ v = .ref x) ∧ G) (passing (fun i => onJ as i p) as.length 0) acc) :
    acc = (as.filter p).map Value.ref ∧ (acc ≠ [] → G) := by
  have hp : (passing (fun i => onJ as i p) as.length 0).map (fun i => as[i]?) = (as.filter p).map some := by
    unfold passing
    rw [List.drop_zero]
    suffices ∀ (bs : List Nat), (((List.range bs.length).filter fun i => onJ bs i p).map fun i => bs[i]?) = (bs.filter p).map some from this as
    intro bs
    induction bs with
    | nil => rfl
    | cons b bs ih =>
      rw [List.length_cons, List.range_succ_eq_map, List.filter_cons]
      have h0 : onJ (b :: bs) 0 p = p b := onJ_some rfl p
      have h1 : ((List.map Nat.succ (List.range bs.length)).filter fun i => onJ (b :: bs) i p) = ((List.range bs.length).filter fun i => onJ bs i p).map Nat.succ := by
        rw [List.filter_map]; rfl
      have h2 : (((List.range bs.length).filter fun i => onJ bs i p).map Nat.succ).map (fun i => (b :: bs)[i]?) = (bs.filter p).map some := by
        rw [List.map_map, ← ih]; rfl
      rw [h0, h1, List.filter_cons]
      cases p b with
      | true => simp only [if_true, List.map_cons]; rw [h2]; rfl
      | false => simp only [Bool.false_eq_true, if_false]; exact h2
  have hl : acc.length = (as.filter p).length := by
    rw [h.1]
    have := congrArg List.length hp
    simpa using this
  refine ⟨List.ext_getElem? fun j => ?_, fun hne => ?_⟩
  · have hj : ((passing (fun i => onJ as i p) as.length 0)[j]?).map (fun i => as[i]?) = ((as.filter p)[j]?).map some := by
      rw [← List.getElem?_map, hp, List.getElem?_map]
    cases hq : acc[j]? with
    | none =>
      rw [List.getElem?_eq_none_iff] at hq
      rw [List.getElem?_map, List.getElem?_eq_none (by omega)]; rfl
    | some v =>
      obtain ⟨hlt, _⟩ := List.getElem?_eq_some_iff.mp hq
      have h3 : j < (passing (fun i => onJ as i p) as.length 0).length := by rw [← h.1]; exact hlt
      have h4 := h.2 j _ v (List.getElem?_eq_getElem h3) hq
      obtain ⟨⟨x, hx, rfl⟩, _⟩ := h4
      rw [List.getElem?_eq_getElem h3] at hj
      simp only [Option.map_some] at hj
      rw [hx] at hj
      rw [List.getElem?_map]
      cases hz : (as.filter p)[j]? with
      | none => rw [hz] at hj; cases hj
      | some z => rw [hz] at hj; simp at hj; rw [hj]; rfl
  · cases hq : acc with
    | nil => exact absurd hq hne
    | cons v vs =>
      have h3 : 0 < (passing (fun i => onJ as i p) as.length 0).length := by rw [← h.1, hq]; exact Nat.succ_pos _
      exact (h.2 0 _ v (List.getElem?_eq_getElem h3) (by rw [hq]; rfl)).2

section
variable {prog : Program} {w : World} {A : Around} {s : Shared}

set_option maxHeartbeats 1000000 in
theorem list_maximal (N : Names mg mb) (Cm : Cmp prog w cmp (uniqA as0) rl Flag CI wrc bad s.heap.objs.size kc r) (hlen : as0.length ≤ 40) {k : Nat} (hA : Room k A) (hk : k ≤ 20) (hkc : k + 8 ≤ kc) (hf : A.frames = some fl)
    (B : Base mg mb s.heap) (hT : TabF tb s.heap) (hCI : CI 0 s.heap) (hFr : r → FunFr s.heap.objs.size fl s.heap) {fx : List Addr} (hfx : r → ∀ b ∈ frs fl, b ∈ fx) (hfxC : ∀ b : Nat, b ∈ fx → b < s.heap.objs.size)
    (hwl : ∀ b ∈ wrc, LstAt s.heap b ∧ b ∉ bad) {args : Args} {itv : Value} (hbind : BindsTo s fdM args [("iterable", itv), ("comparison", cmp)]) {fp : List Addr}
    (hsrc : ∀ (A' : Around) (s' : Shared), Room (k + 1) A' → Sub s.heap s'.heap → wpAny (model prog w) A' (pyIter itv) (fun it s₂ => ∃ I : Nat, ∃ St, it = .ref I ∧ Kp s' s₂ ∧ ((∀ (b : Nat) o, s'.heap.get? b = some o → b < I) ∨ I ∈ bad) ∧ Walks prog w A' I (I :: fp) [I] as0.length (fun i v => ∃ a, as0[i]? = some a ∧ v = .ref a) St ∧ St 0 s₂.heap) noE s')
    (hbad : ∀ b : Nat, b ∈ bad → 80 ≤ b ∧ b < s.heap.objs.size ∧ b ∉ frs fl ∧ ∀ c2 P2, tb = some (c2, P2) → b ≠ c2 ∧ b ≠ P2) (hfp : ∀ b : Nat, b ∈ fp → 80 ≤ b ∧ b < s.heap.objs.size)
    {Q : Value → Shared → Prop} {E : Value → Shared → Prop}
    (hQ : ∀ (D : Nat) s' tb' (acc : Array Value), s'.heap.PlainList D acc → acc.toList = ((uniqA as0).filter (keepA rl (uniqA as0))).map Value.ref → (acc.toList ≠ [] → 2 ≤ (uniqA as0).length → Flag) → (∀ (b : Nat) o, s.heap.get? b = some o → b < D) → CI ((uniqA as0).length * (uniqA as0).length) s'.heap → TabF tb' s'.heap → tb' ≠ none →
      (tb' = tb ∨ (tb = none ∧ ∀ c2 P2, tb' = some (c2, P2) → s.heap.get? c2 = none ∧ s.heap.get? P2 = none)) → Mv (bad ++ wrc ++ 43 :: tbP tb) s s' → Q (.ref D) s')
    (hX : ∀ e s', ErV (ErT r tb) fl (bad ++ fx ++ wrc ++ 43 :: tbP tb) (bad ++ wrc ++ 43 :: tbP tb) s e s' → E e s') :
    wpAny (model prog w) A (call (.ref 48) args.pos args.kw) (fun v s₁ => wpAny (model prog w) A (call (.type "list") [v]) Q E s₁) E s := by
  have hL80 : @LE.le Nat _ 80 s.heap.objs.size := B.size
  refine wpAny_call (codeAny_call_cellsB (fd := fdM) (body := bodyM) (hA.room (by omega)) B.f48 rfl B.nl B.c47 rfl hbind rfl (fun x hx => ?_) fun s₁ hin => ?_)
  · simp only [List.mem_cons, List.not_mem_nil, or_false] at hx
    rcases hx with rfl | rfl
    · exact .inl rfl
    · exact .inr ⟨rfl, rfl⟩
  show wpAny _ _ (execs [mst 0, mst 1, mst 2] (eM s.heap.objs.size)) _ _ _
  have hc1 : s₁.heap.IsCell (s.heap.objs.size + 1) (some cmp) := hin.cell "comparison" (s.heap.objs.size + 1) rfl
  have hc2 : s₁.heap.IsCell (s.heap.objs.size + 2) none := hin.cell "item" (s.heap.objs.size + 2) rfl
  have hc3 : s₁.heap.IsCell (s.heap.objs.size + 3) none := hin.cell "items" (s.heap.objs.size + 3) rfl
  have hLn : s₁.heap.Ns s.heap.objs.size (bindL (eM s.heap.objs.size).kindOf [("iterable", itv), ("comparison", cmp)] fun _ => none) := hin.toInCall.ns
  have hitv : bindL (eM s.heap.objs.size).kindOf [("iterable", itv), ("comparison", cmp)] (fun _ => none) "iterable" = some itv := rfl
  obtain ⟨h₁, tk₁, rfl, hsub₁⟩ := hin.done
  clear hin
  have hAd : Room (k + 1) (A.deeper (eM s.heap.objs.size)) := hA.deeper _
  have hfd : (A.deeper (eM s.heap.objs.size)).frames = some (eM s.heap.objs.size :: fl) := by
    show A.frames.map _ = _
    rw [hf]; rfl
  have hL : ∃ L : Nat, L = s.heap.objs.size := ⟨_, rfl⟩
  obtain ⟨L, hL⟩ := hL
  rw [← hL] at hc1 hc2 hc3 hLn hitv hAd hfd hL80 Cm hFr hfxC hbad hfp ⊢
  refine wpAny_execs_cons (wpAny_Assign_Name (List_ (Calls.spliced_nil (wpAny_newObj_type ?_))) rfl)
  obtain ⟨X, hXe⟩ : ∃ X : Nat, X = h₁.objs.size := ⟨_, rfl⟩
  have hXL : L + 3 < X := by rw [hXe]; exact hc3.lt
  have hkP : Sub h₁ (h₁.push { cls := .type "list", data := .seq ([] : List Value).toArray }) := fun b o e => Heap.get?_push_of_some _ e
  show wpAny _ _ (storeName (eM L) "items" (.ref h₁.objs.size)) _ _ _
  rw [← hXe]
  refine wpAny_storeName_cell rfl rfl rfl (hc3.keeps hkP) (fun h₂ hc3' hs₂ => ?_)
  have k₂ : ∀ (b : Nat) o, b ≠ L + 3 → h₁.get? b = some o → h₂.get? b = some o := fun b o hb e => hs₂.extBut b o hb (hkP b o e)
  have hXg : h₂.PlainList X #[] := ⟨_, hs₂.extBut X _ (show X ≠ L + 3 by omega) (by rw [hXe]; exact Heap.get?_push_size _ rfl)⟩
  have hsub₂ : Sub s.heap h₂ := fun b o e => k₂ b o (by have : @LT.lt Nat _ b s.heap.objs.size := Heap.lt_size e; rw [← hL] at this; omega) (hsub₁ b o e)
  have hLJ : LJ mg mb cmp (CI 0) X L L as0 tb r fl 0 h₂ := {
    base := B.sub hsub₂
    ci := Cm.stable0 _ _ hCI fun b o _ _ _ e => hsub₂ b o e
    tab := hT.keep fun b o _ e => hsub₂ b o e
    acc := ⟨#[], hXg, rfl⟩
    items := hc3'
    item := ⟨none, let ⟨o, e, d⟩ := hc2; ⟨o, k₂ (L + 2) o (by omega) e, d⟩⟩
    cmp := let ⟨o, e, d⟩ := hc1; ⟨o, k₂ (L + 1) o (by omega) e, d⟩
    fr := fun hr => (hFr hr).to fun b o _ e => hsub₂ b o e }
  have hLn₂ : h₂.Ns L (bindL (eM L).kindOf [("iterable", itv), ("comparison", cmp)] fun _ => none) := hLn.at' fun o e => k₂ L o (by omega) e
  have hmem : ∀ a ∈ as0, a ∈ uniqA as0 := fun a ha => (uniqA_mem _ _).mpr ha
  refine wpAny_execs_cons (wpNoE (wpAny_mono (m_loop (fp := fp) N Cm hmem (by omega) hAd (by omega) hfd (s := { s with heap := h₂, toks := tk₁ }) ?src hLJ hL80 hXL (Nat.le_refl L) hbad (fun b hb => ?fp)) (fun f s₃ h₃ => ?_) fun _ _ e => e))
  case src =>
    refine (EvV.local_ (prog := prog) (w := w) (A := A.deeper (eM L)) (env := eM L) (x := "iterable") (pos := match mst 1 with | .For _ (.Name _ p) _ _ _ => p | _ => default) hLn₂ hitv).go (Sub.refl _) fun v s₂ hv k => ?_
    subst hv
    refine wpAny_mono (hsrc _ s₂ hAd (hsub₂.trans k.sub)) (fun it s₃ h => ?_) fun _ _ e => e
    obtain ⟨I, St, rfl, h1, h2, h3, h4⟩ := h
    exact ⟨I, St, rfl, k.trans h1, h2.imp (fun h b o e => h b o (k.sub _ _ e)) id, h3, h4⟩
  case fp =>
    have := hfp b hb
    omega
  obtain ⟨rfl, hJ, hm₃⟩ := h₃
  have hJt : (as0.take as0.length) = as0 := List.take_length ..
  obtain ⟨xs, hxs, hxe⟩ := hJ.acc
  rw [hJt] at hxe
  have hits : xs = ((uniqA as0).map Value.ref).toArray := by rw [← Array.toArray_toList (xs := xs), hxe]
  have hX43 : X ∉ ([43] : List Addr) := by rw [List.mem_singleton]; exact Nat.ne_of_gt (show 43 < X by omega)
  have hm₀ : Mv (bad ++ [X, L + 2, 43]) s s₃ := (Kp.mv (s' := { s with heap := h₂, toks := tk₁ }) (Kp.mk hsub₂) _).trans hm₃
  have hsX : s.heap.get? X = none := get_none (by rw [← hL]; omega)
  have hsL2 : s.heap.get? (L + 2) = none := get_none (by rw [← hL]; omega)
  refine wpAny_execs_cons (wpAny_Return_some ?_)
  refine ge_list (kk := k + 2) (r := ErT r tb) (fl := fl) (own := true) (X := X) (its := xs) (Wc := [43]) (cl := clO L) hAd (by omega) rfl rfl rfl ⟨fun _ => rfl, fun _ => rfl, rfl, rfl, by decide⟩ hJ.base N rfl (EvV.cell hJ.items) hxs.isList hX43
    (fun b hb => by rw [List.mem_singleton.mp hb]; obtain ⟨ps, q1, _⟩ := hJ.tab; obtain ⟨_, o, vs, e, _⟩ := IsCode.gets q1; exact ⟨o, e⟩) (fun _ => rfl) (fun I s₄ k₄ hI hIlt => ?_)
  have hJ₄ := hJ.sub Cm k₄.sub
  refine wpNoE (wpAny_mono (code_out (tb := tb) (s₀ := s₃) rfl hJ.tab k₄ hJ₄.base.size hI hIlt) (fun code s₅ h₅ => ?_) fun _ _ e => e.elim)
  obtain ⟨hk₅, c2, P2, rfl, hTE, hcI, hPI, hwhere⟩ := h₅
  have kk₅ : ∀ (b : Nat) o, b ≠ 43 → s₄.heap.get? b = some o → s₅.heap.get? b = some o := fun b o hb e => hk₅.keep b o (by rw [List.mem_singleton]; exact hb) e
  obtain ⟨ps0, hps0, htri0⟩ : ∃ ps0, s₄.heap.get? 43 = some { cls := .none, data := .fields ps0 } ∧ TriplesOk ps0.toList := let ⟨ps, q1, q, _⟩ := hJ₄.tab; ⟨ps, q.2, IsCode.tri q1⟩
  obtain ⟨C, hC⟩ : ∃ C : Nat, C = s₅.heap.objs.size := ⟨_, rfl⟩
  have hO₅ : OIo mg mb cmp (CI 0) c2 P2 X L L xs r fl s₅.heap := {
    base := hJ₄.base.low fun b o hb h43 _ e => kk₅ b o h43 e
    ci := Cm.stable0 _ _ hJ₄.ci fun b o hb hcl _ e => kk₅ b o (fun q => by rw [q, hps0] at e; cases e; exact hcl ⟨_, rfl, htri0⟩) e
    tab := hTE
    list := (IsList.to hxs.isList k₄.sub).at fun o e => kk₅ X o (by omega) e
    items := let ⟨o, e, d⟩ := hJ₄.items; ⟨o, kk₅ (L + 3) o (by omega) e, d⟩
    cmp := let ⟨o, e, d⟩ := hJ₄.cmp; ⟨o, kk₅ (L + 1) o (by omega) e, d⟩
    fr := fun hr => (hJ₄.fr hr).to' fun b o hb hnf e => kk₅ b o (fun q => by rw [q, hps0] at e; cases e; exact hnf _ rfl) e }
  have hXI : X < I := by obtain ⟨n, e⟩ := hxs; exact hI X _ e
  have hXs₄ : @LT.lt Nat _ X s₄.heap.objs.size := by obtain ⟨n, e⟩ := hxs; exact Heap.lt_size (k₄.sub _ _ e)
  obtain ⟨⟨oc2, vc2, ec2, _⟩, ⟨psP, eP2⟩, h80c, h80P⟩ := hTE.f.gets rfl
  have hXC : X < C := by rw [hC]; obtain ⟨o, e, _⟩ := hO₅.list; exact Heap.lt_size e
  have hcC : c2 < C := by rw [hC]; exact Heap.lt_size ec2
  have hPC : P2 < C := by rw [hC]; exact Heap.lt_size eP2
  have hXP : X ≠ P2 := fun q => by
    obtain ⟨o, e, _, n, d⟩ := hO₅.list
    rw [q, eP2] at e; cases e; cases d
  have hnew : tb = some (c2, P2) ∨ (tb = none ∧ L ≤ c2 ∧ L ≤ P2) := hwhere.imp id fun ⟨h1, h2, h3⟩ => ⟨h1, by omega, by omega⟩
  have hwrcne : ∀ b : Nat, b ∈ wrc → b ≠ c2 ∧ b ≠ P2 := fun b hb => by
    have hbL := (Cm.low b hb).1
    rcases hnew with e | ⟨_, h1, h2⟩
    · obtain ⟨⟨o1, vs, e1, d1, _⟩, ⟨ps, e3⟩, _⟩ := hT.gets e
      obtain ⟨o, ho, hcl, xs', n', hd⟩ := (hwl b hb).1
      refine ⟨fun q => ?_, fun q => ?_⟩
      · rw [q, e1] at ho; cases ho; rw [d1] at hd; cases hd
      · rw [q, e3] at ho; cases ho; cases hd
    · exact ⟨by omega, by omega⟩
  have hsz : xs.size = (uniqA as0).length := by rw [hits, List.size_toArray, List.length_map]
  have hIL : s.heap.get? I = none := get_none (by rw [← hL]; omega)
  have hCL : s.heap.get? C = none := get_none (by rw [← hL]; omega)
  have hC1L : s.heap.get? (C + 1) = none := get_none (by rw [← hL]; omega)
  have inT : ∀ b, b ∈ I :: (ownW true C ++ (C :: (fx ++ P2 :: wrc))) → b ∈ bad ++ fx ++ wrc ++ 43 :: tbP tb ∨ s.heap.get? b = none := by
    intro b hb
    have hP2 : P2 ∈ bad ++ fx ++ wrc ++ 43 :: tbP tb ∨ s.heap.get? P2 = none := by
      rcases hnew with e | ⟨_, _, h2⟩
      · left; rw [e]; simp [tbP]
      · right; exact get_none (by rw [← hL]; omega)
    simp only [ownW, if_true, List.mem_cons, List.mem_append, List.not_mem_nil, or_false] at hb
    rcases hb with rfl | (rfl | rfl) | rfl | hb | rfl | hb
    · exact .inr hIL
    · exact .inr hCL
    · exact .inr hC1L
    · exact .inr hCL
    · left; simp [hb]
    · exact hP2
    · left; simp [hb]
  have inW : ∀ b, b ∈ I :: (ownW true C ++ (P2 :: wrc)) → b ∈ bad ++ wrc ++ 43 :: tbP tb ∨ s.heap.get? b = none := by
    intro b hb
    simp only [ownW, if_true, List.mem_cons, List.mem_append, List.not_mem_nil, or_false] at hb
    rcases hb with rfl | (rfl | rfl) | rfl | hb
    · exact .inr hIL
    · exact .inr hCL
    · exact .inr hC1L
    · rcases hnew with e | ⟨_, _, h2⟩
      · left; rw [e]; simp [tbP]
      · right; exact get_none (by rw [← hL]; omega)
    · left; simp [hb]
  have in0 : ∀ b, b ∈ bad ++ [X, L + 2, 43] → b ∈ bad ++ wrc ++ 43 :: tbP tb ∨ s.heap.get? b = none := by
    intro b hb
    simp only [List.mem_cons, List.mem_append, List.not_mem_nil, or_false] at hb
    rcases hb with hb | rfl | rfl | rfl
    · left; simp [hb]
    · exact .inr hsX
    · exact .inr hsL2
    · left; simp
  have hm₅ : Mv (bad ++ wrc ++ 43 :: tbP tb) s s₅ := ((hm₀.drop in0).trans (k₄.mv _)).trans (hk₅.mv.mono fun b hb => by rw [List.mem_singleton.mp hb]; simp)
  have Cm' := Cm
  refine ⟨hk₅, hO₅.base, fun i h => OIo mg mb cmp (CI (i * (uniqA as0).length)) c2 P2 X L L xs r fl h, P2 :: wrc, _, _, C :: (fx ++ P2 :: wrc), (by show OIo mg mb cmp (CI (0 * _)) c2 P2 X L L xs r fl s₅.heap; rw [Nat.zero_mul]; exact hO₅), ?mono, ?stable, ?wrlt, ?Iw, ?Xw, ?cS,
    (by rw [← hC]; exact GTurn.er (fun h q => ⟨q.1, some (c2, P2), q.2.f, hnew.elim (fun e => .inr e.symm) fun e => .inl e.1⟩) (turn_out (C := C) (fx := fx) (k := k + 4) N Cm (uniqA_nodup _) hits hfx (fun b hb => by have := hfxC b hb; omega) (by omega) hXC (by omega) hcC hPC (fun hm => (hwrcne P2 hm).2 rfl) (fun hm => (hwrcne c2 hm).1 rfl) (by omega) (Nat.le_refl L) (by omega) (by omega) (Nat.le_trans (uniqA_length _) hlen))), ?hsub, ?hle, ?fin⟩
  case mono => exact fun i h hi q => q.mono Cm (Nat.mul_le_mul_right _ hi)
  case stable =>
    intro i h h' q kk
    rw [← hC] at kk
    refine q.keep Cm fun b o hb e => kk b o ?_ e
    rcases hb with hb | hb | rfl | rfl | rfl | rfl | rfl | hb
    · exact .inl ⟨by omega, by omega⟩
    · exact .inl ⟨by omega, by omega⟩
    · exact .inl ⟨by omega, by omega⟩
    · exact .inl ⟨by omega, by omega⟩
    · exact .inl ⟨by omega, by omega⟩
    · exact .inl ⟨by omega, by omega⟩
    · exact .inl ⟨by omega, by omega⟩
    · exact .inr hb
  case wrlt =>
    intro b hb
    rw [← hC]
    rcases List.mem_cons.mp hb with rfl | hb
    · exact hPC
    · have := (Cm.low b hb).1; omega
  case Iw =>
    intro hm
    rcases List.mem_cons.mp hm with hm | hm
    · exact hPI hm.symm
    · have := (Cm.low I hm).1; omega
  case Xw =>
    intro hm
    rcases List.mem_cons.mp hm with hm | hm
    · exact hXP hm
    · have := (Cm.low X hm).1; omega
  case cS =>
    intro hm
    rcases List.mem_cons.mp hm with hm | hm
    · have : cStatics < 80 := by decide
      rw [hm] at this; exact absurd this (Nat.not_lt.mpr h80P)
    · exact absurd (Cm.low cStatics hm).2 (by decide)
  case hsub => exact fun b hb => List.mem_cons_of_mem _ (List.mem_append_right _ hb)
  case hle =>
    intro b hb
    rw [← hC]
    simp only [List.mem_cons, List.mem_append] at hb
    rcases hb with rfl | hb | rfl | hb
    · exact Nat.le_refl _
    · have := hfxC b hb; omega
    · omega
    · have := (Cm.low b hb).1; omega
  case fin =>
    rw [← hC]
    intro a g s₆ hm₆ ha hsz₆ hwa hcw hwaE hsE hGA hO₆
    have hm₆' : Mv (bad ++ wrc ++ 43 :: tbP tb) s s₆ := hm₅.trans (hm₆.mono fun b hb => nomatch hb)
    have hpl : (passing (fun i => onJ (uniqA as0) i (keepA rl (uniqA as0))) xs.size 0).length ≤ 1000 := by
      unfold passing
      rw [List.drop_zero]
      refine Nat.le_trans (List.length_filter_le ..) ?_
      rw [List.length_range, hsz]
      exact Nat.le_trans (uniqA_length _) (by omega)
    show wpAny (model prog w) A (call (.type "list") [.ref a]) Q E s₆
    refine call_list_GA hA (by omega) (fun hm => absurd (hwaE a hm) (Nat.lt_irrefl _)) hsE (fun h h' ho hs' => ho.keep Cm fun b o _ e => hs' _ _ e) (fun hm => absurd (hwa a hm) (Nat.lt_irrefl _)) hcw (List.mem_range.mpr (Nat.lt_of_lt_of_le (show cStatics < 80 by decide) (by omega)))
      (fun b hb => List.mem_range.mpr (hwa b hb)) (fun b hb => by rw [hsz₆]; have := List.mem_range.mp hb; omega) (by rw [sizeLine_eq]; omega) (hGA A.in1.in1 hA.in1.in1 hf) (fun s' acc hO' hm' hpl' htold => ?_) fun s₁' e s' hm' he => ?_
    · rw [hsz] at htold
      obtain ⟨t1, t2⟩ := told_filter _ _ _ _ htold
      refine hQ _ s' (some (c2, P2)) acc hpl' t1 t2 (fun b o e => ?_) (by have := hO'.ci; rw [hsz] at this; exact this) hO'.tab.f (by simp) ?_ ?_
      · have : @LT.lt Nat _ b s.heap.objs.size := Heap.lt_size e
        rw [← hL] at this; rw [hsz₆]; omega
      · rcases hnew with e | ⟨e, h1, h2⟩
        · exact .inl e.symm
        · refine .inr ⟨e, fun c2' P2' e' => ?_⟩
          cases e'
          exact ⟨get_none (by rw [← hL]; omega), get_none (by rw [← hL]; omega)⟩
      · obtain ⟨h4, tk4, g4, rfl, hk4, hg4⟩ := hm₆'
        obtain ⟨h5, tk5, g5, rfl, hk5, hg5⟩ := hm'
        refine ⟨h5, tk5, g5, rfl, fun b o hb e => hk5 b o (fun hm => ?_) (hk4 b o hb e), hg4.trans hg5⟩
        rcases inW b hm with h | h
        · exact hb h
        · rw [h] at e; cases e
    · refine hX e s' (he.lift (w₁ := (bad ++ wrc ++ 43 :: tbP tb) ++ (I :: (ownW true C ++ P2 :: wrc))) ((hm₆'.mono fun b hb => List.mem_append_left _ hb).trans (hm'.mono fun b hb => List.mem_append_right _ hb)) (fun b hb => ?_) fun b hb => ?_)
      rcases hb with hb | hb
      · rcases List.mem_append.mp hb with hb | hb
        · left
          simp only [List.mem_append, List.mem_cons] at hb ⊢
          rcases hb with (hb | hb) | hb | hb <;> simp [hb]
        · rcases inW b hb with h | h
          · left
            simp only [List.mem_append, List.mem_cons] at h ⊢
            rcases h with (h | h) | h | h <;> simp [h]
          · exact .inr h
      · exact inT b hb
      · rcases hb with hb | hb
        · rcases List.mem_append.mp hb with hb | hb
          · exact .inl hb
          · exact inW b hb
        · exact inW b hb
end
end Mine

namespace Mine

def fdS : FuncData := fdOf (stm 8) .none pmL (.ref 73)
def bodyS : List Stmt := match stm 8 with | .FunctionDef _ _ b .. => b | _ => []
def lcS : Expr := match bodyS with | [.Return (some (.BoolOp _ [_, .Call _ [e] _ _] _)) _] => e | _ => .Constant .none 0 default

section
variable {prog : Program} {w : World} {A : Around} {s : Shared} {mg mb : Str → Option Value}

/-- all over a list of trues -/
theorem call_all_true {k : Nat} (hA : Room k A) {D n : Nat} (hl : s.heap.IsList D (List.replicate n (Value.bool true)).toArray) :
    wpAny (model prog w) A (call (.builtin "all") [.ref D]) (fun v s' => v = .bool true ∧ Kp s s') noE s := by
  refine call_all_walkS ?_
  refine wpAny_pyIter_list hl ?_
  have hne : D ≠ s.heap.objs.size := by obtain ⟨o, e, _⟩ := hl; exact Nat.ne_of_lt (Heap.lt_size e)
  have W := (Walks.list (prog := prog) (w := w) (A := A.in1) hA.handled s.heap.objs.size D hne (List.replicate n (Value.bool true)).toArray).toS
  refine ⟨_, _, _, _, _, _, _, fun _ => true, rfl, W, ⟨⟨_, Heap.get?_push_size _ rfl, rfl, rfl⟩, hl.push _⟩, ?_, fun s' hm => ⟨?_, ?_⟩⟩
  · intro i v s Q E hP hQ
    have h1 : (List.replicate n (Value.bool true))[i]? = some v := by rw [List.getElem?_toArray] at hP; exact hP
    rw [List.getElem?_replicate] at h1
    split at h1
    · cases h1; exact wpAny_truthy_bool hQ
    · cases h1
  · congr 1
    rw [List.all_eq_true]; intros; rfl
  · obtain ⟨hp, g, d, tk, os⟩ := s
    obtain ⟨hp', g', d', tk', os'⟩ := s'
    obtain ⟨h1, h2, h3, h4, h5⟩ := hm
    dsimp only at h1 h2 h3 h4 h5
    subst h2 h3 h4
    refine ⟨hp', tk', rfl, fun b o e => h1 b o ?_ (Heap.get?_push_of_some _ e)⟩
    rw [List.mem_singleton]
    exact Nat.ne_of_lt (Heap.lt_size e)

theorem same_lc {k : Nat} (hA : Room k A) {L told due : Nat} {its : Array Value} (hr : ∀ v ∈ its.toList, ∃ a : Nat, v = .ref a) (hsz : its.size ≤ 1000) (B : Base mg mb s.heap) (N : Names mg mb) {m : Str → Option Value} (hm : s.heap.Ns L m) (h1 : m "told" = some (.ref told)) (h2 : m "due" = some (.ref due))
    (ht : s.heap.IsList told its) (hd : s.heap.IsList due its) :
    wpAny (model prog w) A (eval lcS (callEnv fdS L 74)) (fun v s' => ∃ D : Nat, v = .ref D ∧ s'.heap.IsList D (List.replicate its.size (Value.bool true)).toArray ∧ Kp s s') noE s := by
  show wpAny _ A (eval (.ListComp _ [⟨.Tuple [.Name "a" _, .Name "b" _] _ _, .Call (.Name "zip" _) _ _ _, _, 0⟩] _ _) _) _ _ _
  rw [eval_ListComp]
  refine wpAny_comprehension_free (cl := []) (use := none) rfl (fun _ => rfl) rfl rfl (by decide) ?_
  refine Call_Name2 ((EvV.boot (v := .type "zip") B N (by decide) (by first | rfl | decide +kernel)).go (Sub.refl _) fun f s₁ hf k₁ => ?_) rfl
  subst hf
  refine PyProof.Rows.callWith_type rfl (Calls.evalArgs_plain (Calls.spliced_cons ((EvV.local_ (h₀ := s₁.heap) (hm.keeps k₁.sub) h1).go (Sub.refl _) fun v s₂ hv k₂ => Calls.spliced_cons ((EvV.local_ (h₀ := s₂.heap) (hm.keeps (k₁.sub.trans k₂.sub)) h2).go (Sub.refl _) fun u s₃ hu k₃ => Calls.spliced_nil ?_))))
  subst hv hu
  have k13 := (k₁.trans k₂).trans k₃
  have ht₃ := IsList.to ht k13.sub
  have hd₃ := IsList.to hd k13.sub
  have a1 : @LT.lt Nat _ told s₃.heap.objs.size := by obtain ⟨o, e, _⟩ := ht₃; exact Heap.lt_size e
  have a2 : @LT.lt Nat _ due s₃.heap.objs.size := by obtain ⟨o, e, _⟩ := hd₃; exact Heap.lt_size e
  refine call_zip_2 ht₃ hd₃ fun h₄ hz hTI hTO hi1 hi2 hz4 hk₄ => ?_
  have D0 := zipApart_new a1 a2
  have W := WalksT.zip2 (prog := prog) (w := w) (A := A) hA.handled _ _ _ _ _ _ _ D0 its its
  have hst : (fun (i : Nat) (h : Heap) => IsZip h (s₃.heap.objs.size + 4) (s₃.heap.objs.size + 2) (s₃.heap.objs.size + 3) .none ∧ IsPair h (s₃.heap.objs.size + 2) (.ref s₃.heap.objs.size) (.ref (s₃.heap.objs.size + 1)) ∧ (∃ a b, IsPair h (s₃.heap.objs.size + 3) a b) ∧ h.IsListIter s₃.heap.objs.size told i ∧ h.IsListIter (s₃.heap.objs.size + 1) due i ∧ h.IsList told its ∧ h.IsList due its) 0 h₄ :=
    ⟨hz, hTI, ⟨_, _, hTO⟩, hi1, hi2, IsList.to ht₃ hk₄, IsList.to hd₃ hk₄⟩
  refine W.self 0 _ _ _ hst ?_
  refine wpAny_newObj_type (wpAny_newFunctionEnv (by decide) (by intro y hy; simp at hy) (fun h₅ hn₅ hs₅ => ?_) rfl)
  dsimp only at hn₅ hs₅ ⊢
  obtain ⟨N4, hN4⟩ : ∃ n : Nat, n = s₃.heap.objs.size := ⟨_, rfl⟩
  rw [← hN4] at W hst hz4 a1 a2 ⊢
  have hD : h₄.objs.size = N4 + 5 := hz4
  have hC : (h₄.push { cls := .type "list", dict := none, data := .seq ([] : List Value).toArray }).objs.size = N4 + 6 := by rw [Heap.size_push, hD]
  rw [hC] at hn₅ hs₅ ⊢
  rw [hD]
  have g₄ : (h₄.push { cls := .type "list", dict := none, data := .seq ([] : List Value).toArray }).get? (N4 + 5) = some { cls := .type "list", dict := none, data := .seq ([] : List Value).toArray } := by rw [← hD]; exact Heap.get?_push_size _ rfl
  have old₅ : ∀ (b : Nat) o, h₄.get? b = some o → h₅.get? b = some o := fun b o e => by
    have : @LT.lt Nat _ b h₄.objs.size := Heap.lt_size e
    exact hs₅.extBut b o (show b ≠ N4 + 6 by omega) (Heap.get?_push_of_some _ (Heap.get?_push_of_some _ e))
  have hacc : h₅.PlainList (N4 + 5) #[] := ⟨_, hs₅.extBut (N4 + 5) _ (show N4 + 5 ≠ N4 + 6 by omega) (Heap.get?_push_of_some _ g₄)⟩
  have hst₅ := W.frame 0 _ h₅ hst fun b _ o e => old₅ b o e
  have main : ∀ tk₅, codeAny (model prog w) A (.compLoop lcS 0 (.ref (N4 + 4)) (.ref (N4 + 5)) (compEnvC (match lcS with | .ListComp _ _ sc _ => sc | _ => default) [] (N4 + 6) (callEnv fdS L 74)))
      (compPost (model prog w) A noE none (fun v s' => ∃ D : Nat, v = .ref D ∧ s'.heap.IsList D (List.replicate its.size (Value.bool true)).toArray ∧ Kp s s') (.ref (N4 + 5)) (N4 + 6)) { s₃ with heap := h₅, toks := tk₅ } := by
    intro tk₅
    have hnn : min its.size its.size = its.size := Nat.min_self _
    refine LCp.codeAny_compLoop_pair (fun q s' => ∃ (h' : Heap) (tk : Tok) (i : Nat) (ys : Array Value) (m' : Str → Option Value), s' = { s₃ with heap := h', toks := tk } ∧ i ≤ its.size ∧ q = its.size + 1 - i ∧
      (IsZip h' (N4 + 4) (N4 + 2) (N4 + 3) .none ∧ IsPair h' (N4 + 2) (.ref N4) (.ref (N4 + 1)) ∧ (∃ a b, IsPair h' (N4 + 3) a b) ∧ h'.IsListIter N4 told i ∧ h'.IsListIter (N4 + 1) due i ∧ h'.IsList told its ∧ h'.IsList due its) ∧ h'.Ns (N4 + 6) m' ∧ h'.PlainList (N4 + 5) ys ∧ ys.toList = List.replicate i (.bool true) ∧
      (∀ (b : Nat) o, b < N4 → s₃.heap.get? b = some o → h'.get? b = some o)) ?_ (its.size + 1)
      ⟨h₅, tk₅, 0, #[], _, rfl, Nat.zero_le _, rfl, hst₅, hn₅, hacc, rfl, fun b o _ e => old₅ b o (hk₄ b o e)⟩
    rintro q s' ⟨h', tk, i, ys, m', rfl, hi, rfl, hst', hn', hys, hye, hold⟩
    have hwr : ∀ (b : Nat) (h'' : Heap), (∀ c o, c ∉ [N4 + 4, N4 + 3, N4, N4 + 1] → h'.get? c = some o → h''.get? c = some o) → (b < N4 ∨ N4 + 5 ≤ b) → ∀ o, h'.get? b = some o → h''.get? b = some o := fun b h'' hk hb o e => hk b o (by simp only [List.mem_cons, List.not_mem_nil, or_false, not_or]; refine ⟨?_, ?_, ?_, ?_⟩ <;> (intro h; have : b = _ := h; omega)) e
    by_cases hlt : i < its.size
    · refine W.item i _ _ _ (by rw [hnn]; exact hlt) hst' fun T vals h₆ tk₆ hP hTge hT hMid hk₆ => ?_
      obtain ⟨x, y, hx, hy, rfl⟩ := hP
      have hxy : y = x := by rw [hx] at hy; exact (Option.some.inj hy).symm
      subst hxy
      obtain ⟨a, rfl⟩ := hr y (Array.mem_toList_iff.mpr (Array.mem_of_getElem? hx))
      refine W.go _ _ _ i T _ _ _ hMid fun h₇ hst₇ hk₇ => ?_
      have hTw : T ∉ [N4 + 4, N4 + 3, N4, N4 + 1] := W.apart i T _ hMid
      have hT₇ : IsTup h₇ T #[.ref a, .ref a] := by obtain ⟨o, e, c, n, d⟩ := hT; exact ⟨o, hk₇ T o hTw e, c, n, d⟩
      have low₇ : ∀ (b : Nat), (b < N4 ∨ N4 + 5 ≤ b) → ∀ o, h'.get? b = some o → h₇.get? b = some o := fun b hb o e => by
        refine hk₇ b o ?_ (hwr b h₆ hk₆ hb o e)
        simp only [List.mem_cons, List.not_mem_nil, or_false, not_or]; refine ⟨?_, ?_, ?_, ?_⟩ <;> (intro h; have : b = _ := h; omega)
      refine assign_Tuple_tuple hA.handled hT₇ rfl rfl fun h₈ he => ?_
      have he' : ∀ (b : Nat) o, h₇.get? b = some o → h₈.get? b = some o := fun b o e => he b o (Nat.ne_of_lt (Heap.lt_size e)) e
      have hn₈ : h₈.Ns (N4 + 6) m' := hn'.at' fun o e => he' _ o (low₇ (N4 + 6) (.inr (by omega)) o e)
      refine assignInOrder_cons (wpAny_assign_Name (wpAny_storeName_local rfl hn₈ (fun h₉ hn₉ hs₉ => ?_) rfl))
      refine assignInOrder_cons (wpAny_assign_Name (wpAny_storeName_local rfl hn₉ (fun hA' hnA hsA => ?_) rfl))
      refine assignInOrder_nil ?_
      have hnA' : hA'.Ns (N4 + 6) _ := hnA
      have kA : ∀ (b : Nat) o, b ≠ N4 + 6 → h₈.get? b = some o → hA'.get? b = some o := fun b o hb e => hsA.extBut b o hb (hs₉.extBut b o hb e)
      have hstA := W.frame (i + 1) h₇ hA' hst₇ fun b hb o e => kA b o (by
        simp only [List.mem_cons, List.not_mem_nil, or_false] at hb
        rcases hb with rfl | rfl | rfl | rfl | rfl | rfl | rfl <;> exact Nat.ne_of_lt (by omega)
        ) (he' b o e)
      have hysA : hA'.PlainList (N4 + 5) ys := by obtain ⟨n, e⟩ := hys; exact ⟨n, kA (N4 + 5) _ (by omega) (he' _ _ (low₇ (N4 + 5) (.inr (by omega)) _ e))⟩
      refine wpNoE ((EvV.cmp (h₀ := hA') (P := (· = Value.bool true)) (P₁ := (· = Value.ref a)) (P₂ := (· = Value.ref a)) (EvV.local_ hnA' (by rfl)) (EvV.local_ hnA' (by rfl)) (fun u v s₈ _ hu hv => by subst hu hv; exact wpAny_is_ref_self ⟨rfl, Kp.refl _⟩)).go (Sub.refl _) fun u s₈ hu k₈ => ?_)
      subst hu
      obtain ⟨hB, tkB, rfl, hkB⟩ := k₈
      have hyl : ys.size = i := by rw [← Array.length_toList, hye, List.length_replicate]
      refine wpAny_list_append_plain (hsz := by rw [sizeLine_eq]; omega) (hysA.at fun o e => hkB _ o e) fun hE' hlE hsE => ?_
      refine ⟨its.size + 1 - (i + 1), by omega, hE', _, i + 1, _, _, rfl, hlt, rfl, W.frame (i + 1) hA' hE' hstA fun b hb o e => hsE.extBut b o (by
        simp only [List.mem_cons, List.not_mem_nil, or_false] at hb
        rcases hb with rfl | rfl | rfl | rfl | rfl | rfl | rfl <;> exact Nat.ne_of_lt (by omega)) (hkB b o e), (hnA'.at' fun o e => hkB _ o e).sameBut hsE (show N4 + 6 ≠ N4 + 5 by omega), hlE, ?_, fun b o hb e => ?_⟩
      · rw [Array.toList_push, hye, List.replicate_succ']
      · exact hsE.extBut b o (show b ≠ N4 + 5 by omega) (hkB b o (kA b o (by omega) (he' b o (low₇ b (.inl hb) o (hold b o hb e)))))
    · have hin : i = its.size := by omega
      subst hin
      refine W.done _ _ _ (by rw [hnn]; exact hst') fun h₆ tk₆ hk₆ => ?_
      refine ⟨m', hn'.at' fun o e => hwr (N4 + 6) h₆ hk₆ (.inr (by omega)) o e, fun h₇ hs₇ => ⟨N4 + 5, rfl, ?_, ?_⟩⟩
      · have := ((hys.at fun o e => hwr (N4 + 5) h₆ hk₆ (.inr (by omega)) o e).isList).at fun o e => hs₇.extBut (N4 + 5) o (show N4 + 5 ≠ N4 + 6 by omega) e
        rw [← hye]; exact this
      · refine k13.trans (Kp.mk (s := s₃) fun b o e => ?_)
        have hb : @LT.lt Nat _ b s₃.heap.objs.size := Heap.lt_size e
        rw [← hN4] at hb
        exact hs₇.extBut b o (Nat.ne_of_lt (Nat.lt_of_lt_of_le hb (Nat.le_add_right _ _))) (hwr b h₆ hk₆ (.inl hb) o (hold b o hb e))
  exact codeAny_compStart_list (main _) (W.self 0 _ _ _ hst₅ (main _))
end
end Mine

namespace Mine

section
variable {prog : Program} {w : World} {A : Around} {s : Shared} {mg mb : Str → Option Value}

theorem spec_same {k : Nat} (hA : Room k A) (hk : k ≤ 30) {told due : Nat} {its : Array Value} (hr : ∀ v ∈ its.toList, ∃ a : Nat, v = .ref a) (hsz : its.size ≤ 1000) (B : Base mg mb s.heap) (N : Names mg mb)
    (ht : s.heap.IsList told its) (hd : s.heap.IsList due its) :
    wpAny (model prog w) A (call (.ref 74) [.ref told, .ref due]) (fun v s' => v = .bool true ∧ Kp s s') noE s := by
  refine call_fn (args := ⟨[.ref told, .ref due], []⟩) (fd := fdS) (body := bodyS) (binds := [("told", .ref told), ("due", .ref due)]) hA (by omega) B.nl B.f74 rfl B.c73 rfl (BindsTo.of_eq rfl) (by decide) (locs rfl) (fun h₁ tk hns hsub => ?_)
  have hB := B.sub hsub
  have hA' : Room (k + 1) (A.deeper (callEnv fdS s.heap.objs.size 74)) := hA.deeper _
  have ht₁ := IsList.to ht hsub
  have hd₁ := IsList.to hd hsub
  refine wpAny_execs_cons (wpAny_Return_some (BoolOp_and ?_))
  refine EvV.go (h₀ := h₁) (P := (· = Value.bool ((its.size : Int) == its.size))) (EvV.eqI (EvV.lenList hB N (EvV.local_ hns (v := .ref told) rfl) ht₁ (by omega)) (EvV.lenList hB N (EvV.local_ hns (v := .ref due) rfl) hd₁ (by omega))) (Sub.refl _) (fun v s₂ hv k₂ => ?_)
  subst hv
  refine wpAny_truthy_bool ?_
  rw [beq_self_eq_true, if_pos rfl]
  refine BoolOp_one (Call_Name1 ((EvV.boot (h₀ := s₂.heap) (v := .builtin "all") (hB.sub k₂.sub) N (by decide) (by first | rfl | decide +kernel)).go (Sub.refl _) fun f s₃ hf k₃ => ?_) rfl)
  subst hf
  have k23 := k₂.trans k₃
  refine Calls.callWith_builtin rfl (Calls.evalArgs_plain (Calls.spliced_cons (wpAny_mono (same_lc (s := s₃) hA' hr hsz (hB.sub k23.sub) N (hns.keeps k23.sub) rfl rfl (IsList.to ht₁ k23.sub) (IsList.to hd₁ k23.sub)) (fun v s₄ h => ?_) fun _ _ e => e)))
  obtain ⟨D, rfl, hl, k₄⟩ := h
  exact Calls.spliced_nil (wpAny_mono (call_all_true hA' hl) (fun v s₅ h => ⟨h.1, ((Kp.mk hsub).trans (k23.trans k₄)).trans h.2⟩) fun _ _ e => e)

/-- _law_same of two expressions; what the first does is told by the user -/
theorem same_call {env : Env} {e1 e2 : Expr} {p pos : Pos} {Q : Value → Shared → Prop} {E : Value → Shared → Prop} {k : Nat} (hA : Room k A) (hk : k ≤ 30) (B : Base mg mb s.heap) (N : Names mg mb)
    (h : ∀ s₁, Kp s s₁ → wpAny (model prog w) A (eval e1 env) (fun v s₂ => wpAny (model prog w) A (eval e2 env) (fun u s₃ => ∃ (told due : Nat) (its : Array Value), v = .ref told ∧ u = .ref due ∧ Base mg mb s₃.heap ∧ s₃.heap.IsList told its ∧ s₃.heap.IsList due its ∧ (∀ v ∈ its.toList, ∃ a : Nat, v = .ref a) ∧ its.size ≤ 1000 ∧
      ∀ s₄, Kp s₃ s₄ → Q (.bool true) s₄) E s₂) E s₁)
    (hk' : env.scope.kind = .function := by rfl) (hn' : env.kindOf "_law_same" = some .globalImplicit := by rfl)
    (hg : env.globals = mainGlobals := by rfl) (he : starEach [e1, e2] env = [(false, eval e1 env), (false, eval e2 env)] := by rfl) :
    wpAny (model prog w) A (eval (.Call (.Name "_law_same" p) [e1, e2] [] pos) env) Q E s :=
  Call_Name2 ((EvV.glob B N.same hk' hn' hg).go (Sub.refl _) fun f s₁ hf k₁ => by
    subst hf
    refine Calls.callWith_function (o := fobj (stm 8) .none pmL (.ref 73)) (fd := fdS) (Calls.evalArgs_plain (Calls.spliced_cons (wpAny_mono (h s₁ k₁) (fun v s₂ h₂ => Calls.spliced_cons (wpAny_mono h₂ (fun u s₃ h₃ => Calls.spliced_nil ?_) fun _ _ e => e)) fun _ _ e => e)))
    obtain ⟨told, due, its, rfl, rfl, B₃, ht, hd, hr, hsz, hQ⟩ := h₃
    refine ⟨⟨B₃.f74, rfl⟩, wpNoE (wpAny_mono (spec_same hA hk hr hsz B₃ N ht hd) (fun v s₄ h => ?_) fun _ _ e => e)⟩
    obtain ⟨rfl, k₄⟩ := h
    exact hQ s₄ k₄) he
end
end Mine

namespace Mine

theorem kind_lt : builtinKind "_operator.lt" = none := by decide +kernel
theorem plain_lt : plainId "_operator.lt" = true := by decide +kernel
theorem entry_lt : entryFor table "_operator.lt" = some Builtin.«_operator.lt» := entryFor_of_fast (by kernel_rfl)
theorem args_lt (a b : Value) : argsOk "_operator.lt" ⟨[a, b], []⟩ := by unfold argsOk; kernel_rfl

def Vals (val : Nat → Int) (as : List Nat) (h : Heap) : Prop := ∀ a ∈ as, ∃ t, h.PlainList a #[.int (val a) t]

theorem Vals.lst {val : Nat → Int} {as : List Nat} {h : Heap} (x : Vals val as h) : ∀ a ∈ as, LstAt h a := fun a ha => by
  obtain ⟨t, n, e⟩ := x a ha
  exact ⟨_, e, rfl, _, _, rfl⟩
theorem not_tbl_list {xs : Array Value} {n : Nat} {o : Obj} (h : o.data = .seq xs n) : ¬ TblO o := fun ⟨vs, e, _⟩ => by rw [h] at e; cases e
theorem not_tbl_cell {v : Option Value} {o : Obj} (h : o.data = .cell v) : ¬ TblO o := fun ⟨vs, e, _⟩ => by rw [h] at e; cases e
theorem not_tbl_dict {es : Array DictEntry} {o : Obj} {n : Nat} (h : o.data = .dict es n) : ¬ TblO o := fun ⟨vs, e, _⟩ => by rw [h] at e; cases e

section
variable {prog : Program} {w : World} {A : Around} {s : Shared} {mg mb : Str → Option Value}

theorem call_lt {val : Nat → Int} {x y : Nat} {k : Nat} (hA : Room k A) (hk : k ≤ 50) (hx : ∃ t, s.heap.PlainList x #[.int (val x) t]) (hy : ∃ t, s.heap.PlainList y #[.int (val y) t]) {Q : Value → Shared → Prop} {E : Value → Shared → Prop} (h : Q (.bool (decide (val x < val y))) s) :
    wpAny (model prog w) A (call (.builtin "_operator.lt") [.ref x, .ref y]) Q E s := by
  obtain ⟨t, hx⟩ := hx
  obtain ⟨u, hy⟩ := hy
  refine call_function_tree kind_lt plain_lt entry_lt (args_lt _ _) ?_
  show wpAny _ A.in1 (richCompare .Lt (.ref x) (.ref y) >>= fun v => ret v) _ _ s
  exact wpAny_bind (lt_list1 hx hy (hA.in1.line (by omega)) (wpAny_pure h))

theorem cmp_lt (val : Nat → Int) (as : List Nat) (bad : List Addr) (nR kc : Nat) (hkc : kc ≤ 50) (has : ∀ a ∈ as, a < nR ∧ a ∉ bad) :
    Cmp prog w (.builtin "_operator.lt") as (fun x y => decide (val x < val y)) True (fun _ h => Vals val as h) [] bad nR kc False where
  callable := fun _ _ _ => .inr rfl
  go := fun A' l hA' hl c x y s hc hx hy hne hci _ => call_lt hA' hkc (hci x hx) (hci y hy) ⟨rfl, trivial, hci, Kw.refl _ _⟩
  stable := fun c h h' x k a ha => let ⟨t, n, e⟩ := x a ha; ⟨t, n, k a _ (.inl ⟨(has a ha).1, not_tbl_list rfl, (has a ha).2⟩) e⟩
  stable0 := fun h h' x k a ha => let ⟨t, n, e⟩ := x a ha; ⟨t, n, k a _ (has a ha).1 (not_tbl_list rfl) (has a ha).2 e⟩
  mono := fun _ _ _ _ x => x
  items := fun _ _ x => x.lst
  low := fun b hb => nomatch hb
  rw := fun h => h.elim

/-- the lambda of the law -/
def lamE : Expr := match lst 9 with | .Assign _ (.Call _ [.Call _ [_, e] _ _] _ _) _ => e | _ => .Constant .none 0 default
def lamP : Arguments := match lamE with | .Lambda p _ _ _ => p | _ => default
def lamB : Expr := match lamE with | .Lambda _ b _ _ => b | _ => default
def lamS : Scope := match lamE with | .Lambda _ _ s _ => s | _ => default
def lamPos : Pos := match lamE with | .Lambda _ _ _ p => p | _ => default
def lamC (L : Nat) : List (Str × Addr) := match closureFor lamS (eL L) with | .pure l => l | _ => []

def PairAt (h : Heap) (t x y : Nat) : Prop := ∃ o n, h.get? t = some o ∧ o.cls = .type "tuple" ∧ o.data = .seq #[.ref x, .ref y] n

/-- what the lambda reads, and what it has noted -/
structure LamI (ns : List Int) (val : Nat → Int) (as : List Nat) (L f NL q : Nat) (qual : Str) (pm ctv : Value) (c' nR : Nat) (c : Nat) (h : Heap) : Prop where
  fn : h.get? f = some (kla_obj "<lambda>" qual lamP lamB lamS (lamC L) pm c' ctv)
  code : ∃ o vs t, h.get? c' = some o ∧ o.data = .fields vs ∧ vs[1]? = some (.str qual t)
  nl : h.NoLimit
  noted : h.IsCell (L + 7) (some (.ref NL))
  table : h.IsCell (L + 9) (some (.ref q))
  tab : ∃ its, h.IsList q its ∧ ∀ j, j < 4 → ∃ a : Nat, its[j]? = some (.ref a) ∧ h.IsList a (tbRow ns j).toArray ∧ a ≠ NL ∧ a < nR
  vals : Vals val as h
  list : ∃ xs : Array Value, h.PlainList NL xs ∧ xs.size ≤ c ∧ ∀ v ∈ xs.toList, ∃ t x y : Nat, v = .ref t ∧ PairAt h t x y ∧ x ∈ as ∧ y ∈ as ∧ x ≠ y
  bd : 80 ≤ nR ∧ f < nR ∧ c' < nR ∧ L + 9 < nR ∧ q < nR ∧ NL < nR ∧ q ≠ NL ∧ f ≠ NL ∧ c' ≠ NL ∧ (∀ a ∈ as, a < nR ∧ a ≠ NL) ∧ 80 ≤ NL

theorem LamI.keep0 {ns : List Int} {val : Nat → Int} {as : List Nat} {L f NL q : Nat} {qual : Str} {pm ctv : Value} {c' nR c : Nat} {h h' : Heap} (x : LamI ns val as L f NL q qual pm ctv c' nR c h)
    (k : ∀ (b : Nat) o, b < nR ∧ ¬ TblO o → h.get? b = some o → h'.get? b = some o) (kt : c = 0 ∨ ∀ (b : Nat) o, TupO o → h.get? b = some o → h'.get? b = some o) : LamI ns val as L f NL q qual pm ctv c' nR c h' := by
  obtain ⟨b0, b1, b2, b3, b4, b5, b6, b7, b8, b9, b10⟩ := x.bd
  refine { fn := k f _ ⟨b1, fun ⟨vs, e, _⟩ => nomatch e⟩ x.fn, code := ?_, nl := ?_, noted := ?_, table := ?_, tab := ?_, vals := ?_, list := ?_, bd := x.bd }
  · obtain ⟨o, vs, t, e, d, v⟩ := x.code
    refine ⟨o, vs, t, k c' o ⟨b2, fun ⟨ws, e', ht⟩ => ?_⟩ e, d, v⟩
    rw [d] at e'; cases e'
    have hv : vs.toList[1]? = some (.str qual t) := by simpa using v
    cases hl : vs.toList with
    | nil => rw [hl] at hv; cases hv
    | cons a l1 =>
      rw [hl] at hv ht
      cases l1 with
      | nil => cases hv
      | cons b l2 =>
        simp at hv; subst hv
        cases a <;> simp [TriplesOk] at ht
  · obtain ⟨mc, hn, e⟩ := x.nl
    exact ⟨mc, hn.at' fun o e => k cStatics o ⟨Nat.lt_of_lt_of_le (by decide) b0, by obtain ⟨o', es, ep, e', d', _⟩ := hn; rw [e'] at e; cases e; exact not_tbl_dict d'⟩ e, e⟩
  · obtain ⟨o, e, d⟩ := x.noted; exact ⟨o, k (L + 7) o ⟨by omega, not_tbl_cell d⟩ e, d⟩
  · obtain ⟨o, e, d⟩ := x.table; exact ⟨o, k (L + 9) o ⟨by omega, not_tbl_cell d⟩ e, d⟩
  · have kl : ∀ (a : Nat) its, a < nR → h.IsList a its → h'.IsList a its := fun a its ha ⟨o, e, c, n, d⟩ => ⟨o, k a o ⟨ha, not_tbl_list d⟩ e, c, n, d⟩
    obtain ⟨its, a, b⟩ := x.tab
    exact ⟨its, kl _ _ b4 a, fun j hj => let ⟨c, d, e, g, l⟩ := b j hj; ⟨c, d, kl _ _ l e, g, l⟩⟩
  · exact fun a ha => let ⟨t, n, e⟩ := x.vals a ha; ⟨t, n, k a _ ⟨(b9 a ha).1, not_tbl_list rfl⟩ e⟩
  · obtain ⟨xs, ⟨n, e⟩, b, c⟩ := x.list
    refine ⟨xs, ⟨n, k NL _ ⟨b5, not_tbl_list rfl⟩ e⟩, b, fun v hv => ?_⟩
    obtain ⟨t, x, y, rfl, ⟨o, n, e, hc, hd⟩, r⟩ := c v hv
    rcases kt with h0 | kt
    · exfalso
      have : 0 < xs.toList.length := List.length_pos_of_mem hv
      rw [Array.length_toList] at this; omega
    · exact ⟨t, x, y, rfl, ⟨o, n, kt t o ⟨hc, _, _, hd⟩ e, hc, hd⟩, r⟩

theorem LamI.keep {ns : List Int} {val : Nat → Int} {as : List Nat} {L f NL q : Nat} {qual : Str} {pm ctv : Value} {c' nR c : Nat} {h h' : Heap} (x : LamI ns val as L f NL q qual pm ctv c' nR c h)
    (k : ∀ (b : Nat) o, (b < nR ∧ ¬ TblO o ∨ TupO o) → h.get? b = some o → h'.get? b = some o) : LamI ns val as L f NL q qual pm ctv c' nR c h' :=
  x.keep0 (fun b o hb e => k b o (.inl hb) e) (.inr fun b o hb e => k b o (.inr hb) e)

theorem LamI.sub {ns : List Int} {val : Nat → Int} {as : List Nat} {L f NL q : Nat} {qual : Str} {pm ctv : Value} {c' nR c : Nat} {h h' : Heap} (x : LamI ns val as L f NL q qual pm ctv c' nR c h) (k : Sub h h') : LamI ns val as L f NL q qual pm ctv c' nR c h' := x.keep fun b o _ e => k b o e

section
variable {prog : Program} {w : World} {A : Around} {s : Shared} {mg mb : Str → Option Value}
variable {ns : List Int} {val : Nat → Int} {as : List Nat} {L f NL q : Nat} {qual : Str} {pm ctv : Value} {c' nR kc : Nat} {bad : List Addr}

theorem lam_go {k : Nat} (hA : Room k A) (hk : k ≤ 40) {x y c : Nat} (hc : c ≤ 2000) (hx : x ∈ as) (hy : y ∈ as) (hne : x ≠ y) (hv : ∀ a ∈ as, 0 ≤ val a ∧ val a < 4) (I : LamI ns val as L f NL q qual pm ctv c' nR c s.heap) :
    wpAny (model prog w) A (call (.ref f) [.ref x, .ref y]) (fun v s' => v = .bool (tbv ns (val x).toNat (val y).toNat) ∧ True ∧ LamI ns val as L f NL q qual pm ctv c' nR (c + 1) s'.heap ∧ Kw [NL] s s') noE s := by
  obtain ⟨oc, vc, tc, ec, dc, vc1⟩ := I.code
  refine wpAny_call (kla_callFunE (hA.room (by omega)) I.fn rfl rfl rfl rfl ⟨c', oc, vc, tc, rfl, ec, dc, vc1⟩ ?_)
  refine wpAny_of_eq (a := ([("a", .ref x), ("b", .ref y)] : List (Str × Value))) rfl ?_
  refine wpAny_newFunctionEnv (show ∀ x ∈ lamS.names, x.2 ≠ NameKind.cell by decide) (locs rfl) (fun h₁ hns hsb => ?_) rfl
  have k₁ : Sub s.heap h₁ := fun b o e => hsb.extBut b o (Nat.ne_of_lt (Heap.lt_size e)) (Heap.get?_push_of_some _ e)
  have I₁ := I.sub k₁
  refine ⟨I₁.nl, kla_codeExpr (wpNoE ?_)⟩
  obtain ⟨b0, b1, b2, b3, b4, b5, b6, b7, b8, b9, b10⟩ := I.bd
  show wpAny _ _ (eval (.BoolOp .Or [_, _] _) _) _ _ _
  refine BoolOp_or ?_
  refine wpAny_Call_append rfl rfl rfl rfl (EvV.go (P := (· = Value.ref NL)) (h₀ := h₁) (EvV.free I₁.noted) (Sub.refl _) fun v s₂ hv' k₂ => ?_)
  subst hv'
  have I₂ := I₁.sub k₂.sub
  obtain ⟨xs, hxs, hxl, hxe⟩ := I₂.list
  obtain ⟨nX, hoX⟩ := id hxs
  refine ⟨NL, xs, rfl, ⟨_, nX, hoX, rfl, rfl, rfl⟩, ?_⟩
  refine Tuple_ (Calls.spliced_cons ((EvV.local_ (h₀ := s₂.heap) (v := .ref x) (hns.keeps k₂.sub) rfl).go (Sub.refl _) fun v s₃ hv₃ k₃ => Calls.spliced_cons ((EvV.local_ (h₀ := s₃.heap) (v := .ref y) (hns.keeps (k₂.sub.trans k₃.sub)) rfl).go (Sub.refl _) fun u s₄ hu k₄ => Calls.spliced_nil ?_)))
  subst hv₃ hu
  refine wpAny_newObj_type ?_
  have k24 : Sub s₂.heap s₄.heap := k₃.sub.trans k₄.sub
  have kT : Sub s₄.heap (s₄.heap.push { cls := .type "tuple", data := .seq ([Value.ref x, Value.ref y] : List Value).toArray }) := fun b o e => Heap.get?_push_of_some _ e
  have k2T : Sub s₂.heap (s₄.heap.push { cls := .type "tuple", data := .seq ([Value.ref x, Value.ref y] : List Value).toArray }) := k24.trans kT
  have kks : Kp s s₄ := (((Kp.mk k₁).trans k₂).trans k₃).trans k₄
  refine wpAny_list_append_plain (hsz := by rw [sizeLine_eq]; omega) (hxs.at fun o e => k2T _ o e) fun h₅ hl₅ hs₅ => ?_
  have kX : ∀ (b : Nat) o, b ≠ NL → (s₄.heap.push { cls := .type "tuple", data := .seq ([Value.ref x, Value.ref y] : List Value).toArray }).get? b = some o → h₅.get? b = some o := fun b o hb e => hs₅.extBut b o hb e
  have I₄ := I₂.sub k2T
  have hT₅ : h₅.get? s₄.heap.objs.size = some { cls := .type "tuple", data := .seq ([Value.ref x, Value.ref y] : List Value).toArray } := kX _ _ (by
    have : @LT.lt Nat _ NL s₄.heap.objs.size := Heap.lt_size (k24 _ _ hoX)
    exact Nat.ne_of_gt this) (Heap.get?_push_size _ rfl)
  have I₅ : LamI ns val as L f NL q qual pm ctv c' nR (c + 1) h₅ := {
    fn := kX f _ b7 I₄.fn
    code := let ⟨o, vs, t, e, d⟩ := I₄.code; ⟨o, vs, t, kX c' o b8 e, d⟩
    nl := let ⟨mc, hn, e⟩ := I₄.nl; ⟨mc, hn.at' fun o e => kX cStatics o (Nat.ne_of_lt (Nat.lt_of_lt_of_le (by decide) b10)) e, e⟩
    noted := let ⟨o, e, d⟩ := I₄.noted; ⟨o, kX (L + 7) o (fun h => by rw [h] at e; obtain ⟨n, e'⟩ := hxs; rw [k2T _ _ e'] at e; cases e; cases d) e, d⟩
    table := let ⟨o, e, d⟩ := I₄.table; ⟨o, kX (L + 9) o (fun h => by rw [h] at e; obtain ⟨n, e'⟩ := hxs; rw [k2T _ _ e'] at e; cases e; cases d) e, d⟩
    tab := let ⟨its, a, b⟩ := I₄.tab; ⟨its, a.at fun o e => kX q o b6 e, fun j hj => let ⟨c, d, e, g, l⟩ := b j hj; ⟨c, d, e.at fun o e => kX c o g e, g, l⟩⟩
    vals := fun a ha => let ⟨t, n, e⟩ := I₄.vals a ha; ⟨t, n, kX a _ (b9 a ha).2 e⟩
    list := ⟨_, hl₅, by rw [Array.size_push]; omega, fun v hv => by
      rw [Array.toList_push] at hv
      rcases List.mem_append.mp hv with hv | hv
      · obtain ⟨t, x', y', rfl, ⟨o, n, e, hc, hd⟩, r⟩ := hxe v hv
        refine ⟨t, x', y', rfl, ⟨o, n, kX t o (fun h => by rw [h, hoX] at e; cases e; exact absurd hc (by show ¬ (Value.type "list" = Value.type "tuple"); decide)) (k2T t o e), hc, hd⟩, r⟩
      · rw [List.mem_singleton.mp hv]
        exact ⟨s₄.heap.objs.size, x, y, rfl, ⟨_, _, hT₅, rfl, rfl⟩, hx, hy, hne⟩⟩
    bd := I.bd }
  have kw : Kw [NL] s { s₄ with heap := h₅ } := (kks.w _).trans (Kw.mk (s := s₄) (tk := s₄.toks) fun b o hb e => kX b o (by simpa using hb) (kT b o e))
  refine truthy_none ?_
  rw [if_neg Bool.false_ne_true]
  have hx4 := hv x hx
  have hy4 := hv y hy
  obtain ⟨its, ht1, ht2⟩ := I₅.tab
  obtain ⟨ra, hra1, hra2, hraN, _⟩ := ht2 (val x).toNat (by omega)
  obtain ⟨tx, hvx⟩ := I₅.vals x hx
  obtain ⟨ty, hvy⟩ := I₅.vals y hy
  have hns₅ : h₅.Ns s.heap.objs.size _ := hns.at' fun o e => kX s.heap.objs.size o (by
    have : @LT.lt Nat _ NL s.heap.objs.size := by
      obtain ⟨_, ⟨n, e⟩, _⟩ := I.list
      exact Heap.lt_size e
    exact Nat.ne_of_gt this) (k2T _ _ (k₂.sub _ _ e))
  refine BoolOp_one (EvV.go (h₀ := h₅) (P := (· = Value.bool (tbv ns (val x).toNat (val y).toNat))) (EvV.item (EvV.item (EvV.free I₅.table) (EvV.mono (EvV.item (EvV.local_ (v := .ref x) hns₅ rfl) EvV.int hvx.isList (by decide) (by decide) (v := .int (val x) tx) rfl) fun v e => ⟨tx, e⟩) ht1 hx4.1 (by omega) hra1)
    (EvV.mono (EvV.item (EvV.local_ (v := .ref y) hns₅ rfl) EvV.int hvy.isList (by decide) (by decide) (v := .int (val y) ty) rfl) fun v e => ⟨ty, e⟩) hra2 hy4.1 (by omega) ?_) (Sub.refl _) fun v s₆ hv₆ k₆ => ⟨hv₆, trivial, I₅.sub k₆.sub, kw.trans (k₆.w _)⟩)
  unfold tbRow
  have h4 : (val y).toNat < 4 := by omega
  simp [h4]

theorem cmp_lam (hkc : kc ≤ 40) (hv : ∀ a ∈ as, 0 ≤ val a ∧ val a < 4) (hNb : NL < nR ∧ 80 ≤ NL) :
    Cmp prog w (.ref f) as (fun x y => tbv ns (val x).toNat (val y).toNat) True (fun c h => LamI ns val as L f NL q qual pm ctv c' nR c h) [NL] [] nR kc False where
  callable := fun _ _ x => .inl ⟨f, _, _, rfl, x.fn, rfl⟩
  go := fun A' l hA' hl c x y s hc hx hy hne hci _ => wpNoE (lam_go hA' hkc hc hx hy hne hv hci)
  stable := fun c h h' x k => x.keep fun b o hb e => k b o (hb.imp (fun q => ⟨q.1, q.2, fun h => nomatch h⟩) id) e
  stable0 := fun h h' x k => x.keep0 (fun b o hb e => k b o hb.1 hb.2 (fun h => nomatch h) e) (.inl rfl)
  mono := fun c c' h hcc x => { x with list := let ⟨xs, a, b, d⟩ := x.list; ⟨xs, a, Nat.le_trans b hcc, d⟩ }
  items := fun _ _ x => x.vals.lst
  low := fun b hb => by rw [List.mem_singleton.mp hb]; exact hNb
  rw := fun h => h.elim
end
end
end Mine

namespace Mine

/-- the value at an address of the pool -/
def valOf (ns : List Int) (pa : Nat → Nat) (a : Nat) : Int := match (List.range (szv ns).toNat).find? (fun j => pa j == a) with | some j => pvv ns j | none => 0
theorem valOf_pa {ns : List Int} {pa : Nat → Nat} (hinj : ∀ j j', j < (szv ns).toNat → j' < (szv ns).toNat → pa j = pa j' → j = j') {j : Nat} (hj : j < (szv ns).toNat) : valOf ns pa (pa j) = pvv ns j := by
  unfold valOf
  cases h : (List.range (szv ns).toNat).find? (fun i => pa i == pa j) with
  | none =>
    have := List.find?_eq_none.mp h j (List.mem_range.mpr hj)
    simp at this
  | some i =>
    have h1 := List.find?_some h
    have h2 := List.mem_of_find?_eq_some h
    rw [hinj i j (List.mem_range.mp h2) hj (by simpa using h1)]
theorem valOf_range (ns : List Int) (pa : Nat → Nat) (a : Nat) : 0 ≤ valOf ns pa a ∧ valOf ns pa a < 4 := by
  unfold valOf
  split
  · exact pvv_range ns _
  · exact ⟨by decide, by decide⟩

def adr (ns : List Int) (pa : Nat → Nat) : List Nat := (picksL ns).map fun q => pa q.toNat
theorem adr_refs (ns : List Int) (pa : Nat → Nat) : (adr ns pa).map Value.ref = refs pa (picksL ns) := by unfold adr refs; rw [List.map_map]; rfl
theorem adr_len (ns : List Int) (pa : Nat → Nat) : (adr ns pa).length ≤ 8 := by
  have := npv_pos ns
  unfold adr picksL; simp; omega
theorem adr_mem {ns : List Int} {pa : Nat → Nat} {a : Nat} (h : a ∈ adr ns pa) : ∃ j, j < (szv ns).toNat ∧ a = pa j := by
  obtain ⟨q, hq, rfl⟩ := List.mem_map.mp h
  have := picks_range ns q hq
  exact ⟨q.toNat, by omega, rfl⟩

/-- the table of law's own code -/
def TabL (ps : Array Value) (h : Heap) : Prop := h.IsCode 78 76 ps ∧ h.TableAt 78 76 ps
theorem TabL.keep {ps : Array Value} {h h' : Heap} (x : TabL ps h) (k : ∀ (b : Nat) o, (b = 78 ∨ b = 76) → h.get? b = some o → h'.get? b = some o) : TabL ps h' :=
  ⟨IsCode.to x.1 (fun o => k 78 o (by simp)) (fun o => k 76 o (by simp)), TableAt.to x.2 (fun o => k 78 o (by simp)) (fun o => k 76 o (by simp))⟩

section
variable {prog : Program} {w : World} {A : Around} {s : Shared} {mg mb : Str → Option Value}

theorem s_noted {L : Nat} {v₀ : Option Value} (hv : s.heap.IsCell (L + 7) v₀) :
    wpAny (model prog w) A (exec (lst 8) (eL L)) (fun f s' => f = .next ∧ (∃ q : Nat, s'.heap.IsCell (L + 7) (some (.ref q)) ∧ (∀ (b : Nat) o, s.heap.get? b = some o → b < q) ∧ s'.heap.PlainList q #[]) ∧ Kw [L + 7] s s') noE s := by
  refine wpAny_Assign_Name (List_ (Calls.spliced_nil (wpAny_newObj_type ?_))) rfl
  have hk : Kp s { s with heap := s.heap.push { cls := .type "list", data := .seq ([] : List Value).toArray } } := Kp.mk fun b o e => Heap.get?_push_of_some _ e
  refine wpAny_mono (st_cell (hv.keeps hk.sub) rfl rfl) (fun _ s₂ z => ⟨rfl, ⟨s.heap.objs.size, z.1, fun b o e => Heap.lt_size e, ?_⟩, (hk.w _).trans z.2⟩) fun _ _ q => q
  exact ⟨_, z.2.keep _ _ (by rw [List.mem_singleton]; exact fun e => by obtain ⟨o, ho, _⟩ := hv; rw [← e] at ho; exact absurd (Heap.lt_size ho) (Nat.lt_irrefl _)) (Heap.get?_push_size _ rfl)⟩

/-- a lambda of the law made -/
theorem mk_lam {L : Nat} {params : Arguments} {body : Expr} {scope : Scope} {pos : Pos} {cl : List (Str × Addr)} {ps : Array Value} (B : Base mg mb s.heap) (N : Names mg mb) (hT : TabL ps s.heap) (hdef : defaultsOf params (eL L) = ([], [])) (hcl : closureFor scope (eL L) = pure cl) (hnf : codeAmong pos ps.toList = none) :
    wpAny (model prog w) A (eval (.Lambda params body scope pos) (eL L)) (fun v s' => ∃ (f c' : Nat) (pm ctv : Value), v = .ref f ∧ s'.heap.get? f = some (kla_obj "<lambda>" ((eL L).qual ++ "<lambda>") params body scope cl pm c' ctv) ∧ s'.heap.CodeRec (.ref c') ((eL L).qual ++ "<lambda>") ∧
      (∀ (b : Nat) o, s.heap.get? b = some o → b < f) ∧ TabL (ps ++ #[rawInt pos.line, rawInt pos.col, .ref c']) s'.heap ∧ Kw [76] s s') noE s := by
  refine kla_eval hdef (kla_makeFunction (mg := mg) hcl rfl B.g rfl (CodeHd.of hT.1 hT.2) hT.2.2 (IsCode.tri hT.1) hnf (by decide) ⟨4, _, N.mod, by decide, by decide, by decide, B.mod, rfl, rfl, rfl⟩ fun c' ctv h' tk hx hge hlt hrec htb => ?_)
  have hk : ∀ (b : Nat) o, b ≠ 76 → s.heap.get? b = some o → h'.get? b = some o := fun b o hb e => hx b o hb e
  refine ⟨h'.objs.size, c', _, ctv, rfl, Heap.get?_push_size _ rfl, hrec.keeps fun b o e => Heap.get?_push_of_some _ e, fun b o e => ?_, ?_, _, _, rfl, fun b o hb e => Heap.get?_push_of_some _ (hk b o (by simpa using hb) e)⟩
  · exact Nat.lt_trans (Heap.lt_size e) (Nat.lt_of_le_of_lt hge hlt)
  · have hC : CodeHd h' 78 76 := by
      obtain ⟨o, vs, file, tf, flags, tg, inF, text, tt, e, r⟩ := CodeHd.of hT.1 hT.2
      exact ⟨o, vs, file, tf, flags, tg, inF, text, tt, hk 78 o (by decide) e, r⟩
    have htri : TriplesOk (ps ++ #[rawInt pos.line, rawInt pos.col, Value.ref c']).toList := by
      rw [show (ps ++ #[rawInt pos.line, rawInt pos.col, Value.ref c']).toList = ps.toList ++ [rawInt pos.line, rawInt pos.col, Value.ref c'] by simp]
      exact TriplesOk_snoc _ _ _ _ (IsCode.tri hT.1)
    exact ⟨(hC.code htb htri).push _, (hC.tab htb).push _⟩

/-- list(e) of a list or a tuple -/
theorem list_copy {env : Env} {e : Expr} {p pos : Pos} {l : Nat} {its : Array Value} (B : Base mg mb s.heap) (N : Names mg mb) (x : EvV prog w A env s.heap e (· = .ref l)) (hl : ∃ o n, s.heap.get? l = some o ∧ (o.cls = .type "list" ∨ o.cls = .type "tuple") ∧ o.data = .seq its n) (hsz : its.size ≤ 1000)
    (hk : env.scope.kind = .function := by rfl) (hn : env.kindOf "list" = some .globalImplicit := by rfl)
    (hg : env.globals = mainGlobals := by rfl) (hb : env.builtins = builtinsNs := by rfl) (he : starEach [e] env = [(false, eval e env)] := by rfl) :
    wpAny (model prog w) A (eval (.Call (.Name "list" p) [e] [] pos) env) (fun v s' => ∃ D : Nat, v = .ref D ∧ s'.heap.PlainList D its ∧ (∀ (b : Nat) o, s.heap.get? b = some o → b < D) ∧ Kp s s') noE s := by
  refine Call_Name1 ((EvV.boot (v := .type "list") B N (by decide) (by first | rfl | decide +kernel) hk hn hg hb).go (Sub.refl _) fun f s₁ hf k₁ => ?_) he
  subst hf
  refine PyProof.Rows.callWith_type rfl (Calls.evalArgs_plain (Calls.spliced_cons (x.go k₁.sub fun v s₂ hv k₂ => Calls.spliced_nil ?_)))
  subst hv
  have k12 := k₁.trans k₂
  obtain ⟨o, n, ho, hc, hd⟩ := hl
  rcases hc with hc | hc
  · refine call_list_seq l (T := "list") (.inl rfl) (k12.sub _ _ ho) hc hd (fun h' c' hk' hg' => ⟨s₂.heap.objs.size, rfl, ⟨c', hg'⟩, fun b o e => Heap.lt_size (k12.sub _ _ e), k12.trans (Kp.mk hk')⟩) (by rw [sizeLine_eq]; omega)
  · refine call_list_seq l (T := "tuple") (.inr rfl) (k12.sub _ _ ho) hc hd (fun h' c' hk' hg' => ⟨s₂.heap.objs.size, rfl, ⟨c', hg'⟩, fun b o e => Heap.lt_size (k12.sub _ _ e), k12.trans (Kp.mk hk')⟩) (by rw [sizeLine_eq]; omega)

/-- a walk over a list of refs -/
theorem src_refs {k : Nat} (hA : Room k A) {l : Nat} {as : List Nat} {s₀ : Shared} (hl : s₀.heap.IsList l (as.map Value.ref).toArray) {s' : Shared} (hs : Sub s₀.heap s'.heap) (bad : List Addr) :
    wpAny (model prog w) A (pyIter (.ref l)) (fun it s₂ => ∃ I : Nat, ∃ St, it = .ref I ∧ Kp s' s₂ ∧ ((∀ (b : Nat) o, s'.heap.get? b = some o → b < I) ∨ I ∈ bad) ∧ Walks prog w A I (I :: [l]) [I] as.length (fun i v => ∃ a, as[i]? = some a ∧ v = .ref a) St ∧ St 0 s₂.heap) noE s' := by
  have hl' := IsList.to hl hs
  refine wpAny_pyIter_list hl' ?_
  have hne : l ≠ s'.heap.objs.size := by obtain ⟨o, e, _⟩ := hl'; exact Nat.ne_of_lt (Heap.lt_size e)
  have W := Walks.list (prog := prog) (w := w) (A := A) hA.handled s'.heap.objs.size l hne (as.map Value.ref).toArray
  have hn : (as.map Value.ref).toArray.size = as.length := by simp
  rw [hn] at W
  refine ⟨s'.heap.objs.size, _, rfl, Kp.mk fun b o e => Heap.get?_push_of_some _ e, .inl fun b o e => Heap.lt_size e, ⟨W.sub, W.frame, fun i s Q E hi st hQ => W.item i s Q E hi st fun v h' tk hv => hQ v h' tk ?_, W.done, W.self⟩, ⟨⟨_, Heap.get?_push_size _ rfl, rfl, rfl⟩, hl'.push _⟩⟩
  simp only [List.getElem?_toArray, List.getElem?_map] at hv
  cases h : as[i]? with
  | none => rw [h] at hv; cases hv
  | some a => rw [h] at hv; exact ⟨a, rfl, (Option.some.inj hv).symm⟩
end
end Mine

namespace Mine

/-- what stands in the law's frame, but for its locals -/
structure LawH (mg mb : Str → Option Value) (ns : List Int) (vs : List Value) (L l p T O R M : Nat) (pa : Nat → Nat) (h : Heap) : Prop where
  base : Base mg mb h
  script : h.IsCell (L + 1) (some (.ref l))
  list : h.IsList l vs.toArray
  pool : h.IsCell (L + 3) (some (.ref p))
  poolAt : PoolAt h ns p pa
  order : h.IsCell (L + 4) (some (.ref O))
  orderL : ∃ its, h.IsList O its ∧ IntsAre its.toList (orderL ns)
  row : h.IsCell (L + 8) (some (.ref R))
  rowL : h.IsList R (refs pa (picksL ns)).toArray
  table : h.IsCell (L + 9) (some (.ref T))
  tabAt : TabAt h ns T
  bd : l < M ∧ p < M ∧ T < M ∧ O < M ∧ R < M ∧ L + 9 < M ∧ 80 ≤ L ∧ (∀ j, j < (szv ns).toNat → pa j < M) ∧ ∃ its, h.IsList T its ∧ ∀ j, j < 4 → ∃ a : Nat, its[j]? = some (.ref a) ∧ a < M

/-- kept for the law -/
def KeepL (M L : Nat) (h h' : Heap) : Prop := ∀ (b : Nat) o, b < M → ((b < 80 ∧ b ≠ 43 ∧ b ≠ 76) ∨ (∃ xs n, o.data = .seq xs n) ∨ b ∈ [L + 1, L + 2, L + 3, L + 4, L + 8, L + 9]) → h.get? b = some o → h'.get? b = some o
theorem KeepL.trans {M L : Nat} {a b c : Heap} (x : KeepL M L a b) (y : KeepL M L b c) : KeepL M L a c := fun q o h1 h2 e => y q o h1 h2 (x q o h1 h2 e)
theorem KeepL.sub {M L : Nat} {a b : Heap} (x : Sub a b) : KeepL M L a b := fun q o _ _ e => x q o e

/-- what may be written without harm to the law -/
def WOk (M L : Nat) (W : List Addr) (h : Heap) : Prop := ∀ b : Nat, b ∈ W → M ≤ b ∨ ((∀ o, h.get? b = some o → ∀ xs n, o.data ≠ .seq xs n) ∧ b ∉ [L + 1, L + 2, L + 3, L + 4, L + 8, L + 9] ∧ (b < 80 → b = 43 ∨ b = 76))
theorem WOk.keep {M L : Nat} {W : List Addr} {s s' : Shared} (x : WOk M L W s.heap) (m : Mv W s s') : KeepL M L s.heap s'.heap := fun b o hb h e => by
  refine m.keep b o (fun hm => ?_) e
  rcases x b hm with h1 | ⟨h1, h2, h3⟩
  · omega
  · rcases h with h | ⟨xs, n, h⟩ | h
    · rcases h3 h.1 with q | q
      · exact h.2.1 q
      · exact h.2.2 q
    · exact h1 o e xs n h
    · exact h2 h
theorem WOk.nil {M L : Nat} {h : Heap} : WOk M L [] h := fun b hb => nomatch hb
theorem WOk.cons {M L a : Nat} {W : List Addr} {h : Heap} (ha : M ≤ a ∨ ((∀ o, h.get? a = some o → ∀ xs n, o.data ≠ .seq xs n) ∧ a ∉ [L + 1, L + 2, L + 3, L + 4, L + 8, L + 9] ∧ (a < 80 → a = 43 ∨ a = 76))) (x : WOk M L W h) : WOk M L (a :: W) h := fun b hb => by
  rcases List.mem_cons.mp hb with rfl | hb
  · exact ha
  · exact x b hb
theorem WOk.append {M L : Nat} {W W' : List Addr} {h : Heap} (x : WOk M L W h) (y : WOk M L W' h) : WOk M L (W ++ W') h := fun b hb => by
  rcases List.mem_append.mp hb with hb | hb
  · exact x b hb
  · exact y b hb
theorem WOk.frame {M L : Nat} {W : List Addr} {h : Heap} {m : Str → Option Value} (hL : 80 ≤ L) (hm : h.Ns L m) (x : WOk M L W h) : WOk M L (L :: W) h := by
  refine WOk.cons (.inr ⟨fun o e xs n q => ?_, by simp, fun h => by omega⟩) x
  obtain ⟨o', es, ep, e', d', _⟩ := hm
  rw [e'] at e; cases e; rw [d'] at q; cases q
theorem WOk.cell {M L c : Nat} {W : List Addr} {h : Heap} {v : Option Value} (hc : c = L + 5 ∨ c = L + 6 ∨ c = L + 7) (hL : 80 ≤ L) (hv : h.IsCell c v) (x : WOk M L W h) : WOk M L (c :: W) h := by
  refine WOk.cons (.inr ⟨fun o e xs n q => ?_, by simp only [List.mem_cons, List.not_mem_nil, or_false, not_or]; omega, fun h => by omega⟩) x
  obtain ⟨o', e', d'⟩ := hv
  rw [e'] at e; cases e; rw [d'] at q; cases q
theorem WOk.tabs {M L : Nat} {W : List Addr} {h : Heap} {tb : Option (Nat × Nat)} (hL : 80 ≤ L) (hc : ∀ q ∈ [L + 1, L + 2, L + 3, L + 4, L + 8, L + 9], ∃ v, h.IsCell q v) (ht : TabF tb h) (x : WOk M L W h) : WOk M L (43 :: tbP tb ++ W) h := by
  show WOk M L (43 :: (tbP tb ++ W)) h
  refine WOk.cons (.inr ⟨fun o e xs n q => ?_, by simp only [List.mem_cons, List.not_mem_nil, or_false, not_or]; omega, fun _ => .inl rfl⟩) (WOk.append (fun b hb => ?_) x)
  · obtain ⟨ps, _, h2, _⟩ := id ht
    rw [h2.2] at e; cases e; cases q
  · cases tb with
    | none => cases hb
    | some r =>
      obtain ⟨c2, P2⟩ := r
      have hb : b = P2 := by simpa [tbP] using hb
      subst hb
      obtain ⟨_, ⟨ps, e'⟩, _, h80⟩ := ht.gets rfl
      refine .inr ⟨(fun o e xs n q => by rw [e'] at e; cases e; cases q), fun hm => ?_, fun h => by omega⟩
      obtain ⟨v, o, e, d⟩ := hc _ hm
      rw [e'] at e; cases e; cases d
theorem WOk.tabL {M L : Nat} {W : List Addr} {h : Heap} {ps : Array Value} (hL : 80 ≤ L) (ht : TabL ps h) (x : WOk M L W h) : WOk M L (76 :: W) h := by
  refine WOk.cons (.inr ⟨fun o e xs n q => ?_, by simp only [List.mem_cons, List.not_mem_nil, or_false, not_or]; omega, fun _ => .inr rfl⟩) x
  rw [ht.2.2] at e; cases e; cases q

variable {mg mb : Str → Option Value} {ns : List Int} {vs : List Value} {L l p T O R M : Nat} {pa : Nat → Nat}

theorem LawH.keep {h h' : Heap} (x : LawH mg mb ns vs L l p T O R M pa h) (k : KeepL M L h h') : LawH mg mb ns vs L l p T O R M pa h' := by
  obtain ⟨b1, b2, b3, b4, b5, b6, b7, b8, its9, b9, b10⟩ := x.bd
  have lt : ∀ (a : Nat) its, a < M → h.IsList a its → h'.IsList a its := fun a its ha ⟨o, e, c, n, d⟩ => ⟨o, k a o ha (.inr (.inl ⟨_, _, d⟩)) e, c, n, d⟩
  have cl : ∀ (c : Nat) v, c ∈ [L + 1, L + 2, L + 3, L + 4, L + 8, L + 9] → h.IsCell c v → h'.IsCell c v := fun c v hc ⟨o, e, d⟩ => ⟨o, k c o (by simp only [List.mem_cons, List.not_mem_nil, or_false] at hc; omega) (.inr (.inr hc)) e, d⟩
  refine ⟨x.base.low fun b o hb h1 h2 e => k b o (by omega) (.inl ⟨hb, h1, h2⟩) e, cl _ _ (by simp) x.script, lt _ _ b1 x.list, cl _ _ (by simp) x.pool, ?_, cl _ _ (by simp) x.order,
    (let ⟨its, a, b⟩ := x.orderL; ⟨its, lt _ _ b4 a, b⟩), cl _ _ (by simp) x.row, lt _ _ b5 x.rowL, cl _ _ (by simp) x.table, ?_, ⟨b1, b2, b3, b4, b5, b6, b7, b8, its9, lt _ _ b3 b9, b10⟩⟩
  · refine ⟨let ⟨its, a, b⟩ := x.poolAt.list; ⟨its, lt _ _ b2 a, b⟩, fun j hj => ?_, x.poolAt.inj⟩
    obtain ⟨t, n, e⟩ := x.poolAt.item j hj
    exact ⟨t, n, k (pa j) _ (b8 j hj) (.inr (.inl ⟨_, _, rfl⟩)) e⟩
  · obtain ⟨its, a, b⟩ := x.tabAt
    refine ⟨its, lt _ _ b3 a, fun j hj => ?_⟩
    obtain ⟨c, d, e⟩ := b j hj
    obtain ⟨c', d', hc'⟩ := b10 j hj
    have hii : its = its9 := by
      obtain ⟨o, e1, _, n, d1⟩ := a
      obtain ⟨o', e2, _, n', d2⟩ := b9
      rw [e1] at e2; cases e2
      rw [d1] at d2; cases d2; rfl
    rw [hii] at d
    rw [d] at d'; cases d'
    exact ⟨c, by rw [hii]; exact d, lt _ _ hc' e⟩
theorem LawH.cells {h : Heap} (x : LawH mg mb ns vs L l p T O R M pa h) (h2 : ∃ v, h.IsCell (L + 2) v) : ∀ q ∈ [L + 1, L + 2, L + 3, L + 4, L + 8, L + 9], ∃ v, h.IsCell q v := fun q hq => by
  simp only [List.mem_cons, List.not_mem_nil, or_false] at hq
  rcases hq with rfl | rfl | rfl | rfl | rfl | rfl
  · exact ⟨_, x.script⟩
  · exact h2
  · exact ⟨_, x.pool⟩
  · exact ⟨_, x.order⟩
  · exact ⟨_, x.row⟩
  · exact ⟨_, x.table⟩

theorem LawH.vals {h : Heap} (x : LawH mg mb ns vs L l p T O R M pa h) : Vals (valOf ns pa) (uniqA (adr ns pa)) h := fun a ha => by
  obtain ⟨j, hj, rfl⟩ := adr_mem ((uniqA_mem _ _).mp ha)
  obtain ⟨t, e⟩ := x.poolAt.item j hj
  exact ⟨t, by rw [valOf_pa x.poolAt.inj hj]; exact e⟩
end Mine

namespace Mine

variable {mg mb : Str → Option Value} {ns : List Int} {vs : List Value} {L l p T O R M : Nat} {pa : Nat → Nat}

section
variable {prog : Program} {w : World} {A : Around} {s : Shared}

def told (ns : List Int) (pa : Nat → Nat) : List Nat := (uniqA (adr ns pa)).filter (keepA (fun x y => tbv ns (valOf ns pa x).toNat (valOf ns pa y).toNat) (uniqA (adr ns pa)))

def ToldPost (ns : List Int) (pa : Nat → Nat) (L NL : Nat) (m : Str → Option Value) (tb : Option (Nat × Nat)) (ps : Array Value) (s : Shared) (f : Flow) (s' : Shared) : Prop :=
  f = .next ∧ (∃ (D : Nat) (tb' : Option (Nat × Nat)) (c' : Value) (acc : Array Value), s'.heap.Ns L (fun z => if z = "told" then some (.ref D) else m z) ∧ s'.heap.PlainList D acc ∧ acc.toList = (told ns pa).map Value.ref ∧
      (∃ xs : Array Value, s'.heap.PlainList NL xs ∧ ∀ v ∈ xs.toList, ∃ t x y : Nat, v = .ref t ∧ PairAt s'.heap t x y ∧ x ∈ adr ns pa ∧ y ∈ adr ns pa ∧ x ≠ y) ∧ TabF tb' s'.heap ∧ tb' ≠ none ∧ TabL (ps ++ #[rawInt lamPos.line, rawInt lamPos.col, c']) s'.heap ∧
      (tb' = tb ∨ (tb = none ∧ ∀ c2 P2, tb' = some (c2, P2) → s.heap.get? c2 = none ∧ s.heap.get? P2 = none)) ∧ (∀ (b : Nat) o, s.heap.get? b = some o → b < D)) ∧ Mv (43 :: tbP tb ++ [76, L, NL]) s s'

set_option maxHeartbeats 1000000 in
theorem s_told {k : Nat} (hA : Room k A) (hk : k ≤ 20) {fl : List Env} (hf : A.frames = some fl) (N : Names mg mb) (H : LawH mg mb ns vs L l p T O R M pa s.heap) {m : Str → Option Value} (hm : s.heap.Ns L m) (h2 : ∃ v, s.heap.IsCell (L + 2) v)
    {NL : Nat} (hn : s.heap.IsCell (L + 7) (some (.ref NL))) (hNL : s.heap.PlainList NL #[]) (hNM : M ≤ NL) {tb : Option (Nat × Nat)} (hT : TabF tb s.heap) {ps : Array Value} (hTL : TabL ps s.heap) (hps : codeAmong lamPos ps.toList = none) :
    wpAny (model prog w) A (exec (lst 9) (eL L)) (fun f s' => ToldPost ns pa L NL m tb ps s f s') noE s := by
  obtain ⟨b1, b2, b3, b4, b5, b6, b7, b8, its9, b9, b10⟩ := H.bd
  refine wpAny_Assign_Name (Call_Name1 ((EvV.boot (v := .type "list") H.base N (by decide) (by first | rfl | decide +kernel)).go (Sub.refl _) fun f s₁ hf₁ k₁ => ?_) rfl) rfl
  subst hf₁
  refine PyProof.Rows.callWith_type rfl (Calls.evalArgs_plain (Calls.spliced_cons ?_))
  refine Call_Name2 ((EvV.glob (H.base.sub k₁.sub) N.maximal).go (Sub.refl _) fun f s₂ hf₂ k₂ => ?_) rfl
  subst hf₂
  have k12 := k₁.trans k₂
  have hR : ∃ o n, s₂.heap.get? R = some o ∧ (o.cls = .type "list" ∨ o.cls = .type "tuple") ∧ o.data = .seq (refs pa (picksL ns)).toArray n := by
    obtain ⟨o, e, c, n, d⟩ := H.rowL
    exact ⟨o, n, k12.sub _ _ e, .inl c, d⟩
  have hlen8 := adr_len ns pa
  have hrl : (refs pa (picksL ns)).toArray.size ≤ 8 := by
    rw [← adr_refs, List.size_toArray, List.length_map]; exact hlen8
  refine Calls.callWith_function (o := fobj (stm 3) (.ref 41) pmT (.ref 47)) (fd := fdM) (Calls.evalArgs_plain (Calls.spliced_cons (wpAny_mono (list_copy (H.base.sub k12.sub) N (EvV.cell (H.row.keeps k12.sub)) hR (by omega)) (fun v s₃ h₃ => ?_) fun _ _ e => e)))
  obtain ⟨C, rfl, hC, hCs, k₃⟩ := h₃
  have k13 := k12.trans k₃
  have hTL₃ : TabL ps s₃.heap := hTL.keep fun b o _ e => k13.sub b o e
  refine Calls.spliced_cons (wpAny_mono (mk_lam (H.base.sub k13.sub) N hTL₃ rfl (cl := lamC L) rfl hps) (fun v s₄ h₄ => Calls.spliced_nil ?_) fun _ _ e => e)
  obtain ⟨f, c', pm, ctv, rfl, hfn, hrec, hfs, hTL₄, kw₄⟩ := h₄
  have kk : ∀ (b : Nat) o, b ≠ 76 → s.heap.get? b = some o → s₄.heap.get? b = some o := fun b o hb e => kw₄.keep b o (by rw [List.mem_singleton]; exact hb) (k13.sub b o e)
  have k4L : KeepL M L s.heap s₄.heap := by
    have h1 : WOk M L [76] s₃.heap := WOk.tabL b7 hTL₃ WOk.nil
    exact (KeepL.sub k13.sub).trans (h1.keep kw₄.mv)
  have H₄ := H.keep k4L
  have hm₄ : s₄.heap.Ns L m := hm.at' fun o e => kk L o (fun q => by
    obtain ⟨o', es, ep, e', d', _⟩ := hm
    rw [q, hTL.2.2] at e'; cases e'; cases d') e
  have hn₄ : s₄.heap.IsCell (L + 7) (some (.ref NL)) := let ⟨o, e, d⟩ := hn; ⟨o, kk (L + 7) o (fun q => by rw [q, hTL.2.2] at e; cases e; cases d) e, d⟩
  have hNL₄ : s₄.heap.PlainList NL #[] := let ⟨n, e⟩ := hNL; ⟨n, kk NL _ (by omega) e⟩
  have hC₄ : s₄.heap.PlainList C (refs pa (picksL ns)).toArray := by
    obtain ⟨n, e⟩ := hC
    refine ⟨n, kw₄.keep C _ (fun q => ?_) e⟩
    rw [List.mem_singleton.mp q, hTL₃.2.2] at e; cases e
  have hT₄ : TabF tb s₄.heap := hT.keep fun b o hb e => kk b o (by
    rcases hb with rfl | rfl | ⟨c2, P2, e2, hb⟩
    · decide
    · decide
    · obtain ⟨⟨o1, vs1, e1, d1, cl1⟩, ⟨ps1, e3⟩, h80, h81⟩ := hT.gets e2
      rcases hb with rfl | rfl <;> omega) e
  have alive : ∀ (b : Nat) o, s.heap.get? b = some o → b < s₄.heap.objs.size := fun b o e => by
    by_cases hb : b = 76
    · rw [hb]; exact Heap.lt_size hTL₄.2.2
    · exact Heap.lt_size (kk b o hb e)
  have hMs : M ≤ s₄.heap.objs.size := by
    obtain ⟨n, e⟩ := hNL
    have := alive NL _ e; omega
  have hfs4 : f < s₄.heap.objs.size := Heap.lt_size hfn
  obtain ⟨cc, oc, vc, tc, ecc, eoc, edc, ev1⟩ := hrec
  cases ecc
  have hcs4 : @LT.lt Nat _ c' s₄.heap.objs.size := Heap.lt_size eoc
  obtain ⟨itsT, tT1, tT2⟩ := H₄.tabAt
  have neNL : ∀ (a : Nat) its, s₄.heap.IsList a its → its.size ≠ 0 → a ≠ NL := fun a its ⟨o, e, c, n, d⟩ hs q => by
    obtain ⟨n', e'⟩ := hNL₄
    rw [q, e'] at e; cases e; cases d; exact hs rfl
  have hI : LamI ns (valOf ns pa) (uniqA (adr ns pa)) L f NL T ((eL L).qual ++ "<lambda>") pm ctv c' s₄.heap.objs.size 0 s₄.heap := {
    fn := hfn
    code := ⟨oc, vc, tc, eoc, edc, ev1⟩
    nl := H₄.base.nl
    noted := hn₄
    table := H₄.table
    tab := ⟨itsT, tT1, fun j hj => by
      obtain ⟨a, h1, h2⟩ := tT2 j hj
      refine ⟨a, h1, h2, neNL a _ h2 (by simp [tbRow]), ?_⟩
      obtain ⟨o, e, _⟩ := h2; exact Heap.lt_size e⟩
    vals := H₄.vals
    list := ⟨#[], hNL₄, Nat.le_refl _, fun v hv => nomatch hv⟩
    bd := by
      refine ⟨by omega, hfs4, hcs4, by omega, by omega, ?_, ?_, ?_, ?_, fun a ha => ?_, by omega⟩
      · obtain ⟨n, e⟩ := hNL₄; exact Heap.lt_size e
      · refine neNL T _ tT1 fun q => ?_
        obtain ⟨a, h1, _⟩ := tT2 0 (by decide)
        rw [Array.getElem?_eq_none (by omega)] at h1; cases h1
      · intro q
        obtain ⟨n, e⟩ := hNL₄
        rw [q, e] at hfn
        exact absurd (congrArg Obj.cls (Option.some.inj hfn)) (by show ¬ (Value.type "list" = Value.type "function"); decide)
      · intro q
        obtain ⟨n, e⟩ := hNL₄
        rw [q, e] at eoc; cases eoc; cases edc
      · obtain ⟨t, hv⟩ := H₄.vals a ha
        refine ⟨?_, neNL a _ hv.isList (by simp)⟩
        obtain ⟨n, e⟩ := hv; exact Heap.lt_size e }
  have hNb : NL < s₄.heap.objs.size ∧ 80 ≤ NL := ⟨by obtain ⟨n, e⟩ := hNL₄; exact Heap.lt_size e, by omega⟩
  have hCl : s₄.heap.IsList C ((adr ns pa).map Value.ref).toArray := by rw [adr_refs]; exact hC₄.isList
  have hCb : C < s₄.heap.objs.size ∧ 80 ≤ C := ⟨by obtain ⟨n, e⟩ := hC₄; exact Heap.lt_size e, by have := hCs 79 _ (H.base.sub k12.sub).f79; omega⟩
  refine ⟨⟨H₄.base.f48, rfl⟩, ?_⟩
  have Cm := cmp_lam (prog := prog) (w := w) (ns := ns) (val := valOf ns pa) (as := uniqA (adr ns pa)) (L := L) (f := f) (NL := NL) (q := T) (qual := (eL L).qual ++ "<lambda>") (pm := pm) (ctv := ctv) (c' := c') (nR := s₄.heap.objs.size) (kc := 40) (by omega) (fun a _ => valOf_range ns pa a) hNb
  refine wpAny_mono (list_maximal (mg := mg) (mb := mb) (args := ⟨[.ref C, .ref f], []⟩) (itv := .ref C) (fx := []) (fp := [C]) (as0 := adr ns pa) (tb := tb) (fl := fl) N Cm (by omega) hA hk (by omega) hf H₄.base hT₄ hI (fun h => h.elim) (fun h => h.elim) (fun b hb => nomatch hb)
    (fun b hb => ⟨by rw [List.mem_singleton.mp hb]; obtain ⟨n, e⟩ := hNL₄; exact ⟨_, e, rfl, _, _, rfl⟩, fun h => nomatch h⟩) (BindsTo.of_defaults rfl H₄.base.d41 rfl rfl rfl) (fun A' s' hA' hs' => src_refs hA' hCl hs' []) (fun b hb => nomatch hb) (fun b hb => by rw [List.mem_singleton.mp hb]; omega)
    (Q := fun v s₁ => wpAny (model prog w) A (storeName (eL L) "told" v) (fun _ s' => ToldPost ns pa L NL m tb ps s .next s') noE s₁) (E := noE)
    (fun D s₅ tb' acc hpl hacc hflag hal hci hT₅ hnn htb hmv => ?_) (fun e s' he => (he.more (r' := fun _ => False) fun _ _ q => q.1).no.elim)) (fun v s₁ h => Calls.spliced_nil h) fun _ _ e => e
  have hTL₅ : TabL (ps ++ #[rawInt lamPos.line, rawInt lamPos.col, .ref c']) s₅.heap := hTL₄.keep fun b o hb e => hmv.keep b o (fun hm => by
    have h80 : (b : Nat) < 80 := by rcases hb with rfl | rfl <;> decide
    simp only [List.nil_append, List.mem_append, List.mem_cons, List.not_mem_nil, or_false] at hm
    rcases hm with rfl | rfl | hm
    · omega
    · rcases hb with h | h <;> exact absurd h (by decide)
    · cases tb with
      | none => cases hm
      | some r =>
        obtain ⟨c2, P2⟩ := r
        have hq : b = P2 := by simpa [tbP] using hm
        obtain ⟨_, _, _, h81⟩ := hT.gets rfl
        omega) e
  have hLM : M ≤ NL := hNM
  have hP2L : ∀ c2 P2, tb = some (c2, P2) → P2 ≠ L := fun c2 P2 e q => by
    obtain ⟨_, ⟨ps1, e3⟩, _⟩ := hT.gets e
    obtain ⟨o', es, ep, e', d', _⟩ := hm
    rw [q, e'] at e3; cases e3; cases d'
  have hmW : L ∉ ([] : List Addr) ++ [NL] ++ 43 :: tbP tb := fun hb => by
    simp only [List.nil_append, List.mem_append, List.mem_cons, List.not_mem_nil, or_false] at hb
    rcases hb with hb | hb | hb
    · have : L = NL := hb
      omega
    · have : L = 43 := hb
      omega
    · cases htb' : tb with
      | none => rw [htb'] at hb; cases hb
      | some r =>
        obtain ⟨c2, P2⟩ := r
        rw [htb'] at hb
        have hq : L = P2 := by simpa [tbP] using hb
        exact hP2L c2 P2 htb' hq.symm
  have hm₅ : s₅.heap.Ns L m := hm₄.at' fun o e => hmv.keep L o hmW e
  refine wpAny_storeName_local rfl hm₅ (fun h₆ hn₆ hs₆ => ?_) rfl
  have k₆ : ∀ (b : Nat) o, b ≠ L → s₅.heap.get? b = some o → h₆.get? b = some o := fun b o hb e => hs₆.extBut b o hb e
  have notL : ∀ (b : Nat) o, s₅.heap.get? b = some o → (∀ es n, o.data ≠ .dict es n) → b ≠ L := fun b o e hd q => by
    obtain ⟨o', es, ep, e', d', _⟩ := hm₅
    rw [q, e'] at e; cases e; exact hd _ _ d'
  have hal' : ∀ (b : Nat) o, s.heap.get? b = some o → b < D := fun b o e => by
    by_cases hb : b = 76
    · rw [hb]; exact hal 76 _ hTL₄.2.2
    · exact hal b o (kk b o hb e)
  obtain ⟨oL, esL, epL, eL', dL', _⟩ := id hm
  refine ⟨rfl, ⟨D, tb', .ref c', acc, hn₆, ?_, hacc, ?_, ?_, hnn, ?_, ?_, hal'⟩, ?_⟩
  · obtain ⟨n, e⟩ := hpl
    exact ⟨n, k₆ D _ (notL D _ e (fun _ _ q => nomatch q)) e⟩
  · obtain ⟨xs, ⟨n, e⟩, _, hxs⟩ := hci.list
    refine ⟨xs, ⟨n, k₆ NL _ (notL NL _ e (fun _ _ q => nomatch q)) e⟩, fun v hv => ?_⟩
    obtain ⟨t, x, y, rfl, ⟨o, n', e', hc, hd⟩, hx, hy, hne⟩ := hxs v hv
    exact ⟨t, x, y, rfl, ⟨o, n', k₆ t o (notL t o e' (fun _ _ q => by rw [hd] at q; cases q)) e', hc, hd⟩, (uniqA_mem _ _).mp hx, (uniqA_mem _ _).mp hy, hne⟩
  · refine hT₅.keep fun b o hb e => k₆ b o ?_ e
    rcases hb with rfl | rfl | ⟨c2, P2, e2, hb⟩
    · omega
    · omega
    · obtain ⟨⟨o1, vs1, e1, d1, _⟩, ⟨ps1, e3⟩, _⟩ := hT₅.gets e2
      rcases hb with rfl | rfl
      · exact notL _ _ e1 (fun _ _ q => by rw [d1] at q; cases q)
      · exact notL _ _ e3 (fun _ _ q => nomatch q)
  · exact hTL₅.keep fun b o hb e => k₆ b o (by rcases hb with rfl | rfl <;> omega) e
  · refine htb.imp id fun ⟨h1, h3⟩ => ⟨h1, fun c2 P2 e => ?_⟩
    obtain ⟨h4, h5⟩ := h3 c2 P2 e
    have none_ : ∀ b : Nat, s₄.heap.get? b = none → s.heap.get? b = none := fun b hb => by
      cases q : s.heap.get? b with
      | none => rfl
      | some o =>
        by_cases h76 : b = 76
        · rw [h76, hTL₄.2.2] at hb; cases hb
        · rw [kk b o h76 q] at hb; cases hb
    exact ⟨none_ _ h4, none_ _ h5⟩
  · have m1 : Mv (43 :: tbP tb ++ [76, L, NL]) s s₄ := (k13.mv _).trans (kw₄.mv.mono fun b hb => by rw [List.mem_singleton.mp hb]; simp)
    have m2 : Mv (43 :: tbP tb ++ [76, L, NL]) s₄ s₅ := hmv.mono fun b hb => by
      simp only [List.nil_append, List.cons_append, List.mem_append, List.mem_cons, List.not_mem_nil, or_false] at hb ⊢
      rcases hb with hb | hb | hb <;> simp [hb]
    exact (m1.trans m2).trans ⟨h₆, _, _, rfl, fun b o hb e => k₆ b o (fun q => hb (by rw [q]; simp)) e, GR.refl _⟩
end
end Mine

namespace Mine

theorem uniqA_map (f : Int → Nat) : ∀ (ps acc : List Int), (∀ x y, (x ∈ ps ∨ x ∈ acc) → (y ∈ ps ∨ y ∈ acc) → f x = f y → x = y) →
    (ps.map f).foldl (fun acc k => if acc.any (· == k) then acc else acc ++ [k]) (acc.map f) = (ps.foldl (fun acc k => if acc.any (· == k) then acc else acc ++ [k]) acc).map f
  | [], acc, _ => rfl
  | a :: ps, acc, h => by
    rw [List.map_cons, List.foldl_cons, List.foldl_cons]
    have e : (acc.map f).any (· == f a) = acc.any (· == a) := by
      rw [Bool.eq_iff_iff, List.any_eq_true, List.any_eq_true]
      constructor
      · rintro ⟨x, hx, he⟩
        obtain ⟨y, hy, rfl⟩ := List.mem_map.mp hx
        exact ⟨y, hy, by have := h y a (.inr hy) (.inl (List.mem_cons_self ..)) (by simpa using he); simp [this]⟩
      · rintro ⟨x, hx, he⟩
        have : x = a := by simpa using he
        subst this
        exact ⟨f x, List.mem_map_of_mem hx, by simp⟩
    rw [e]
    cases acc.any (· == a) with
    | true => simp only [if_true]; exact uniqA_map f ps acc fun x y hx hy => h x y (hx.imp (List.mem_cons_of_mem _) id) (hy.imp (List.mem_cons_of_mem _) id)
    | false =>
      simp only [Bool.false_eq_true, if_false]
      have := uniqA_map f ps (acc ++ [a]) fun x y hx hy => h x y (by
        rcases hx with hx | hx
        · exact .inl (List.mem_cons_of_mem _ hx)
        · rcases List.mem_append.mp hx with hx | hx
          · exact .inr hx
          · rw [List.mem_singleton.mp hx]; exact .inl (List.mem_cons_self ..)) (by
        rcases hy with hx | hx
        · exact .inl (List.mem_cons_of_mem _ hx)
        · rcases List.mem_append.mp hx with hx | hx
          · exact .inr hx
          · rw [List.mem_singleton.mp hx]; exact .inl (List.mem_cons_self ..))
      rw [List.map_append] at this
      exact this

theorem uniqA_adr {ns : List Int} {pa : Nat → Nat} (hinj : ∀ j j', j < (szv ns).toNat → j' < (szv ns).toNat → pa j = pa j' → j = j') : uniqA (adr ns pa) = (orderL ns).map fun q => pa q.toNat := by
  have := uniqA_map (fun q : Int => pa q.toNat) (picksL ns) [] (fun x y hx hy e => by
    have hx' : x ∈ picksL ns := hx.elim id fun h => nomatch h
    have hy' : y ∈ picksL ns := hy.elim id fun h => nomatch h
    have h1 := picks_range ns x hx'
    have h2 := picks_range ns y hy'
    have := hinj x.toNat y.toNat (by omega) (by omega) e
    omega)
  exact this

theorem law_max {ns : List Int} {pa : Nat → Nat} (hinj : ∀ j j', j < (szv ns).toNat → j' < (szv ns).toNat → pa j = pa j' → j = j') {rl : Nat → Nat → Bool} {Re : Int → Int → Bool}
    (h : ∀ k h, k ∈ orderL ns → h ∈ orderL ns → rl (pa k.toNat) (pa h.toNat) = Re k h) :
    ((uniqA (adr ns pa)).filter (keepA rl (uniqA (adr ns pa)))).map Value.ref = refs pa (fil Re (orderL ns)) := by
  rw [uniqA_adr hinj]
  unfold fil refs
  have hf : ((orderL ns).map fun q => pa q.toNat).filter (keepA rl ((orderL ns).map fun q => pa q.toNat)) = ((orderL ns).filter fun k => !((orderL ns).filter (· != k)).any (Re k)).map fun q => pa q.toNat := by
    rw [List.filter_map]
    congr 1
    refine List.filter_congr fun k hk => ?_
    show keepA rl _ (pa k.toNat) = _
    unfold keepA
    congr 1
    rw [List.any_map, List.any_filter]
    rw [Bool.eq_iff_iff, List.any_eq_true, List.any_eq_true]
    have eqk : ∀ x, x ∈ orderL ns → (!(pa x.toNat == pa k.toNat)) = (x != k) := fun x hx => by
      have h1 := order_range ns x hx
      have h2 := order_range ns k hk
      by_cases e : x = k
      · subst e; simp
      · have : pa x.toNat ≠ pa k.toNat := fun q => e (by have := hinj x.toNat k.toNat (by omega) (by omega) q; omega)
        rw [beq_false_of_ne this]
        have : (x != k) = true := by simpa using e
        rw [this]; rfl
    constructor
    · rintro ⟨x, hx, hv⟩
      refine ⟨x, hx, ?_⟩
      simp only [Function.comp] at hv
      rw [eqk x hx, h k x hk hx] at hv; exact hv
    · rintro ⟨x, hx, hv⟩
      refine ⟨x, hx, ?_⟩
      simp only [Function.comp]
      rw [eqk x hx, h k x hk hx]; exact hv
  rw [hf, List.map_map]; rfl

theorem told_due {ns : List Int} {pa : Nat → Nat} (hinj : ∀ j j', j < (szv ns).toNat → j' < (szv ns).toNat → pa j = pa j' → j = j') : (told ns pa).map Value.ref = refs pa (fil (rel ns) (orderL ns)) :=
  law_max hinj fun k h hk hh => by
    have h1 := order_range ns k hk
    have h2 := order_range ns h hh
    rw [valOf_pa hinj (by omega), valOf_pa hinj (by omega)]; rfl
theorem least_due {ns : List Int} {pa : Nat → Nat} (hinj : ∀ j j', j < (szv ns).toNat → j' < (szv ns).toNat → pa j = pa j' → j = j') :
    ((uniqA (adr ns pa)).filter (keepA (fun x y => decide (valOf ns pa x < valOf ns pa y)) (uniqA (adr ns pa)))).map Value.ref = refs pa (fil (lss ns) (orderL ns)) :=
  law_max hinj fun k h hk hh => by
    have h1 := order_range ns k hk
    have h2 := order_range ns h hh
    rw [valOf_pa hinj (by omega), valOf_pa hinj (by omega)]; rfl

theorem refs_ref {pa : Nat → Nat} {ps : List Int} : ∀ v ∈ refs pa ps, ∃ a : Nat, v = .ref a := fun v hv => by
  obtain ⟨q, _, rfl⟩ := List.mem_map.mp hv
  exact ⟨_, rfl⟩
theorem fil_len (Re : Int → Int → Bool) (ns : List Int) : (fil Re (orderL ns)).length ≤ 8 := by
  have := npv_pos ns
  have h2 := uniq_length (picksL ns)
  have h4 : (orderL ns).length ≤ 8 := by unfold orderL; simp [picksL] at h2 ⊢; omega
  exact Nat.le_trans (List.length_filter_le ..) h4

variable {mg mb : Str → Option Value} {ns : List Int} {vs : List Value} {L l p T O R M : Nat} {pa : Nat → Nat}
section
variable {prog : Program} {w : World} {A : Around} {s : Shared}

theorem s_if10 {k : Nat} (hA : Room k A) (hk : k ≤ 20) (B : Base mg mb s.heap) (N : Names mg mb) {m : Str → Option Value} (hm : s.heap.Ns L m) {D E' : Nat} {its : Array Value} (h1 : m "told" = some (.ref D)) (h2 : m "due" = some (.ref E'))
    (hD : s.heap.IsList D its) (hE : s.heap.IsList E' its) (hr : ∀ v ∈ its.toList, ∃ a : Nat, v = .ref a) (hsz : its.size ≤ 1000) :
    wpAny (model prog w) A (exec (lst 10) (eL L)) (fun f s' => f = .next ∧ Kp s s') noE s := by
  refine wpAny_If (isTrue_not (isTrue_plain (same_call hA (by omega) B N (fun s₁ k₁ => (EvV.local_ (h₀ := s₁.heap) (hm.keeps k₁.sub) h1).go (Sub.refl _) fun v s₂ hv k₂ => (EvV.local_ (h₀ := s₂.heap) (hm.keeps (k₁.sub.trans k₂.sub)) h2).go (Sub.refl _) fun u s₃ hu k₃ => ?_))))
  have k13 := (k₁.trans k₂).trans k₃
  refine ⟨D, E', its, hv, hu, B.sub k13.sub, IsList.to hD k13.sub, IsList.to hE k13.sub, hr, hsz, fun s₄ k₄ => wpAny_truthy_bool ?_⟩
  simp only [Bool.not_true, Bool.false_eq_true, if_false]
  exact wpAny_execs_nil ⟨rfl, k13.trans k₄⟩
end
end Mine

namespace Mine

variable {mg mb : Str → Option Value} {ns : List Int} {vs : List Value} {L l p T O R M : Nat} {pa : Nat → Nat}
section
variable {prog : Program} {w : World} {A : Around} {s : Shared} {h₀ : Heap}

theorem any_is {k : Nat} (hA : Room k A) (N : Names mg mb) (B : Base mg mb h₀) {nm : Str} {c x0 : Nat} {scope : Scope} {cl : List (Str × Addr)} {pp pa' px pc pt pr pl pos : Pos} {as : List Nat} (hlen : as.length ≤ 1000)
    (hclos : closureFor scope (eL L) = pure cl) (S : CompShape false "x" scope cl) (hkn : ∀ n₂, (CE false scope cl "x" (eL L) n₂).kindOf nm = some .cell) (hck : ∀ n₂, (CE false scope cl "x" (eL L) n₂).cells.lookup nm = some c) (hkd : ∀ n₂, (CE false scope cl "x" (eL L) n₂).scope.kind = .function)
    (hd : (nm == ("__debug__" : Str)) = false) (hc : h₀.IsCell c (some (.ref x0))) (hrow : h₀.IsCell (L + 8) (some (.ref R))) (hR : h₀.IsList R (as.map Value.ref).toArray) (hl : ∀ a ∈ as, LstAt h₀ a) (hx : x0 ∈ as)
    (he : starEach [.ListComp (.Compare (.Name nm pa') [.Is] [.Name "x" px] pc) [⟨.Name "x" pt, .Name "row" pr, [], 0⟩] scope pl] (eL L) = [(false, eval (.ListComp (.Compare (.Name nm pa') [.Is] [.Name "x" px] pc) [⟨.Name "x" pt, .Name "row" pr, [], 0⟩] scope pl) (eL L))] := by rfl) :
    EvV prog w A (eL L) h₀ (.Call (.Name "any" pp) [.ListComp (.Compare (.Name nm pa') [.Is] [.Name "x" px] pc) [⟨.Name "x" pt, .Name "row" pr, [], 0⟩] scope pl] [] pos) (· = .bool true) := by
  have h1 : ((as.map fun a => x0 == a).any id) = true := by
    rw [List.any_map, List.any_eq_true]
    exact ⟨x0, hx, by simp⟩
  rw [← h1]
  refine EvV.anyL hA B N (fun s₂ hs₂ => ?_)
  have hsz : (as.map Value.ref).toArray.size = as.length := by simp
  refine wpAny_mono (lc_val (own := false) (T := fun _ j zs _ => zs = (as.take j).map fun a => Value.bool (x0 == a)) (n := (as.map Value.ref).toArray.size) hclos S ⟨fun _ _ => rfl, fun _ _ _ _ _ x _ => x, ?tn⟩ (by rw [sizeLine_eq]; omega)
    (src_list hA (EvV.cell (hrow.keeps hs₂)) (IsList.to hR hs₂))) (fun v s₃ q => ?_) fun _ _ q => q
  case tn =>
    intro n₃ N₁ j v zs s₄ hj hPv hTj hlen' hb' hsub₃ hsize
    obtain ⟨a, ha, rfl⟩ : ∃ a, as[j]? = some a ∧ v = .ref a := by
      have hPv : (as.map Value.ref).toArray[j]? = some v := hPv
      simp only [List.getElem?_toArray, List.getElem?_map] at hPv
      cases h : as[j]? with
      | none => rw [h] at hPv; cases hPv
      | some y => rw [h] at hPv; exact ⟨y, rfl, (Option.some.inj hPv).symm⟩
    have hsub := hs₂.trans hsub₃
    refine turn_plainV (P := (· = Value.bool (x0 == a))) (EvV.cmp (P₁ := (· = Value.ref x0)) (P₂ := (· = Value.ref a)) (EvV.cell (hc.keeps hsub) (hkd _) (hkn _) (hck _) hd) (EvV.bound hb' (hkd _)) (fun u v s₅ hs₅ hu hv => ?_)) (fun v h' hv _ => ?_)
    · subst hu hv
      have up : ∀ a, LstAt h₀ a → LstAt s₅.heap a := fun a ⟨o, e, r⟩ => ⟨o, hs₅ _ _ (hsub _ _ e), r⟩
      exact is_refs (up _ (hl x0 hx)) (up _ (hl a (List.mem_of_getElem? ha))) ⟨rfl, Kp.refl _⟩
    · rw [hTj, hv, List.take_add_one, ha]; simp
  obtain ⟨D, N₁, zs, rfl, hD, hDN, hpl, hTz, hsz', k₃⟩ := q
  refine ⟨D, rfl, ?_, k₃⟩
  have e : zs = ((as.map fun a => x0 == a).map Value.bool).toArray := by
    rw [List.map_map]
    have : zs.toList = (as.take (as.map Value.ref).toArray.size).map fun q => Value.bool (x0 == q) := hTz
    rw [hsz, List.take_length] at this
    rw [← Array.toArray_toList (xs := zs), this]; rfl
  rw [← e]; exact hpl.isList

set_option maxHeartbeats 1000000 in
theorem s_for11 {k : Nat} (hA : Room k A) (hk : k ≤ 20) (N : Names mg mb) (H : LawH mg mb ns vs L l p T O R M pa s.heap) {NL : Nat} (hn : s.heap.IsCell (L + 7) (some (.ref NL))) {xs : Array Value} (hNL : s.heap.PlainList NL xs)
    (hxs : ∀ v ∈ xs.toList, ∃ t x y : Nat, v = .ref t ∧ PairAt s.heap t x y ∧ x ∈ adr ns pa ∧ y ∈ adr ns pa ∧ x ≠ y) (ha : ∃ v, s.heap.IsCell (L + 5) v) (hb : ∃ v, s.heap.IsCell (L + 6) v) :
    wpAny (model prog w) A (exec (lst 11) (eL L)) (fun f s' => f = .next ∧ Kw [L + 5, L + 6] s s') noE s := by
  show wpAny _ _ (exec (.For (.Tuple [.Name "a" _, .Name "b" _] _ _) _ _ _ _) _) _ _ _
  refine wpAny_For (wpAny_mono (list_src2 (prog := prog) (w := w) (A := A) (env := eL L) (EvV.cell hn) hNL.isList) (fun xv s₁ h₁ => wpAny_mono h₁ (fun it s₂ h₂ => ?_) fun _ _ e => e) fun _ _ e => e) (fun _ => rfl)
  obtain ⟨I, rfl, k₂, hIit, hI⟩ := h₂
  have hIN : NL ≠ I := by obtain ⟨n, e⟩ := hNL; exact Nat.ne_of_lt (hI NL _ e)
  have W := Walks.list (prog := prog) (w := w) (A := A) hA.handled I NL hIN xs
  have hlt5 : L + 5 < I := by obtain ⟨v, o, e, _⟩ := ha; exact hI (L + 5) o e
  have hlt6 : L + 6 < I := by obtain ⟨v, o, e, _⟩ := hb; exact hI (L + 6) o e
  have n5 : NL ≠ L + 5 := fun q => by obtain ⟨v, o, e, d⟩ := ha; obtain ⟨n, e'⟩ := hNL; rw [← q, e'] at e; cases e; cases d
  have n6 : NL ≠ L + 6 := fun q => by obtain ⟨v, o, e, d⟩ := hb; obtain ⟨n, e'⟩ := hNL; rw [← q, e'] at e; cases e; cases d
  refine codeAny_forLoop_any (fun q s' => ∃ (h' : Heap) (tk : Tok) (i : Nat), s' = { s with heap := h', toks := tk } ∧ i ≤ xs.size ∧ q = xs.size + 1 - i ∧ h'.IsListIter I NL i ∧ h'.IsList NL xs ∧ (∃ v, h'.IsCell (L + 5) v) ∧ (∃ v, h'.IsCell (L + 6) v) ∧
    (∀ (b : Nat) o, b ≠ L + 5 → b ≠ L + 6 → s.heap.get? b = some o → h'.get? b = some o)) ?_ (xs.size + 1) ?_
  rotate_left
  · obtain ⟨h₂, tk₂, rfl, hk₂⟩ := k₂
    exact ⟨h₂, tk₂, 0, rfl, Nat.zero_le _, rfl, hIit, IsList.to hNL.isList hk₂, let ⟨v, c⟩ := ha; ⟨v, c.keeps hk₂⟩, let ⟨v, c⟩ := hb; ⟨v, c.keeps hk₂⟩, fun b o _ _ e => hk₂ b o e⟩
  rintro q s' ⟨h', tk, i, rfl, hi, rfl, hit, hlist, hca, hcb, hold⟩
  by_cases hlt : i < xs.size
  · refine W.item i _ _ _ hlt ⟨hit, hlist⟩ fun v h₃ tk₃ hPv hst₃ hk₃ => ?_
    obtain ⟨t, x, y, rfl, hP, hx, hy, hne⟩ := hxs v (Array.mem_toList_iff.mpr (Array.mem_of_getElem? hPv))
    have k₃ : ∀ (b : Nat) o, b ≠ I → h'.get? b = some o → h₃.get? b = some o := fun b o hb e => hk₃ b o (by rw [List.mem_singleton]; exact hb) e
    refine wpAny_letOwnedTupleGo_listiter hst₃.1 ?_
    obtain ⟨ot, nt, eot, hct, hdt⟩ := hP
    have ht5 : t ≠ L + 5 := fun q => by obtain ⟨v, o, e, d⟩ := ha; rw [q, e] at eot; cases eot; rw [d] at hdt; cases hdt
    have ht6 : t ≠ L + 6 := fun q => by obtain ⟨v, o, e, d⟩ := hb; rw [q, e] at eot; cases eot; rw [d] at hdt; cases hdt
    have htI : t ≠ I := Nat.ne_of_lt (hI t _ eot)
    have hT₃ : IsTup h₃ t #[.ref x, .ref y] := ⟨ot, k₃ t ot htI (hold t ot ht5 ht6 eot), hct, nt, hdt⟩
    refine assign_Tuple_tuple hA.handled hT₃ rfl rfl fun h₄ he => ?_
    have k₄ : ∀ (b : Nat) o, h₃.get? b = some o → h₄.get? b = some o := fun b o e => he b o (Nat.ne_of_lt (Heap.lt_size e)) e
    obtain ⟨va, hca⟩ := hca
    obtain ⟨vb, hcb⟩ := hcb
    have hca₄ : h₄.IsCell (L + 5) va := let ⟨o, e, d⟩ := hca; ⟨o, k₄ _ o (k₃ (L + 5) o (by omega) e), d⟩
    have hcb₄ : h₄.IsCell (L + 6) vb := let ⟨o, e, d⟩ := hcb; ⟨o, k₄ _ o (k₃ (L + 6) o (by omega) e), d⟩
    refine assignInOrder_cons (wpAny_assign_Name (wpAny_storeName_cell rfl rfl rfl hca₄ (fun h₅ hc₅ hs₅ => ?_)))
    refine assignInOrder_cons (wpAny_assign_Name (wpAny_storeName_cell rfl rfl rfl (hcb₄.sameBut hs₅ (show L + 6 ≠ L + 5 by omega)) (fun h₆ hc₆ hs₆ => ?_)))
    refine assignInOrder_nil ?_
    have hc₅' : h₆.IsCell (L + 5) (some (.ref x)) := hc₅.sameBut hs₆ (show L + 5 ≠ L + 6 by omega)
    have k₆ : ∀ (b : Nat) o, b ≠ L + 5 → b ≠ L + 6 → h₃.get? b = some o → h₆.get? b = some o := fun b o h5 h6 e => hs₆.extBut b o h6 (hs₅.extBut b o h5 (k₄ b o e))
    have hold₆ : ∀ (b : Nat) o, b ≠ L + 5 → b ≠ L + 6 → s.heap.get? b = some o → h₆.get? b = some o := fun b o h5 h6 e => k₆ b o h5 h6 (k₃ b o (Nat.ne_of_lt (hI b o e)) (hold b o h5 h6 e))
    have H₆ : LawH mg mb ns vs L l p T O R M pa h₆ := H.keep fun b o hbM h e => hold₆ b o (fun q => by
      obtain ⟨v, o', e', d'⟩ := ha
      obtain ⟨_, _, _, _, _, _, hL80, _⟩ := H.bd
      rcases h with h | ⟨xs', n, h⟩ | h
      · omega
      · rw [q, e'] at e; cases e; rw [d'] at h; cases h
      · simp only [List.mem_cons, List.not_mem_nil, or_false] at h; omega) (fun q => by
      obtain ⟨v, o', e', d'⟩ := hb
      obtain ⟨_, _, _, _, _, _, hL80, _⟩ := H.bd
      rcases h with h | ⟨xs', n, h⟩ | h
      · omega
      · rw [q, e'] at e; cases e; rw [d'] at h; cases h
      · simp only [List.mem_cons, List.not_mem_nil, or_false] at h; omega) e
    have hrl : h₆.IsList R ((adr ns pa).map Value.ref).toArray := by rw [adr_refs]; exact H₆.rowL
    have hlst : ∀ a ∈ adr ns pa, LstAt h₆ a := fun a ha => H₆.vals.lst a ((uniqA_mem _ _).mpr ha)
    have hl8 := adr_len ns pa
    refine wpNoE ?_
    refine wpAny_execs_cons (wpAny_If (isTrue_or (EvB.go (h₀ := h₆) (b := false) (EvB.cmp (P₁ := (· = Value.ref x)) (P₂ := (· = Value.ref y)) (EvV.cell hc₅') (EvV.cell hc₆) (fun u v s₇ hs₇ hu hv => ?_)) (Sub.refl _) fun s₇ k₇ => ?_)))
    · subst hu hv
      have up : ∀ a, LstAt h₆ a → LstAt s₇.heap a := fun a ⟨o, e, r⟩ => ⟨o, hs₇ _ _ e, r⟩
      refine is_refs (up _ (hlst x hx)) (up _ (hlst y hy)) ⟨?_, Kp.refl _⟩
      rw [beq_false_of_ne hne]
    rw [if_neg Bool.false_ne_true]
    refine isTrue_or (EvB.go (h₀ := h₆) (b := !true) (EvB.not (EvB.bool (any_is (nm := "a") (c := L + 5) (x0 := x) (as := adr ns pa) hA N H₆.base (by omega) rfl ⟨fun _ => rfl, fun _ => rfl, rfl, rfl, by decide⟩ (fun _ => rfl) (fun _ => rfl) (fun _ => rfl) (by decide) hc₅' H₆.row hrl hlst hx))) k₇.sub fun s₈ k₈ => ?_)
    rw [Bool.not_true, if_neg Bool.false_ne_true]
    refine isTrue_or (EvB.go (h₀ := h₆) (b := !true) (EvB.not (EvB.bool (any_is (nm := "b") (c := L + 6) (x0 := y) (as := adr ns pa) hA N H₆.base (by omega) rfl ⟨fun _ => rfl, fun _ => rfl, rfl, rfl, by decide⟩ (fun _ => rfl) (fun _ => rfl) (fun _ => rfl) (by decide) hc₆ H₆.row hrl hlst hy))) (k₇.sub.trans k₈.sub) fun s₉ k₉ => ?_)
    rw [Bool.not_true, if_neg Bool.false_ne_true]
    refine isTrue_or_nil ?_
    rw [if_neg Bool.false_ne_true]
    obtain ⟨h₉, tk₉, rfl, hk₉⟩ := (k₇.trans k₈).trans k₉
    have hit₆ : h₆.IsListIter I NL (i + 1) := hst₃.1.at fun o e => k₆ I o (by omega) (by omega) e
    have hls₆ : h₆.IsList NL xs := hst₃.2.at fun o e => k₆ NL o n5 n6 e
    exact wpAny_execs_nil (wpAny_execs_nil ⟨xs.size + 1 - (i + 1), by omega, h₉, tk₉, i + 1, rfl, hlt, rfl, hit₆.at fun o e => hk₉ _ o e, IsList.to hls₆ hk₉, ⟨_, hc₅'.keeps hk₉⟩, ⟨_, hc₆.keeps hk₉⟩, fun b o h5 h6 e => hk₉ b o (hold₆ b o h5 h6 e)⟩)
  · have hin : i = xs.size := by omega
    subst hin
    refine W.done _ _ _ ⟨hit, hlist⟩ fun h₃ tk₃ hk₃ => wpAny_execs_nil ⟨rfl, h₃, tk₃, rfl, fun b o hb e => hk₃ b o (by rw [List.mem_singleton]; exact Nat.ne_of_lt (hI b o e)) (hold b o (fun q => hb (by rw [q]; simp)) (fun q => hb (by rw [q]; simp)) e)⟩
end
end Mine

namespace Mine

variable {mg mb : Str → Option Value} {ns : List Int} {vs : List Value} {L l p T O R M : Nat} {pa : Nat → Nat}
section
variable {prog : Program} {w : World} {A : Around} {s : Shared}

/-- list(maximal(e)), the plain order -/
theorem lm_lt {k : Nat} (hA : Room k A) (hk : k ≤ 20) {fl : List Env} (hf : A.frames = some fl) (N : Names mg mb) (B : Base mg mb s.heap) {tb : Option (Nat × Nat)} (hT : TabF tb s.heap) {as0 : List Nat} {val : Nat → Int} (hV : Vals val (uniqA as0) s.heap) (hlen : as0.length ≤ 40) {e : Expr} {p1 p2 q1 q2 : Pos} {fp : List Addr}
    (he : ∀ s₂, Kp s s₂ → wpAny (model prog w) A (eval e (eL L)) (fun v s₃ => ∃ C : Nat, v = .ref C ∧ Kp s₂ s₃ ∧ (∀ b : Nat, b ∈ fp → 80 ≤ b) ∧ ∃ fp : List Addr, (∀ b : Nat, b ∈ fp → 80 ≤ b ∧ b < s₃.heap.objs.size) ∧ ∀ (A' : Around) (s' : Shared), Room (k + 1) A' → Sub s₃.heap s'.heap →
      wpAny (model prog w) A' (pyIter (.ref C)) (fun it s₂ => ∃ I : Nat, ∃ St, it = .ref I ∧ Kp s' s₂ ∧ ((∀ (b : Nat) o, s'.heap.get? b = some o → b < I) ∨ I ∈ ([] : List Addr)) ∧ Walks prog w A' I (I :: fp) [I] as0.length (fun i v => ∃ a, as0[i]? = some a ∧ v = .ref a) St ∧ St 0 s₂.heap) noE s') noE s₂)
    (h1 : starEach [e] (eL L) = [(false, eval e (eL L))]) (h2 : starEach [.Call (.Name "maximal" p2) [e] [] q2] (eL L) = [(false, eval (.Call (.Name "maximal" p2) [e] [] q2) (eL L))]) :
    wpAny (model prog w) A (eval (.Call (.Name "list" p1) [.Call (.Name "maximal" p2) [e] [] q2] [] q1) (eL L)) (fun v s' => ∃ (D : Nat) (acc : Array Value) (tb' : Option (Nat × Nat)), v = .ref D ∧ s'.heap.PlainList D acc ∧ acc.toList = ((uniqA as0).filter (keepA (fun x y => decide (val x < val y)) (uniqA as0))).map Value.ref ∧
      TabF tb' s'.heap ∧ (tb' = tb ∨ (tb = none ∧ ∀ c2 P2, tb' = some (c2, P2) → s.heap.get? c2 = none ∧ s.heap.get? P2 = none)) ∧ Mv (43 :: tbP tb) s s') noE s := by
  refine Call_Name1 ((EvV.boot (v := .type "list") B N (by decide) (by first | rfl | decide +kernel)).go (Sub.refl _) fun f s₁ hf₁ k₁ => ?_) h2
  subst hf₁
  refine PyProof.Rows.callWith_type rfl (Calls.evalArgs_plain (Calls.spliced_cons ?_))
  refine Call_Name1 ((EvV.glob (B.sub k₁.sub) N.maximal).go (Sub.refl _) fun f s₂ hf₂ k₂ => ?_) h1
  subst hf₂
  have k12 := k₁.trans k₂
  refine Calls.callWith_function (o := fobj (stm 3) (.ref 41) pmT (.ref 47)) (fd := fdM) (Calls.evalArgs_plain (Calls.spliced_cons (wpAny_mono (he s₂ k12) (fun v s₃ h₃ => Calls.spliced_nil ?_) fun _ _ e => e)))
  obtain ⟨C, rfl, k₃, _, fp, hfp, hsrc⟩ := h₃
  have k13 := k12.trans k₃
  have B₃ := B.sub k13.sub
  refine ⟨⟨B₃.f48, rfl⟩, ?_⟩
  have hV₃ : Vals val (uniqA as0) s₃.heap := fun a ha => let ⟨t, n, e⟩ := hV a ha; ⟨t, n, k13.sub _ _ e⟩
  have Cm := cmp_lt (prog := prog) (w := w) val (uniqA as0) [] s₃.heap.objs.size 40 (by omega) (fun a ha => ⟨by obtain ⟨t, n, e⟩ := hV₃ a ha; exact Heap.lt_size e, fun h => nomatch h⟩)
  refine wpAny_mono (list_maximal (mg := mg) (mb := mb) (args := ⟨[.ref C], []⟩) (itv := .ref C) (fx := []) (fp := fp) (as0 := as0) (tb := tb) (fl := fl) N Cm hlen hA hk (by omega) hf B₃ (hT.keep fun b o _ e => k13.sub b o e) hV₃ (fun h => h.elim) (fun h => h.elim) (fun b hb => nomatch hb)
    (fun b hb => nomatch hb) (BindsTo.of_defaults rfl B₃.d41 rfl rfl rfl) hsrc (fun b hb => nomatch hb) hfp
    (Q := fun v s' => ∃ (D : Nat) (acc : Array Value) (tb' : Option (Nat × Nat)), v = .ref D ∧ s'.heap.PlainList D acc ∧ acc.toList = ((uniqA as0).filter (keepA (fun x y => decide (val x < val y)) (uniqA as0))).map Value.ref ∧
      TabF tb' s'.heap ∧ (tb' = tb ∨ (tb = none ∧ ∀ c2 P2, tb' = some (c2, P2) → s.heap.get? c2 = none ∧ s.heap.get? P2 = none)) ∧ Mv (43 :: tbP tb) s s') (E := noE)
    (fun D s₅ tb' acc hpl hacc hflag hal hci hT₅ hnn htb hmv => ?_) (fun e s' he => (he.more (r' := fun _ => False) fun _ _ q => q.1).no.elim)) (fun v s₁ h => Calls.spliced_nil h) fun _ _ e => e
  refine ⟨D, acc, tb', rfl, hpl, hacc, hT₅, htb.imp id fun ⟨h1, h3⟩ => ⟨h1, fun c2 P2 e => ?_⟩, (k13.mv _).trans (hmv.mono fun b hb => by simpa using hb)⟩
  obtain ⟨h4, h5⟩ := h3 c2 P2 e
  have none_ : ∀ b : Nat, s₃.heap.get? b = none → s.heap.get? b = none := fun b hb => by
    cases q : s.heap.get? b with
    | none => rfl
    | some o => rw [k13.sub b o q] at hb; cases hb
  exact ⟨none_ _ h4, none_ _ h5⟩

/-- a walk over a tuple of refs -/
theorem src_tup {k : Nat} (hA : Room k A) {l : Nat} {as : List Nat} {s₀ : Shared} (hl : s₀.heap.IsTuple l (as.map Value.ref).toArray) {s' : Shared} (hs : Sub s₀.heap s'.heap) (bad : List Addr) :
    wpAny (model prog w) A (pyIter (.ref l)) (fun it s₂ => ∃ I : Nat, ∃ St, it = .ref I ∧ Kp s' s₂ ∧ ((∀ (b : Nat) o, s'.heap.get? b = some o → b < I) ∨ I ∈ bad) ∧ Walks prog w A I (I :: [l]) [I] as.length (fun i v => ∃ a, as[i]? = some a ∧ v = .ref a) St ∧ St 0 s₂.heap) noE s' := by
  have hl' : s'.heap.IsTuple l (as.map Value.ref).toArray := let ⟨o, e, r⟩ := hl; ⟨o, hs _ _ e, r⟩
  refine wpAny_pyIter_tuple hl' ?_
  have hne : l ≠ s'.heap.objs.size := by obtain ⟨o, e, _⟩ := hl'; exact Nat.ne_of_lt (Heap.lt_size e)
  have W := Walks.tuple (prog := prog) (w := w) (A := A) hA.handled s'.heap.objs.size l hne (as.map Value.ref).toArray
  have hn : (as.map Value.ref).toArray.size = as.length := by simp
  rw [hn] at W
  refine ⟨s'.heap.objs.size, _, rfl, Kp.mk fun b o e => Heap.get?_push_of_some _ e, .inl fun b o e => Heap.lt_size e, ⟨W.sub, W.frame, fun i s Q E hi st hQ => W.item i s Q E hi st fun v h' tk hv => hQ v h' tk ?_, W.done, W.self⟩, ⟨⟨_, Heap.get?_push_size _ rfl, rfl, rfl⟩, let ⟨o, e, r⟩ := hl'; ⟨o, Heap.get?_push_of_some _ e, r⟩⟩⟩
  simp only [List.getElem?_toArray, List.getElem?_map] at hv
  cases h : as[i]? with
  | none => rw [h] at hv; cases hv
  | some a => rw [h] at hv; exact ⟨a, rfl, (Option.some.inj hv).symm⟩

set_option maxHeartbeats 1000000 in
theorem s_if14 {k : Nat} (hA : Room k A) (hk : k ≤ 20) {fl : List Env} (hf : A.frames = some fl) (N : Names mg mb) (H : LawH mg mb ns vs L l p T O R M pa s.heap) {m : Str → Option Value} (hm : s.heap.Ns L m) (h2 : ∃ v, s.heap.IsCell (L + 2) v) {tb : Option (Nat × Nat)} (hT : TabF tb s.heap)
    {D : Nat} (hmD : m "least" = some (.ref D)) {ys : Array Value} (hD : s.heap.PlainList D ys) (hys : ys.toList = refs pa (fil (lss ns) (orderL ns))) :
    wpAny (model prog w) A (exec (lst 14) (eL L)) (fun f s' => f = .next ∧ (∃ tb', TabF tb' s'.heap ∧ (tb' = tb ∨ (tb = none ∧ ∀ c2 P2, tb' = some (c2, P2) → s.heap.get? c2 = none ∧ s.heap.get? P2 = none)) ∧ Mv (43 :: tbP tb) s s')) noE s := by
  have hl8 := adr_len ns pa
  have h80 := H.bd.2.2.2.2.2.2.1
  refine wpAny_If (isTrue_or (isTrue_not (isTrue_plain (same_call hA (by omega) H.base N (fun s₁ k₁ => ?_)))))
  have hT₁ : TabF tb s₁.heap := hT.keep fun b o _ e => k₁.sub b o e
  refine wpAny_mono (lm_lt (L := L) (fp := []) (as0 := adr ns pa) (val := valOf ns pa) hA hk hf N (H.base.sub k₁.sub) hT₁ (fun a ha => let ⟨t, n, e⟩ := H.vals a ha; ⟨t, n, k₁.sub _ _ e⟩) (by omega) (fun s₂ k₂ => ?_) rfl rfl) (fun v s₂ h₂ => ?_) fun _ _ e => e
  · -- tuple(row)
    have k12 := k₁.trans k₂
    refine Call_Name1 ((EvV.boot (h₀ := s₂.heap) (v := .type "tuple") (H.base.sub k12.sub) N (by decide) (by first | rfl | decide +kernel)).go (Sub.refl _) fun f s₃ hf₃ k₃ => ?_) rfl
    subst hf₃
    have k13 := k12.trans k₃
    refine PyProof.Rows.callWith_type rfl (Calls.evalArgs_plain (Calls.spliced_cons ((EvV.cell (h₀ := s₃.heap) (H.row.keeps k13.sub)).go (Sub.refl _) fun u s₄ hu k₄ => Calls.spliced_nil ?_)))
    subst hu
    have hRl : s₄.heap.IsList R ((adr ns pa).map Value.ref).toArray := by rw [adr_refs]; exact IsList.to H.rowL (k13.trans k₄).sub
    refine call_tuple_list hRl (fun h' hk' => ?_) (by rw [sizeLine_eq, List.size_toArray, List.length_map]; omega)
    have hsub : Sub s₄.heap (h'.push { cls := .type "tuple", data := .seq ((adr ns pa).map Value.ref).toArray }) := fun b o e => Heap.get?_push_of_some _ (hk' b o e)
    have hC80 : 80 ≤ (h'.objs.size : Nat) := by
      have : @LT.lt Nat _ 79 h'.objs.size := Heap.lt_size (hk' 79 _ ((k13.trans k₄).sub _ _ H.base.f79))
      omega
    refine ⟨h'.objs.size, rfl, (k₃.trans k₄).trans (Kp.mk (tk := s₄.toks) hsub), (fun b hb => nomatch hb), [h'.objs.size], fun b hb => ?_, fun A' s' hA' hs' => src_tup hA' ⟨_, Heap.get?_push_size _ rfl, rfl, _, rfl⟩ hs' []⟩
    rw [List.mem_singleton] at hb
    subst hb
    exact ⟨hC80, by show (h'.objs.size : Nat) < (h'.push _).objs.size; rw [Heap.size_push]; exact Nat.lt_succ_self _⟩
  obtain ⟨E₁, acc, tb₁, rfl, hpl, hacc, hT₂, htb, hmv⟩ := h₂
  have hw₁ : WOk M L (43 :: tbP tb ++ []) s.heap := WOk.tabs h80 (H.cells h2) hT WOk.nil
  have hmv₂ : Mv (43 :: tbP tb) s s₂ := (k₁.mv _).trans hmv
  have H₂ := H.keep ((by rw [List.append_nil] at hw₁; exact hw₁ : WOk M L (43 :: tbP tb) s.heap).keep hmv₂)
  have outP : ∀ (b : Nat), 80 ≤ b → (∀ c2 P2, tb = some (c2, P2) → b ≠ P2) → b ∉ 43 :: tbP tb := fun b hb h hm' => by
    rcases List.mem_cons.mp hm' with q | hm'
    · omega
    · cases tb with
      | none => cases hm'
      | some r =>
        obtain ⟨c2, P2⟩ := r
        exact h c2 P2 rfl (by simpa [tbP] using hm')
  have hm₂ : s₂.heap.Ns L m := hm.at' fun o e => hmv₂.keep L o (outP L h80 fun c2 P2 q q' => by
    obtain ⟨_, ⟨ps1, e3⟩, _⟩ := hT.gets q
    obtain ⟨o', es, ep, e', d', _⟩ := hm
    rw [← q', e'] at e3; cases e3; cases d') e
  have hD80 : (∀ c2 P2, tb = some (c2, P2) → D ≠ P2) := fun c2 P2 q q' => by
    obtain ⟨_, ⟨ps1, e3⟩, _⟩ := hT.gets q
    obtain ⟨n, e'⟩ := hD
    rw [← q', e'] at e3; cases e3
  have hD₂ : s₂.heap.IsList D ys := by
    refine hD.isList.at fun o e => hmv₂.keep D o (fun hm' => ?_) e
    rcases List.mem_cons.mp hm' with q | hm'
    · obtain ⟨ps', _, t2, _⟩ := hT
      obtain ⟨n, e'⟩ := hD
      rw [q, t2.2] at e'; cases e'
    · cases htbq : tb with
      | none => rw [htbq] at hm'; cases hm'
      | some r =>
        obtain ⟨c2, P2⟩ := r
        rw [htbq] at hm'
        exact hD80 c2 P2 htbq (by simpa [tbP] using hm')
  have hacc' : acc = ys := by
    rw [least_due H.poolAt.inj, ← hys] at hacc
    rw [← Array.toArray_toList (xs := acc), hacc, Array.toArray_toList]
  subst hacc'
  refine (EvV.local_ (h₀ := s₂.heap) hm₂ hmD).go (Sub.refl _) fun u s₃ hu k₃ => ?_
  have h8 := fil_len (lss ns) ns
  have hysz : acc.size ≤ 8 := by rw [← Array.length_toList, hys]; simp only [refs, List.length_map]; exact h8
  refine ⟨E₁, D, acc, rfl, hu, H₂.base.sub k₃.sub, IsList.to hpl.isList k₃.sub, IsList.to hD₂ k₃.sub, by rw [hys]; exact refs_ref, by omega, fun s₄ k₄ => wpAny_truthy_bool ?_⟩
  rw [Bool.not_true, if_neg Bool.false_ne_true]
  have k34 := k₃.trans k₄
  have H₄ := H₂.keep (KeepL.sub k34.sub)
  have hT₄ : TabF tb₁ s₄.heap := hT₂.keep fun b o _ e => k34.sub b o e
  refine isTrue_or (wpAny_isTrue_Compare1 (wpAny_mono (lm_lt (L := L) (fp := []) (as0 := []) (val := fun _ => 0) hA hk hf N H₄.base hT₄ (fun a ha => nomatch ha) (by decide) (fun s₅ k₅ => ?_) rfl rfl) (fun v s₅ h₅ => ?_) fun _ _ e => e))
  · refine List_ (Calls.spliced_nil (wpAny_newObj_type ?_))
    have hC80 : 80 ≤ (s₅.heap.objs.size : Nat) := by
      have : @LT.lt Nat _ 79 s₅.heap.objs.size := Heap.lt_size (k₅.sub _ _ H₄.base.f79)
      omega
    refine ⟨s₅.heap.objs.size, rfl, Kp.mk (tk := s₅.toks) fun b o e => Heap.get?_push_of_some _ e, (fun b hb => nomatch hb), [s₅.heap.objs.size], fun b hb => ?_, fun A' s' hA' hs' => src_refs (as := []) hA' ⟨_, Heap.get?_push_size _ rfl, rfl, _, rfl⟩ hs' []⟩
    rw [List.mem_singleton] at hb
    subst hb
    exact ⟨hC80, by show (s₅.heap.objs.size : Nat) < (s₅.heap.push _).objs.size; rw [Heap.size_push]; exact Nat.lt_succ_self _⟩
  obtain ⟨E₂, acc₂, tb₂, rfl, hpl₂, hacc₂, hT₅, htb₂, hmv₅⟩ := h₅
  refine List_ (Calls.spliced_nil (wpAny_newObj_type ?_))
  have hacc0 : acc₂ = ([] : List Value).toArray := by
    rw [← Array.toArray_toList (xs := acc₂), hacc₂]; rfl
  refine ke_ne_ints (xs := []) (ys := []) (ns := []) (ms := []) ?_ ⟨_, Heap.get?_push_size _ rfl, rfl, _, rfl⟩ .nil .nil ?_ (wpAny_truthy_bool ?_)
  · rw [← hacc0]; exact hpl₂.isList.push _
  · have := hA.units; show A.units + 64 < 9900; omega
  rw [show (!decide (([] : List Int) = [])) = false from rfl, if_neg Bool.false_ne_true]
  refine isTrue_or_nil ?_
  rw [if_neg Bool.false_ne_true]
  have none_ : ∀ b : Nat, s₄.heap.get? b = none → b ∉ 43 :: tbP tb → s.heap.get? b = none := fun b hb hn => by
    cases q : s.heap.get? b with
    | none => rfl
    | some o => rw [k34.sub _ _ (hmv₂.keep b o hn q)] at hb; cases hb
  refine wpAny_execs_nil ⟨rfl, tb₂, hT₅.keep fun b o _ e => Heap.get?_push_of_some _ e, ?_, ?_⟩
  · have f1 : ∀ c2 P2, tb = none → tb₁ = some (c2, P2) → s.heap.get? c2 = none ∧ s.heap.get? P2 = none := fun c2 P2 h1 h3 => by
      rcases htb with q | ⟨_, q⟩
      · rw [q, h1] at h3; cases h3
      · obtain ⟨q1, q2⟩ := q c2 P2 h3
        have n1 : ∀ b : Nat, s₁.heap.get? b = none → s.heap.get? b = none := fun b hb => by
          cases z : s.heap.get? b with
          | none => rfl
          | some o => rw [k₁.sub b o z] at hb; cases hb
        exact ⟨n1 _ q1, n1 _ q2⟩
    have ht0 : tb₁ = none → tb = none := fun q => by
      rcases htb with h | ⟨h, _⟩
      · rw [← h]; exact q
      · exact h
    rcases htb₂ with q | ⟨q, q3⟩
    · rcases htb with h | ⟨h, _⟩
      · exact .inl (q.trans h)
      · exact .inr ⟨h, fun c2 P2 e => f1 c2 P2 h (q ▸ e)⟩
    · refine .inr ⟨ht0 q, fun c2 P2 e => ?_⟩
      obtain ⟨q1, q2⟩ := q3 c2 P2 e
      obtain ⟨_, _, g1, g2⟩ := hT₅.gets e
      rw [ht0 q] at none_
      have nin : ∀ b : Nat, 80 ≤ b → b ∉ 43 :: tbP none := fun b hb hm' => by
        have : b = 43 := by simpa [tbP] using hm'
        omega
      exact ⟨none_ _ q1 (nin _ g1), none_ _ q2 (nin _ g2)⟩
  · have m1 : Mv ((43 :: tbP tb) ++ (43 :: tbP tb₁)) s s₅ := ((hmv₂.mono fun b hb => List.mem_append_left _ hb).trans (k34.mv _)).trans (hmv₅.mono fun b hb => List.mem_append_right _ hb)
    refine (m1.drop fun b hb => ?_).trans ⟨_, s₅.toks, s₅.gens, rfl, fun b o _ e => Heap.get?_push_of_some _ e, GR.refl _⟩
    rcases List.mem_append.mp hb with hb | hb
    · exact .inl hb
    · rcases List.mem_cons.mp hb with hb | hb
      · exact .inl (List.mem_cons.mpr (.inl hb))
      · rcases htb with h | ⟨h, h3⟩
        · rw [h] at hb; exact .inl (List.mem_cons_of_mem _ hb)
        · right
          cases hq : tb₁ with
          | none => rw [hq] at hb; cases hb
          | some r =>
            obtain ⟨c2, P2⟩ := r
            rw [hq] at hb
            have hbq : b = P2 := by simpa [tbP] using hb
            subst hbq
            have := (h3 c2 b hq).2
            cases z : s.heap.get? b with
            | none => rfl
            | some o => rw [k₁.sub b o z] at this; cases this
end
end Mine

namespace Mine

theorem code_not_tbl {o : Obj} {vs : Array Value} {q : Str} {t : Tok} (d : o.data = .fields vs) (v : vs[1]? = some (.str q t)) : ¬ TblO o := fun ⟨ws, e', ht⟩ => by
  rw [d] at e'; cases e'
  have hv : vs.toList[1]? = some (.str q t) := by simpa using v
  cases hl : vs.toList with
  | nil => rw [hl] at hv; cases hv
  | cons a l1 =>
    rw [hl] at hv ht
    cases l1 with
    | nil => cases hv
    | cons b l2 =>
      simp at hv; subst hv
      cases a <;> simp [TriplesOk] at ht

/-- what _law_raises reads -/
structure RaI (mg mb : Str → Option Value) (as : List Nat) (h : Heap) : Prop where
  g : h.Ns mainGlobals mg
  b : h.Ns builtinsNs mb
  nl : h.NoLimit
  f : h.get? 62 = some (fobj (stm 6) .none pmL (.ref 61))
  c : h.CodeRec (.ref 61) "_law_raises"
  items : ∀ a ∈ as, LstAt h a

theorem RaI.keep {mg mb : Str → Option Value} {as : List Nat} {h h' : Heap} {nR : Nat} {bad : List Addr} (x : RaI mg mb as h) (h80 : 80 ≤ nR) (hbad : ∀ b : Nat, b ∈ bad → 80 ≤ b) (has : ∀ a ∈ as, a < nR ∧ a ∉ bad)
    (k : ∀ (b : Nat) o, b < nR → ¬ TblO o → b ∉ bad → h.get? b = some o → h'.get? b = some o) : RaI mg mb as h' := by
  have lo : ∀ (b : Nat), b < 80 → b < nR ∧ b ∉ bad := fun b hb => ⟨by omega, fun hm => by have := hbad b hm; omega⟩
  have ns : ∀ (a : Nat) m, a < 80 → h.Ns a m → h'.Ns a m := fun a m ha hn => hn.at' fun o e => k a o (lo a ha).1 (by obtain ⟨o', es, ep, e', d', _⟩ := hn; rw [e'] at e; cases e; exact not_tbl_dict d') (lo a ha).2 e
  refine ⟨ns _ _ (by decide) x.g, ns _ _ (by decide) x.b, let ⟨mc, hn, e⟩ := x.nl; ⟨mc, ns cStatics _ (by decide) hn, e⟩, k 62 _ (lo 62 (by decide)).1 (fun ⟨vs, e, _⟩ => nomatch e) (lo 62 (by decide)).2 x.f, ?_, fun a ha => ?_⟩
  · obtain ⟨c, o, vs, t, ec, e, d, v⟩ := x.c
    cases ec
    exact ⟨61, o, vs, t, rfl, k 61 o (lo 61 (by decide)).1 (code_not_tbl d v) (lo 61 (by decide)).2 e, d, v⟩
  · obtain ⟨o, e, c, xs, n, d⟩ := x.items a ha
    exact ⟨o, k a o (has a ha).1 (not_tbl_list d) (has a ha).2 e, c, xs, n, d⟩

def fdR : FuncData := fdOf (stm 6) .none pmL (.ref 61)
def bodyR : List Stmt := match stm 6 with | .FunctionDef _ _ b .. => b | _ => []

variable {mg mb : Str → Option Value}
section
variable {prog : Program} {w : World} {A : Around} {s : Shared}

theorem funFr_hide {n : Nat} : ∀ {l : List Env} {h : Heap} {as : List Addr}, FunFr n l h → (∀ b ∈ frs l, b ∈ as) → h.FunFrames (hideAll h as) l
  | [], _, _, _, _ => trivial
  | env :: l, h, as, x, ha => by
    obtain ⟨h1, L, m, h2, h3, h4⟩ := x env (List.mem_cons_self ..)
    obtain ⟨o, es, ep, e, d, _⟩ := h4
    have hm : L ∈ frs (env :: l) := List.mem_filterMap.mpr ⟨env, List.mem_cons_self .., h2⟩
    exact ⟨h1, ⟨L, o, h2, hideAll_none _ (ha L hm), e, fun vs q => by rw [d] at q; cases q⟩, funFr_hide (fun e' he => x e' (List.mem_cons_of_mem _ he)) fun b hb => ha b (by
      obtain ⟨e', he', hf⟩ := List.mem_filterMap.mp hb
      exact List.mem_filterMap.mpr ⟨e', List.mem_cons_of_mem _ he', hf⟩)⟩

theorem raise_go {k : Nat} (hA : Room k A) (hk : k ≤ 40) {l : List Env} (hf : A.frames = some l) (N : Names mg mb) {as : List Nat} {x y : Nat} (I : RaI mg mb as s.heap) (hfr : ∃ n, FunFr n l s.heap) {Q : Value → Shared → Prop} :
    wpAny (model prog w) A (call (.ref 62) [.ref x, .ref y]) Q (ErV (fun _ => True) l (frs l) [] s) s := by
  obtain ⟨n, hfr⟩ := hfr
  refine wpAny_call (codeAny_call_def (fd := fdR) (body := bodyR) (hA.room (by omega)) I.f rfl I.nl I.c rfl (BindsTo.of_eq (binds := [("one", .ref x), ("other", .ref y)]) rfl) (by decide) (locs rfl) fun h₁ hn₁ k₁ => ?_)
  have hAd : Room (k + 1) (A.deeper (callEnv fdR s.heap.objs.size 62)) := hA.deeper _
  have hfd : (A.deeper (callEnv fdR s.heap.objs.size 62)).frames = some (callEnv fdR s.heap.objs.size 62 :: l) := by
    show A.frames.map _ = _
    rw [hf]; rfl
  refine wpAny_execs_cons ?_
  show wpAny _ _ (exec (.Raise (some (.Call (.Name "ValueError" _) [.Constant (.str _) _ _] [] _)) none _) _) _ _ _
  refine Raise_madeB PySem.F.excCall_ValueError PySem.F.excRaise_ValueError hAd.handled ?_
  refine Calls.Name_function_global rfl rfl (Calls.loadGlobal_builtin (I.g.keeps k₁) (N.gone _ (by decide)) (I.b.keeps k₁) (by rw [N.built _ (by decide)]; exact (by first | rfl | decide +kernel : bootBuiltins "ValueError" = some (.type "ValueError"))) ⟨rfl, ?_⟩)
  refine Calls.spliced_cons (wpAny_Constant_str (k := 0) (pos := default) (Calls.spliced_nil ⟨by rw [sizeLine_eq]; exact (show 1 ≤ 16777216 by decide), fun h₂ e hx => ?_⟩))
  have hfr₁ : FunFr (n + s.heap.objs.size + 1) (callEnv fdR s.heap.objs.size 62 :: l) h₁ := by
    intro env he
    rcases List.mem_cons.mp he with rfl | he
    · exact ⟨show (ScopeKind.function ≠ .module) by decide, s.heap.objs.size, _, rfl, by omega, hn₁⟩
    · obtain ⟨g1, F, m, g2, g3, g4⟩ := hfr env he
      exact ⟨g1, F, m, g2, by omega, g4.keeps k₁⟩
  refine wpAny_leaves_madeW (base := hideAll h₁ (frs (callEnv fdR s.heap.objs.size 62 :: l))) (h := h₁) hfd rfl (fun b o e => of_hideAll _ e) (funFr_hide hfr₁ fun b hb => hb) hx.of (fun h₃ t hF _ _ hU => ?_)
  refine ⟨_, e, .ref t, h₃, _, _, trivial, rfl, rfl, GR.refl _, hF, (fun b o hb e' => hideAll_get _ (k₁ b o e') fun hm => ?_), fun b o _ e' hd => hU b o (hx.keeps b o (k₁ b o e')) hd⟩
  have hm' : b ∈ s.heap.objs.size :: frs l := hm
  rcases List.mem_cons.mp hm' with q | hm'
  · exact absurd (Heap.lt_size e') (by rw [q]; exact Nat.lt_irrefl _)
  · exact hb hm'

theorem cmp_raise (N : Names mg mb) (as : List Nat) (bad : List Addr) (nR kc : Nat) (hkc : kc ≤ 40) (h80 : 80 ≤ nR) (hbad : ∀ b : Nat, b ∈ bad → 80 ≤ b) (has : ∀ a ∈ as, a < nR ∧ a ∉ bad) :
    Cmp prog w (.ref 62) as (fun _ _ => false) False (fun _ h => RaI mg mb as h) [] bad nR kc True where
  callable := fun _ _ x => .inl ⟨62, _, _, rfl, x.f, rfl⟩
  go := fun A' l hA' hl c x y s hc hx hy hne hci hfr => raise_go hA' hkc hl N hci (hfr trivial)
  stable := fun c h h' x k => x.keep h80 hbad has fun b o h1 h2 h3 e => k b o (.inl ⟨h1, h2, h3⟩) e
  stable0 := fun h h' x k => x.keep h80 hbad has k
  mono := fun _ _ _ _ x => x
  items := fun _ _ x => x.items
  low := fun b hb => nomatch hb
  rw := fun _ => rfl
end
end Mine

namespace Mine

variable {mg mb : Str → Option Value} {ns : List Int} {vs : List Value} {L l p T O R M : Nat} {pa : Nat → Nat}
section
variable {prog : Program} {w : World} {A : Around} {s : Shared}

theorem call_iter_list {l : Nat} {its : Array Value} {Q : Value → Shared → Prop} {E : Value → Shared → Prop} (hl : s.heap.IsList l its)
    (h : ∀ h' : Heap, (∀ (b : Nat) o, s.heap.get? b = some o → h'.get? b = some o) → h'.IsListIter s.heap.objs.size l 0 → Q (.ref s.heap.objs.size) { s with heap := h' }) :
    wpAny (model prog w) A (call (.builtin "iter") [.ref l]) Q E s := by
  refine Calls.call_function_entry (by decide +kernel) (by decide +kernel) kdk_entry_iter (kdk_args_iter _) ?_
  unfold Builtin.«iter»
  refine wpAny_bind (m := someArgs "iter" 1 2 _) (wpAny_of_eq (a := [Value.ref l]) (by first | rfl | kernel_rfl!) ?_)
  show wpAny _ _ (pyIter (.ref l) >>= _) _ _ _
  refine wpAny_bind (wpAny_pyIter_list hl ?_)
  exact wpAny_pure ⟨_, rfl, h _ (fun b o e => Heap.get?_push_of_some _ e) ⟨_, Heap.get?_push_size _ rfl, rfl, rfl⟩⟩

/-- nothing is asked of one object alone -/
theorem cmp_one (as : List Nat) (bad : List Addr) (nR kc : Nat) (h1 : as.length ≤ 1) (has : ∀ a ∈ as, a < nR ∧ a ∉ bad) {a : Nat} {fd : FuncData} (ha : a < nR ∧ a ∉ bad) :
    Cmp prog w (.ref a) as (fun _ _ => false) True (fun _ h => (∃ o, h.get? a = some o ∧ o.data = .func fd) ∧ ∀ a ∈ as, LstAt h a) [] bad nR kc False where
  callable := fun _ _ x => let ⟨o, e, d⟩ := x.1; .inl ⟨a, fd, o, rfl, e, d⟩
  go := fun A' l hA' hl c x y s hc hx hy hne hci hfr => by
    exfalso
    cases as with
    | nil => cases hx
    | cons z r =>
      cases r with
      | cons z2 r2 => simp at h1
      | nil =>
        rw [List.mem_singleton] at hx hy
        exact hne (hx.trans hy.symm)
  stable := fun c h h' x k => ⟨let ⟨o, e, d⟩ := x.1; ⟨o, k a o (.inl ⟨ha.1, (fun ⟨vs, q, _⟩ => by rw [d] at q; cases q), ha.2⟩) e, d⟩, fun b hb => let ⟨o, e, c, xs, n, d⟩ := x.2 b hb; ⟨o, k b o (.inl ⟨(has b hb).1, not_tbl_list d, (has b hb).2⟩) e, c, xs, n, d⟩⟩
  stable0 := fun h h' x k => ⟨let ⟨o, e, d⟩ := x.1; ⟨o, k a o ha.1 (fun ⟨vs, q, _⟩ => by rw [d] at q; cases q) ha.2 e, d⟩, fun b hb => let ⟨o, e, c, xs, n, d⟩ := x.2 b hb; ⟨o, k b o (has b hb).1 (not_tbl_list d) (has b hb).2 e, c, xs, n, d⟩⟩
  mono := fun _ _ _ _ x => x
  items := fun _ _ x => x.2
  low := fun b hb => nomatch hb
  rw := fun h => h.elim

theorem keepA_false (as : List Nat) : as.filter (keepA (fun _ _ => false) as) = as := by
  rw [List.filter_eq_self]
  intro x hx
  unfold keepA
  simp

set_option maxHeartbeats 1000000 in
/-- list(maximal(iter(row), _law_raises)): one object goes through, two do not -/
theorem lm_raise {k : Nat} (hA : Room k A) (hk : k ≤ 20) {fl : List Env} (hf : A.frames = some fl) (N : Names mg mb) (B : Base mg mb s.heap) {tb : Option (Nat × Nat)} (hT : TabF tb s.heap) {as0 : List Nat} (hlen : as0.length ≤ 40) (h1 : 1 ≤ (uniqA as0).length) (hLs : ∀ a ∈ uniqA as0, LstAt s.heap a)
    {C I : Nat} (hC : s.heap.IsList C (as0.map Value.ref).toArray) (hI : s.heap.IsListIter I C 0) (hI80 : 80 ≤ I) (hC80 : 80 ≤ C) (hFr : FunFr s.heap.objs.size fl s.heap)
    {Q : Value → Shared → Prop} {E : Value → Shared → Prop}
    (hQ : ∀ D s' tb', (uniqA as0).length = 1 → TabF tb' s'.heap → (tb' = tb ∨ (tb = none ∧ ∀ c2 P2, tb' = some (c2, P2) → s.heap.get? c2 = none ∧ s.heap.get? P2 = none)) → Mv (I :: 43 :: tbP tb) s s' → Q (.ref D) s')
    (hX : ∀ e s', 2 ≤ (uniqA as0).length → ErV (ErT True tb) fl (I :: (frs fl ++ 43 :: tbP tb)) (I :: 43 :: tbP tb) s e s' → E e s') :
    wpAny (model prog w) A (call (.ref 48) [.ref I, .ref 62]) (fun v s₁ => wpAny (model prog w) A (call (.type "list") [v]) Q E s₁) E s := by
  have hIo : ∃ o, s.heap.get? I = some o ∧ o.cls = .type "list_iterator" ∧ ∃ vs, o.data = .fields vs := by
    obtain ⟨o, e, c, d⟩ := hI; exact ⟨o, e, c, _, d⟩
  obtain ⟨oI, eI, cI, vI, dI⟩ := hIo
  have hIlt : @LT.lt Nat _ I s.heap.objs.size := Heap.lt_size eI
  have hbad : ∀ b : Nat, b ∈ [I] → 80 ≤ b ∧ b < s.heap.objs.size ∧ b ∉ frs fl ∧ ∀ c2 P2, tb = some (c2, P2) → b ≠ c2 ∧ b ≠ P2 := fun b hb => by
    rw [List.mem_singleton] at hb
    subst hb
    refine ⟨hI80, hIlt, fun hm => ?_, fun c2 P2 e => ?_⟩
    · obtain ⟨env, he, hfe⟩ := List.mem_filterMap.mp hm
      obtain ⟨_, F, m, g2, _, g4⟩ := hFr env he
      rw [g2] at hfe; cases hfe
      obtain ⟨o', es, ep, e', d', _⟩ := g4
      rw [eI] at e'; cases e'; rw [dI] at d'; cases d'
    · obtain ⟨⟨o1, vs1, e1, d1, c1⟩, ⟨ps1, e3⟩, _⟩ := hT.gets e
      refine ⟨fun q => ?_, fun q => ?_⟩
      · rw [← q, eI] at e1; cases e1; rw [cI] at c1; exact absurd c1 (by decide)
      · rw [← q, eI] at e3; cases e3; exact absurd cI (by show ¬ (Value.none = Value.type "list_iterator"); decide)
  have hasb : ∀ a ∈ uniqA as0, a < s.heap.objs.size ∧ a ∉ [I] := fun a ha => by
    obtain ⟨o, e, c, xs, n, d⟩ := hLs a ha
    refine ⟨Heap.lt_size e, fun hm => ?_⟩
    rw [List.mem_singleton.mp hm, eI] at e; cases e; rw [dI] at d; cases d
  have hbind : BindsTo s fdM ⟨[.ref I, .ref 62], []⟩ [("iterable", .ref I), ("comparison", .ref 62)] := BindsTo.of_defaults rfl B.d41 rfl rfl rfl
  have hsrc : ∀ (A' : Around) (s' : Shared), Room (k + 1) A' → Sub s.heap s'.heap → wpAny (model prog w) A' (pyIter (.ref I)) (fun it s₂ => ∃ I' : Nat, ∃ St, it = .ref I' ∧ Kp s' s₂ ∧ ((∀ (b : Nat) o, s'.heap.get? b = some o → b < I') ∨ I' ∈ [I]) ∧ Walks prog w A' I' (I' :: [C]) [I'] as0.length (fun i v => ∃ a, as0[i]? = some a ∧ v = .ref a) St ∧ St 0 s₂.heap) noE s' := by
    intro A' s' hA' hs'
    have hI' : s'.heap.IsListIter I C 0 := hI.at fun o e => hs' _ _ e
    refine wpAny_pyIter_listiter hI' ?_
    have hne : C ≠ I := fun q => by
      obtain ⟨o, e, c, n, d⟩ := hC
      rw [q, eI] at e; cases e; rw [dI] at d; cases d
    have W := Walks.list (prog := prog) (w := w) (A := A') hA'.handled I C hne (as0.map Value.ref).toArray
    have hn : (as0.map Value.ref).toArray.size = as0.length := by simp
    rw [hn] at W
    refine ⟨I, _, rfl, Kp.refl _, .inr (by simp), ⟨W.sub, W.frame, fun i s Q E hi st hQ => W.item i s Q E hi st fun v h' tk hv => hQ v h' tk ?_, W.done, W.self⟩, ⟨hI', IsList.to hC hs'⟩⟩
    simp only [List.getElem?_toArray, List.getElem?_map] at hv
    cases h : as0[i]? with
    | none => rw [h] at hv; cases hv
    | some a => rw [h] at hv; exact ⟨a, rfl, (Option.some.inj hv).symm⟩
  have hfpb : ∀ b : Nat, b ∈ [C] → 80 ≤ b ∧ b < s.heap.objs.size := fun b hb => by
    rw [List.mem_singleton.mp hb]
    exact ⟨hC80, by obtain ⟨o, e, _⟩ := hC; exact Heap.lt_size e⟩
  have h62 : (62 : Nat) < s.heap.objs.size ∧ 62 ∉ [I] := by
    refine ⟨Heap.lt_size B.f62, fun hm => ?_⟩
    have : 62 = I := by simpa using hm
    omega
  have wsub : ∀ b ∈ [I] ++ ([] : List Addr) ++ 43 :: tbP tb, b ∈ I :: 43 :: tbP tb := fun b hb => by simpa using hb
  by_cases h2 : 2 ≤ (uniqA as0).length
  · have Cm := cmp_raise (prog := prog) (w := w) N (uniqA as0) [I] s.heap.objs.size 40 (by omega) B.size (fun b hb => (hbad b hb).1) hasb
    refine list_maximal (mg := mg) (mb := mb) (args := ⟨[.ref I, .ref 62], []⟩) (itv := .ref I) (fx := frs fl) (fp := [C]) (as0 := as0) (tb := tb) (fl := fl) N Cm hlen hA hk (by omega) hf B hT ⟨B.g, B.b, B.nl, B.f62, B.c61, hLs⟩ (fun _ => hFr) (fun _ b hb => hb) (fun b hb => ?_)
      (fun b hb => nomatch hb) hbind hsrc hbad hfpb (fun D s₅ tb' acc hpl hacc hflag hal hci hT₅ hnn htb hmv => ?_) (fun e s' he => hX e s' h2 (he.lift (Mv.refl [] s) (fun b hb => .inl ?_) fun b hb => .inl ?_))
    · obtain ⟨env, he, hfe⟩ := List.mem_filterMap.mp hb
      obtain ⟨_, F, m, g2, g3, _⟩ := hFr env he
      rw [g2] at hfe; cases hfe; exact g3
    · rw [keepA_false] at hacc
      exact (hflag (by rw [hacc]; intro q; have := congrArg List.length q; simp at this; rw [this] at h1; exact absurd h1 (by decide)) h2).elim
    · rcases hb with hb | hb
      · cases hb
      · simp only [List.mem_append, List.mem_cons, List.not_mem_nil, or_false] at hb ⊢
        rcases hb with (hb | hb) | hb | hb <;> simp [hb]
    · rcases hb with hb | hb
      · cases hb
      · exact wsub b hb
  · have Cm := cmp_one (prog := prog) (w := w) (uniqA as0) [I] s.heap.objs.size 40 (by omega) hasb (a := 62) (fd := fdR) h62
    exact list_maximal (mg := mg) (mb := mb) (args := ⟨[.ref I, .ref 62], []⟩) (itv := .ref I) (fx := []) (fp := [C]) (as0 := as0) (tb := tb) (fl := fl) N Cm hlen hA hk (by omega) hf B hT ⟨⟨_, B.f62, rfl⟩, hLs⟩ (fun h => h.elim) (fun h => h.elim) (fun b hb => nomatch hb)
      (fun b hb => nomatch hb) hbind hsrc hbad hfpb (fun D s₅ tb' acc hpl hacc hflag hal hci hT₅ hnn htb hmv => hQ D s₅ tb' (by omega) hT₅ htb (hmv.mono wsub)) (fun e s' he => (he.more (r' := fun _ => False) fun _ _ q => q.1).no.elim)
end
end Mine

namespace Mine

def lam2E : Expr := match lst 12 with | .If (.Compare _ _ [.Call _ [e] _ _] _) _ _ _ => e | _ => .Constant .none 0 default
def lam2P : Arguments := match lam2E with | .Lambda p _ _ _ => p | _ => default
def lam2B : Expr := match lam2E with | .Lambda _ b _ _ => b | _ => default
def lam2S : Scope := match lam2E with | .Lambda _ _ s _ => s | _ => default
def lam2Pos : Pos := match lam2E with | .Lambda _ _ _ p => p | _ => default
def lam2C (L : Nat) : List (Str × Addr) := match closureFor lam2S (eL L) with | .pure l => l | _ => []

variable {mg mb : Str → Option Value} {ns : List Int} {vs : List Value} {L l p T O R M : Nat} {pa : Nat → Nat}

/-- what a refused deed leaves, told from s -/
def RefPost (tb : Option (Nat × Nat)) (wr : List Addr) (s s' : Shared) : Prop :=
  ∃ (h' : Heap) (tk : Tok) (g' : Array GenState), s' = { s with heap := h', toks := tk, gens := g' } ∧ GR s.gens g' ∧ (∀ (b : Nat) o, b ∉ wr → s.heap.get? b = some o → h'.get? b = some o) ∧
    (∀ (b : Nat) o, b ∉ 43 :: tbP tb → s.heap.get? b = some o → (∀ vs, o.data ≠ .fields vs) → ∃ sl, h'.get? b = some { o with slots := sl }) ∧ ∃ tb', TabF tb' h' ∧ (tb = none ∨ tb' = tb)

section
variable {prog : Program} {w : World} {A : Around} {s : Shared}

set_option maxHeartbeats 1000000 in
theorem lam2_call {k : Nat} (hA : Room k A) (hk : k ≤ 15) {fl : List Env} (hf : A.frames = some fl) (N : Names mg mb) (H : LawH mg mb ns vs L l p T O R M pa s.heap) {tb : Option (Nat × Nat)} (hT : TabF tb s.heap) (hFr : FunFr s.heap.objs.size fl s.heap)
    {f c' : Nat} {pm ctv : Value} (hfn : s.heap.get? f = some (kla_obj "<lambda>" ((eL L).qual ++ "<lambda>") lam2P lam2B lam2S (lam2C L) pm c' ctv)) (hcr : s.heap.CodeRec (.ref c') ((eL L).qual ++ "<lambda>")) (h1 : 1 ≤ (uniqA (adr ns pa)).length) (hR80 : 80 ≤ R)
    {Q : Value → Shared → Prop} {E : Value → Shared → Prop}
    (hQ : ∀ v s', (uniqA (adr ns pa)).length = 1 → (∃ tb', TabF tb' s'.heap ∧ (tb = none ∨ tb' = tb)) → Mv (43 :: tbP tb) s s' → Q v s')
    (hX : ∀ e s', 2 ≤ (uniqA (adr ns pa)).length → ErV (ErT True tb) fl (frs fl ++ 43 :: tbP tb) (43 :: tbP tb) s e s' → E e s') :
    wpAny (model prog w) A (call (.ref f) []) Q E s := by
  have hl8 := adr_len ns pa
  have h80 := H.bd.2.2.2.2.2.2.1
  refine wpAny_call (kla_callFunE (hA.room (by omega)) hfn rfl rfl rfl rfl hcr ?_)
  refine wpAny_of_eq (a := ([] : List (Str × Value))) rfl ?_
  refine wpAny_newFunctionEnv (show ∀ x ∈ lam2S.names, x.2 ≠ NameKind.cell by decide) (fun x hx => nomatch hx) (fun h₁ hns hsb => ?_) rfl
  have k₁ : Sub s.heap h₁ := fun b o e => hsb.extBut b o (Nat.ne_of_lt (Heap.lt_size e)) (Heap.get?_push_of_some _ e)
  have H₁ := H.keep (KeepL.sub k₁)
  obtain ⟨L3, hL3⟩ : ∃ n : Nat, n = s.heap.objs.size := ⟨_, rfl⟩
  obtain ⟨e3, he3⟩ : ∃ e3 : Env, e3 = newEnv lam2S s.heap.objs.size mainGlobals (lam2C L) (((eL L).qual ++ "<lambda>") ++ ".<locals>.") (some f) (.ref c') none builtinsNs := ⟨_, rfl⟩
  refine ⟨H₁.base.nl, kla_codeExpr ?_⟩
  show wpAny (model prog w) (A.deeper (newEnv lam2S s.heap.objs.size mainGlobals (lam2C L) (((eL L).qual ++ "<lambda>") ++ ".<locals>.") (some f) (.ref c') none builtinsNs)) (eval lam2B (newEnv lam2S s.heap.objs.size mainGlobals (lam2C L) (((eL L).qual ++ "<lambda>") ++ ".<locals>.") (some f) (.ref c') none builtinsNs)) _ _ _
  have hAd : Room (k + 1) (A.deeper (newEnv lam2S s.heap.objs.size mainGlobals (lam2C L) (((eL L).qual ++ "<lambda>") ++ ".<locals>.") (some f) (.ref c') none builtinsNs)) := hA.deeper _
  have hfd : (A.deeper (newEnv lam2S s.heap.objs.size mainGlobals (lam2C L) (((eL L).qual ++ "<lambda>") ++ ".<locals>.") (some f) (.ref c') none builtinsNs)).frames = some (newEnv lam2S s.heap.objs.size mainGlobals (lam2C L) (((eL L).qual ++ "<lambda>") ++ ".<locals>.") (some f) (.ref c') none builtinsNs :: fl) := by
    show A.frames.map _ = _
    rw [hf]; rfl
  refine Call_Name1 ((EvV.boot (v := .type "list") H₁.base N (by decide) (by first | rfl | decide +kernel)).go (Sub.refl _) fun g s₂ hg k₂ => ?_) rfl
  subst hg
  refine PyProof.Rows.callWith_type rfl (Calls.evalArgs_plain (Calls.spliced_cons ?_))
  refine Call_Name2 ((EvV.glob (h₀ := s₂.heap) (H₁.base.sub k₂.sub) N.maximal).go (Sub.refl _) fun g s₃ hg k₃ => ?_) rfl
  subst hg
  have k23 := k₂.trans k₃
  refine Calls.callWith_function (o := fobj (stm 3) (.ref 41) pmT (.ref 47)) (fd := fdM) (Calls.evalArgs_plain (Calls.spliced_cons ?_))
  refine Call_Name1 ((EvV.boot (h₀ := s₃.heap) (v := .builtin "iter") (H₁.base.sub k23.sub) N (by decide) (by first | rfl | decide +kernel)).go (Sub.refl _) fun g s₄ hg k₄ => ?_) rfl
  subst hg
  have k24 := k23.trans k₄
  refine Calls.callWith_builtin rfl (Calls.evalArgs_plain (Calls.spliced_cons ((EvV.free (h₀ := s₄.heap) (H₁.row.keeps k24.sub)).go (Sub.refl _) fun u s₅ hu k₅ => Calls.spliced_nil ?_)))
  subst hu
  have k25 := k24.trans k₅
  have hRl : s₅.heap.IsList R ((adr ns pa).map Value.ref).toArray := by rw [adr_refs]; exact IsList.to H₁.rowL k25.sub
  refine call_iter_list hRl (fun h₆ k₆ hI => ?_)
  have hIeq : ∃ I : Nat, I = s₅.heap.objs.size := ⟨_, rfl⟩
  obtain ⟨I, hIe⟩ := hIeq
  rw [← hIe] at hI ⊢
  have ks₅ : Sub s.heap s₅.heap := k₁.trans k25.sub
  have hI80 : 80 ≤ I := by rw [hIe]; exact (H.base.sub ks₅).size
  refine Calls.spliced_cons ((EvV.glob (h₀ := h₆) (H.base.sub (ks₅.trans k₆)) N.raises).go (Sub.refl _) fun u s₇ hu k₇ => Calls.spliced_nil ?_)
  subst hu
  have ks₇ : Sub s.heap s₇.heap := (ks₅.trans k₆).trans k₇.sub
  have H₇ := H.keep (KeepL.sub (M := M) (L := L) ks₇)
  refine ⟨⟨H₇.base.f48, rfl⟩, ?_⟩
  have hm₇ : Kp { s with heap := h₁, toks := s.toks + ([] : List (Str × Value)).length } s₇ := (k25.trans (Kp.mk (tk := s₅.toks) k₆)).trans k₇
  have hms : Kp s s₇ := (Kp.mk k₁).trans hm₇
  have hL3₇ : s₇.heap.Ns s.heap.objs.size (fun x => ([] : List (Str × Value)).reverse.lookup x) := hns.keeps hm₇.sub
  have hIL : s.heap.get? I = none := by
    rw [hIe]
    cases q : s.heap.get? s₅.heap.objs.size with
    | none => rfl
    | some o => exact absurd (Heap.lt_size (ks₅ _ _ q)) (Nat.lt_irrefl _)
  have hFr₇ : FunFr s₇.heap.objs.size (newEnv lam2S s.heap.objs.size mainGlobals (lam2C L) (((eL L).qual ++ "<lambda>") ++ ".<locals>.") (some f) (.ref c') none builtinsNs :: fl) s₇.heap := by
    intro env he
    rcases List.mem_cons.mp he with rfl | he
    · exact ⟨show lam2S.kind ≠ .module by decide, s.heap.objs.size, _, rfl, hL3₇.lt, hL3₇⟩
    · obtain ⟨g1, F, m, g2, g3, g4⟩ := hFr env he
      have g5 := g4.keeps ks₇
      exact ⟨g1, F, m, g2, g5.lt, g5⟩
  have dropW : ∀ (X : List Addr) (s₈ : Shared), Mv (I :: X) s₇ s₈ → Mv X s s₈ := fun X s₈ m => Mv.drop ((hms.mv (I :: X)).trans m) fun b hb => by
    rcases List.mem_cons.mp hb with rfl | hb
    · exact .inr hIL
    · exact .inl hb
  refine wpAny_mono (lm_raise (mg := mg) (mb := mb) (tb := tb) (fl := newEnv lam2S s.heap.objs.size mainGlobals (lam2C L) (((eL L).qual ++ "<lambda>") ++ ".<locals>.") (some f) (.ref c') none builtinsNs :: fl) (as0 := adr ns pa) (C := R) (I := I) hAd (by omega) hfd N H₇.base (hT.keep fun b o _ e => ks₇ b o e) (by omega) h1 (fun a ha => H₇.vals.lst a ha)
    (by rw [adr_refs]; exact H₇.rowL) (hI.at fun o e => k₇.sub _ _ e) hI80 hR80 hFr₇
    (Q := fun v s' => Q v s') (E := fun e s' => wpAny (model prog w) (A.deeper (newEnv lam2S s.heap.objs.size mainGlobals (lam2C L) (((eL L).qual ++ "<lambda>") ++ ".<locals>.") (some f) (.ref c') none builtinsNs)) (leaving (newEnv lam2S s.heap.objs.size mainGlobals (lam2C L) (((eL L).qual ++ "<lambda>") ++ ".<locals>.") (some f) (.ref c') none builtinsNs) e) (fun _ s'' => E e s'') (fun e' s'' => E e' s'') s')
    (fun D s₈ tb' hn hT₈ htb hmv => ?_) (fun e s₈ hn he => ?_)) (fun v s₁ h => Calls.spliced_nil h) fun _ _ e => e
  · exact hQ _ _ hn ⟨tb', hT₈, htb.elim .inr fun q => .inl q.1⟩ (dropW _ _ hmv)
  · refine wpAny_mono (ErV.leave hfd rfl he) (fun _ s₉ h₉ => hX e s₉ hn (h₉.lift (hms.mv []) (fun b hb => ?_) fun b hb => ?_)) fun _ _ e => e.elim
    · rcases hb with hb | hb
      · cases hb
      · rcases List.mem_cons.mp hb with rfl | hb
        · exact .inr hIL
        · have hb' : b ∈ (s.heap.objs.size :: frs fl) ++ 43 :: tbP tb := hb
          rcases List.mem_append.mp hb' with hb' | hb'
          · rcases List.mem_cons.mp hb' with rfl | hb'
            · exact .inr (get_none (Nat.le_refl _))
            · exact .inl (List.mem_append_left _ hb')
          · exact .inl (List.mem_append_right _ hb')
    · rcases hb with hb | hb
      · cases hb
      · rcases List.mem_cons.mp hb with rfl | hb
        · exact .inr hIL
        · exact .inl hb
end
end Mine

namespace Mine

def fdF : FuncData := fdOf (stm 7) .none pmL (.ref 68)
def bodyF : List Stmt := match stm 7 with | .FunctionDef _ _ b .. => b | _ => []

variable {mg mb : Str → Option Value} {ns : List Int} {vs : List Value} {L l p T O R M : Nat} {pa : Nat → Nat}

section
variable {prog : Program} {w : World} {A : Around} {s : Shared}

set_option maxHeartbeats 1000000 in
theorem refused_call {k : Nat} (hA : Room k A) (hk : k ≤ 10) {fl : List Env} (hf : A.frames = some fl) (N : Names mg mb) (H : LawH mg mb ns vs L l p T O R M pa s.heap) {tb : Option (Nat × Nat)} (hT : TabF tb s.heap) (hFr : FunFr s.heap.objs.size fl s.heap) (hF80 : ∀ b : Nat, b ∈ frs fl → 80 ≤ b)
    {f c' : Nat} {pm ctv : Value} (hfn : s.heap.get? f = some (kla_obj "<lambda>" ((eL L).qual ++ "<lambda>") lam2P lam2B lam2S (lam2C L) pm c' ctv)) (hcr : s.heap.CodeRec (.ref c') ((eL L).qual ++ "<lambda>")) (h1 : 1 ≤ (uniqA (adr ns pa)).length) (hR80 : 80 ≤ R) :
    wpAny (model prog w) A (call (.ref 69) [.ref f]) (fun v s' => v = .bool (decide (2 ≤ (uniqA (adr ns pa)).length)) ∧ RefPost tb (frs fl ++ 43 :: tbP tb) s s') noE s := by
  refine wpAny_call (codeAny_call_def (fd := fdF) (body := bodyF) (hA.room (by omega)) H.base.f69 rfl H.base.nl H.base.c68 rfl (BindsTo.of_eq (binds := [("deed", .ref f)]) rfl) (by decide) (locs rfl) fun h₁ hn₁ k₁ => ?_)
  have hAd : Room (k + 1) (A.deeper (callEnv fdF s.heap.objs.size 69)) := hA.deeper _
  have hfd : (A.deeper (callEnv fdF s.heap.objs.size 69)).frames = some (callEnv fdF s.heap.objs.size 69 :: fl) := by
    show A.frames.map _ = _
    rw [hf]; rfl
  have hsub : Sub s.heap h₁ := k₁
  have H₁ := H.keep (KeepL.sub (M := M) (L := L) hsub)
  refine wpNoE ?_
  show wpAny _ _ (execs [.Try [_] [_] [] [] _, .Return (some (.Constant (.bool false) _ _)) _] _) _ _ _
  refine wpAny_execs_cons (wpAny_Try_except ?_)
  refine wpAny_execs_cons (wpAny_Expr_any ?_ rfl rfl)
  have hkd : Kp s { s with heap := h₁, toks := s.toks + ([("deed", Value.ref f)] : List (Str × Value)).length } := Kp.mk hsub
  refine Call_Name0 ((EvV.local_ (h₀ := h₁) (v := .ref f) hn₁ rfl).go (Sub.refl _) fun g s₂ hg k₂ => ?_)
  subst hg
  have ks₂ : Kp s s₂ := hkd.trans k₂
  have H₂ := H.keep (KeepL.sub (M := M) (L := L) ks₂.sub)
  have hn₂ := hn₁.keeps k₂.sub
  have hFr₂ : FunFr s₂.heap.objs.size (callEnv fdF s.heap.objs.size 69 :: fl) s₂.heap := by
    intro env he
    rcases List.mem_cons.mp he with rfl | he
    · exact ⟨show (ScopeKind.function ≠ .module) by decide, s.heap.objs.size, _, rfl, hn₂.lt, hn₂⟩
    · obtain ⟨g1, F, m, g2, g3, g4⟩ := hFr env he
      have g5 := g4.keeps ks₂.sub
      exact ⟨g1, F, m, g2, g5.lt, g5⟩
  have hcr₂ := hcr.keeps ks₂.sub
  refine Calls.callWith_function (o := kla_obj "<lambda>" ((eL L).qual ++ "<lambda>") lam2P lam2B lam2S (lam2C L) pm c' ctv) (fd := kla_fn "<lambda>" ((eL L).qual ++ "<lambda>") lam2P lam2B lam2S (lam2C L) pm (.ref c') ctv) (evalArgs_nil3 ⟨⟨ks₂.sub _ _ hfn, rfl⟩, ?_⟩)
  refine lam2_call (mg := mg) (mb := mb) (tb := tb) hAd (by omega) hfd N H₂ (hT.keep fun b o _ e => ks₂.sub b o e) hFr₂ (ks₂.sub _ _ hfn) hcr₂ h1 hR80 (fun v s₃ hn hT₃ hmv => ?_) (fun e s₃ hn he => ?_)
  · -- went through
    refine wpAny_execs_nil (wpAny_execs_nil ?_)
    refine wpAny_execs_cons (wpAny_Return_some (wpAny_Constant_bool ⟨?_, ?_⟩))
    · rw [hn]; rfl
    · have hm₃ : Mv (43 :: tbP tb) s s₃ := (ks₂.mv _).trans hmv
      obtain ⟨h₃, tk₃, g₃, rfl, hk₃, hg₃⟩ := hm₃
      exact ⟨h₃, tk₃, g₃, rfl, hg₃, fun b o hb e => hk₃ b o (fun hm => hb (List.mem_append_right _ hm)) e, fun b o hb e hd => ⟨o.slots, hk₃ b o hb e⟩, hT₃⟩
  · -- a ValueError came
    have he' := he.lift (wr' := (s.heap.objs.size :: frs fl) ++ 43 :: tbP tb) (wn' := 43 :: tbP tb) (ks₂.mv []) (fun b hb => .inl (hb.elim (fun h => nomatch h) id)) fun b hb => .inl (hb.elim (fun h => nomatch h) id)
    obtain ⟨base, x, a0, h₃, tk₃, g₃, hET, rfl, rfl, hg₃, hFl, hbk, hsl⟩ := he'
    refine wpAny_looks_onW hfd rfl hFl fun h₄ hH₄ hu₄ => ?_
    refine wpAny_landsW hH₄ fun h₅ hF₅ hu₅ => ?_
    have hB₅ : Base mg mb h₅ := H.base.low fun b o hb h43 h76 e => hF₅.1 b o (hbk b o (fun hm => ?_) e)
    · have hT₅ : Shared.TypeIs { s with heap := h₅, toks := tk₃, gens := g₃ } (.ref x) "ValueError" := by
        obtain ⟨ob, q1, q2⟩ := hF₅.there
        exact ⟨ob, q1, q2⟩
      refine wpAny_handleBy_builtin (X := "ValueError") (T := "ValueError") (b := true) PySem.F.isExc_ValueError PySem.F.notTuple_ValueError PySem.F.self_ValueError ?_
      refine (EvV.boot (h₀ := h₅) (v := .type "ValueError") hB₅ N (by decide) (by first | rfl | decide +kernel)).go (Sub.refl _) fun u s₆ hu k₆ => ?_
      obtain ⟨h₆, tk₆, rfl, hk₆⟩ := k₆
      obtain ⟨obx, obe, obc⟩ := hT₅
      refine ⟨hu, ⟨obx, hk₆ _ _ obe, obc⟩, ?_⟩
      rw [if_pos rfl]
      have hF₆ : Heap.FlyingW base (callEnv fdF s.heap.objs.size 69 :: fl) x (.type "ValueError") a0 h₆ := by
        obtain ⟨f1, f2, f3, f4⟩ := hF₅
        refine ⟨fun b o e => hk₆ _ _ (f1 b o e), f2, f3.of_keeps fun b o e _ => ⟨o, hk₆ _ _ e, rfl⟩, ?_⟩
        obtain ⟨oe, vs', T', oT, ts, e1, e2, e3, e4, e5, e6, e7, e8, e9⟩ := f4
        exact ⟨oe, vs', T', oT, ts, hk₆ _ _ e1, e2, e3, e4, e5, e6, hk₆ _ _ e7, e8, e9⟩
      refine lands_againW hF₆ fun h₇ hF₇ hu₇ => ?_
      refine wpAny_execs_cons (wpAny_Return_some (wpAny_Constant_bool ⟨?_, ?_⟩))
      · rw [decide_eq_true hn]
      · obtain ⟨_, tb', hTb, htb⟩ := hET
        refine ⟨h₇, tk₆, g₃, rfl, hg₃, fun b o hb e => hF₇.1 b o (hbk b o (fun hm => ?_) e), fun b o hb e hd => ?_, tb', hTb.keep fun b o _ e => hF₇.1 b o e, htb⟩
        · rcases List.mem_append.mp hm with hm | hm
          · rcases List.mem_cons.mp hm with q | hm
            · exact absurd (Heap.lt_size e) (by rw [q]; exact Nat.lt_irrefl _)
            · exact hb (List.mem_append_left _ hm)
          · exact hb (List.mem_append_right _ hm)
        · obtain ⟨sl₃, e₃⟩ := hsl b o hb e hd
          obtain ⟨sl₄, e₄⟩ := hu₄ b _ e₃ hd
          obtain ⟨sl₅, e₅⟩ := hu₅ b _ e₄ hd
          obtain ⟨sl₇, e₇⟩ := hu₇ b _ (hk₆ _ _ e₅) hd
          exact ⟨sl₇, e₇⟩
    · have hbn : (b : Nat) < 80 := hb
      rcases List.mem_append.mp hm with hm | hm
      · rcases List.mem_cons.mp hm with q | hm
        · exact absurd (Heap.lt_size e) (by rw [q]; exact Nat.lt_irrefl _)
        · have := hF80 b hm; omega
      · rcases List.mem_cons.mp hm with q | hm
        · exact h43 q
        · cases tb with
          | none => cases hm
          | some rr =>
            obtain ⟨c2, P2⟩ := rr
            have q : b = P2 := by simpa [tbP] using hm
            obtain ⟨_, _, _, g81⟩ := hT.gets rfl
            omega
end
end Mine

namespace Mine

variable {mg mb : Str → Option Value} {ns : List Int} {vs : List Value} {L l p T O R M : Nat} {pa : Nat → Nat}

section
variable {prog : Program} {w : World} {A : Around} {s : Shared}

theorem order_ne (ns : List Int) : 1 ≤ (orderL ns).length := by
  have hp := npv_pos ns
  have : ∃ x, x ∈ orderL ns := by
    have h0 : pkv ns 0 ∈ picksL ns := List.mem_map.mpr ⟨0, List.mem_range.mpr (by omega), rfl⟩
    suffices ∀ (ps : List Int) x, x ∈ ps → x ∈ uniq ps from ⟨_, this _ _ h0⟩
    suffices ∀ (ps acc : List Int) x, (x ∈ acc ∨ x ∈ ps) → x ∈ ps.foldl (fun acc k => if acc.any (· == k) then acc else acc ++ [k]) acc from fun ps x hx => this ps [] x (.inr hx)
    intro ps
    induction ps with
    | nil => intro acc x hx; exact hx.elim id fun h => nomatch h
    | cons a ps ih =>
      intro acc x hx
      refine ih _ x ?_
      dsimp only
      split
      · rename_i h
        rcases hx with hx | hx
        · exact .inl hx
        · rcases List.mem_cons.mp hx with rfl | hx
          · obtain ⟨y, hy, he⟩ := List.any_eq_true.mp h
            have : y = x := by simpa using he
            subst this; exact .inl hy
          · exact .inr hx
      · rcases hx with hx | hx
        · exact .inl (List.mem_append_left _ hx)
        · rcases List.mem_cons.mp hx with rfl | hx
          · exact .inl (List.mem_append_right _ (List.mem_singleton.mpr rfl))
          · exact .inr hx
  obtain ⟨x, hx⟩ := this
  exact List.length_pos_of_mem hx

set_option maxHeartbeats 1000000 in
theorem s_if12 {k : Nat} (hA : Room k A) (hk : k ≤ 10) (hf : A.frames = some [eL L]) (N : Names mg mb) (H : LawH mg mb ns vs L l p T O R M pa s.heap) {m : Str → Option Value} (hm : s.heap.Ns L m) (h2 : ∃ v, s.heap.IsCell (L + 2) v) (hR80 : 80 ≤ R)
    {tb : Option (Nat × Nat)} (hT : TabF tb s.heap) {ps : Array Value} (hTL : TabL ps s.heap) (hps : codeAmong lam2Pos ps.toList = none) :
    wpAny (model prog w) A (exec (lst 12) (eL L)) (fun f s' => f = .next ∧ (∃ (tb' : Option (Nat × Nat)) (c' : Value), TabF tb' s'.heap ∧ (tb = none ∨ tb' = tb) ∧ TabL (ps ++ #[rawInt lam2Pos.line, rawInt lam2Pos.col, c']) s'.heap) ∧ s'.heap.Ns L m ∧ KeepL M L s.heap s'.heap ∧ Mv ([L, 76] ++ 43 :: tbP tb) s s') noE s := by
  have h80 := H.bd.2.2.2.2.2.2.1
  obtain ⟨its, hO, hOi⟩ := H.orderL
  have hl8 := adr_len ns pa
  have hlen : its.size = (orderL ns).length := by rw [← hOi.length, Array.length_toList]
  have hun : (uniqA (adr ns pa)).length = (orderL ns).length := by rw [uniqA_adr H.poolAt.inj, List.length_map]
  have hul : (uniqA (adr ns pa)).length ≤ 8 := Nat.le_trans (uniqA_length _) hl8
  refine wpAny_If (wpAny_isTrue_Compare1 (EvV.go (h₀ := s.heap) (P := (· = Value.bool (decide ((1 : Int) < (its.size : Int))))) (EvV.cmp (EvV.lenList H.base N (EvV.cell H.order) hO (by omega)) EvV.int (fun a b s₁ _ ha hb => by
    obtain ⟨t, rfl⟩ := ha
    obtain ⟨u, rfl⟩ := hb
    exact gt_int ⟨rfl, Kp.refl _⟩)) (Sub.refl _) fun v s₁ hv k₁ => ?_))
  subst hv
  refine Call_Name1 ((EvV.glob (h₀ := s₁.heap) (H.base.sub k₁.sub) N.refused).go (Sub.refl _) fun g s₂ hg k₂ => ?_) rfl
  subst hg
  have k12 := k₁.trans k₂
  have hTL₂ : TabL ps s₂.heap := hTL.keep fun b o _ e => k12.sub b o e
  refine Calls.callWith_function (o := fobj (stm 7) .none pmL (.ref 68)) (fd := fdF) (Calls.evalArgs_plain (Calls.spliced_cons (wpAny_mono (mk_lam (H.base.sub k12.sub) N hTL₂ rfl (cl := lam2C L) rfl hps) (fun v s₃ h₃ => Calls.spliced_nil ?_) fun _ _ e => e)))
  obtain ⟨f, c', pm, ctv, rfl, hfn, hrec, hfs, hTL₃, kw₃⟩ := h₃
  have kk : ∀ (b : Nat) o, b ≠ 76 → s.heap.get? b = some o → s₃.heap.get? b = some o := fun b o hb e => kw₃.keep b o (by rw [List.mem_singleton]; exact hb) (k12.sub b o e)
  have k3L : KeepL M L s.heap s₃.heap := by
    have q1 : WOk M L [76] s₂.heap := WOk.tabL h80 hTL₂ WOk.nil
    exact (KeepL.sub k12.sub).trans (q1.keep kw₃.mv)
  have H₃ := H.keep k3L
  have not76 : ∀ (b : Nat) o, s.heap.get? b = some o → (∀ vs, o.data ≠ .fields vs) → b ≠ 76 := fun b o e hd q => by
    rw [q, hTL.2.2] at e; cases e; exact hd _ rfl
  have hm₃ : s₃.heap.Ns L m := hm.at' fun o e => kk L o (not76 L o e (by obtain ⟨o', es, ep, e', d', _⟩ := hm; rw [e'] at e; cases e; intro vs q; rw [d'] at q; cases q)) e
  have hT₃ : TabF tb s₃.heap := hT.keep fun b o hb e => kk b o (by
    rcases hb with rfl | rfl | ⟨c2, P2, e2, hb⟩
    · decide
    · decide
    · obtain ⟨_, _, g80, g81⟩ := hT.gets e2
      rcases hb with rfl | rfl <;> omega) e
  have hFr : FunFr s₃.heap.objs.size [eL L] s₃.heap := fun env he => by
    rw [List.mem_singleton.mp he]
    exact ⟨show (ScopeKind.function ≠ .module) by decide, L, m, rfl, hm₃.lt, hm₃⟩
  refine ⟨⟨H₃.base.f69, rfl⟩, ?_⟩
  refine wpAny_mono (refused_call (mg := mg) (mb := mb) (tb := tb) hA hk hf N H₃ hT₃ hFr (fun b hb => by
    have : b = L := by simpa [frs, eL, callEnvC, newEnv] using hb
    omega) hfn hrec (by rw [hun]; exact order_ne ns) hR80) (fun v s₄ h₄ => ?_) fun _ _ e => e
  obtain ⟨rfl, h₄', tk₄, g₄, rfl, hg₄, hk₄, hsl₄, tb', hT₄, htb⟩ := h₄
  have hfrs : frs [eL L] = [L] := rfl
  rw [hfrs] at hk₄
  refine ne_bool (wpAny_truthy_bool ?_)
  have hb : (decide ((1 : Int) < (its.size : Int)) != decide (2 ≤ (uniqA (adr ns pa)).length)) = false := by
    rw [hun, ← hlen]
    have : (decide ((1 : Int) < (its.size : Int))) = decide (2 ≤ its.size) := by
      rw [decide_eq_decide]; omega
    rw [this]; simp
  rw [hb, if_neg Bool.false_ne_true]
  have hP2 : ∀ b : Nat, b < 80 → b ≠ 43 → b ∉ [L] ++ 43 :: tbP tb := fun b hb h43 hm' => by
    simp only [List.cons_append, List.nil_append, List.mem_cons] at hm'
    rcases hm' with q | q | hm'
    · omega
    · exact h43 q
    · cases tb with
      | none => cases hm'
      | some r =>
        obtain ⟨c2, P2⟩ := r
        have q : b = P2 := by simpa [tbP] using hm'
        obtain ⟨_, _, _, g81⟩ := hT.gets rfl
        omega
  have hmv₄ : Mv ([L] ++ 43 :: tbP tb) s₃ { s₃ with heap := h₄', toks := tk₄, gens := g₄ } := ⟨h₄', tk₄, g₄, rfl, hk₄, hg₄⟩
  have k4L : KeepL M L s₃.heap h₄' := by
    have q1 : WOk M L (L :: (43 :: tbP tb ++ [])) s₃.heap := WOk.frame h80 hm₃ (WOk.tabs h80 (H₃.cells (by obtain ⟨v, o, e, d⟩ := h2; exact ⟨v, o, kk (L + 2) o (by omega) e, d⟩)) hT₃ WOk.nil)
    rw [List.append_nil] at q1
    exact q1.keep hmv₄
  refine wpAny_execs_nil ⟨rfl, ⟨tb', c' |> Value.ref, hT₄, htb, hTL₃.keep fun b o hb e => hk₄ b o (hP2 b (by rcases hb with rfl | rfl <;> decide) (by rcases hb with rfl | rfl <;> decide)) e⟩, ?_, k3L.trans k4L, ?_⟩
  · obtain ⟨o, es, ep, e, d, r⟩ := id hm₃
    obtain ⟨sl, hsl⟩ := hsl₄ L o (fun hm' => by
      rcases List.mem_cons.mp hm' with q | hm'
      · have : L = 43 := q
        omega
      · cases tb with
        | none => cases hm'
        | some r =>
          obtain ⟨c2, P2⟩ := r
          have q : L = P2 := by simpa [tbP] using hm'
          obtain ⟨_, ⟨ps1, e3⟩, _⟩ := hT₃.gets rfl
          rw [← q, e] at e3; cases e3; cases d) e (fun vs q => by rw [d] at q; cases q)
    exact ⟨_, es, ep, hsl, d, r⟩
  · exact ((k12.mv _).trans (kw₃.mv.mono fun b hb => by rw [List.mem_singleton.mp hb]; simp)).trans (hmv₄.mono fun b hb => by
      simp only [List.cons_append, List.nil_append, List.mem_cons] at hb ⊢
      rcases hb with hb | hb | hb <;> simp [hb])
end
end Mine

namespace Mine

variable {mg mb : Str → Option Value} {ns : List Int} {vs : List Value} {L l p T O R M : Nat} {pa : Nat → Nat}

section
variable {prog : Program} {w : World} {A : Around} {s : Shared} {env : Env} {h₀ : Heap}

def IsStrN (n : Int) (v : Value) : Prop := ∃ z t, v = .str z t ∧ (z.length : Int) = n

theorem EvV.strMul {k0 : Nat} {p1 pos : Pos} {e : Expr} {n : Int} (h : 0 ≤ n ∧ n < 5) (x : EvV prog w A env h₀ e (IsI n)) : EvV prog w A env h₀ (.BinOp (.Constant (.str "x") k0 p1) .Mult e pos) (IsStrN n) := fun s hs =>
  wpAny_BinOp (wpAny_Constant_str (x.go (s := { s with toks := s.toks + 1 }) hs fun v s₂ hv k₂ => by
    obtain ⟨u, rfl⟩ := hv
    have k02 : Kp s s₂ := Kp.tok.trans k₂
    have hn : n = 0 ∨ n = 1 ∨ n = 2 ∨ n = 3 ∨ n = 4 := by omega
    rcases hn with rfl | rfl | rfl | rfl | rfl
    · exact P.mul_str_none (by decide) (by decide) ⟨⟨_, _, rfl, rfl⟩, k02.trans Kp.tok⟩
    · exact P.mul_str (by decide) (by decide) (by decide) ⟨⟨_, _, rfl, rfl⟩, k02⟩
    · exact P.mul_str (by decide) (by decide) (by decide) ⟨by decide, ⟨_, _, rfl, by decide⟩, k02.trans Kp.tok⟩
    · exact P.mul_str (by decide) (by decide) (by decide) ⟨by decide, ⟨_, _, rfl, by decide⟩, k02.trans Kp.tok⟩
    · exact P.mul_str (by decide) (by decide) (by decide) ⟨by decide, ⟨_, _, rfl, by decide⟩, k02.trans Kp.tok⟩))

/-- a comprehension as a value, over a source whose footprint is told at the end -/
theorem lc_valE {own : Bool} {elt iter : Expr} {x : Str} {px : Pos} {ifs : List Expr} {scope : Scope} {cl : List (Str × Addr)} {pos : Pos} {n : Nat} {P : Nat → Value → Prop} {T : Nat → Nat → List Value → Heap → Prop}
    (hclos : closureFor scope env = pure cl) (S : CompShape own x scope cl) (K : TurnOk prog w A own env scope cl x ifs elt n P s.heap T) (hn : n ≤ sizeLine)
    (src : wpAny (model prog w) A (eval iter env) (fun xv s₁ => wpAny (model prog w) A (pyIter xv) (fun it s₂ => ∃ I : Nat, ∃ St, ∃ fp : List Addr, it = .ref I ∧ Kp s s₂ ∧ s.heap.get? I = none ∧ Walks prog w A I (I :: fp) [I] n P St ∧ St 0 s₂.heap ∧ ∀ b ∈ I :: fp, b < s₂.heap.objs.size) noE s₁) noE s)
    (hs : ∀ x, foldedSetIterable iter env x = pure x := by intro _; rfl) :
    wpAny (model prog w) A (eval (.ListComp elt [⟨.Name x px, iter, ifs, 0⟩] scope pos) env) (fun v s' => ∃ (D : Nat) (ys : Array Value), v = .ref D ∧ s'.heap.PlainList D ys ∧ (∃ N₀, T N₀ n ys.toList s'.heap) ∧ ys.size ≤ n ∧ Kp s s') noE s := by
  refine lc_eval hclos S (wpAny_mono src (fun xv s₁ h₁ => wpAny_mono h₁ (fun it s₂ h₂ => ?_) fun _ _ e => e) fun _ _ e => e) hs
  obtain ⟨I, St, fp, rfl, k, hI, W, hst, hfp⟩ := h₂
  refine ⟨I, I :: fp, [I], n, P, St, T (s₂.heap.objs.size + ownN own), rfl, K.use k hI W hn hst hfp, fun h' tk ys hl hT hsz hk => ?_⟩
  have hsub : Sub s.heap h' := fun b o e => hk b o (fun hm => by rw [List.mem_singleton.mp hm, hI] at e; cases e) (k.sub b o e)
  obtain ⟨h₂, tk₂, rfl, hk₂⟩ := k
  exact ⟨_, ys, rfl, hl, ⟨_, hT⟩, hsz, Kp.mk hsub⟩

/-- a word: its length -/
def WordN (h : Heap) (n : Int) (v : Value) : Prop := IsStrN n v ∨ ∃ (a : Nat) (its : Array Value), v = .ref a ∧ h.IsList a its ∧ (its.size : Int) = n
theorem WordN.sub {h h' : Heap} {n : Int} {v : Value} (x : WordN h n v) (k : Sub h h') : WordN h' n v := x.imp id fun ⟨a, its, e, l, z⟩ => ⟨a, its, e, IsList.to l k, z⟩
def wnv (ns : List Int) : Nat := ((cel ns 26).fmod 4).toNat
theorem wnv_lt (ns : List Int) : wnv ns < 4 ∧ ((wnv ns : Nat) : Int) = (cel ns 26).fmod 4 := by
  have h1 := Int.fmod_nonneg_of_pos (cel ns 26) (b := 4) (by decide)
  have h2 := Int.fmod_lt_of_pos (cel ns 26) (b := 4) (by decide)
  unfold wnv; omega
def wls (ns : List Int) : List Int := ((List.range (wnv ns)).map fun (i : Nat) => (cel ns (21 + i)).fmod 5) ++ [1]
/-- the words: a value for each length -/
def WordsAt (h : Heap) (ls : List Int) (ys : List Value) : Prop := ys.length = ls.length ∧ ∀ (j : Nat) (n : Int), ls[j]? = some n → ∃ v, ys[j]? = some v ∧ WordN h n v
theorem WordsAt.sub {h h' : Heap} {ls : List Int} {ys : List Value} (x : WordsAt h ls ys) (k : Sub h h') : WordsAt h' ls ys := ⟨x.1, fun j n hj => let ⟨v, a, b⟩ := x.2 j n hj; ⟨v, a, b.sub k⟩⟩
theorem wls_range (ns : List Int) : ∀ n ∈ wls ns, 0 ≤ n ∧ n < 5 := fun n hn => by
  rcases List.mem_append.mp hn with hn | hn
  · obtain ⟨i, _, rfl⟩ := List.mem_map.mp hn
    exact ⟨Int.fmod_nonneg_of_pos _ (by decide), Int.fmod_lt_of_pos _ (by decide)⟩
  · rw [List.mem_singleton.mp hn]; decide

set_option maxHeartbeats 1000000 in
theorem s_words {k : Nat} (hA : Room k A) (hk : k ≤ 20) (N : Names mg mb) (H : LawH mg mb ns vs L l p T O R M pa s.heap) (hi : IntsAre vs ns) (hn : ns.length ≤ 63) {m : Str → Option Value} (hm : s.heap.Ns L m) :
    wpAny (model prog w) A (exec (lst 15) (eL L)) (fun f s' => f = .next ∧ (∃ (D : Nat) (ys : Array Value), s'.heap.Ns L (fun z => if z = "words" then some (.ref D) else m z) ∧ s'.heap.IsList D ys ∧ WordsAt s'.heap (wls ns) ys.toList) ∧ Kw [L] s s') noE s := by
  have hw := wnv_lt ns
  obtain ⟨b1, b2, b3, b4, b5, b6, b7, b8, its9, b9, b10⟩ := H.bd
  refine wpAny_Assign_Name (wpAny_BinOp (wpAny_mono (lc_val (own := false) (T := fun _ i ys _ => ys.length = i ∧ ∀ j, j < i → ∃ v, ys[j]? = some v ∧ IsStrN ((cel ns (21 + j)).fmod 5) v) (n := wnv ns) (cl := [("script", L + 1)]) rfl ⟨fun _ => rfl, fun _ => rfl, rfl, rfl, by decide⟩ ⟨?z, ?st, ?tn⟩ (by rw [sizeLine_eq]; omega)
    (src_range hA H.base N (by omega) (EvV.mono (EvV.mod (by decide) (EvV.at hA (by omega) H.base N H.list hi hn (EvV.cell H.script) EvV.int (by decide)) EvV.int) fun v e => by rw [hw.2]; exact e))) (fun v s₁ q => ?_) fun _ _ q => q)) rfl
  case z => exact fun N₀ h => ⟨rfl, fun j hj => absurd hj (Nat.not_lt_zero _)⟩
  case st => exact fun N₀ i ys h h' x _ => x
  case tn =>
    intro n₂ N₀ i v ys s' hi' hP hTi hlen hb hsub hsize
    obtain ⟨t', rfl⟩ := hP
    refine turn_plainV (P := IsStrN ((cel ns (21 + i)).fmod 5)) (EvV.strMul ⟨Int.fmod_nonneg_of_pos _ (by decide), Int.fmod_lt_of_pos _ (by decide)⟩ (EvV.mod (by decide) (EvV.at hA (by omega) (H.base.sub hsub) N (IsList.to H.list hsub) hi hn (EvV.cell (H.script.keeps hsub)) (EvV.add EvV.int ((EvV.bound hb).mono fun v e => ⟨t', e⟩)) (by omega)) EvV.int)) fun v h' hv _ => ⟨by simp [hTi.1], fun j hj => ?_⟩
    by_cases hji : j < i
    · obtain ⟨u, h1, h2⟩ := hTi.2 j hji
      exact ⟨u, by rw [List.getElem?_append_left (by rw [hTi.1]; exact hji)]; exact h1, h2⟩
    · have : j = i := by omega
      subst this
      exact ⟨v, by rw [List.getElem?_append_right (by rw [hTi.1]; omega), hTi.1]; simp, hv⟩
  obtain ⟨D1, N₀, ys, rfl, hD1, hDN, hpl, hTy, hsz', k₁⟩ := q
  have H₁ := H.keep (KeepL.sub (M := M) (L := L) k₁.sub)
  have hr0 : ∃ r0, (refs pa (picksL ns)).toArray[0]? = some (.ref r0) ∧ ∃ t, s.heap.PlainList r0 #[.int (valOf ns pa r0) t] := by
    have hpos : 0 < (picksL ns).length := by have := npv_pos ns; simp [picksL]; omega
    obtain ⟨q0, hq0⟩ : ∃ q0, (picksL ns)[0]? = some q0 := ⟨_, List.getElem?_eq_getElem hpos⟩
    have hr := picks_range ns q0 (List.mem_of_getElem? hq0)
    refine ⟨pa q0.toNat, by simp [refs, hq0], ?_⟩
    obtain ⟨t, e⟩ := H.poolAt.item q0.toNat (by omega)
    exact ⟨t, by rw [valOf_pa H.poolAt.inj (by omega)]; exact e⟩
  obtain ⟨r0, hr0, tr, hrl⟩ := hr0
  have hl8 : (refs pa (picksL ns)).toArray.size ≤ 8 := by rw [← adr_refs, List.size_toArray, List.length_map]; exact adr_len ns pa
  refine wpAny_mono (lc_valE (own := false) (s := s₁) (n := 1) (P := fun i v => v = .ref r0) (T := fun _ i ys _ => ys = List.replicate i (.ref r0)) (cl := []) rfl ⟨fun _ => rfl, fun _ => rfl, rfl, rfl, by decide⟩ ⟨fun _ _ => rfl, fun _ _ _ _ _ x _ => x, ?tn2⟩ (by rw [sizeLine_eq]; decide) ?src) (fun v s₂ q => ?_) fun _ _ q => q
  case tn2 =>
    intro n₂ N₀ i v ys s' hi' hP hTi hlen hb hsub hsize
    subst hP
    refine turn_plainV (P := (· = Value.ref r0)) (EvV.bound hb) fun v h' hv _ => ?_
    rw [hTi, hv, List.replicate_succ']
  case src =>
    refine Subscript_ ((EvV.cell (h₀ := s₁.heap) H₁.row).go (Sub.refl _) fun v s₂ hv k₂ => ?_)
    subst hv
    refine wpAny_Slice (wpAny_pure (wpAny_Constant_int (k := 0) (pos := default) (wpAny_pure ?_)))
    have hRl : s₂.heap.IsList R (refs pa (picksL ns)).toArray := IsList.to H₁.rowL k₂.sub
    refine slice_listK (s := { s₂ with toks := s₂.toks + 1 }) hRl .none (.int _ _) ?_ (hsz := by rw [sizeLine_eq]; omega)
    have hsp : slicePick (refs pa (picksL ns)).toArray none (some 1) none = #[.ref r0] := by
      have hsz1 : 1 ≤ (refs pa (picksL ns)).toArray.size := by
        rcases Nat.lt_or_ge 0 (refs pa (picksL ns)).toArray.size with h | h
        · exact h
        · rw [Array.getElem?_eq_none (by omega)] at hr0; cases hr0
      have := slicePick_upto (refs pa (picksL ns)).toArray 1 hsz1
      rw [show ((1 : Nat) : Int) = 1 from rfl] at this
      rw [this]
      cases hc : refs pa (picksL ns) with
      | nil => rw [hc] at hr0; cases hr0
      | cons a r =>
        rw [hc] at hr0
        have : a = .ref r0 := by simpa using hr0
        subst this; rfl
    rw [hsp]
    obtain ⟨Wl, hWl⟩ : ∃ n : Nat, n = s₂.heap.objs.size + 1 := ⟨_, rfl⟩
    have hW : ((s₂.heap.push { cls := .type "slice", data := .fields #[.none, .int 1 s₂.toks, .none] }).push { cls := .type "list", data := .seq #[Value.ref r0] }).IsList Wl #[.ref r0] := by
      have e := Heap.get?_push_size (o := ({ cls := .type "list", data := .seq #[Value.ref r0] } : Obj)) (s₂.heap.push { cls := .type "slice", data := .fields #[.none, .int 1 s₂.toks, .none] }) rfl
      rw [Heap.size_push] at e
      exact ⟨_, by rw [hWl]; exact e, rfl, _, rfl⟩
    show wpAny _ A (pyIter (.ref (s₂.heap.objs.size + 1))) _ _ _
    rw [← hWl]
    refine wpAny_pyIter_list hW ?_
    obtain ⟨I, hIe⟩ : ∃ n : Nat, n = ((s₂.heap.push { cls := .type "slice", data := .fields #[.none, .int 1 s₂.toks, .none] }).push { cls := .type "list", data := .seq #[Value.ref r0] }).objs.size := ⟨_, rfl⟩
    have hI2 : I = s₂.heap.objs.size + 2 := by rw [hIe, Heap.size_push, Heap.size_push]
    have hne : Wl ≠ I := by omega
    have W := Walks.list (prog := prog) (w := w) (A := A) hA.handled I Wl hne #[Value.ref r0]
    have hkeep : Sub s₂.heap (((s₂.heap.push { cls := .type "slice", data := .fields #[.none, .int 1 s₂.toks, .none] }).push { cls := .type "list", data := .seq #[Value.ref r0] }).push { cls := .type "list_iterator", data := .fields #[.ref Wl, .int 0 0] }) := fun b o e => Heap.get?_push_of_some _ (Heap.get?_push_of_some _ (Heap.get?_push_of_some _ e))
    have hIit : (((s₂.heap.push { cls := .type "slice", data := .fields #[.none, .int 1 s₂.toks, .none] }).push { cls := .type "list", data := .seq #[Value.ref r0] }).push { cls := .type "list_iterator", data := .fields #[.ref Wl, .int 0 0] }).IsListIter I Wl 0 := by
      rw [hIe]; exact ⟨_, Heap.get?_push_size _ rfl, rfl, rfl⟩
    refine ⟨I, _, [Wl], by rw [hIe], k₂.trans (Kp.mk hkeep), ?_, ⟨W.sub, W.frame, fun i s Q E hi st hQ => W.item i s Q E hi st fun v h' tk hv => hQ v h' tk ?_, W.done, W.self⟩, ⟨hIit, hW.push _⟩, fun b hb => ?_⟩
    · cases q : s₁.heap.get? I with
      | none => rfl
      | some o =>
        have : @LT.lt Nat _ I s₂.heap.objs.size := Heap.lt_size (k₂.sub _ _ q)
        omega
    · have hv : (#[Value.ref r0])[i]? = some v := hv
      cases i with
      | zero => simpa using hv.symm
      | succ j => simp at hv
    · simp only [List.mem_cons, List.not_mem_nil, or_false] at hb
      rcases hb with hb | hb
      · rw [hb]; obtain ⟨o, e, _⟩ := hIit; exact Heap.lt_size e
      · rw [hb]; obtain ⟨o, e, _⟩ := hW.push { cls := .type "list_iterator", data := .fields #[.ref Wl, .int 0 0] }; exact Heap.lt_size e
  obtain ⟨D2, zs, rfl, hpl2, ⟨N₁, hTz⟩, hsz2, k₂⟩ := q
  have hD1 : s₂.heap.PlainList D1 ys := hpl.at fun o e => k₂.sub _ _ e
  obtain ⟨n1, e1⟩ := hD1
  obtain ⟨n2, e2⟩ := hpl2
  refine P.add_list e1 e2 ?_ (by rw [sizeLine_eq]; omega)
  have kk := k₁.trans k₂
  obtain ⟨D, hDe⟩ : ∃ n : Nat, n = s₂.heap.objs.size := ⟨_, rfl⟩
  have hsubP : Sub s₂.heap (s₂.heap.push { cls := .type "list", data := .seq (ys ++ zs) }) := fun b o e => Heap.get?_push_of_some _ e
  have hk3 := kk.trans (Kp.mk (s := s₂) (tk := s₂.toks) hsubP)
  refine wpAny_storeName_local rfl (hm.keeps hk3.sub) (fun h₄ hn₄ hs₄ => ?_) rfl
  have k₄ : ∀ (b : Nat) o, b ≠ L → (s₂.heap.push { cls := .type "list", data := .seq (ys ++ zs) }).get? b = some o → h₄.get? b = some o := fun b o hb e => hs₄.extBut b o hb e
  have hLlt : @LT.lt Nat _ L s₂.heap.objs.size := (hm.keeps kk.sub).lt
  refine ⟨rfl, ⟨s₂.heap.objs.size, ys ++ zs, hn₄, ⟨_, k₄ s₂.heap.objs.size _ (Nat.ne_of_gt hLlt) (Heap.get?_push_size _ rfl), rfl, _, rfl⟩, ?_, ?_⟩, ?_⟩
  · have hz1 : zs.toList = [.ref r0] := hTz
    rw [Array.toList_append, hz1]
    simp only [List.length_append, wls, List.length_map, List.length_range, List.length_singleton, hTy.1]
  · intro j n hj
    have hz1 : zs.toList = [.ref r0] := hTz
    rw [Array.toList_append, hz1]
    unfold wls at hj
    have hlm : ((List.range (wnv ns)).map fun (i : Nat) => (cel ns (21 + i)).fmod 5).length = wnv ns := by simp
    rcases Nat.lt_or_ge j (wnv ns) with hjl | hjl
    · rw [List.getElem?_append_left (by rw [hlm]; exact hjl)] at hj
      obtain ⟨v, h1, h2⟩ := hTy.2 j hjl
      refine ⟨v, by rw [List.getElem?_append_left (by rw [hTy.1]; exact hjl)]; exact h1, .inl ?_⟩
      have : n = (cel ns (21 + j)).fmod 5 := by
        rw [List.getElem?_map, List.getElem?_range hjl] at hj
        exact (Option.some.inj hj).symm
      rw [this]; exact h2
    · rw [List.getElem?_append_right (by rw [hlm]; exact hjl), hlm] at hj
      cases hq : j - wnv ns with
      | succ z => rw [hq] at hj; simp at hj
      | zero =>
        rw [hq] at hj
        have hn1 : n = 1 := by simpa using hj.symm
        refine ⟨.ref r0, by rw [List.getElem?_append_right (by rw [hTy.1]; exact hjl), hTy.1, hq]; rfl, .inr ⟨r0, #[.int (valOf ns pa r0) tr], rfl, ?_, ?_⟩⟩
        · obtain ⟨n3, e3⟩ := hrl
          refine ⟨_, k₄ r0 _ (fun q => ?_) (hk3.sub _ _ e3), rfl, _, rfl⟩
          obtain ⟨o', es, ep, e', d', _⟩ := hm
          rw [q, e'] at e3; cases e3; cases d'
        · rw [hn1]; rfl
  · exact (hk3.w _).trans (Kw.mk fun b o hb e => k₄ b o (by simpa using hb) e)
end
end Mine

namespace Mine

variable {mg mb : Str → Option Value} {ns : List Int} {vs : List Value} {L l p T O R M : Nat} {pa : Nat → Nat}

def mx (ls : List Int) : Int := ls.foldl (fun acc n => if acc < n then n else acc) 0
theorem mx_snoc (ls : List Int) (n : Int) : mx (ls ++ [n]) = if mx ls < n then n else mx ls := by unfold mx; rw [List.foldl_append]; rfl
def flr (ns : List Int) : Int := (cel ns 27).fmod 9 - 3

section
variable {prog : Program} {w : World} {A : Around} {s : Shared} {env : Env} {h₀ : Heap}

theorem call_len_word {n : Int} {v : Value} (hv : WordN s.heap n v) (hn : n < 2 ^ 63) : wpAny (model prog w) A (call (.builtin "len") [v]) (fun u s' => IsI n u ∧ Kp s s') noE s := by
  rcases hv with ⟨z, t, rfl, hz⟩ | ⟨a, its, rfl, hl, hz⟩
  · exact P.len_str (by omega) ⟨⟨_, by rw [hz]⟩, Kp.tok⟩
  · exact Calls.call_len_list hl (by omega) ⟨⟨_, by rw [hz]⟩, Kp.tok⟩

theorem EvV.lenWord {p pos : Pos} {e : Expr} {v : Value} {n : Int} (B : Base mg mb h₀) (N : Names mg mb) (x : EvV prog w A env h₀ e (· = v)) (hv : WordN h₀ n v) (hs : n < 2 ^ 63)
    (hk : env.scope.kind = .function := by rfl) (hn : env.kindOf "len" = some .globalImplicit := by rfl)
    (hg : env.globals = mainGlobals := by rfl) (hb : env.builtins = builtinsNs := by rfl) (he : starEach [e] env = [(false, eval e env)] := by rfl) :
    EvV prog w A env h₀ (.Call (.Name "len" p) [e] [] pos) (IsI n) := fun s hs' =>
  Call_Name1 ((EvV.boot B N (by decide) (by first | rfl | decide +kernel) hk hn hg hb).go hs' fun f s₁ hf k₁ => by
    subst hf
    refine Calls.callWith_builtin rfl (Calls.evalArgs_plain (Calls.spliced_cons (x.go (hs'.trans k₁.sub) fun u s₂ hu k₂ => Calls.spliced_nil ?_)))
    subst hu
    exact wpAny_mono (call_len_word (hv.sub ((hs'.trans k₁.sub).trans k₂.sub)) hs) (fun _ _ q => ⟨q.1, (k₁.trans k₂).trans q.2⟩) fun _ _ q => q) he

theorem s_long0 {m : Str → Option Value} (hm : s.heap.Ns L m) :
    wpAny (model prog w) A (exec (lst 16) (eL L)) (fun f s' => f = .next ∧ (∃ t, s'.heap.Ns L (fun z => if z = "longest" then some (.int 0 t) else m z)) ∧ Kw [L] s s') noE s := by
  refine wpAny_Assign_Name (wpAny_Constant_int (k := 0) (pos := default) (wpAny_storeName_local rfl hm (fun h' hn' hs' => ⟨rfl, ⟨_, hn'⟩, ?_⟩) rfl)) rfl
  exact ⟨h', _, rfl, fun b o hb e => hs'.extBut b o (show b ≠ L by simpa using hb) e⟩

theorem s_floor {k : Nat} (hA : Room k A) (hk : k ≤ 20) (N : Names mg mb) (H : LawH mg mb ns vs L l p T O R M pa s.heap) (hi : IntsAre vs ns) (hn : ns.length ≤ 63) {m : Str → Option Value} (hm : s.heap.Ns L m) :
    wpAny (model prog w) A (exec (lst 18) (eL L)) (fun f s' => f = .next ∧ (∃ t, s'.heap.Ns L (fun z => if z = "floor" then some (.int (flr ns) t) else m z)) ∧ Kw [L] s s') noE s := by
  refine wpAny_Assign_Name (EvV.go (h₀ := s.heap) (P := IsI (flr ns)) (EvV.subI (EvV.mod (by decide) (EvV.at hA (by omega) H.base N H.list hi hn (EvV.cell H.script) EvV.int (by decide)) EvV.int) EvV.int) (Sub.refl _) fun v s₁ hv k₁ => ?_) rfl
  obtain ⟨t, rfl⟩ := hv
  refine wpAny_storeName_local rfl (hm.keeps k₁.sub) (fun h' hn' hs' => ⟨rfl, ⟨_, hn'⟩, ?_⟩) rfl
  exact (k₁.w _).trans (Kw.mk fun b o hb e => hs'.extBut b o (show b ≠ L by simpa using hb) e)

set_option maxHeartbeats 1000000 in
theorem s_longest {k : Nat} (hA : Room k A) (hk : k ≤ 20) (N : Names mg mb) (B : Base mg mb s.heap) (hL : 80 ≤ L) {m : Str → Option Value} (hm : s.heap.Ns L m) {D : Nat} {ys : Array Value} (hmD : m "words" = some (.ref D)) {t0 : Tok} (hm0 : m "longest" = some (.int 0 t0)) (hD : s.heap.IsList D ys)
    {ls : List Int} (hW : WordsAt s.heap ls ys.toList) (hls : ∀ n ∈ ls, 0 ≤ n ∧ n < 5) :
    wpAny (model prog w) A (exec (lst 17) (eL L)) (fun f s' => f = .next ∧ (∃ m' t, s'.heap.Ns L m' ∧ (∀ z : Str, z ≠ "word" → z ≠ "longest" → m' z = m z) ∧ m' "longest" = some (.int (mx ls) t)) ∧ Kw [L] s s') noE s := by
  have hsz : ys.size = ls.length := by rw [← hW.1, Array.length_toList]
  have hLD : D ≠ L := fun e => by
    obtain ⟨o, es, ep, ho, hd, _⟩ := hm
    obtain ⟨o', ho', hc, n, hd'⟩ := hD
    rw [← e, ho'] at ho; cases ho; rw [hd'] at hd; cases hd
  have hWk : ∀ (s' : Shared), (∀ b o, b ∉ [L] → s.heap.get? b = some o → s'.heap.get? b = some o) → ∀ j n, ls[j]? = some n → ∃ v, ys.toList[j]? = some v ∧ WordN s'.heap n v := fun s' hk j n hj => by
    obtain ⟨v, h1, h2⟩ := hW.2 j n hj
    refine ⟨v, h1, h2.imp id fun ⟨a, its, e, hl, hz⟩ => ⟨a, its, e, hl.at fun o eo => hk a o (fun hm' => ?_) eo, hz⟩⟩
    rw [List.mem_singleton] at hm'
    obtain ⟨o', es, ep, ho, hd, _⟩ := hm
    obtain ⟨o'', ho', hc, n', hd'⟩ := hl
    rw [hm', ho] at ho'; cases ho'; rw [hd'] at hd; cases hd
  refine wpAny_mono (for_rule (Wl := [L]) (src_list hA (EvV.local_ hm hmD) hD) (fun i h => ∃ m' t, h.Ns L m' ∧ (∀ z : Str, z ≠ "word" → z ≠ "longest" → m' z = m z) ∧ m' "longest" = some (.int (mx (ls.take i)) t))
    ?hJ ?hW ?hfp ⟨m, t0, hm, fun _ _ _ => rfl, hm0⟩ ?step) (fun f s' q => ?_) fun _ _ q => q
  case hJ =>
    rintro I i h h' hI ⟨m', t, h1, h2⟩ hk'
    obtain ⟨oL, _, _, hoL, _⟩ := hm
    exact ⟨m', t, h1.at' fun o e => hk' _ _ (fun z => by rw [z, hI] at hoL; cases hoL) e, h2⟩
  case hW =>
    intro b hb
    rw [List.mem_singleton.mp hb]
    obtain ⟨o, _, _, e, _⟩ := hm; exact ⟨o, e⟩
  case hfp =>
    intro b hb
    rw [List.mem_singleton] at hb
    subst hb
    rw [List.mem_singleton]; exact hLD
  case step =>
    rintro i v s' hi' hPv ⟨m', t, h1, h2, h3⟩ hkeep hg
    have hil : i < ls.length := by omega
    obtain ⟨n, hn⟩ : ∃ n, ls[i]? = some n := ⟨_, List.getElem?_eq_getElem hil⟩
    obtain ⟨v', hv1, hv2⟩ := hWk s' hkeep i n hn
    have hvv : v' = v := by
      have hPv : ys[i]? = some v := hPv
      rw [Array.getElem?_toList, hPv] at hv1
      exact (Option.some.inj hv1).symm
    subst hvv
    have hnr := hls n (List.mem_of_getElem? hn)
    have B' : Base mg mb s'.heap := B.low fun b o hb _ _ e => hkeep b o (by rw [List.mem_singleton]; exact Nat.ne_of_lt (Nat.lt_of_lt_of_le hb hL)) e
    refine wpAny_assign_Name (wpAny_storeName_local rfl h1 (fun h₁ hn₁ hs₁ => ?_) rfl)
    have k₁ : ∀ (b : Nat) o, b ≠ L → s'.heap.get? b = some o → h₁.get? b = some o := fun b o hb e => hs₁.extBut b o hb e
    have hv₁ : WordN h₁ n v' := hv2.imp id fun ⟨a, its, e, hl, hz⟩ => ⟨a, its, e, hl.at fun o eo => k₁ a o (fun q => by
      obtain ⟨o', es, ep, ho, hd, _⟩ := h1
      obtain ⟨o'', ho', hc, n', hd'⟩ := hl
      rw [q, ho] at ho'; cases ho'; rw [hd'] at hd; cases hd) eo, hz⟩
    have B₁ : Base mg mb h₁ := B'.low fun b o hb _ _ e => k₁ b o (by omega) e
    have hN₁ : h₁.Ns (eL L).locals (fun z => if z = "word" then some v' else m' z) := hn₁
    have hstep : mx (ls.take (i + 1)) = if mx (ls.take i) < n then n else mx (ls.take i) := by
      rw [List.take_add_one, hn]; exact mx_snoc _ _
    refine wpAny_execs_cons (wpAny_If (EvB.go (h₀ := h₁) (b := decide (mx (ls.take i) < n)) (EvB.gtI (EvV.lenWord B₁ N (EvV.local_ hN₁ (v := v') rfl) hv₁ (by omega)) ((EvV.local_ hN₁ (x := "longest") (v := .int (mx (ls.take i)) t) (by show (if ("longest" : Str) = "word" then _ else _) = _; rw [if_neg (by decide)]; exact h3)).mono fun v e => ⟨t, e⟩)) (Sub.refl _) fun s₂ k₂ => ?_))
    have kw₂ : Kw [L] s' s₂ := by
      obtain ⟨h₂', tk₂, rfl, hk₂⟩ := k₂
      exact Kw.mk fun b o hb e => hk₂ b o (k₁ b o (by simpa using hb) e)
    have hm₂ : ∀ z : Str, z ≠ "word" → z ≠ "longest" → (fun z : Str => if z = "word" then some v' else m' z) z = m z := fun z hz hz2 => by simp only [hz, if_false]; exact h2 z hz hz2
    by_cases hc : mx (ls.take i) < n
    · rw [if_pos (decide_eq_true hc)]
      refine wpAny_execs_cons (wpAny_Assign_Name (EvV.go (h₀ := s₂.heap) (P := IsI n) (EvV.lenWord (B₁.sub k₂.sub) N (EvV.local_ (hN₁.keeps k₂.sub) (v := v') rfl) (hv₁.sub k₂.sub) (by omega)) (Sub.refl _) fun u s₃ hu k₃ => ?_) rfl)
      obtain ⟨tu, rfl⟩ := hu
      refine wpAny_storeName_local rfl ((hN₁.keeps k₂.sub).keeps k₃.sub) (fun h₄ hn₄ hs₄ => ?_) rfl
      refine wpAny_execs_nil (wpAny_execs_nil ⟨rfl, ⟨_, tu, hn₄, fun z hz hz2 => ?_, ?_⟩, (kw₂.trans (k₃.w _)).trans (Kw.mk fun b o hb e => hs₄.extBut b o (show b ≠ L by simpa using hb) e)⟩)
      · show (if z = "longest" then _ else _) = _
        rw [if_neg hz2]; exact hm₂ z hz hz2
      · rw [hstep, if_pos hc]; rfl
    · rw [if_neg (by simpa using hc)]
      refine wpAny_execs_nil (wpAny_execs_nil ⟨rfl, ⟨_, t, hN₁.keeps k₂.sub, hm₂, ?_⟩, kw₂⟩)
      rw [hstep, if_neg hc]; exact h3
  obtain ⟨rfl, ⟨m', t, h1, h2, h3⟩, hk'⟩ := q
  refine ⟨rfl, ⟨m', t, h1, h2, ?_⟩, hk'⟩
  rw [hsz, List.take_length] at h3; exact h3
end
end Mine

namespace Mine

theorem owner_map : Manifest.owners.lookup (String.ofList ['p', 'a', 'm'].reverse) = some Manifest.sig_map := by kernel_rfl
theorem slot_map_init : Slot "map" "__init__" "object.__init__" :=
  .of (owner := "object") (n := "__init__") (by rw [typeLookup_type, builtinLookup_eq_fast]; kernel_rfl) (by decide +kernel) (by decide +kernel) (by decide +kernel)
    (by first | exact .inl (by decide +kernel) | exact .inr (by decide +kernel)) (by rw [isSubtype_type]; kernel_rfl)
theorem slot_map_iter : Slot "map" "__iter__" "map.__iter__" :=
  .of (owner := "map") (n := "__iter__") (by rw [typeLookup_type, builtinLookup_eq_fast]; kernel_rfl) (by decide +kernel) (by decide +kernel) (by decide +kernel)
    (by first | exact .inl (by decide +kernel) | exact .inr (by decide +kernel)) (by rw [isSubtype_type]; kernel_rfl)
theorem slot_map_next : Slot "map" "__next__" "map.__next__" :=
  .of (owner := "map") (n := "__next__") (by rw [typeLookup_type, builtinLookup_eq_fast]; kernel_rfl) (by decide +kernel) (by decide +kernel) (by decide +kernel)
    (by first | exact .inl (by decide +kernel) | exact .inr (by decide +kernel)) (by rw [isSubtype_type]; kernel_rfl)
theorem args_map_iter (a : Value) : argsOk "map.__iter__" ⟨[a], []⟩ := by
  unfold argsOk; rw [signature?_of (id := "map.__iter__") (n := ['_', '_', 'r', 'e', 't', 'i', '_', '_']) (o := ['p', 'a', 'm']) (by kernel_rfl) owner_map]; kernel_rfl
theorem args_map_next (a : Value) : argsOk "map.__next__" ⟨[a], []⟩ := by
  unfold argsOk; rw [signature?_of (id := "map.__next__") (n := ['_', '_', 't', 'x', 'e', 'n', '_', '_']) (o := ['p', 'a', 'm']) (by kernel_rfl) owner_map]; kernel_rfl
theorem entry_map_next : entryFor table "map.__next__" = some Builtin.«map.__next__» := entryFor_of_tree (by kernel_rfl)
theorem entry_map_new : entryFor table "map.__new__" = some Builtin.«map.__new__» := entryFor_of_tree (by kernel_rfl)
theorem entry_map_iter : entryFor table "map.__iter__" = some Builtin.«dict_keyiterator.__iter__» :=
  entryFor_alias (id' := "dict_keyiterator.__iter__") (by kernel_rfl) (by first | rfl | decide +kernel | (unfold String.splitOn; simp +decide [String.splitOnAux])) (by decide +kernel) (by kernel_rfl)
theorem mro_map : mroOf (.type "map") = pure [.type "map", .type "object"] := by rw [mroOf_type]; kernel_rfl
theorem lookup_map_new : typeLookup (.type "map") "__new__" = pure (some (.builtin "map.__new__")) := by rw [typeLookup_type, builtinLookup_eq_fast]; kernel_rfl
theorem called_map : TypeCalled "map" "map.__new__" "object.__init__" :=
  ⟨by decide +kernel, by decide +kernel, ⟨_, _, mro_map⟩, madeBy_type mro_map lookup_map_new (by decide +kernel), by decide +kernel, by rw [isSubtype_type]; kernel_rfl, slot_map_init⟩
theorem typeCall_map_2 (a b : Value) : checkTypeCall "map" ⟨[a, b], []⟩ = pure () := by kernel_rfl
theorem newCall_map_2 (a b : Value) : checkBuiltinCall "map.__new__" ⟨[.type "map", a, b], []⟩ = pure () := by kernel_rfl
theorem sub_map : isSubtype (.type "map") (.type "map") = pure true := by rw [isSubtype_type]; kernel_rfl

/-- a map object: its iterator in a tuple, its function -/
abbrev IsMap (h : Heap) (z T I : Nat) (f : Value) : Prop :=
  h.get? z = some { cls := .type "map", dict := none, data := .fields #[.ref T, f], slots := #[] } ∧ h.get? T = some { cls := .type "tuple", data := .seq #[.ref I] }

section
variable {prog : Program} {w : World} {A : Around} {s : Shared}

theorem pyIter_map {z T I : Nat} {f : Value} {Q : Value → Shared → Prop} {E : Value → Shared → Prop} (hz : IsMap s.heap z T I f) (h : Q (.ref z) s) : wpAny (model prog w) A (pyIter (.ref z)) Q E s := by
  have hT : s.TypeIs (.ref z) "map" := ⟨_, hz.1, rfl⟩
  refine wpAny_pyIter_slot hT slot_map_iter (wpAny_call_entry slot_map_iter hT entry_map_iter ?_ (args_map_iter _))
  show wpAny _ _ (ret (.ref z)) _ _ s
  exact wpAny_pure ⟨_, rfl, "map", _, hT, slot_map_next.lookup, h⟩
end
end Mine

namespace Mine

abbrev mapH1 (h : Heap) (l1 : Addr) : Heap := h.push { cls := .type "list_iterator", data := .fields #[.ref l1, .int 0 0] }
abbrev mapH2 (h : Heap) (l1 : Addr) : Heap := (mapH1 h l1).push { cls := .type "tuple", data := .seq #[.ref h.objs.size] }
abbrev mapH3 (h : Heap) (l1 : Addr) (f : Value) : Heap := (mapH2 h l1).push { cls := .type "map", data := .fields #[.ref (mapH1 h l1).objs.size, f] }

theorem meets_map_new (f : Value) (l1 : Addr) (xs : Array Value) :
    Meets (Builtin.«map.__new__» ⟨[.type "map", f, .ref l1], []⟩) (fun _ R s => s.heap.IsList l1 xs ∧
      R (.ok (.ret (.ref (mapH2 s.heap l1).objs.size))) { s with heap := mapH3 s.heap l1 f }) :=
  .of_wp fun prog w A R s h => by
    obtain ⟨hp, g, d, tk, os⟩ := s; obtain ⟨hl1, h⟩ := h
    have hsub := sub_map
    have hL1 : Heap.IsList (Shared.heap ⟨hp, g, d, tk, os⟩) l1 xs := hl1
    wp_walk using wpAny_pyIter_list hL1
    exact ⟨_, rfl, h⟩

abbrev mapG1 (h : Heap) (I : Addr) : Heap := h.push { cls := .type "tuple", data := .seq #[.ref I] }
abbrev mapG2 (h : Heap) (I : Addr) (f : Value) : Heap := (mapG1 h I).push { cls := .type "map", data := .fields #[.ref h.objs.size, f] }

section
variable {prog : Program} {w : World} {A : Around} {s : Shared}

theorem call_map_list {f : Value} {l1 : Addr} {xs : Array Value} {Q E : Value → Shared → Prop} (hl : s.heap.IsList l1 xs)
    (h : ∀ h', IsMap h' (s.heap.objs.size + 2) (s.heap.objs.size + 1) s.heap.objs.size f → h'.IsListIter s.heap.objs.size l1 0 →
      (∀ c o, s.heap.get? c = some o → h'.get? c = some o) → Q (.ref (s.heap.objs.size + 2)) { s with heap := h' }) :
    wpAny (model prog w) A (call (.type "map") [f, .ref l1]) Q E s := by
  refine callType_new called_map (by decide) (typeCall_map_2 _ _) (newCall_map_2 _ _) (fun obj => F.args_object_init_3 obj _ _) entry_map_new
    (meets_map_new f l1 xs) ⟨hl, ?_⟩
  have z1 : (mapH1 s.heap l1).objs.size = s.heap.objs.size + 1 := Heap.size_push ..
  have z2 : (mapH2 s.heap l1).objs.size = s.heap.objs.size + 2 := by rw [Heap.size_push, z1]
  have g3 : (mapH3 s.heap l1 f).get? (mapH2 s.heap l1).objs.size = some _ := Heap.get?_push_size _ rfl
  have g2 : (mapH3 s.heap l1 f).get? (mapH1 s.heap l1).objs.size = some _ := Heap.get?_push_of_some _ (Heap.get?_push_size _ rfl)
  have g1 : (mapH3 s.heap l1 f).get? s.heap.objs.size = some _ := Heap.get?_push_of_some _ (Heap.get?_push_of_some _ (Heap.get?_push_size _ rfl))
  show _ ∧ _
  rw [z2, z1] at g3
  rw [z1] at g2
  refine ⟨⟨_, by rw [z2]; exact g3, rfl⟩, ?_⟩
  rw [z2]
  exact h _ ⟨g3, g2⟩ ⟨_, g1, rfl, rfl⟩ fun c o e => Heap.get?_push_of_some _ (Heap.get?_push_of_some _ (Heap.get?_push_of_some _ e))
end
end Mine

namespace Mine

/-- what has a length: a word, or the empty tuple -/
def LenW (h : Heap) (n : Int) (v : Value) : Prop := WordN h n v ∨ (n = 0 ∧ ∃ a : Nat, v = .ref a ∧ h.IsTuple a #[])
def LenAt (h : Heap) (ls : List Int) (ys : List Value) : Prop := ys.length = ls.length ∧ ∀ (j : Nat) (n : Int), ls[j]? = some n → ∃ v, ys[j]? = some v ∧ LenW h n v
theorem WordsAt.len {h : Heap} {ls : List Int} {ys : List Value} (x : WordsAt h ls ys) : LenAt h ls ys := ⟨x.1, fun j n hj => let ⟨v, a, b⟩ := x.2 j n hj; ⟨v, a, .inl b⟩⟩
theorem LenW.at {h h' : Heap} {n : Int} {v : Value} (x : LenW h n v) (k : ∀ (a : Nat), ((∃ its, h.IsList a its) ∨ h.IsTuple a #[]) → ∀ o, h.get? a = some o → h'.get? a = some o) : LenW h' n v := by
  rcases x with x | ⟨e, a, q, o, ho, hc, n', hd⟩
  · exact .inl (x.imp id fun ⟨a, its, e, hl, hz⟩ => ⟨a, its, e, hl.at fun o eo => k a (.inl ⟨its, hl⟩) o eo, hz⟩)
  · exact .inr ⟨e, a, q, o, k a (.inr ⟨o, ho, hc, n', hd⟩) o ho, hc, n', hd⟩
theorem LenAt.at {h h' : Heap} {ls : List Int} {ys : List Value} (x : LenAt h ls ys) (k : ∀ (a : Nat), ((∃ its, h.IsList a its) ∨ h.IsTuple a #[]) → ∀ o, h.get? a = some o → h'.get? a = some o) : LenAt h' ls ys :=
  ⟨x.1, fun j n hj => let ⟨v, a, b⟩ := x.2 j n hj; ⟨v, a, b.at k⟩⟩
theorem LenAt.sub {h h' : Heap} {ls : List Int} {ys : List Value} (x : LenAt h ls ys) (k : Sub h h') : LenAt h' ls ys := x.at fun a _ o e => k a o e

section
variable {prog : Program} {w : World} {A : Around} {s : Shared}

theorem call_len_lenW {n : Int} {v : Value} (hv : LenW s.heap n v) (hn : n < 2 ^ 63) : wpAny (model prog w) A (call (.builtin "len") [v]) (fun u s' => IsI n u ∧ Kp s s') noE s := by
  rcases hv with hv | ⟨rfl, a, rfl, ht⟩
  · exact call_len_word hv hn
  · exact len_tuple (items := #[]) ht (by decide) ⟨⟨_, rfl⟩, Kp.tok⟩

theorem map_next_item {z T I l : Nat} {i : Nat} {xs : Array Value} {x : Value} {n : Int} {Q : Value → Shared → Prop} {E : Value → Shared → Prop} (hzI : z ≠ I)
    (hz : IsMap s.heap z T I (.builtin "len")) (hit : s.heap.IsListIter I l i) (hl : s.heap.IsList l xs) (hx : xs[i]? = some x) (hv : ∀ h', (∀ (c : Nat) o, c ≠ I → s.heap.get? c = some o → h'.get? c = some o) → LenW h' n x) (hn : n < 2 ^ 63)
    (hQ : ∀ (u : Value) s', IsI n u → s'.heap.IsListIter I l (i + 1) → Kw [I] s s' → Q u s') :
    wpAny (model prog w) A (Builtin.«map.__next__» ⟨[.ref z], []⟩) (fun fin s' => ∃ v, fin = .done (.ret v) ∧ Q v s') E s := by
  show wpAny _ _ (field (.ref z) 0 >>= _) _ _ _
  refine wpAny_bind (wpAny_field hz.1 rfl (x := .ref T) rfl ?_)
  refine wpAny_bind (wpAny_seqItems hz.2 rfl ?_)
  refine wpAny_bind ?_
  rw [← Array.forIn_toList]
  simp only [List.forIn_cons, List.forIn_nil]
  refine wpAny_bind (wpAny_bind (wpAny_holding ?_))
  refine wpAny_nextOf_list_item hit hl hx fun h₁ hit₁ hs₁ => ?_
  refine wpAny_pure ?_
  refine wpAny_pure ?_
  have hz₁ := hs₁.extBut z _ hzI hz.1
  refine wpAny_bind (wpAny_field hz₁ rfl (x := .builtin "len") rfl ?_)
  refine wpAny_bind (wpAny_holding ?_)
  refine wpAny_mono (call_len_lenW (s := { s with heap := h₁ }) (hv h₁ fun c o hc e => hs₁.extBut c o hc e) hn) (fun u s₂ q => ?_) fun _ _ q => q.elim
  obtain ⟨hu, k₂⟩ := q
  refine wpAny_bind (wpAny_letGo (wpAny_pure ⟨u, rfl, hQ u s₂ hu (hit₁.at fun o e => k₂.sub _ _ e) ?_⟩))
  obtain ⟨h₂, tk, rfl, hk⟩ := k₂
  exact ⟨h₂, tk, rfl, fun c o hc e => hk _ _ (hs₁.extBut c o (show c ≠ I by simpa using hc) e)⟩

theorem map_next_end {z T I l : Nat} {i : Nat} {xs : Array Value} {f : Value} {Q : Fin → Shared → Prop} {E : Value → Shared → Prop} (hh : A.handled = none)
    (hz : IsMap s.heap z T I f) (hit : s.heap.IsListIter I l i) (hl : s.heap.IsList l xs) (hx : xs[i]? = none)
    (hE : ∀ h' e, Heap.ExtBut I s.heap h' → (∃ o, h'.get? e = some o ∧ o.cls = .type "StopIteration") → E (.ref e) { s with heap := h' }) :
    wpAny (model prog w) A (Builtin.«map.__next__» ⟨[.ref z], []⟩) Q E s := by
  show wpAny _ _ (field (.ref z) 0 >>= _) _ _ _
  refine wpAny_bind (wpAny_field hz.1 rfl (x := .ref T) rfl ?_)
  refine wpAny_bind (wpAny_seqItems hz.2 rfl ?_)
  refine wpAny_bind ?_
  rw [← Array.forIn_toList]
  simp only [List.forIn_cons, List.forIn_nil]
  refine wpAny_bind (wpAny_bind (wpAny_holding ?_))
  exact wpAny_nextOf_list_end hh hit hl hx hE

theorem pyNext_map_item {z T I l : Nat} {i : Nat} {xs : Array Value} {x : Value} {n : Int} {Q : Option Value → Shared → Prop} {E : Value → Shared → Prop} (hzI : z ≠ I)
    (hz : IsMap s.heap z T I (.builtin "len")) (hit : s.heap.IsListIter I l i) (hl : s.heap.IsList l xs) (hx : xs[i]? = some x) (hv : ∀ h', (∀ (c : Nat) o, c ≠ I → s.heap.get? c = some o → h'.get? c = some o) → LenW h' n x) (hn : n < 2 ^ 63)
    (hQ : ∀ (u : Value) s', IsI n u → s'.heap.IsListIter I l (i + 1) → Kw [I] s s' → Q (some u) s') :
    wpAny (model prog w) A (pyNext (.ref z)) Q E s := by
  have hT : s.TypeIs (.ref z) "map" := ⟨_, hz.1, rfl⟩
  unfold pyNext
  exact wpAny_bind (wpAny_attempt (wpAny_callSpecial?_slot (name := Str.ofString "__next__") hT slot_map_next
    (wpAny_call_entry slot_map_next hT entry_map_next
      (map_next_item hzI hz hit hl hx hv hn fun u s' a1 a2 a3 => wpAny_pure (hQ u s' a1 a2 a3)) (args_map_next _))))

theorem pyNext_map_end {z T I l : Nat} {i : Nat} {xs : Array Value} {f : Value} {Q : Option Value → Shared → Prop} {E : Value → Shared → Prop} (hh : A.handled = none)
    (hz : IsMap s.heap z T I f) (hit : s.heap.IsListIter I l i) (hl : s.heap.IsList l xs) (hx : xs[i]? = none)
    (hQ : ∀ h', Heap.ExtBut I s.heap h' → Q none { s with heap := h' }) :
    wpAny (model prog w) A (pyNext (.ref z)) Q E s := by
  have hT : s.TypeIs (.ref z) "map" := ⟨_, hz.1, rfl⟩
  unfold pyNext
  refine wpAny_bind (wpAny_attempt (wpAny_callSpecial?_slot (name := Str.ofString "__next__") hT slot_map_next
    (wpAny_call_entry slot_map_next hT entry_map_next (map_next_end hh hz hit hl hx fun h' e hk he => ?_) (args_map_next _))))
  obtain ⟨o, ho, hc⟩ := he
  refine wpAny_bind (wpAny_isInstance (T := "StopIteration") (b := true) ⟨o, ho, hc⟩ isSubtype_stop ?_)
  exact wpAny_pure (hQ _ hk)
end
end Mine

namespace Mine
section
variable {prog : Program} {w : World} {A : Around} {s : Shared}

theorem Walks.lenMap (hh : A.handled = none) (z T I l : Nat) (hzI : z ≠ I) (ls : List Int) (ys : Array Value) (hsz : ys.size = ls.length) (hls : ∀ n ∈ ls, n < 2 ^ 63) (fp : List Nat) (hfp : z ∈ fp ∧ T ∈ fp ∧ I ∈ fp ∧ l ∈ fp) (hTI : T ≠ I) (hlI : l ≠ I)
    (WF : Heap → Prop) (hWF : ∀ h h' : Heap, WF h → (∀ (b : Nat), b ∈ fp → b ≠ I → ∀ o, h.get? b = some o → h'.get? b = some o) → WF h') (hW : ∀ h, WF h → LenAt h ls ys.toList) :
    Walks prog w A z fp [I] ls.length (fun i v => ∃ n, ls[i]? = some n ∧ IsI n v) (fun i h => IsMap h z T I (.builtin "len") ∧ h.IsListIter I l i ∧ h.IsList l ys ∧ WF h) where
  sub := fun b hb => by simp at hb; rw [hb]; exact hfp.2.2.1
  frame := fun i h h' st hk => ⟨⟨hk z hfp.1 _ st.1.1, hk T hfp.2.1 _ st.1.2⟩, st.2.1.at fun o e => hk I hfp.2.2.1 o e, st.2.2.1.at fun o e => hk l hfp.2.2.2 o e, hWF _ _ st.2.2.2 fun b hb _ o e => hk b hb o e⟩
  item := fun i s Q E hi st hQ => by
    obtain ⟨n, hn⟩ : ∃ n, ls[i]? = some n := ⟨_, List.getElem?_eq_getElem hi⟩
    obtain ⟨v, hv1, hv2⟩ := (hW _ st.2.2.2).2 i n hn
    rw [Array.getElem?_toList] at hv1
    refine pyNext_map_item hzI st.1 st.2.1 st.2.2.1 hv1 (fun h' hk => ?_) (hls n (List.mem_of_getElem? hn)) fun u s' hu hit k => ?_
    · obtain ⟨v', hv1', hv2'⟩ := (hW _ (hWF _ h' st.2.2.2 fun b _ hb o e => hk b o hb e)).2 i n hn
      rw [Array.getElem?_toList, hv1] at hv1'
      cases hv1'; exact hv2'
    · obtain ⟨h', tk, rfl, hk⟩ := k
      have hk' : ∀ (b : Nat) o, b ≠ I → s.heap.get? b = some o → h'.get? b = some o := fun b o hb e => hk b o (by simpa using hb) e
      exact hQ u h' tk ⟨n, hn, hu⟩ ⟨⟨hk' _ _ hzI st.1.1, hk' _ _ hTI st.1.2⟩, hit, st.2.2.1.at fun o e => hk' _ o hlI e, hWF _ _ st.2.2.2 fun b _ hb o e => hk' b o hb e⟩ hk
  done := fun s Q E st hQ => by
    refine pyNext_map_end hh st.1 st.2.1 st.2.2.1 (by rw [Array.getElem?_eq_none]; omega) fun h' hk => ?_
    exact hQ h' s.toks fun b o hb e => hk b o (by simpa using hb) e
  self := fun i s Q E st hQ => pyIter_map st.1 hQ
end
end Mine

namespace Mine

theorem mx_spec : ∀ (k : Nat) (ls : List Int), ls.length = k → (∀ n ∈ ls, n ≤ mx ls) ∧ (mx ls = 0 ∨ mx ls ∈ ls) ∧ 0 ≤ mx ls
  | 0, ls, h => by rw [List.length_eq_zero_iff.mp h]; exact ⟨(fun n hn => by cases hn), Or.inl rfl, Int.le_refl _⟩
  | k + 1, ls, h => by
    have hne : ls ≠ [] := by intro e; rw [e] at h; cases h
    obtain ⟨i1, i2, i3⟩ := mx_spec k ls.dropLast (by rw [List.length_dropLast, h]; rfl)
    have hd := List.dropLast_concat_getLast hne
    generalize ls.dropLast = r at *
    generalize ls.getLast hne = n at *
    subst hd
    rw [mx_snoc]
    by_cases hc : mx r < n
    · rw [if_pos hc]
      refine ⟨fun m hm => ?_, .inr (by simp), by omega⟩
      rcases List.mem_append.mp hm with hm | hm
      · have := i1 m hm; omega
      · rw [List.mem_singleton.mp hm]; exact Int.le_refl _
    · rw [if_neg hc]
      refine ⟨fun m hm => ?_, i2.imp id fun h => List.mem_append_left _ h, i3⟩
      rcases List.mem_append.mp hm with hm | hm
      · exact i1 m hm
      · rw [List.mem_singleton.mp hm]; omega

section
variable {prog : Program} {w : World} {A : Around} {s : Shared}

theorem max_map {z T I l : Nat} {ls : List Int} {ys : Array Value} (hh : A.handled = none) (hzI : z ≠ I) (hTI : T ≠ I) (hz : IsMap s.heap z T I (.builtin "len")) (hit : s.heap.IsListIter I l 0) (hl : s.heap.IsList l ys)
    (hW : LenAt s.heap ls ys.toList) (hls : ∀ n ∈ ls, 0 ≤ n ∧ n < 2 ^ 63) (hne : 0 < ls.length) :
    wpAny (model prog w) A (call (.builtin "max") [.ref z]) (fun v s' => IsI (mx ls) v ∧ Kw [I] s s') noE s := by
  have hsz : ys.size = ls.length := by rw [← hW.1, Array.length_toList]
  have hnl : ∀ (a : Nat) its, s.heap.IsList a its → a ≠ I := fun a its hl e => by
    obtain ⟨o, ho, hc, _⟩ := hit
    obtain ⟨o', ho', hc', _⟩ := hl
    rw [e, ho] at ho'; cases ho'; rw [hc] at hc'
    exact absurd hc' (by decide)
  have hnt : ∀ (a : Nat), s.heap.IsTuple a #[] → a ≠ I := fun a hl e => by
    obtain ⟨o, ho, hc, _⟩ := hit
    obtain ⟨o', ho', hc', _⟩ := hl
    rw [e, ho] at ho'; cases ho'; rw [hc] at hc'
    exact absurd hc' (by decide)
  have lt : ∀ {b : Nat} {o}, s.heap.get? b = some o → b ∈ List.range s.heap.objs.size := fun e => List.mem_range.mpr (Heap.lt_size e)
  have Wk := Walks.lenMap (prog := prog) (w := w) (A := A.in1) hh z T I l hzI ls ys hsz (fun n hn => (hls n hn).2) (List.range s.heap.objs.size)
    ⟨lt hz.1, lt hz.2, (by obtain ⟨_, e, _⟩ := hit; exact lt e), (by obtain ⟨_, e, _⟩ := hl; exact lt e)⟩ hTI (hnl _ _ hl)
    (fun h => ∀ (b : Nat) o, b ≠ I → s.heap.get? b = some o → h.get? b = some o) (fun h h' hw hk b o hb e => hk b (lt e) hb o (hw b o hb e))
    (fun h hw => hW.at fun a ha o eo => hw a o (ha.elim (fun ⟨its, hl⟩ => hnl a its hl) (hnt a)) eo)
  refine call_max_walkS (pyIter_map hz ⟨z, _, _, _, _, _, _, fun i j => decide (ls.getD i 0 > ls.getD j 0), rfl, Wk.toS, ⟨hz, hit, hl, fun b o _ e => e⟩, fun b hb => List.mem_range.mp hb, hne,
    CmpOf.ints_gt (fun i => ls.getD i 0) (fun i v hP => ?_), fun v s' hP hm => ?_⟩)
  · obtain ⟨n, hn, t, rfl⟩ := hP
    exact ⟨t, by rw [List.getD_eq_getElem?_getD, hn]; rfl⟩
  · obtain ⟨n, hn, t, rfl⟩ := hP
    have hb := argBest_gt (fun i => ls.getD i 0) (ls.length - 1)
    obtain ⟨m1, m2, m3⟩ := mx_spec _ ls rfl
    have hnm := List.mem_of_getElem? hn
    have e : n = mx ls := by
      have h1 := m1 n hnm
      have h0 := (hls n hnm).1
      rcases m2 with q | q
      · omega
      · obtain ⟨j, hj⟩ := List.mem_iff_getElem?.mp q
        have hjl : j < ls.length := by
          rcases Nat.lt_or_ge j ls.length with h | h
          · exact h
          · rw [List.getElem?_eq_none h] at hj; cases hj
        have h2 := hb.2 j (by omega)
        simp only [List.getD_eq_getElem?_getD] at h2 hn
        rw [hj, hn] at h2
        simp only [Option.getD_some] at h2
        omega
    refine ⟨⟨t, by rw [e]⟩, ?_⟩
    rw [Moved.eq_with hm]
    exact Kw.mk fun b o hb e => hm.heap b o hb e
end
end Mine

namespace Mine

def fdX : FuncData := fdOf (stm 2) (.ref 33) pmT (.ref 39)
def bodyX : List Stmt := match stm 2 with | .FunctionDef _ _ b .. => b | _ => []
variable {mg mb : Str → Option Value}

section
variable {prog : Program} {w : World} {A : Around} {s : Shared}

/-- the map object over the words, wherever its walk comes from -/
def MapPost (l : Nat) (ys : Array Value) (ls : List Int) (wr : List Nat) (s' : Shared) (v : Value) (s'' : Shared) : Prop :=
  ∃ z T I : Nat, v = .ref z ∧ z ≠ I ∧ T ≠ I ∧ IsMap s''.heap z T I (.builtin "len") ∧ s''.heap.IsListIter I l 0 ∧ s''.heap.IsList l ys ∧ Kp s' s'' ∧ ((∀ (b : Nat) o, s'.heap.get? b = some o → b ≠ I) ∨ I ∈ wr)

set_option maxHeartbeats 1000000 in
theorem maxlen_go {k : Nat} (hA : Room k A) (hk : k ≤ 40) (B : Base mg mb s.heap) (N : Names mg mb) {args : Args} {it : Nat} {fl : Int} {tf : Tok} (hbind : BindsTo s fdX args [("iterable", .ref it), ("minimum", .int fl tf)])
    {l : Nat} {ys : Array Value} {ls : List Int} {wr : List Nat} (hW : LenAt s.heap ls ys.toList) (hls : ∀ n ∈ ls, 0 ≤ n ∧ n < 2 ^ 63) (hne : 0 < ls.length) (hwr : ∀ b : Nat, b ∈ wr → 80 ≤ b)
    (hmap : ∀ (A' : Around) (s' : Shared), Room (k + 1) A' → Sub s.heap s'.heap → wpAny (model prog w) A' (call (.type "map") [.builtin "len", .ref it]) (MapPost l ys ls wr s') noE s') :
    wpAny (model prog w) A (call (.ref 40) args.pos args.kw) (fun v s' => IsI (if mx ls < fl then fl else mx ls) v ∧ Kw wr s s') noE s := by
  refine call_fn (args := args) (fd := fdX) (body := bodyX) (binds := [("iterable", .ref it), ("minimum", .int fl tf)]) hA (by omega) B.nl B.f40 rfl B.c39 rfl hbind (by decide) (locs rfl) (fun h₁ tk hns hsub => ?_)
  have hAd : Room (k + 1) (A.deeper (callEnv fdX s.heap.objs.size 40)) := hA.deeper _
  have B₁ : Base mg mb h₁ := B.sub hsub
  show wpAny _ _ (execs [.Try [_] [_] [] [] _, .Return (some (.Call (.Name "max" _) [.Name "result" _, .Name "minimum" _] [] _)) _] _) _ _ _
  refine wpAny_execs_cons (wpAny_Try_except ?_)
  refine wpAny_execs_cons (wpAny_Assign_Name ?_ rfl)
  refine Call_Name1 ((EvV.boot (h₀ := h₁) (v := .builtin "max") B₁ N (by decide) (by first | rfl | decide +kernel)).go (Sub.refl _) fun f s₂ hf k₂ => ?_)
  subst hf
  refine Calls.callWith_builtin rfl (Calls.evalArgs_plain (Calls.spliced_cons ?_))
  refine Call_Name2 ((EvV.boot (h₀ := h₁) (v := .type "map") B₁ N (by decide) (by first | rfl | decide +kernel)).go k₂.sub fun f s₃ hf k₃ => ?_)
  subst hf
  have k13 := k₂.trans k₃
  refine PyProof.Rows.callWith_type rfl (Calls.evalArgs_plain (Calls.spliced_cons ((EvV.boot (h₀ := h₁) (v := .builtin "len") B₁ N (by decide) (by first | rfl | decide +kernel)).go k13.sub fun u s₄ hu k₄ => ?_)))
  subst hu
  have k14 := k13.trans k₄
  refine Calls.spliced_cons ((EvV.local_ (h₀ := h₁) (v := .ref it) hns rfl).go k14.sub fun u s₅ hu k₅ => Calls.spliced_nil ?_)
  subst hu
  have k15 := k14.trans k₅
  refine wpAny_mono (hmap _ s₅ hAd (hsub.trans k15.sub)) (fun v s₆ q => ?_) fun _ _ q => q.elim
  obtain ⟨z, T, I, rfl, hzI, hTI, hz, hit, hl, k₆, hI⟩ := q
  refine Calls.spliced_nil ?_
  have k06 : Sub s.heap s₆.heap := (hsub.trans k15.sub).trans k₆.sub
  refine wpAny_mono (max_map hAd.handled hzI hTI hz hit hl (hW.sub k06) hls hne) (fun v s₇ q => ?_) fun _ _ q => q.elim
  obtain ⟨⟨t, rfl⟩, k₇⟩ := q
  obtain ⟨h₇, tk₇, rfl, hk₇⟩ := k₇
  have hIF : I ≠ s.heap.objs.size := fun e => by
    obtain ⟨o, ho, hc, n⟩ := hit
    obtain ⟨o', es, ep, e', d', _⟩ := (hns.keeps k15.sub).keeps k₆.sub
    have e' : s₆.heap.get? s.heap.objs.size = some o' := e'
    rw [← e, ho] at e'; cases e'; rw [d'] at n; cases n
  have hns₇ : h₇.Ns s.heap.objs.size _ := ((hns.keeps k15.sub).keeps k₆.sub).at' fun o e => hk₇ _ _ (by rw [List.mem_singleton]; exact hIF.symm) e
  refine wpAny_storeName_local rfl hns₇ (fun h₈ hn₈ hs₈ => ?_) rfl
  have kI : ∀ (b : Nat) o, b < 80 → s.heap.get? b = some o → b ≠ I := fun b o hb e q => by
    rcases hI with hI | hI
    · exact hI b o ((hsub.trans k15.sub) b o e) q
    · have := hwr I hI; omega
  have B₈ : Base mg mb h₈ := B.low fun b o hb _ _ e => hs₈.extBut b o (Nat.ne_of_lt (Nat.lt_of_lt_of_le hb B.size)) (hk₇ b o (by rw [List.mem_singleton]; exact kI b o hb e) (k06 b o e))
  refine wpAny_execs_nil (wpAny_execs_nil ?_)
  refine wpAny_execs_cons (wpAny_Return_some ?_)
  refine Call_Name2 ((EvV.boot (h₀ := h₈) (v := .builtin "max") B₈ N (by decide) (by first | rfl | decide +kernel)).go (Sub.refl _) fun f s₉ hf k₉ => ?_)
  subst hf
  refine Calls.callWith_builtin rfl (Calls.evalArgs_plain (Calls.spliced_cons ((EvV.local_ (h₀ := h₈) (v := .int (mx ls) t) hn₈ rfl).go k₉.sub fun u s₁₀ hu k₁₀ => ?_)))
  subst hu
  refine Calls.spliced_cons ((EvV.local_ (h₀ := h₈) (v := .int fl tf) hn₈ rfl).go (k₉.trans k₁₀).sub fun u s₁₁ hu k₁₁ => Calls.spliced_nil ?_)
  subst hu
  have k811 := (k₉.trans k₁₀).trans k₁₁
  refine max_two_ints hAd.handled fun h₁₂ tk₁₂ hk₁₂ => ⟨?_, ?_⟩
  · by_cases hc : mx ls < fl
    · rw [if_pos hc, if_pos (show fl > mx ls from hc)]; exact ⟨_, rfl⟩
    · rw [if_neg hc, if_neg (show ¬ fl > mx ls from hc)]; exact ⟨_, rfl⟩
  · obtain ⟨h₁₁, tk₁₁, rfl, hk₁₁⟩ := k811
    obtain ⟨h₆', tk₆', rfl, hk₆'⟩ := k15.trans k₆
    refine ⟨h₁₂, _, rfl, fun b o hb e => hk₁₂ b o (hk₁₁ b o (hs₈.extBut b o (fun q => ?_) (hk₇ b o (fun hm => ?_) (k06 b o e))))⟩
    · exact absurd (Heap.lt_size e) (by rw [show b = s.heap.objs.size from q]; exact Nat.lt_irrefl _)
    · rw [List.mem_singleton] at hm
      rcases hI with hI | hI
      · exact hI b o ((hsub.trans k15.sub) b o e) hm
      · exact hb (hm ▸ hI)

theorem map_of_list {k : Nat} {l : Nat} {ys : Array Value} {ls : List Int} {s₀ : Shared} (hl : s₀.heap.IsList l ys) (A' : Around) (s' : Shared) (hs : Sub s₀.heap s'.heap) :
    wpAny (model prog w) A' (call (.type "map") [.builtin "len", .ref l]) (MapPost l ys ls [] s') noE s' := by
  refine call_map_list (IsList.to hl hs) fun h' hz hit hk => ?_
  exact ⟨s'.heap.objs.size + 2, s'.heap.objs.size + 1, s'.heap.objs.size, rfl, by omega, by omega, hz, hit, (IsList.to hl hs).at fun o e => hk _ _ e, Kp.mk hk, .inl fun b o e q => absurd (Heap.lt_size e) (by rw [q]; exact Nat.lt_irrefl _)⟩

theorem meets_map_newI (f : Value) (I l : Addr) (i : Nat) :
    Meets (Builtin.«map.__new__» ⟨[.type "map", f, .ref I], []⟩) (fun _ R s => s.heap.IsListIter I l i ∧
      R (.ok (.ret (.ref (mapG1 s.heap I).objs.size))) { s with heap := mapG2 s.heap I f }) :=
  .of_wp fun prog w A R s h => by
    obtain ⟨hp, g, d, tk, os⟩ := s; obtain ⟨hl1, h⟩ := h
    have hsub := sub_map
    have hL1 : Heap.IsListIter (Shared.heap ⟨hp, g, d, tk, os⟩) I l i := hl1
    wp_walk using wpAny_pyIter_listiter hL1
    exact ⟨_, rfl, h⟩

theorem map_of_iter {I l : Nat} {ys : Array Value} {ls : List Int} {s₀ : Shared} (hi : s₀.heap.IsListIter I l 0) (hl : s₀.heap.IsList l ys) (A' : Around) (s' : Shared) (hs : Sub s₀.heap s'.heap) :
    wpAny (model prog w) A' (call (.type "map") [.builtin "len", .ref I]) (MapPost l ys ls [I] s') noE s' := by
  have hi' : s'.heap.IsListIter I l 0 := hi.at fun o e => hs _ _ e
  refine callType_new called_map (by decide) (typeCall_map_2 _ _) (newCall_map_2 _ _) (fun obj => F.args_object_init_3 obj _ _) entry_map_new
    (meets_map_newI (.builtin "len") I l 0) ⟨hi', ?_⟩
  have z1 : (mapG1 s'.heap I).objs.size = s'.heap.objs.size + 1 := Heap.size_push ..
  have g3 : (mapG2 s'.heap I (.builtin "len")).get? (mapG1 s'.heap I).objs.size = some _ := Heap.get?_push_size _ rfl
  have g2 : (mapG2 s'.heap I (.builtin "len")).get? s'.heap.objs.size = some _ := Heap.get?_push_of_some _ (Heap.get?_push_size _ rfl)
  have hk : Sub s'.heap (mapG2 s'.heap I (.builtin "len")) := fun b o e => Heap.get?_push_of_some _ (Heap.get?_push_of_some _ e)
  have hlt : I < s'.heap.objs.size := by obtain ⟨_, e, _⟩ := hi'; exact Heap.lt_size e
  show _ ∧ _
  rw [z1] at g3
  refine ⟨⟨_, by rw [z1]; exact g3, rfl⟩, ?_⟩
  rw [z1]
  exact ⟨s'.heap.objs.size + 1, s'.heap.objs.size, I, rfl, by omega, by omega, ⟨g3, g2⟩, hi'.at fun o e => hk _ _ e, (IsList.to hl hs).at fun o e => hk _ _ e, Kp.mk (tk := s'.toks) hk, .inr (by simp)⟩
end
end Mine

namespace Mine
variable {mg mb : Str → Option Value}

section
variable {prog : Program} {w : World} {A : Around} {s : Shared}

theorem max_map_none {z T I l : Nat} {Q E : Value → Shared → Prop} (hh : A.handled = none) (hz : IsMap s.heap z T I (.builtin "len")) (hit : s.heap.IsListIter I l 0) (hl : s.heap.IsList l #[])
    (hE : ∀ h' tk (e : Nat), (∀ b o, b ≠ I → s.heap.get? b = some o → h'.get? b = some o) → (e ≠ I → s.heap.get? e = none) →
      (∃ ob t, h'.get? e = some ob ∧ ob.cls = .type "ValueError" ∧ ob.data = .fields #[t, .none, .none, .none, .bool false, .none]) → E (.ref e) { s with heap := h', toks := tk }) :
    wpAny (model prog w) A (call (.builtin "max") [.ref z]) Q E s := by
  have hname : (toString "max" ++ toString ".loop" : String) = "max.loop" := by decide
  refine call_function_tree F.kind_max F.plain_max F.entry_max (F.args_max1 _) ?_
  show wpAny _ A.in1 (Builtin.Builtins.bindParams "max" ["key", "default"] 0 ⟨[], []⟩ >>= _) _ _ s
  refine wpAny_bind (wpAny_of_eq (show Builtin.Builtins.bindParams "max" ["key", "default"] 0 ⟨[], []⟩ = pure [none, none] from rfl) ?_)
  refine wpAny_bind (wpAny_pure ?_)
  refine wpAny_bind (pyIter_map hz ?_)
  refine wpAny_bind (wpAny_newObj_type ?_)
  rw [hname]
  refine wpAny_pure ⟨plainId_quiet F.plain_max_loop _, ?_⟩
  refine codeAny_builtin F.entry_max_loop ?_
  rw [Around.under_plainId F.plain_max_loop _]
  have hS : (s.heap.push { cls := .type "list", data := .seq ([] : List Value).toArray }).get? s.heap.objs.size = some _ := Heap.get?_push_size _ rfl
  show wpAny _ A.in1 (seqItems? (.ref s.heap.objs.size) >>= _) _ _ _
  refine wpAny_bind (wpAny_seqItems hS rfl ?_)
  show wpAny _ A.in1 (tryCatch (pyNext (.ref z)) _ >>= _) _ _ _
  refine wpAny_bind (wpAny_tryCatch (pyNext_map_end (A := A.in1) (T := T) (I := I) (l := l) (i := 0) (xs := #[]) (f := .builtin "len") hh ⟨Heap.get?_push_of_some _ hz.1, Heap.get?_push_of_some _ hz.2⟩ (hit.at fun o e => Heap.get?_push_of_some _ e) (hl.push _) rfl fun h' hk => ?_))
  refine wpAny_bind (wpAny_rule ?_)
  refine wpAny_raiseErrorMade plainExc_ValueError hh fun h₂ tk e hx => ?_
  refine hE _ _ e (fun b o hb e => hx.keeps b o (hk b o hb (Heap.get?_push_of_some _ e))) (fun hne => ?_) hx.there
  cases q : s.heap.get? e with
  | none => rfl
  | some o =>
    have := hk e o hne (Heap.get?_push_of_some _ q)
    rw [show h'.get? e = none from hx.new] at this; cases this

theorem noteFrame_first {base : Heap} {env : Env} {outer : List Env} {L e : Addr} {oe : Obj} {vs : Array Value} {a0 : Value} {Q : Unit → Shared → Prop} {E : Value → Shared → Prop}
    (hfr : A.frames = some (env :: outer)) (hl : s.heap.FunFrames base (env :: outer)) (hf : env.frame = some L)
    (he : s.heap.get? e = some oe) (hkb : base.StaysIn s.heap) (hen : base.get? e = none) (hd : oe.data = .fields vs) (h1 : vs[1]? = some .none) (h0 : vs[0]? = some a0)
    (hQ : ∀ h', Heap.HeldW base (env :: outer) e oe.cls a0 L h' → s.heap.UpToSlots h' → Q () { s with heap := h' }) : wpAny (model prog w) A (noteFrame (.ref e) env) Q E s := by
  unfold noteFrame
  simp only [hf]
  refine wpAny_bind (wpAny_field he hd h1 ?_)
  rw [if_neg (by decide)]
  refine wpAny_entryW hfr hl hf he hkb hen hd (Array.getElem?_eq_some_iff.mp h1).1 h0 fun h' hN => ?_
  obtain ⟨k1, k2, k3, k4⟩ := hN
  exact hQ h' ⟨k1, hen, k2, k3⟩ k4

/-- frames of the stack may have got a frame object -/
def Sl (wr : List Nat) (s s' : Shared) : Prop := ∃ h' tk, s' = { s with heap := h', toks := tk } ∧ (∀ (b : Nat) o, b ∉ wr → s.heap.get? b = some o → h'.get? b = some o) ∧
  (∀ (b : Nat) o, s.heap.get? b = some o → (∀ vs, o.data ≠ .fields vs) → ∃ sl, h'.get? b = some { o with slots := sl })

set_option maxHeartbeats 1000000 in
theorem maxlen_none {k : Nat} (hA : Room k A) (hk : k ≤ 40) {fl' : List Env} (hf : A.frames = some fl') (hFr : FunFr s.heap.objs.size fl' s.heap) (hF80 : ∀ b : Nat, b ∈ frs fl' → 80 ≤ b) (B : Base mg mb s.heap) (N : Names mg mb) {args : Args} {l : Nat} {fl : Int} {tf : Tok} (hbind : BindsTo s fdX args [("iterable", .ref l), ("minimum", .int fl tf)])
    (hl : s.heap.IsList l #[]) :
    wpAny (model prog w) A (call (.ref 40) args.pos args.kw) (fun v s' => v = .int fl tf ∧ Sl (frs fl') s s') noE s := by
  refine wpAny_call (codeAny_call_def (fd := fdX) (body := bodyX) (hA.room (by omega)) B.f40 rfl B.nl B.c39 rfl hbind (by decide) (locs rfl) fun h₁ hns hsub => ?_)
  have hAd : Room (k + 1) (A.deeper (callEnv fdX s.heap.objs.size 40)) := hA.deeper _
  have hfd : (A.deeper (callEnv fdX s.heap.objs.size 40)).frames = some (callEnv fdX s.heap.objs.size 40 :: fl') := by
    show A.frames.map _ = _
    rw [hf]; rfl
  have hsub : Sub s.heap h₁ := hsub
  have B₁ : Base mg mb h₁ := B.sub hsub
  refine wpNoE ?_
  show wpAny _ _ (execs [.Try [_] [_] [] [] _, .Return (some (.Call (.Name "max" _) [.Name "result" _, .Name "minimum" _] [] _)) _] _) _ _ _
  refine wpAny_execs_cons (wpAny_Try_except ?_)
  refine wpAny_execs_cons (wpAny_Assign_Name ?_ rfl)
  refine Call_Name1 ((EvV.boot (h₀ := h₁) (v := .builtin "max") B₁ N (by decide) (by first | rfl | decide +kernel)).go (Sub.refl _) fun f s₂ hf k₂ => ?_)
  subst hf
  refine Calls.callWith_builtin rfl (Calls.evalArgs_plain (Calls.spliced_cons ?_))
  refine Call_Name2 ((EvV.boot (h₀ := h₁) (v := .type "map") B₁ N (by decide) (by first | rfl | decide +kernel)).go k₂.sub fun f s₃ hf k₃ => ?_)
  subst hf
  have k13 := k₂.trans k₃
  refine PyProof.Rows.callWith_type rfl (Calls.evalArgs_plain (Calls.spliced_cons ((EvV.boot (h₀ := h₁) (v := .builtin "len") B₁ N (by decide) (by first | rfl | decide +kernel)).go k13.sub fun u s₄ hu k₄ => ?_)))
  subst hu
  have k14 := k13.trans k₄
  refine Calls.spliced_cons ((EvV.local_ (h₀ := h₁) (v := .ref l) hns rfl).go k14.sub fun u s₅ hu k₅ => Calls.spliced_nil ?_)
  subst hu
  have k15 := k14.trans k₅
  refine call_map_list (IsList.to hl (hsub.trans k15.sub)) fun h₆ hz hit hk₆ => ?_
  refine Calls.spliced_nil ?_
  have k06 : Sub s.heap h₆ := (hsub.trans k15.sub).trans hk₆
  refine max_map_none hAd.handled hz hit (IsList.to hl k06) fun h₇ tk₇ e hk₇ hnew hth => ?_
  obtain ⟨ob, t0, hob, hobc, hobd⟩ := hth
  obtain ⟨h₅, tk₅, rfl, hk₅⟩ := k15
  have k17 : Sub h₁ h₇ := fun b o q => hk₇ b o (fun z => absurd (Heap.lt_size (hk₅ _ _ q)) (by rw [z]; exact Nat.lt_irrefl _)) (hk₆ _ _ (hk₅ _ _ q))
  have hFr₁ : FunFr (h₁.objs.size) (callEnv fdX s.heap.objs.size 40 :: fl') h₁ := by
    intro env he
    rcases List.mem_cons.mp he with rfl | he
    · exact ⟨show (ScopeKind.function ≠ .module) by decide, s.heap.objs.size, _, rfl, hns.lt, hns⟩
    · obtain ⟨g1, F, m, g2, g3, g4⟩ := hFr env he
      exact ⟨g1, F, m, g2, (g4.keeps hsub).lt, g4.keeps hsub⟩
  have hen : h₁.get? e = none := by
    cases q : h₁.get? e with
    | none => rfl
    | some o =>
      have h6 := hk₆ _ _ (hk₅ _ _ q)
      have hne : e ≠ h₅.objs.size := Nat.ne_of_lt (Heap.lt_size (hk₅ _ _ q))
      have := hnew hne
      rw [show h₆.get? e = none from this] at h6; cases h6
  refine noteFrame_first (base := hideAll h₁ (frs (callEnv fdX s.heap.objs.size 40 :: fl'))) hfd ?_ rfl hob (fun b o q => k17 _ _ (of_hideAll _ q)) ?_ hobd rfl rfl fun h₈ hH₈ hu₈ => ?_
  · exact (funFr_hide hFr₁ fun b hb => hb).of_keeps fun b o hb _ => ⟨o, k17 _ _ hb, rfl⟩
  · cases q : (hideAll h₁ (frs (callEnv fdX s.heap.objs.size 40 :: fl'))).get? e with
    | none => rfl
    | some o => have := of_hideAll _ q; rw [hen] at this; cases this
  rw [hobc] at hH₈
  refine wpAny_landsW hH₈ fun h₉ hF₉ hu₉ => ?_
  have hbk : ∀ (b : Nat) o, b ∉ frs fl' → s.heap.get? b = some o → (hideAll h₁ (frs (callEnv fdX s.heap.objs.size 40 :: fl'))).get? b = some o := fun b o hb e' => hideAll_get _ (hsub _ _ e') fun hm => by
    have hm' : b ∈ s.heap.objs.size :: frs fl' := hm
    rcases List.mem_cons.mp hm' with q | hm'
    · exact absurd (Heap.lt_size e') (by rw [q]; exact Nat.lt_irrefl _)
    · exact hb hm'
  have hB₉ : Base mg mb h₉ := B.low fun b o hb _ _ e' => hF₉.1 b o (hbk b o (fun hm => absurd (hF80 b hm) (by omega)) e')
  refine wpAny_handleBy_builtin (X := "ValueError") (T := "ValueError") (b := true) PySem.F.isExc_ValueError PySem.F.notTuple_ValueError PySem.F.self_ValueError ?_
  refine (EvV.boot (h₀ := h₉) (v := .type "ValueError") hB₉ N (by decide) (by first | rfl | decide +kernel)).go (Sub.refl _) fun u s₁₀ hu k₁₀ => ?_
  obtain ⟨h₁₀, tk₁₀, rfl, hk₁₀⟩ := k₁₀
  obtain ⟨obx, obe, obc⟩ := hF₉.there
  refine ⟨hu, ⟨obx, hk₁₀ _ _ obe, obc⟩, ?_⟩
  rw [if_pos rfl]
  have hF₁₀ : Heap.FlyingW (hideAll h₁ (frs (callEnv fdX s.heap.objs.size 40 :: fl'))) (callEnv fdX s.heap.objs.size 40 :: fl') e (.type "ValueError") t0 h₁₀ := by
    obtain ⟨f1, f2, f3, f4⟩ := hF₉
    refine ⟨fun b o e => hk₁₀ _ _ (f1 b o e), f2, f3.of_keeps fun b o e _ => ⟨o, hk₁₀ _ _ e, rfl⟩, ?_⟩
    obtain ⟨oe, vs', T', oT, ts, e1, e2, e3, e4, e5, e6, e7, e8, e9⟩ := f4
    exact ⟨oe, vs', T', oT, ts, hk₁₀ _ _ e1, e2, e3, e4, e5, e6, hk₁₀ _ _ e7, e8, e9⟩
  refine lands_againW hF₁₀ fun h₁₁ hF₁₁ hu₁₁ => ?_
  have hup : Heap.UpToSlots h₁ h₁₁ := (((Heap.UpToSlots.of_keeps k17).trans hu₈).trans hu₉).trans ((Heap.UpToSlots.of_keeps hk₁₀).trans hu₁₁)
  refine wpAny_execs_cons (wpAny_Return_some ?_)
  refine (EvV.local_ (h₀ := h₁₁) (v := .int fl tf) (hup.ns hns) rfl).go (Sub.refl _) fun u s₁₂ hu k₁₂ => ?_
  subst hu
  obtain ⟨h₁₂, tk₁₂, rfl, hk₁₂⟩ := k₁₂
  refine ⟨rfl, h₁₂, tk₁₂, rfl, fun b o hb e' => hk₁₂ b o (hF₁₁.1 b o (hbk b o hb e')), fun b o e' hd => ?_⟩
  obtain ⟨sl, q⟩ := hup b o (hsub _ _ e') hd
  exact ⟨sl, hk₁₂ _ _ q⟩
end
end Mine

namespace Mine
variable {mg mb : Str → Option Value} {ns : List Int} {vs : List Value} {L l p T O R M : Nat} {pa : Nat → Nat}

theorem Kw.kp {s s' : Shared} (x : Kw [] s s') : Kp s s' := by obtain ⟨h', tk, rfl, hk⟩ := x; exact Kp.mk fun b o e => hk b o (by simp) e

section
variable {prog : Program} {w : World} {A : Around} {s : Shared}

/-- max_len(list(words)) -/
theorem mx_list {k : Nat} {h₀ : Heap} (hA : Room k A) (hk : k ≤ 20) (B : Base mg mb h₀) (N : Names mg mb) {m : Str → Option Value} (hm : h₀.Ns L m) {D : Nat} {ys : Array Value} (hmD : m "words" = some (.ref D)) (hD : h₀.IsList D ys)
    {ls : List Int} (hW : WordsAt h₀ ls ys.toList) (hls : ∀ n ∈ ls, 0 ≤ n ∧ n < 2 ^ 63) (hne : 0 < ls.length) (hsm : ls.length ≤ 1000) {p1 p2 p3 p4 p5 : Pos} :
    EvV prog w A (eL L) h₀ (.Call (.Name "max_len" p1) [.Call (.Name "list" p2) [.Name "words" p3] [] p4] [] p5) (IsI (mx ls)) := fun s hs => by
  have hsz : ys.size = ls.length := by rw [← hW.1, Array.length_toList]
  refine Call_Name1 ((EvV.glob (h₀ := s.heap) (B.sub hs) N.max_len).go (Sub.refl _) fun f s₁ hf k₁ => ?_)
  subst hf
  have B₁ : Base mg mb s₁.heap := (B.sub hs).sub k₁.sub
  obtain ⟨o, ho, hc, n, hd⟩ := IsList.to hD (hs.trans k₁.sub)
  refine Calls.callWith_function (o := fobj (stm 2) (.ref 33) pmT (.ref 39)) (fd := fdX) ?_
  refine Calls.evalArgs_plain (Calls.spliced_cons (wpAny_mono (list_copy B₁ N (EvV.local_ (h₀ := s₁.heap) (hm.keeps (hs.trans k₁.sub)) hmD) ⟨o, n, ho, .inl hc, hd⟩ (by omega)) (fun v s₂ q => ?_) fun _ _ q => q.elim))
  obtain ⟨C, rfl, ⟨n', hC⟩, _, k₂⟩ := q
  refine Calls.spliced_nil ⟨⟨k₂.sub _ _ B₁.f40, rfl⟩, ?_⟩
  have B₂ := B₁.sub k₂.sub
  have hCl : s₂.heap.IsList C ys := ⟨_, hC, rfl, n', rfl⟩
  obtain ⟨tf, h33⟩ := B₂.d33
  refine wpAny_mono (maxlen_go (args := ⟨[.ref C], []⟩) (it := C) (fl := 0) (tf := tf) (l := C) (ys := ys) (ls := ls) (wr := []) hA (by omega) B₂ N (BindsTo.of_defaults rfl h33 rfl rfl rfl) (hW.len.sub ((hs.trans k₁.sub).trans k₂.sub)) hls hne (fun b hb => nomatch hb) fun A' s' hA' hs' => map_of_list (k := k) hCl A' s' hs') (fun v s₃ q => ⟨?_, (k₁.trans k₂).trans q.2.kp⟩) fun _ _ q => q.elim
  have h0 := (mx_spec _ ls rfl).2.2
  have := q.1
  rw [if_neg (by omega)] at this
  exact this

/-- max_len(iter(words), floor) -/
theorem mx_iter {k : Nat} {h₀ : Heap} (hA : Room k A) (hk : k ≤ 20) (B : Base mg mb h₀) (N : Names mg mb) {m : Str → Option Value} (hm : h₀.Ns L m) {D : Nat} {ys : Array Value} (hmD : m "words" = some (.ref D)) (hD : h₀.IsList D ys)
    {ls : List Int} (hW : WordsAt h₀ ls ys.toList) (hls : ∀ n ∈ ls, 0 ≤ n ∧ n < 2 ^ 63) (hne : 0 < ls.length) {fl : Int} {tf : Tok} (hmf : m "floor" = some (.int fl tf)) {p1 p2 p3 p4 p5 p6 : Pos} :
    EvV prog w A (eL L) h₀ (.Call (.Name "max_len" p1) [.Call (.Name "iter" p2) [.Name "words" p3] [] p4, .Name "floor" p6] [] p5) (IsI (if mx ls < fl then fl else mx ls)) := fun s hs => by
  refine Call_Name2 ((EvV.glob (h₀ := s.heap) (B.sub hs) N.max_len).go (Sub.refl _) fun f s₁ hf k₁ => ?_)
  subst hf
  have B₁ : Base mg mb s₁.heap := (B.sub hs).sub k₁.sub
  refine Calls.callWith_function (o := fobj (stm 2) (.ref 33) pmT (.ref 39)) (fd := fdX) ?_
  refine Calls.evalArgs_plain (Calls.spliced_cons (Call_Name1 ((EvV.boot (h₀ := s₁.heap) (v := .builtin "iter") B₁ N (by decide) (by first | rfl | decide +kernel)).go (Sub.refl _) fun f s₂ hf k₂ => ?_)))
  subst hf
  have k12 := k₁.trans k₂
  refine Calls.callWith_builtin rfl (Calls.evalArgs_plain (Calls.spliced_cons ((EvV.local_ (h₀ := s₂.heap) (hm.keeps (hs.trans k12.sub)) hmD).go (Sub.refl _) fun u s₃ hu k₃ => Calls.spliced_nil ?_)))
  subst hu
  have k13 := k12.trans k₃
  refine call_iter_list (IsList.to hD (hs.trans k13.sub)) fun h₄ hk₄ hit => ?_
  have k14 : Kp s { s₃ with heap := h₄ } := k13.trans (Kp.mk (tk := s₃.toks) hk₄)
  refine Calls.spliced_cons ((EvV.local_ (h₀ := h₄) (v := .int fl tf) (hm.keeps (hs.trans k14.sub)) hmf).go (Sub.refl _) fun u s₅ hu k₅ => Calls.spliced_nil ⟨⟨k₅.sub _ _ (hk₄ _ _ (((k₂.trans k₃).sub) _ _ B₁.f40)), rfl⟩, ?_⟩)
  subst hu
  have k15 := k14.trans k₅
  have hit₅ : s₅.heap.IsListIter s₃.heap.objs.size D 0 := hit.at fun o e => k₅.sub _ _ e
  have B₅ := B.sub (hs.trans k15.sub)
  have h80 : 80 ≤ (s₃.heap.objs.size : Nat) := (B.sub (hs.trans k13.sub)).size
  refine wpAny_mono (maxlen_go (args := ⟨[.ref s₃.heap.objs.size, .int fl tf], []⟩) (it := s₃.heap.objs.size) (fl := fl) (tf := tf) (l := D) (ys := ys) (ls := ls) (wr := [s₃.heap.objs.size]) hA (by omega) B₅ N
    (by obtain ⟨t, h33⟩ := B₅.d33; exact BindsTo.of_defaults rfl h33 rfl rfl rfl) (hW.len.sub (hs.trans k15.sub)) hls hne (fun b hb => by rw [List.mem_singleton.mp hb]; exact h80) fun A' s' hA' hs' => map_of_iter hit₅ (IsList.to hD (hs.trans k15.sub)) A' s' hs') (fun v s₆ q => ⟨q.1, ?_⟩) fun _ _ q => q.elim
  obtain ⟨h₆, tk₆, rfl, hk₆⟩ := q.2
  obtain ⟨h₅, tk₅, rfl, hk₅⟩ := k15
  refine Kp.mk fun b o e => hk₆ b o (fun hm' => ?_) (hk₅ b o e)
  have := Heap.lt_size (k13.sub _ _ e)
  rw [List.mem_singleton.mp hm'] at this
  exact Nat.lt_irrefl _ this

set_option maxHeartbeats 1000000 in
theorem s_if19 {k : Nat} (hA : Room k A) (hk : k ≤ 20) (N : Names mg mb) (B : Base mg mb s.heap) {m : Str → Option Value} (hm : s.heap.Ns L m) {D : Nat} {ys : Array Value} (hmD : m "words" = some (.ref D)) (hD : s.heap.IsList D ys)
    {ls : List Int} (hW : WordsAt s.heap ls ys.toList) (hls : ∀ n ∈ ls, 0 ≤ n ∧ n < 2 ^ 63) (hne : 0 < ls.length) (hsm : ls.length ≤ 1000) {fl : Int} {tf t : Tok} (hmf : m "floor" = some (.int fl tf)) (hml : m "longest" = some (.int (mx ls) t)) :
    wpAny (model prog w) A (exec (lst 19) (eL L)) (fun f s' => f = .next ∧ Kp s s') noE s := by
  have eL' : ∀ {p : Pos}, EvV prog w A (eL L) s.heap (.Name "longest" p) (IsI (mx ls)) := (EvV.local_ hm hml).mono fun v e => ⟨t, e⟩
  have eF : ∀ {p : Pos}, EvV prog w A (eL L) s.heap (.Name "floor" p) (IsI fl) := (EvV.local_ hm hmf).mono fun v e => ⟨tf, e⟩
  refine wpAny_If (isTrue_or (EvB.go (h₀ := s.heap) (b := mx ls != mx ls) (EvB.neI (mx_list hA hk B N hm hmD hD hW hls hne hsm) eL') (Sub.refl _) fun s₁ k₁ => ?_))
  rw [if_neg (by simp)]
  refine isTrue_or (EvB.go (h₀ := s.heap) (b := (if mx ls < fl then fl else mx ls) != (if fl < mx ls then mx ls else fl)) (EvB.neI (mx_iter hA hk B N hm hmD hD hW hls hne hmf) (EvV.ite (EvB.gtI eL' eF) (fun h => by rw [if_pos (of_decide_eq_true h)]; exact eL') (fun h => by rw [if_neg (of_decide_eq_false h)]; exact eF))) k₁.sub fun s₂ k₂ => ?_)
  have e : (if mx ls < fl then fl else mx ls) = (if fl < mx ls then mx ls else fl) := by split <;> split <;> omega
  rw [e, if_neg (by simp)]
  exact isTrue_or_nil (wpAny_execs_nil ⟨rfl, k₁.trans k₂⟩)
end
end Mine

namespace Mine
variable {mg mb : Str → Option Value} {L : Nat}

section
variable {prog : Program} {w : World} {A : Around} {s : Shared}

theorem Kp.sl {wr : List Nat} {s s' : Shared} (x : Kp s s') : Sl wr s s' := by obtain ⟨h', tk, rfl, hk⟩ := x; exact ⟨h', tk, rfl, fun b o _ e => hk b o e, fun b o e _ => ⟨o.slots, hk b o e⟩⟩
theorem Sl.trans {wr : List Nat} {a b c : Shared} (x : Sl wr a b) (y : Sl wr b c) : Sl wr a c := by
  obtain ⟨h', tk, rfl, h1, h2⟩ := x
  obtain ⟨h'', tk', rfl, h3, h4⟩ := y
  refine ⟨h'', tk', rfl, fun b o hb e => h3 b o hb (h1 b o hb e), fun b o e hd => ?_⟩
  obtain ⟨sl, e1⟩ := h2 b o e hd
  obtain ⟨sl', e2⟩ := h4 b _ e1 hd
  exact ⟨sl', e2⟩
theorem Sl.nsp {wr : List Nat} {s s' : Shared} {a : Nat} {m : Str → Option Value} (x : Sl wr s s') (hn : s.heap.Ns a m) : s'.heap.Ns a m := by
  obtain ⟨h', tk, rfl, _, h⟩ := x
  exact Heap.UpToSlots.ns (h := s.heap) (fun b o e hd => h b o e hd) hn
theorem Sl.base {s s' : Shared} (x : Sl [L] s s') (hL : 80 ≤ L) (B : Base mg mb s.heap) : Base mg mb s'.heap := by
  obtain ⟨h', tk, rfl, h, _⟩ := x
  exact B.low fun b o hb _ _ e => h b o (by rw [List.mem_singleton]; omega) e

theorem funFr_eL {m : Str → Option Value} {h : Heap} (hm : h.Ns L m) : FunFr h.objs.size [eL L] h := fun env he => by
  rw [List.mem_singleton.mp he]
  exact ⟨show (ScopeKind.function ≠ .module) by decide, L, m, rfl, hm.lt, hm⟩

/-- max_len([]) -/
theorem mx_none1 {k : Nat} (hA : Room k A) (hk : k ≤ 20) (hf : A.frames = some [eL L]) (hL : 80 ≤ L) (B : Base mg mb s.heap) (N : Names mg mb) {m : Str → Option Value} (hm : s.heap.Ns L m) {p1 p2 p5 : Pos} :
    wpAny (model prog w) A (eval (.Call (.Name "max_len" p1) [.List [] p2] [] p5) (eL L)) (fun v s' => IsI 0 v ∧ Sl [L] s s') noE s := by
  refine Call_Name1 ((EvV.glob (h₀ := s.heap) B N.max_len).go (Sub.refl _) fun f s₁ hf' k₁ => ?_)
  subst hf'
  refine Calls.callWith_function (o := fobj (stm 2) (.ref 33) pmT (.ref 39)) (fd := fdX) ?_
  refine Calls.evalArgs_plain (Calls.spliced_cons (wpAny_List (Calls.spliced_nil ⟨by rw [sizeLine_eq]; exact Nat.zero_le _, Calls.spliced_nil ?_⟩)))
  have hp : Sub s₁.heap (s₁.heap.push { cls := .type "list", data := .seq ([] : List Value).toArray }) := fun b o e => Heap.get?_push_of_some _ e
  have k₂ : Kp s { s₁ with heap := s₁.heap.push { cls := .type "list", data := .seq ([] : List Value).toArray } } := k₁.trans (Kp.mk (tk := s₁.toks) hp)
  have B₂ := B.sub k₂.sub
  refine ⟨⟨B₂.f40, rfl⟩, ?_⟩
  obtain ⟨tf, h33⟩ := B₂.d33
  refine wpAny_mono (maxlen_none (args := ⟨[.ref s₁.heap.objs.size], []⟩) (l := s₁.heap.objs.size) (fl := 0) (tf := tf) hA (by omega) hf (funFr_eL (hm.keeps k₂.sub)) (fun b hb => by rw [List.mem_singleton.mp (show b ∈ [L] from hb)]; exact hL) B₂ N (BindsTo.of_defaults rfl h33 rfl rfl rfl) ⟨_, Heap.get?_push_size _ rfl, rfl, _, rfl⟩) (fun v s₃ q => ⟨⟨tf, q.1⟩, k₂.sl.trans q.2⟩) fun _ _ q => q.elim

/-- max_len([], floor) -/
theorem mx_none2 {k : Nat} (hA : Room k A) (hk : k ≤ 20) (hf : A.frames = some [eL L]) (hL : 80 ≤ L) (B : Base mg mb s.heap) (N : Names mg mb) {m : Str → Option Value} (hm : s.heap.Ns L m) {fl : Int} {tf : Tok} (hmf : m "floor" = some (.int fl tf)) {p1 p2 p3 p5 : Pos} :
    wpAny (model prog w) A (eval (.Call (.Name "max_len" p1) [.List [] p2, .Name "floor" p3] [] p5) (eL L)) (fun v s' => IsI fl v ∧ Sl [L] s s') noE s := by
  refine Call_Name2 ((EvV.glob (h₀ := s.heap) B N.max_len).go (Sub.refl _) fun f s₁ hf' k₁ => ?_)
  subst hf'
  refine Calls.callWith_function (o := fobj (stm 2) (.ref 33) pmT (.ref 39)) (fd := fdX) ?_
  refine Calls.evalArgs_plain (Calls.spliced_cons (wpAny_List (Calls.spliced_nil ⟨by rw [sizeLine_eq]; exact Nat.zero_le _, ?_⟩)))
  have hp : Sub s₁.heap (s₁.heap.push { cls := .type "list", data := .seq ([] : List Value).toArray }) := fun b o e => Heap.get?_push_of_some _ e
  have k₂ : Kp s { s₁ with heap := s₁.heap.push { cls := .type "list", data := .seq ([] : List Value).toArray } } := k₁.trans (Kp.mk (tk := s₁.toks) hp)
  refine Calls.spliced_cons ((EvV.local_ (h₀ := s₁.heap.push { cls := .type "list", data := .seq ([] : List Value).toArray }) (hm.keeps k₂.sub) hmf).go (Sub.refl _) fun u s₃ hu k₃ => Calls.spliced_nil ?_)
  subst hu
  have B₃ := B.sub (k₂.trans k₃).sub
  refine ⟨⟨B₃.f40, rfl⟩, ?_⟩
  obtain ⟨t, h33⟩ := B₃.d33
  refine wpAny_mono (maxlen_none (args := ⟨[.ref s₁.heap.objs.size, .int fl tf], []⟩) (l := s₁.heap.objs.size) (fl := fl) (tf := tf) hA (by omega) hf (funFr_eL (hm.keeps (k₂.trans k₃).sub)) (fun b hb => by rw [List.mem_singleton.mp (show b ∈ [L] from hb)]; exact hL) B₃ N (BindsTo.of_defaults rfl h33 rfl rfl rfl) ⟨_, k₃.sub _ _ (Heap.get?_push_size _ rfl), rfl, _, rfl⟩) (fun v s₄ q => ⟨⟨tf, q.1⟩, (k₂.trans k₃).sl.trans q.2⟩) fun _ _ q => q.elim

/-- max_len(['', ()], floor) -/
theorem mx_two {k : Nat} {h₀ : Heap} (hA : Room k A) (hk : k ≤ 20) (B : Base mg mb h₀) (N : Names mg mb) {m : Str → Option Value} (hm : h₀.Ns L m) {fl : Int} {tf : Tok} (hmf : m "floor" = some (.int fl tf)) {p1 p2 p3 p4 p5 p6 : Pos} {k1 k2 : Nat} :
    EvV prog w A (eL L) h₀ (.Call (.Name "max_len" p1) [.List [.Constant (.str "") k1 p2, .Tuple [] k2 p4] p6, .Name "floor" p3] [] p5) (IsI (if 0 < fl then fl else 0)) := fun s hs => by
  refine Call_Name2 ((EvV.glob (h₀ := s.heap) (B.sub hs) N.max_len).go (Sub.refl _) fun f s₁ hf' k₁ => ?_)
  subst hf'
  refine Calls.callWith_function (o := fobj (stm 2) (.ref 33) pmT (.ref 39)) (fd := fdX) ?_
  refine Calls.evalArgs_plain (Calls.spliced_cons (wpAny_List (Calls.spliced_cons (wpAny_Constant_str (k := k1) (pos := p2) (Calls.spliced_cons (wpAny_Tuple (k := k2) (pos := p4) (Calls.spliced_nil ⟨by rw [sizeLine_eq]; exact Nat.zero_le _, Calls.spliced_nil ⟨by rw [sizeLine_eq]; exact (show 2 ≤ 16777216 by decide), ?_⟩⟩)))))))
  have hp : Sub s₁.heap ((s₁.heap.push { cls := .type "tuple", data := .seq ([] : List Value).toArray }).push { cls := .type "list", data := .seq [Value.str (Str.ofString "") s₁.toks, .ref s₁.heap.objs.size].toArray }) := fun b o e => Heap.get?_push_of_some _ (Heap.get?_push_of_some _ e)
  generalize hh₂ : (s₁.heap.push { cls := .type "tuple", data := .seq ([] : List Value).toArray }).push { cls := .type "list", data := .seq [Value.str (Str.ofString "") s₁.toks, .ref s₁.heap.objs.size].toArray } = h₂ at hp
  have hz : (s₁.heap.push { cls := .type "tuple", data := .seq ([] : List Value).toArray }).objs.size = s₁.heap.objs.size + 1 := Heap.size_push ..
  have hT : h₂.IsTuple s₁.heap.objs.size #[] := ⟨_, by rw [← hh₂]; exact Heap.get?_push_of_some _ (Heap.get?_push_size _ rfl), rfl, _, rfl⟩
  have hLl : h₂.IsList (s₁.heap.objs.size + 1) #[Value.str (Str.ofString "") s₁.toks, .ref s₁.heap.objs.size] := ⟨_, by rw [← hh₂, ← hz]; exact Heap.get?_push_size _ rfl, rfl, _, rfl⟩
  have k₂ : Kp s { s₁ with heap := h₂, toks := s₁.toks + 1 } := k₁.trans (Kp.mk (tk := s₁.toks + 1) hp)
  refine Calls.spliced_cons ((EvV.local_ (h₀ := h₂) (hm.keeps (hs.trans k₂.sub)) hmf).go (Sub.refl _) fun u s₃ hu k₃ => Calls.spliced_nil ?_)
  subst hu
  have k₃' : Kp s s₃ := k₂.trans k₃
  have B₃ := B.sub (hs.trans k₃'.sub)
  refine ⟨⟨B₃.f40, rfl⟩, ?_⟩
  show wpAny _ _ (call (.ref 40) [.ref (s₁.heap.push { cls := .type "tuple", data := .seq ([] : List Value).toArray }).objs.size, .int fl tf] []) _ _ _
  rw [hz]
  have hT₃ : s₃.heap.IsTuple s₁.heap.objs.size #[] := by
    obtain ⟨o, ho, r⟩ := hT
    exact ⟨o, k₃.sub _ _ ho, r⟩
  have hL₃ : s₃.heap.IsList (s₁.heap.objs.size + 1) #[Value.str (Str.ofString "") s₁.toks, .ref s₁.heap.objs.size] := hLl.at fun o e => k₃.sub _ _ e
  have hW : LenAt s₃.heap [0, 0] [Value.str (Str.ofString "") s₁.toks, .ref s₁.heap.objs.size] := ⟨rfl, fun j n hj => by
    rcases j with _ | _ | j
    · cases hj; exact ⟨_, rfl, .inl (.inl ⟨_, _, rfl, rfl⟩)⟩
    · cases hj; exact ⟨_, rfl, .inr ⟨rfl, _, rfl, hT₃⟩⟩
    · cases hj⟩
  refine wpAny_mono (maxlen_go (args := ⟨[.ref (s₁.heap.objs.size + 1), .int fl tf], []⟩) (it := s₁.heap.objs.size + 1) (fl := fl) (tf := tf) (l := s₁.heap.objs.size + 1) (ys := #[Value.str (Str.ofString "") s₁.toks, .ref s₁.heap.objs.size]) (ls := [0, 0]) (wr := []) hA (by omega) B₃ N (by obtain ⟨t, h33⟩ := B₃.d33; exact BindsTo.of_defaults rfl h33 rfl rfl rfl) hW (fun n hn => by simp at hn; omega) (by decide) (fun b hb => nomatch hb) fun A' s' hA' hs' => map_of_list (k := k) hL₃ A' s' hs') (fun v s₄ q => ⟨q.1, k₃'.trans q.2.kp⟩) fun _ _ q => q.elim

set_option maxHeartbeats 1000000 in
theorem s_ret20 {k : Nat} (hA : Room k A) (hk : k ≤ 20) (hf : A.frames = some [eL L]) (hL : 80 ≤ L) (N : Names mg mb) (B : Base mg mb s.heap) {m : Str → Option Value} (hm : s.heap.Ns L m) {fl : Int} {tf : Tok} (hmf : m "floor" = some (.int fl tf)) :
    wpAny (model prog w) A (exec (lst 20) (eL L)) (fun f s' => f = .ret (.bool true) ∧ Sl [L] s s') noE s := by
  refine wpAny_Return_some (BoolOp_and (wpAny_Compare1 (wpAny_mono (mx_none1 hA hk hf hL B N hm) (fun v s₁ q => ?_) fun _ _ q => q.elim) rfl))
  obtain ⟨⟨t, rfl⟩, k₁⟩ := q
  refine EvV.go (h₀ := s₁.heap) (P := IsI 0) EvV.int (Sub.refl _) fun u s₂ hu k₂ => ?_
  obtain ⟨t2, rfl⟩ := hu
  refine eq_int (wpAny_truthy_bool ?_)
  have k12 := k₁.trans k₂.sl
  have hf' : ∀ {p : Pos} {s' : Shared}, Sl [L] s s' → EvV prog w A (eL L) s'.heap (.Name "floor" p) (IsI fl) := fun k => (EvV.local_ (k.nsp hm) hmf).mono fun v e => ⟨tf, e⟩
  rw [if_pos (by rfl)]
  refine BoolOp_and (wpAny_Compare1 (wpAny_mono (mx_none2 hA hk hf hL (k12.base hL B) N (k12.nsp hm) hmf) (fun v s₃ q => ?_) fun _ _ q => q.elim) rfl)
  obtain ⟨⟨t3, rfl⟩, k₃⟩ := q
  have k13 := k12.trans k₃
  refine EvV.go (h₀ := s₃.heap) (P := IsI fl) (hf' k13) (Sub.refl _) fun u s₄ hu k₄ => ?_
  obtain ⟨t4, rfl⟩ := hu
  refine eq_int (wpAny_truthy_bool ?_)
  have k14 := k13.trans k₄.sl
  rw [if_pos (by simp)]
  refine BoolOp_one (EvV.go (h₀ := s₄.heap) (EvV.eqI (a := if 0 < fl then fl else 0) (b := if 0 < fl then fl else 0) (mx_two hA hk (k14.base hL B) N (k14.nsp hm) hmf) (EvV.ite (EvB.ltI (hf' k14) EvV.int) (fun h => by have := of_decide_eq_true h; rw [if_neg (by omega)]; exact EvV.int) (fun h => by
    have := of_decide_eq_false h
    by_cases hc : 0 < fl
    · rw [if_pos hc]; exact hf' k14
    · rw [if_neg hc]; have e : fl = 0 := by omega
      rw [← e]; exact hf' k14))) (Sub.refl _) fun u s₅ hu k₅ => ?_)
  subst hu
  exact ⟨by simp, k14.trans k₅.sl⟩
end
end Mine

namespace Mine
variable {mg mb : Str → Option Value} {ns : List Int} {vs : List Value} {L l p T O R M : Nat} {pa : Nat → Nat}

theorem Kw.keepL {M L : Nat} {s s' : Shared} {m : Str → Option Value} (x : Kw [L] s s') (hL : 80 ≤ L) (hm : s.heap.Ns L m) : KeepL M L s.heap s'.heap := fun b o _ h e => x.keep b o (fun hq => by
  rw [List.mem_singleton] at hq
  subst hq
  rcases h with h | ⟨xs, n, h⟩ | h
  · omega
  · obtain ⟨o', es, ep, e', d', _⟩ := hm
    rw [e] at e'; cases e'; rw [d'] at h; cases h
  · simp at h <;> omega) e

theorem IsList.ne_ns {h : Heap} {a L : Nat} {its : Array Value} {m : Str → Option Value} (x : h.IsList a its) (hm : h.Ns L m) : a ≠ L := fun e => by
  obtain ⟨o', es, ep, e', d', _⟩ := hm
  obtain ⟨o, ho, _, n, d⟩ := x
  rw [e, e'] at ho; cases ho; rw [d'] at d; cases d
theorem IsList.kwL {s s' : Shared} {a L : Nat} {its : Array Value} {m : Str → Option Value} (x : s.heap.IsList a its) (hm : s.heap.Ns L m) (k : Kw [L] s s') : s'.heap.IsList a its :=
  x.at fun o e => k.keep a o (by rw [List.mem_singleton]; exact IsList.ne_ns x hm) e
theorem WordsAt.kwL {s s' : Shared} {L : Nat} {ls : List Int} {ys : List Value} {m : Str → Option Value} (x : WordsAt s.heap ls ys) (hm : s.heap.Ns L m) (k : Kw [L] s s') : WordsAt s'.heap ls ys :=
  ⟨x.1, fun j n hj => let ⟨v, a, b⟩ := x.2 j n hj; ⟨v, a, b.imp id fun ⟨a, its, e, hl, hz⟩ => ⟨a, its, e, IsList.kwL hl hm k, hz⟩⟩⟩
theorem Sl.kw {wr : List Nat} {s s' : Shared} (x : Sl wr s s') : Kw wr s s' := by obtain ⟨h', tk, rfl, h, _⟩ := x; exact ⟨h', tk, rfl, h⟩

section
variable {prog : Program} {w : World} {A : Around} {s : Shared}

set_option maxHeartbeats 1000000 in
/-- statements 15 to 20 -/
theorem tail15 {k : Nat} (hA : Room k A) (hk : k ≤ 20) (hf : A.frames = some [eL L]) (N : Names mg mb) (H : LawH mg mb ns vs L l p T O R M pa s.heap) (hi : IntsAre vs ns) (hn : ns.length ≤ 63) {m : Str → Option Value} (hm : s.heap.Ns L m) (hwl : 0 < (wls ns).length ∧ (wls ns).length ≤ 1000) :
    wpAny (model prog w) A (execs [lst 15, lst 16, lst 17, lst 18, lst 19, lst 20] (eL L)) (fun f s' => f = .ret (.bool true) ∧ Kw [L] s s') noE s := by
  have hL := H.bd.2.2.2.2.2.2.1
  refine wpAny_execs_cons (wpAny_mono (s_words hA hk N H hi hn hm) (fun f s₁ q => ?_) fun _ _ q => q)
  obtain ⟨rfl, ⟨D, ys, hn₁, hD, hW⟩, k₁⟩ := q
  refine wpAny_execs_cons (wpAny_mono (s_long0 hn₁) (fun f s₂ q => ?_) fun _ _ q => q)
  obtain ⟨rfl, ⟨t, hn₂⟩, k₂⟩ := q
  have k12 := k₁.trans k₂
  have H₂ := H.keep (k12.keepL hL hm)
  have hD₂ := IsList.kwL hD hn₁ k₂
  have hW₂ := hW.kwL hn₁ k₂
  refine wpAny_execs_cons (wpAny_mono (s_longest (D := D) (t0 := t) hA hk N H₂.base hL hn₂ rfl rfl hD₂ hW₂ (wls_range ns)) (fun f s₃ q => ?_) fun _ _ q => q)
  obtain ⟨rfl, ⟨m₃, t₃, hn₃, hz₃, hl₃⟩, k₃⟩ := q
  have k13 := k12.trans k₃
  have H₃ := H.keep (k13.keepL hL hm)
  have hD₃ := IsList.kwL hD₂ hn₂ k₃
  have hW₃ := hW₂.kwL hn₂ k₃
  refine wpAny_execs_cons (wpAny_mono (s_floor hA hk N H₃ hi hn hn₃) (fun f s₄ q => ?_) fun _ _ q => q)
  obtain ⟨rfl, ⟨t₄, hn₄⟩, k₄⟩ := q
  have k14 := k13.trans k₄
  have H₄ := H.keep (k14.keepL hL hm)
  have hD₄ := IsList.kwL hD₃ hn₃ k₄
  have hW₄ := hW₃.kwL hn₃ k₄
  have hlen : 0 < (wls ns).length ∧ (wls ns).length ≤ 1000 := hwl
  have ew : (fun z : Str => if z = "floor" then some (Value.int (flr ns) t₄) else m₃ z) "words" = some (.ref D) := by
    show (if ("words" : Str) = "floor" then _ else _) = _
    rw [if_neg (by decide), hz₃ "words" (by decide) (by decide)]
    rfl
  have el : (fun z : Str => if z = "floor" then some (Value.int (flr ns) t₄) else m₃ z) "longest" = some (.int (mx (wls ns)) t₃) := by
    show (if ("longest" : Str) = "floor" then _ else _) = _
    rw [if_neg (by decide)]; exact hl₃
  refine wpAny_execs_cons (wpAny_mono (s_if19 (fl := flr ns) (tf := t₄) hA hk N H₄.base hn₄ ew hD₄ hW₄ (fun n hn' => by have := wls_range ns n hn'; omega) hlen.1 hlen.2 rfl el) (fun f s₅ q => ?_) fun _ _ q => q)
  obtain ⟨rfl, k₅⟩ := q
  have hn₅ := hn₄.keeps k₅.sub
  refine wpAny_execs_cons (wpAny_mono (s_ret20 (fl := flr ns) (tf := t₄) hA hk hf hL N (H₄.base.sub k₅.sub) hn₅ rfl) (fun f s₆ q => ?_) fun _ _ q => q)
  obtain ⟨rfl, k₆⟩ := q
  exact ⟨rfl, (k14.trans (k₅.w _)).trans k₆.kw⟩
end
end Mine

namespace Mine
variable {mg mb : Str → Option Value} {ns : List Int} {vs : List Value} {L l p T O R M : Nat} {pa : Nat → Nat}

section
variable {prog : Program} {w : World} {A : Around} {s : Shared}

theorem wls_len (hn : ns.length ≤ 63) : 0 < (wls ns).length ∧ (wls ns).length ≤ 1000 := by
  unfold wls
  rw [List.length_append, List.length_map, List.length_range]
  have := (wnv_lt ns).1
  simp only [List.length_singleton]; omega

theorem TabF.ne_ns {tb : Option (Nat × Nat)} {h : Heap} {L : Nat} {m : Str → Option Value} (x : TabF tb h) (hL : 80 ≤ L) (hm : h.Ns L m) : ∀ b : Nat, (b = 43 ∨ b = 47 ∨ ∃ c2 P2, tb = some (c2, P2) ∧ (b = c2 ∨ b = P2)) → b ≠ L := fun b hb q => by
  obtain ⟨o', es, ep, e', d', _⟩ := hm
  rcases hb with hb | hb | ⟨c2, P2, e, hb | hb⟩
  · omega
  · omega
  · obtain ⟨⟨o, vs, e1, e2, _⟩, _⟩ := x.gets e
    rw [← hb, q, e'] at e1; cases e1; rw [d'] at e2; cases e2
  · obtain ⟨_, ⟨ps, e1⟩, _⟩ := x.gets e
    rw [← hb, q, e'] at e1; cases e1; cases d'
theorem TabF.kwL {tb : Option (Nat × Nat)} {s s' : Shared} {L : Nat} {m : Str → Option Value} (x : TabF tb s.heap) (hL : 80 ≤ L) (hm : s.heap.Ns L m) (k : Kw [L] s s') : TabF tb s'.heap :=
  x.keep fun b o hb e => k.keep b o (by rw [List.mem_singleton]; exact x.ne_ns hL hm b hb) e

set_option maxHeartbeats 1000000 in
/-- statements 13 to 20 -/
theorem tail13 {k : Nat} (hA : Room k A) (hk : k ≤ 20) (hf : A.frames = some [eL L]) (N : Names mg mb) (H : LawH mg mb ns vs L l p T O R M pa s.heap) (hi : IntsAre vs ns) (hn : ns.length ≤ 63) {m : Str → Option Value} (hm : s.heap.Ns L m) (h2 : ∃ v, s.heap.IsCell (L + 2) v) {tb : Option (Nat × Nat)} (hT : TabF tb s.heap) :
    wpAny (model prog w) A (execs [lst 13, lst 14, lst 15, lst 16, lst 17, lst 18, lst 19, lst 20] (eL L)) (fun f s' => f = .ret (.bool true) ∧ Mv (L :: 43 :: tbP tb) s s' ∧ ∃ tb', TabF tb' s'.heap) noE s := by
  have hL := H.bd.2.2.2.2.2.2.1
  obtain ⟨its, hO, hOi⟩ := H.orderL
  refine wpAny_execs_cons (wpAny_mono (s_least hA (by omega) H.base N H.pool H.poolAt H.order hO hOi hm) (fun f s₁ q => ?_) fun _ _ q => q)
  obtain ⟨rfl, ⟨D, ys, _, hn₁, hD, hys⟩, k₁⟩ := q
  have H₁ := H.keep (k₁.keepL hL hm)
  have hT₁ : TabF tb s₁.heap := hT.kwL hL hm k₁
  have h2₁ : ∃ v, s₁.heap.IsCell (L + 2) v := let ⟨v, o, e, d⟩ := h2; ⟨v, o, k₁.keep _ o (by rw [List.mem_singleton]; show ¬ (L + 2 = L); omega) e, d⟩
  refine wpAny_execs_cons (wpAny_mono (s_if14 (D := D) hA hk hf N H₁ hn₁ h2₁ hT₁ rfl hD hys) (fun f s₂ q => ?_) fun _ _ q => q)
  obtain ⟨rfl, tb', hT₂, _, k₂⟩ := q
  have hw : WOk M L (43 :: tbP tb ++ []) s₁.heap := WOk.tabs hL (H₁.cells h2₁) hT₁ WOk.nil
  rw [List.append_nil] at hw
  have H₂ := H₁.keep (hw.keep k₂)
  have hLt : L ∉ 43 :: tbP tb := fun hq => by
    rcases List.mem_cons.mp hq with q | q
    · omega
    · cases htb : tb with
      | none => rw [htb] at q; cases q
      | some rr =>
        obtain ⟨c2, P2⟩ := rr
        rw [htb] at q
        have q : L = P2 := by simpa [tbP] using q
        exact hT₁.ne_ns hL hn₁ L (.inr (.inr ⟨c2, P2, htb, .inr q⟩)) rfl
  have hn₂ := hn₁.at' fun o e => k₂.keep L o hLt e
  refine wpAny_mono (tail15 hA hk hf N H₂ hi hn hn₂ (wls_len hn)) (fun f s₃ q => ⟨q.1, ?_, tb', hT₂.kwL hL hn₂ q.2⟩) fun _ _ q => q
  have a1 : Mv (L :: 43 :: tbP tb) s s₁ := k₁.mv.mono fun b hb => by simp at hb; simp [hb]
  have a2 : Mv (L :: 43 :: tbP tb) s₁ s₂ := k₂.mono fun b hb => List.mem_cons_of_mem _ hb
  have a3 : Mv (L :: 43 :: tbP tb) s₂ s₃ := q.2.mv.mono fun b hb => by simp at hb; simp [hb]
  exact (a1.trans a2).trans a3
end
end Mine

namespace Mine
variable {mg mb : Str → Option Value} {ns : List Int} {vs : List Value} {L l p T O R M : Nat} {pa : Nat → Nat}

/-- the two tables at the end -/
def EndT (s : Shared) : Prop := (∃ tb, TabF tb s.heap) ∧ ∃ ps, TabL ps s.heap

section
variable {prog : Program} {w : World} {A : Around} {s : Shared}

set_option maxHeartbeats 1000000 in
/-- statements 12 to 20 -/
theorem tail12 {k : Nat} (hA : Room k A) (hk : k ≤ 10) (hf : A.frames = some [eL L]) (N : Names mg mb) (H : LawH mg mb ns vs L l p T O R M pa s.heap) (hi : IntsAre vs ns) (hn : ns.length ≤ 63) {m : Str → Option Value} (hm : s.heap.Ns L m) (h2 : ∃ v, s.heap.IsCell (L + 2) v) (hR80 : 80 ≤ R) {tb : Option (Nat × Nat)} (hT : TabF tb s.heap) (htb : tb ≠ none)
    {ps : Array Value} (hTL : TabL ps s.heap) (hps : codeAmong lam2Pos ps.toList = none) :
    wpAny (model prog w) A (execs [lst 12, lst 13, lst 14, lst 15, lst 16, lst 17, lst 18, lst 19, lst 20] (eL L)) (fun f s' => f = .ret (.bool true) ∧ Mv (L :: 76 :: 43 :: tbP tb) s s' ∧ EndT s') noE s := by
  have hL := H.bd.2.2.2.2.2.2.1
  refine wpAny_execs_cons (wpAny_mono (s_if12 hA hk hf N H hm h2 hR80 hT hTL hps) (fun f s₁ q => ?_) fun _ _ q => q)
  obtain ⟨rfl, ⟨tb', c', hT₁, htb', hTL₁⟩, hn₁, kl, k₁⟩ := q
  have e : tb' = tb := htb'.resolve_left htb
  subst e
  have H₁ := H.keep kl
  have hP : ∀ v, s.heap.IsCell (L + 2) v → s₁.heap.IsCell (L + 2) v := fun v ⟨o, e, d⟩ => ⟨o, kl (L + 2) o (by have := H.bd.2.2.2.2.2.1; omega) (.inr (.inr (by simp))) e, d⟩
  refine wpAny_mono (tail13 hA (by omega) hf N H₁ hi hn hn₁ (let ⟨v, h⟩ := h2; ⟨v, hP v h⟩) hT₁) (fun f s₂ q => ⟨q.1, ?_, q.2.2, _, hTL₁.keep fun b o hb e => q.2.1.keep b o (fun hq => ?_) e⟩) fun _ _ q => q
  · have a1 : Mv (L :: 76 :: 43 :: tbP tb') s s₁ := k₁.mono fun b hb => by simpa using hb
    have a2 : Mv (L :: 76 :: 43 :: tbP tb') s₁ s₂ := q.2.1.mono fun b hb => by simp at hb ⊢; rcases hb with h | h | h <;> simp [h]
    exact a1.trans a2
  · have hb80 : (b : Nat) < 80 ∧ b ≠ 43 := by rcases hb with rfl | rfl <;> decide
    simp only [List.mem_cons] at hq
    rcases hq with h | h | h
    · have h : (b : Nat) = L := h
      omega
    · rcases hb with rfl | rfl <;> exact absurd h (by decide)
    · cases htq : tb' with
      | none => rw [htq] at h; cases h
      | some rr =>
        obtain ⟨c2, P2⟩ := rr
        rw [htq] at h
        have h : b = P2 := by simpa [tbP] using h
        obtain ⟨_, _, _, g81⟩ := hT.gets htq
        omega
end
end Mine

namespace Mine
variable {mg mb : Str → Option Value} {ns : List Int} {vs : List Value} {L l p T O R M : Nat} {pa : Nat → Nat}

section
variable {prog : Program} {w : World} {A : Around} {s : Shared}

theorem kw56_keepL {M L : Nat} {s s' : Shared} {va vb : Option Value} (k : Kw [L + 5, L + 6] s s') (hL : 80 ≤ L) (ha : s.heap.IsCell (L + 5) va) (hb : s.heap.IsCell (L + 6) vb) : KeepL M L s.heap s'.heap := by
  have h1 : WOk M L [L + 5, L + 6] s.heap := WOk.cell (.inl rfl) hL ha (WOk.cell (.inr (.inl rfl)) hL hb WOk.nil)
  exact h1.keep k.mv

theorem TabF.ne_cell {tb : Option (Nat × Nat)} {h : Heap} {c : Nat} {v : Option Value} (x : TabF tb h) (hc80 : 80 ≤ c) (hc : h.IsCell c v) : ∀ b : Nat, (b = 43 ∨ b = 47 ∨ ∃ c2 P2, tb = some (c2, P2) ∧ (b = c2 ∨ b = P2)) → b ≠ c := fun b hb q => by
  obtain ⟨o', e', d'⟩ := hc
  rcases hb with hb | hb | ⟨c2, P2, e, hb | hb⟩
  · omega
  · omega
  · obtain ⟨⟨o, vs, e1, e2, _⟩, _⟩ := x.gets e
    rw [← hb, q, e'] at e1; cases e1; rw [d'] at e2; cases e2
  · obtain ⟨_, ⟨ps, e1⟩, _⟩ := x.gets e
    rw [← hb, q, e'] at e1; cases e1; cases d'

set_option maxHeartbeats 1000000 in
/-- statements 10 to 20 -/
theorem tail10 {k : Nat} (hA : Room k A) (hk : k ≤ 10) (hf : A.frames = some [eL L]) (N : Names mg mb) (H : LawH mg mb ns vs L l p T O R M pa s.heap) (hi : IntsAre vs ns) (hn : ns.length ≤ 63) {m : Str → Option Value} (hm : s.heap.Ns L m) (h2 : ∃ v, s.heap.IsCell (L + 2) v) (hR80 : 80 ≤ R) {tb : Option (Nat × Nat)} (hT : TabF tb s.heap) (htb : tb ≠ none)
    {ps : Array Value} (hTL : TabL ps s.heap) (hps : codeAmong lam2Pos ps.toList = none)
    {D E' : Nat} {its : Array Value} (h1 : m "told" = some (.ref D)) (h2' : m "due" = some (.ref E'))
    (hD : s.heap.IsList D its) (hE : s.heap.IsList E' its) (hr : ∀ v ∈ its.toList, ∃ a : Nat, v = .ref a) (hsz : its.size ≤ 1000)
    {NL : Nat} (hnc : s.heap.IsCell (L + 7) (some (.ref NL))) {xs : Array Value} (hNL : s.heap.PlainList NL xs)
    (hxs : ∀ v ∈ xs.toList, ∃ t x y : Nat, v = .ref t ∧ PairAt s.heap t x y ∧ x ∈ adr ns pa ∧ y ∈ adr ns pa ∧ x ≠ y) (ha : ∃ v, s.heap.IsCell (L + 5) v) (hb : ∃ v, s.heap.IsCell (L + 6) v) :
    wpAny (model prog w) A (execs [lst 10, lst 11, lst 12, lst 13, lst 14, lst 15, lst 16, lst 17, lst 18, lst 19, lst 20] (eL L)) (fun f s' => f = .ret (.bool true) ∧ Mv ((L + 5) :: (L + 6) :: L :: 76 :: 43 :: tbP tb) s s' ∧ EndT s') noE s := by
  have hL := H.bd.2.2.2.2.2.2.1
  refine wpAny_execs_cons (wpAny_mono (s_if10 hA (by omega) H.base N hm h1 h2' hD hE hr hsz) (fun f s₁ q => ?_) fun _ _ q => q)
  obtain ⟨rfl, k₁⟩ := q
  have H₁ := H.keep (KeepL.sub (M := M) (L := L) k₁.sub)
  obtain ⟨va, ha⟩ := ha
  obtain ⟨vb, hb⟩ := hb
  have ha₁ := ha.keeps k₁.sub
  have hb₁ := hb.keeps k₁.sub
  have hm₁ := hm.keeps k₁.sub
  refine wpAny_execs_cons (wpAny_mono (s_for11 hA (by omega) N H₁ (hnc.keeps k₁.sub) (hNL.at fun o e => k₁.sub _ _ e) (fun v hv => ?_) ⟨va, ha₁⟩ ⟨vb, hb₁⟩) (fun f s₂ q => ?_) fun _ _ q => q)
  · obtain ⟨t, x, y, e, ⟨o, n', e', hc, hd⟩, r⟩ := hxs v hv
    exact ⟨t, x, y, e, ⟨o, n', k₁.sub _ _ e', hc, hd⟩, r⟩
  obtain ⟨rfl, k₂⟩ := q
  have H₂ := H₁.keep (kw56_keepL k₂ hL ha₁ hb₁)
  have kk : ∀ (b : Nat) o, b ≠ L + 5 → b ≠ L + 6 → s₁.heap.get? b = some o → s₂.heap.get? b = some o := fun b o h5 h6 e => k₂.keep b o (by simp only [List.mem_cons, List.not_mem_nil, or_false, not_or]; exact ⟨h5, h6⟩) e
  have hm₂ := hm₁.at' fun o e => kk L o (by omega) (by omega) e
  have hT₁ : TabF tb s₁.heap := hT.keep fun b o _ e => k₁.sub b o e
  have hT₂ : TabF tb s₂.heap := hT₁.keep fun b o hbb e => kk b o (hT₁.ne_cell (by omega) ha₁ b hbb) (hT₁.ne_cell (by omega) hb₁ b hbb) e
  have hTL₂ : TabL ps s₂.heap := (hTL.keep fun b o _ e => k₁.sub b o e : TabL ps s₁.heap).keep fun b o hbb e => kk b o (by rcases hbb with rfl | rfl <;> omega) (by rcases hbb with rfl | rfl <;> omega) e
  have h2₂ : ∃ v, s₂.heap.IsCell (L + 2) v := let ⟨v, o, e, d⟩ := h2; ⟨v, o, kk (L + 2) o (by omega) (by omega) (k₁.sub _ _ e), d⟩
  refine wpAny_mono (tail12 hA hk hf N H₂ hi hn hm₂ h2₂ hR80 hT₂ htb hTL₂ hps) (fun f s₃ q => ⟨q.1, ?_, q.2.2⟩) fun _ _ q => q
  have a1 : Mv ((L + 5) :: (L + 6) :: L :: 76 :: 43 :: tbP tb) s s₁ := k₁.mv _
  have a2 : Mv ((L + 5) :: (L + 6) :: L :: 76 :: 43 :: tbP tb) s₁ s₂ := k₂.mv.mono fun b hb => by simp at hb; rcases hb with h | h <;> simp [h]
  have a3 : Mv ((L + 5) :: (L + 6) :: L :: 76 :: 43 :: tbP tb) s₂ s₃ := q.2.1.mono fun b hb => List.mem_cons_of_mem _ (List.mem_cons_of_mem _ hb)
  exact (a1.trans a2).trans a3
end
end Mine

namespace Mine
variable {mg mb : Str → Option Value} {ns : List Int} {vs : List Value} {L l p T O R M : Nat} {pa : Nat → Nat}

section
variable {prog : Program} {w : World} {A : Around} {s : Shared}

theorem IsCell.kw {h h' : Heap} {c : Addr} {v : Option Value} (x : h.IsCell c v) (k : ∀ o, h.get? c = some o → h'.get? c = some o) : h'.IsCell c v := let ⟨o, e, d⟩ := x; ⟨o, k o e, d⟩

set_option maxHeartbeats 1000000 in
/-- statements 7 to 20 -/
theorem tail7 {k : Nat} (hA : Room k A) (hk : k ≤ 10) (hf : A.frames = some [eL L]) (N : Names mg mb) (H : LawH mg mb ns vs L l p T O R M pa s.heap) (hi : IntsAre vs ns) (hn : ns.length ≤ 63) {m : Str → Option Value} (hm : s.heap.Ns L m) (h2 : ∃ v, s.heap.IsCell (L + 2) v) (hR80 : 80 ≤ R) (hT : TabF none s.heap)
    (hTL : TabL #[] s.heap) {M' : Nat} (hM : M = M' + 1) (hM' : ∃ o, s.heap.get? M' = some o) (ha : ∃ v, s.heap.IsCell (L + 5) v) (hb : ∃ v, s.heap.IsCell (L + 6) v) (h7 : ∃ v, s.heap.IsCell (L + 7) v) :
    wpAny (model prog w) A (execs [lst 7, lst 8, lst 9, lst 10, lst 11, lst 12, lst 13, lst 14, lst 15, lst 16, lst 17, lst 18, lst 19, lst 20] (eL L)) (fun f s' => f = .ret (.bool true) ∧ Mv [L, L + 5, L + 6, L + 7, 43, 76] s s' ∧ EndT s') noE s := by
  have hL := H.bd.2.2.2.2.2.2.1
  obtain ⟨its, hO, hOi⟩ := H.orderL
  refine wpAny_execs_cons (wpAny_mono (s_due hA (by omega) H.base N H.pool H.poolAt H.table H.tabAt H.order hO hOi hm) (fun f s₁ q => ?_) fun _ _ q => q)
  obtain ⟨rfl, ⟨E', ys, hE'lt, hm₁, hE', hys⟩, k₁⟩ := q
  have kk₁ : ∀ (b : Nat) o, b ≠ L → s.heap.get? b = some o → s₁.heap.get? b = some o := fun b o hb e => k₁.keep b o (by rw [List.mem_singleton]; exact hb) e
  have H₁ := H.keep (k₁.keepL hL hm)
  obtain ⟨v2, h2⟩ := h2
  obtain ⟨v5, ha⟩ := ha
  obtain ⟨v6, hb⟩ := hb
  obtain ⟨v7, h7⟩ := h7
  have h2₁ := IsCell.kw h2 fun o e => kk₁ (L + 2) o (by omega) e
  have ha₁ := IsCell.kw ha fun o e => kk₁ (L + 5) o (by omega) e
  have hb₁ := IsCell.kw hb fun o e => kk₁ (L + 6) o (by omega) e
  have h7₁ := IsCell.kw h7 fun o e => kk₁ (L + 7) o (by omega) e
  have hT₁ : TabF none s₁.heap := hT.kwL hL hm k₁
  have hTL₁ : TabL #[] s₁.heap := hTL.keep fun b o hb e => kk₁ b o (by rcases hb with rfl | rfl <;> omega) e
  refine wpAny_execs_cons (wpAny_mono (s_noted h7₁) (fun f s₂ q => ?_) fun _ _ q => q)
  obtain ⟨rfl, ⟨NL, hnc, hNLlt, hNL⟩, k₂⟩ := q
  have kk₂ : ∀ (b : Nat) o, b ≠ L + 7 → s₁.heap.get? b = some o → s₂.heap.get? b = some o := fun b o hb e => k₂.keep b o (by rw [List.mem_singleton]; exact hb) e
  have kl₂ : KeepL M L s₁.heap s₂.heap := by
    have h1 : WOk M L [L + 7] s₁.heap := WOk.cell (.inr (.inr rfl)) hL h7₁ WOk.nil
    exact h1.keep k₂.mv
  have H₂ := H₁.keep kl₂
  have h2₂ := IsCell.kw h2₁ fun o e => kk₂ (L + 2) o (by omega) e
  have ha₂ := IsCell.kw ha₁ fun o e => kk₂ (L + 5) o (by omega) e
  have hb₂ := IsCell.kw hb₁ fun o e => kk₂ (L + 6) o (by omega) e
  have hm₂ := hm₁.at' fun o e => kk₂ L o (by omega) e
  have hT₂ : TabF none s₂.heap := hT₁.keep fun b o hb e => kk₂ b o (hT₁.ne_cell (by omega) h7₁ b hb) e
  have hTL₂ : TabL #[] s₂.heap := hTL₁.keep fun b o hb e => kk₂ b o (by rcases hb with rfl | rfl <;> omega) e
  have hLs₁ : ∃ o, s₁.heap.get? L = some o := let ⟨o, _, _, e, _⟩ := hm₁; ⟨o, e⟩
  have hLNL : L < NL := let ⟨o, e⟩ := hLs₁; hNLlt L o e
  have hMNL : M ≤ NL := by
    obtain ⟨o, e⟩ := hM'
    have hML : M' ≠ L := by
      have := H.bd.2.2.2.2.2.1; omega
    have := hNLlt M' o (kk₁ M' o hML e)
    omega
  have hE7 : E' ≠ L + 7 := fun q => by
    obtain ⟨o, e, d⟩ := h7
    have := hE'lt (L + 7) o e
    omega
  have hE'₂ : s₂.heap.PlainList E' ys := let ⟨n, e⟩ := hE'; ⟨n, kk₂ E' _ hE7 e⟩
  have hE'NL : E' < NL := let ⟨n, e⟩ := hE'; hNLlt E' _ e
  refine wpAny_execs_cons (wpAny_mono (s_told (tb := none) (ps := #[]) hA (by omega) hf N H₂ hm₂ ⟨_, h2₂⟩ hnc hNL hMNL hT₂ hTL₂ rfl) (fun f s₃ q => ?_) fun _ _ q => q)
  obtain ⟨rfl, ⟨D, tb', c', acc, hm₃, hD, hacc, ⟨xs, hNL₃, hxs⟩, hT₃, htb, hTL₃, htb', hDlt⟩, k₃⟩ := q
  have kk₃ : ∀ (b : Nat) o, b ≠ 43 → b ≠ 76 → b ≠ L → b ≠ NL → s₂.heap.get? b = some o → s₃.heap.get? b = some o := fun b o h1 h2 h3 h4 e => k₃.keep b o (by
    simp only [tbP, List.cons_append, List.nil_append, List.mem_cons, List.not_mem_nil, or_false, not_or]; exact ⟨h1, h2, h3, h4⟩) e
  have kl₃ : KeepL M L s₂.heap s₃.heap := by
    have h1 : WOk M L ((43 :: tbP none ++ []) ++ (76 :: L :: NL :: [])) s₂.heap := by
      refine WOk.append (WOk.tabs hL (H₂.cells ⟨_, h2₂⟩) hT₂ WOk.nil) (WOk.tabL hL hTL₂ (WOk.frame hL hm₂ (WOk.cons (.inl hMNL) WOk.nil)))
    exact h1.keep (k₃.mono fun b hb => by simpa using hb)
  have H₃ := H₂.keep kl₃
  have hLM := H.bd.2.2.2.2.2.1
  have h2₃ := IsCell.kw h2₂ fun o e => kk₃ (L + 2) o (by omega) (by omega) (by omega) (by omega) e
  have ha₃ := IsCell.kw ha₂ fun o e => kk₃ (L + 5) o (by omega) (by omega) (by omega) (by omega) e
  have hb₃ := IsCell.kw hb₂ fun o e => kk₃ (L + 6) o (by omega) (by omega) (by omega) (by omega) e
  have hnc₃ := IsCell.kw hnc fun o e => kk₃ (L + 7) o (by omega) (by omega) (by omega) (by omega) e
  have h80E : 80 ≤ E' := by
    have := hE'lt 79 _ H.base.f79; omega
  have hEL : E' ≠ L := fun q => by
    obtain ⟨o, _, _, e, _⟩ := hm
    have := hE'lt L o e
    omega
  have hE'₃ : s₃.heap.PlainList E' ys := let ⟨n, e⟩ := hE'₂; ⟨n, kk₃ E' _ (by omega) (by omega) hEL (by omega) e⟩
  have hya : ys = acc := by
    rw [← Array.toArray_toList (xs := ys), ← Array.toArray_toList (xs := acc), hys, hacc, told_due H.poolAt.inj]
  refine wpAny_mono (tail10 hA hk hf N H₃ hi hn hm₃ ⟨_, h2₃⟩ hR80 hT₃ htb hTL₃ ?_ (D := D) (E' := E') (its := acc) rfl rfl hD.isList (hya ▸ hE'₃.isList) ?_ ?_ hnc₃ hNL₃ hxs ⟨_, ha₃⟩ ⟨_, hb₃⟩) (fun f s₄ q => ⟨q.1, ?_, q.2.2⟩) fun _ _ q => q
  · exact codeAmong_skip (pos := lam2Pos) (p := lamPos) c' (by decide) [] trivial
  · rw [hacc]
    intro v hv
    obtain ⟨a, _, rfl⟩ := List.mem_map.mp hv
    exact ⟨a, rfl⟩
  · have : acc.size = (refs pa (fil (rel ns) (orderL ns))).length := by rw [← told_due H.poolAt.inj, ← hacc, Array.length_toList]
    have h8 := fil_len (rel ns) ns
    rw [this]; unfold refs; rw [List.length_map]; omega
  · have m1 : Mv ([L, L + 5, L + 6, L + 7, 43, 76] ++ (NL :: tbP tb')) s s₁ := k₁.mv.mono fun b hb => by simp at hb; simp [hb]
    have m2 : Mv ([L, L + 5, L + 6, L + 7, 43, 76] ++ (NL :: tbP tb')) s₁ s₂ := k₂.mv.mono fun b hb => by simp at hb; simp [hb]
    have m3 : Mv ([L, L + 5, L + 6, L + 7, 43, 76] ++ (NL :: tbP tb')) s₂ s₃ := k₃.mono fun b hb => by
      simp only [tbP, List.cons_append, List.nil_append, List.mem_cons, List.not_mem_nil, or_false] at hb
      rcases hb with h | h | h | h <;> simp [h]
    have m4 : Mv ([L, L + 5, L + 6, L + 7, 43, 76] ++ (NL :: tbP tb')) s₃ s₄ := q.2.1.mono fun b hb => by
      simp only [List.mem_cons] at hb
      rcases hb with h | h | h | h | h | h <;> simp [h]
    refine (((m1.trans m2).trans m3).trans m4).drop fun b hb => ?_
    rcases List.mem_append.mp hb with hb | hb
    · exact .inl hb
    · right
      have up : ∀ o, s.heap.get? b = some o → b = L ∨ s₁.heap.get? b = some o := fun o e => by
        by_cases h : b = L
        · exact .inl h
        · exact .inr (kk₁ b o h e)
      cases hq : s.heap.get? b with
      | none => rfl
      | some o =>
        exfalso
        rcases List.mem_cons.mp hb with h | hb
        · have h : @Eq Nat b NL := h
          rcases up o hq with h' | h'
          · have h' : @Eq Nat b L := h'
            omega
          · have := hNLlt b o h'
            omega
        · rcases htb' with h | ⟨_, h⟩
          · exact htb h
          · cases htq : tb' with
            | none => exact htb htq
            | some rr =>
              obtain ⟨c2, P2⟩ := rr
              rw [htq] at hb
              have q : b = P2 := by simpa [tbP] using hb
              obtain ⟨_, hn2⟩ := h c2 P2 htq
              rw [← q] at hn2
              rcases up o hq with h' | h'
              · obtain ⟨o', _, _, e', _⟩ := hm₂
                rw [h', e'] at hn2; cases hn2
              · by_cases h7b : b = L + 7
                · obtain ⟨o', e', _⟩ := hnc
                  rw [h7b, e'] at hn2; cases hn2
                · rw [kk₂ b o h7b h'] at hn2; cases hn2
end
end Mine

namespace Mine
variable {mg mb : Str → Option Value} {ns : List Int} {vs : List Value} {L l p T O R M : Nat} {pa : Nat → Nat}

theorem Kw.ne {c : Addr} {s s' : Shared} (x : Kw [c] s s') : ∀ (b : Nat) o, b ≠ c → s.heap.get? b = some o → s'.heap.get? b = some o := fun b o hb e => x.keep b o (by rw [List.mem_singleton]; exact hb) e
theorem Base.kw1 {c : Nat} {s s' : Shared} (B : Base mg mb s.heap) (x : Kw [c] s s') (hc : 80 ≤ c) : Base mg mb s'.heap := B.low fun b o hb _ _ e => x.ne b o (by have hb' : (b : Nat) < 80 := hb; omega) e
theorem TabL.kw1 {c : Nat} {ps : Array Value} {s s' : Shared} (B : TabL ps s.heap) (x : Kw [c] s s') (hc : 80 ≤ c) : TabL ps s'.heap := B.keep fun b o hb e => x.ne b o (by rcases hb with rfl | rfl <;> omega) e
theorem TabF.kwC {tb : Option (Nat × Nat)} {c : Nat} {v : Option Value} {s s' : Shared} (B : TabF tb s.heap) (x : Kw [c] s s') (hc : 80 ≤ c) (hv : s.heap.IsCell c v) : TabF tb s'.heap := B.keep fun b o hb e => x.ne b o (B.ne_cell hc hv b hb) e
theorem bodyL_eq : bodyL = [lst 0, lst 1, lst 2, lst 3, lst 4, lst 5, lst 6, lst 7, lst 8, lst 9, lst 10, lst 11, lst 12, lst 13, lst 14, lst 15, lst 16, lst 17, lst 18, lst 19, lst 20] := rfl

section
variable {prog : Program} {w : World} {A : Around} {s : Shared}

set_option maxHeartbeats 2000000 in
theorem law_body {k : Nat} (hA : Room k A) (hk : k ≤ 10) (hf : A.frames = some [eL L]) (N : Names mg mb) (B : Base mg mb s.heap) (hL : 80 ≤ L) (hl : s.heap.IsList l vs.toArray) (hlL : l < L) (hi : IntsAre vs ns) (hn : ns.length ≤ 63)
    {m : Str → Option Value} (hm : s.heap.Ns L m) (hsc : s.heap.IsCell (L + 1) (some (.ref l))) (hcs : ∀ i : Nat, 2 ≤ i → i ≤ 9 → ∃ v, s.heap.IsCell (L + i) v) (hT : TabF none s.heap) (hTL : TabL #[] s.heap) :
    wpAny (model prog w) A (execs bodyL (eL L)) (fun f s' => f = .ret (.bool true) ∧ Mv [L, L + 2, L + 3, L + 4, L + 5, L + 6, L + 7, L + 8, L + 9, 43, 76] s s' ∧ EndT s') noE s := by
  rw [bodyL_eq]
  obtain ⟨v2, c2⟩ := hcs 2 (by omega) (by omega)
  obtain ⟨v3, c3⟩ := hcs 3 (by omega) (by omega)
  obtain ⟨v4, c4⟩ := hcs 4 (by omega) (by omega)
  obtain ⟨v5, c5⟩ := hcs 5 (by omega) (by omega)
  obtain ⟨v6, c6⟩ := hcs 6 (by omega) (by omega)
  obtain ⟨v7, c7⟩ := hcs 7 (by omega) (by omega)
  obtain ⟨v8, c8⟩ := hcs 8 (by omega) (by omega)
  obtain ⟨v9, c9⟩ := hcs 9 (by omega) (by omega)
  -- size
  refine wpAny_execs_cons (wpAny_mono (s_size hA (by omega) B N hsc hl hi hn c2) (fun f s₂ q => ?_) fun _ _ q => q)
  obtain ⟨rfl, ⟨vsz, ⟨tz, rfl⟩, hsz⟩, k₂⟩ := q
  have e₂ := k₂.ne
  have B₂ := B.kw1 k₂ (by omega)
  have hl₂ : s₂.heap.IsList l vs.toArray := hl.at fun o e => e₂ l o (by omega) e
  have hm₂ := hm.at' fun o e => e₂ L o (by omega) e
  have hsc₂ := IsCell.kw hsc fun o e => e₂ (L + 1) o (by omega) e
  have c3₂ := IsCell.kw c3 fun o e => e₂ (L + 3) o (by omega) e
  have c4₂ := IsCell.kw c4 fun o e => e₂ (L + 4) o (by omega) e
  have c5₂ := IsCell.kw c5 fun o e => e₂ (L + 5) o (by omega) e
  have c6₂ := IsCell.kw c6 fun o e => e₂ (L + 6) o (by omega) e
  have c7₂ := IsCell.kw c7 fun o e => e₂ (L + 7) o (by omega) e
  have c8₂ := IsCell.kw c8 fun o e => e₂ (L + 8) o (by omega) e
  have c9₂ := IsCell.kw c9 fun o e => e₂ (L + 9) o (by omega) e
  have hT₂ := hT.kwC k₂ (by omega) c2
  have hTL₂ := hTL.kw1 k₂ (by omega)
  -- pool
  refine wpAny_execs_cons (wpAny_mono (s_pool hA (by omega) B₂ N hsc₂ hl₂ hi hn hsz c3₂) (fun f s₃ q => ?_) fun _ _ q => q)
  obtain ⟨rfl, ⟨p, N₀, ysP, hp, hplt, hpN, hpl, hPT⟩, k₃⟩ := q
  obtain ⟨pa, hPA, hpa⟩ := PoolAt.of hpl hPT
  have e₃ := k₃.ne
  have B₃ := B₂.kw1 k₃ (by omega)
  have hl₃ : s₃.heap.IsList l vs.toArray := hl₂.at fun o e => e₃ l o (by omega) e
  have hm₃ := hm₂.at' fun o e => e₃ L o (by omega) e
  have hsc₃ := IsCell.kw hsc₂ fun o e => e₃ (L + 1) o (by omega) e
  have hsz₃ := IsCell.kw hsz fun o e => e₃ (L + 2) o (by omega) e
  have c4₃ := IsCell.kw c4₂ fun o e => e₃ (L + 4) o (by omega) e
  have c5₃ := IsCell.kw c5₂ fun o e => e₃ (L + 5) o (by omega) e
  have c6₃ := IsCell.kw c6₂ fun o e => e₃ (L + 6) o (by omega) e
  have c7₃ := IsCell.kw c7₂ fun o e => e₃ (L + 7) o (by omega) e
  have c8₃ := IsCell.kw c8₂ fun o e => e₃ (L + 8) o (by omega) e
  have c9₃ := IsCell.kw c9₂ fun o e => e₃ (L + 9) o (by omega) e
  have hT₃ := hT₂.kwC k₃ (by omega) c3₂
  have hTL₃ := hTL₂.kw1 k₃ (by omega)
  have hp9 : L + 9 < p := let ⟨o, e, _⟩ := c9₂; hplt (L + 9) o e
  -- picks
  refine wpAny_execs_cons (wpAny_mono (s_picks hA (by omega) B₃ N hsc₃ hl₃ hi hn hsz₃ hm₃) (fun f s₄ q => ?_) fun _ _ q => q)
  obtain ⟨rfl, ⟨D, ysD, hDlt, hm₄, hD, hDi⟩, k₄⟩ := q
  have e₄ := k₄.ne
  have B₄ := B₃.kw1 k₄ (by omega)
  have hl₄ : s₄.heap.IsList l vs.toArray := hl₃.at fun o e => e₄ l o (by omega) e
  have hsc₄ := IsCell.kw hsc₃ fun o e => e₄ (L + 1) o (by omega) e
  have hsz₄ := IsCell.kw hsz₃ fun o e => e₄ (L + 2) o (by omega) e
  have hp₄ := IsCell.kw hp fun o e => e₄ (L + 3) o (by omega) e
  have c4₄ := IsCell.kw c4₃ fun o e => e₄ (L + 4) o (by omega) e
  have c5₄ := IsCell.kw c5₃ fun o e => e₄ (L + 5) o (by omega) e
  have c6₄ := IsCell.kw c6₃ fun o e => e₄ (L + 6) o (by omega) e
  have c7₄ := IsCell.kw c7₃ fun o e => e₄ (L + 7) o (by omega) e
  have c8₄ := IsCell.kw c8₃ fun o e => e₄ (L + 8) o (by omega) e
  have c9₄ := IsCell.kw c9₃ fun o e => e₄ (L + 9) o (by omega) e
  have hT₄ := hT₃.kwL hL hm₃ k₄
  have hTL₄ := hTL₃.kw1 k₄ (by omega)
  have hD9 : L + 9 < D := let ⟨o, e, _⟩ := c9₃; hDlt (L + 9) o e
  -- table
  refine wpAny_execs_cons (wpAny_mono (s_table hA (by omega) B₄ N hsc₄ hl₄ hi hn c9₄) (fun f s₅ q => ?_) fun _ _ q => q)
  obtain ⟨rfl, ⟨T, N₁, ysT, hTc, hTlt, hTN, hTp, hTT⟩, k₅⟩ := q
  have e₅ := k₅.ne
  have B₅ := B₄.kw1 k₅ (by omega)
  have hl₅ : s₅.heap.IsList l vs.toArray := hl₄.at fun o e => e₅ l o (by omega) e
  have hm₅ := hm₄.at' fun o e => e₅ L o (by omega) e
  have hsc₅ := IsCell.kw hsc₄ fun o e => e₅ (L + 1) o (by omega) e
  have hsz₅ := IsCell.kw hsz₄ fun o e => e₅ (L + 2) o (by omega) e
  have hp₅ := IsCell.kw hp₄ fun o e => e₅ (L + 3) o (by omega) e
  have c4₅ := IsCell.kw c4₄ fun o e => e₅ (L + 4) o (by omega) e
  have c5₅ := IsCell.kw c5₄ fun o e => e₅ (L + 5) o (by omega) e
  have c6₅ := IsCell.kw c6₄ fun o e => e₅ (L + 6) o (by omega) e
  have c7₅ := IsCell.kw c7₄ fun o e => e₅ (L + 7) o (by omega) e
  have c8₅ := IsCell.kw c8₄ fun o e => e₅ (L + 8) o (by omega) e
  have hT₅ := hT₄.kwC k₅ (by omega) c9₄
  have hTL₅ := hTL₄.kw1 k₅ (by omega)
  have hT9 : L + 9 < T := let ⟨o, e, _⟩ := c9₄; hTlt (L + 9) o e
  have hPA₅ : PoolAt s₅.heap ns p pa := hPA.keep fun b o hb e => by
    have hb9 : L + 9 < b := by
      rcases hb with rfl | ⟨j, hj, rfl⟩
      · exact hp9
      · have := hpa j hj; omega
    exact e₅ b o (by omega) (e₄ b o (by omega) e)
  have hD₅ : s₅.heap.PlainList D ysD := let ⟨n, e⟩ := hD; ⟨n, e₅ D _ (by omega) e⟩
  -- row
  refine wpAny_execs_cons (wpAny_mono (s_row hA (by omega) hp₅ hPA₅ hm₅ (D := D) rfl hD₅.isList hDi c8₅) (fun f s₆ q => ?_) fun _ _ q => q)
  obtain ⟨rfl, ⟨R, ysR, hR, hRlt, hRp, hRi⟩, k₆⟩ := q
  have e₆ := k₆.ne
  have B₆ := B₅.kw1 k₆ (by omega)
  have hm₆ := hm₅.at' fun o e => e₆ L o (by omega) e
  have hsc₆ := IsCell.kw hsc₅ fun o e => e₆ (L + 1) o (by omega) e
  have hsz₆ := IsCell.kw hsz₅ fun o e => e₆ (L + 2) o (by omega) e
  have hp₆ := IsCell.kw hp₅ fun o e => e₆ (L + 3) o (by omega) e
  have c4₆ := IsCell.kw c4₅ fun o e => e₆ (L + 4) o (by omega) e
  have c5₆ := IsCell.kw c5₅ fun o e => e₆ (L + 5) o (by omega) e
  have c6₆ := IsCell.kw c6₅ fun o e => e₆ (L + 6) o (by omega) e
  have c7₆ := IsCell.kw c7₅ fun o e => e₆ (L + 7) o (by omega) e
  have hTc₆ := IsCell.kw hTc fun o e => e₆ (L + 9) o (by omega) e
  have hT₆ := hT₅.kwC k₆ (by omega) c8₅
  have hTL₆ := hTL₅.kw1 k₆ (by omega)
  have hR9 : L + 9 < R := let ⟨o, e, _⟩ := hTc; hRlt (L + 9) o e
  -- order = []
  refine wpAny_execs_cons (wpAny_mono (s_order0 c4₆) (fun f s₇ q => ?_) fun _ _ q => q)
  obtain ⟨rfl, ⟨O, hO, hOlt, hOp⟩, k₇⟩ := q
  have e₇ := k₇.ne
  have B₇ := B₆.kw1 k₇ (by omega)
  have hm₇ := hm₆.at' fun o e => e₇ L o (by omega) e
  have hT₇ := hT₆.kwC k₇ (by omega) c4₆
  have hTL₇ := hTL₆.kw1 k₇ (by omega)
  have hD₆ : ∃ n, s₆.heap.get? D = some { cls := .type "list", data := .seq ysD n } := let ⟨n, e⟩ := hD₅; ⟨n, e₆ D _ (by omega) e⟩
  have hDO : D < O := let ⟨n, e⟩ := hD₆; hOlt D _ e
  have hD₇ : s₇.heap.PlainList D ysD := let ⟨n, e⟩ := hD₆; ⟨n, e₇ D _ (by omega) e⟩
  have hO9 : L + 9 < O := by omega
  -- order
  refine wpAny_execs_cons (wpAny_mono (s_order hA (by omega) hO hOp hm₇ (D := D) rfl hD₇.isList hDi (by omega)) (fun f s₈ q => ?_) fun _ _ q => q)
  obtain ⟨rfl, ⟨m₈, ysO, hm₈, _, hOp₈, hOi⟩, k₈⟩ := q
  have e₈ : ∀ (b : Nat) o, b ≠ L → b ≠ O → s₇.heap.get? b = some o → s₈.heap.get? b = some o := fun b o h1 h2 e => k₈.keep b o (by simp only [List.mem_cons, List.not_mem_nil, or_false, not_or]; exact ⟨h1, h2⟩) e
  have B₈ : Base mg mb s₈.heap := B₇.low fun b o hb _ _ e => by
    have hb' : (b : Nat) < 80 := hb
    exact e₈ b o (by omega) (by omega) e
  have e78 : ∀ (b : Nat) o, b ≠ L → b ≠ L + 4 → b ≠ O → s₆.heap.get? b = some o → s₈.heap.get? b = some o := fun b o h1 h2 h3 e => e₈ b o h1 h3 (e₇ b o h2 e)
  have alive6 : ∀ (b : Nat), L + 9 < b → ∀ o, s₅.heap.get? b = some o → b < O := fun b hb o e => hOlt b o (e₆ b o (by omega) e)
  have e58 : ∀ (b : Nat) o, L + 9 < b → s₅.heap.get? b = some o → s₈.heap.get? b = some o := fun b o hb e => e78 b o (by omega) (by omega) (by have := alive6 b hb o e; omega) (e₆ b o (by omega) e)
  have hRO : R < O := let ⟨n, e⟩ := hRp; hOlt R _ e
  have hR₈ : s₈.heap.PlainList R ysR := let ⟨n, e⟩ := hRp; ⟨n, e78 R _ (by omega) (by omega) (by omega) e⟩
  have hTO : T < O := let ⟨n, e⟩ := hTp; alive6 T hT9 _ e
  have hT₈ : s₈.heap.PlainList T ysT := let ⟨n, e⟩ := hTp; ⟨n, e58 T _ hT9 e⟩
  have hl₈ : s₈.heap.IsList l vs.toArray := (hl₅.at fun o e => e₆ l o (by omega) e : s₆.heap.IsList l vs.toArray).at fun o e => e78 l o (by omega) (by omega) (by omega) e
  have hPA₈ : PoolAt s₈.heap ns p pa := hPA₅.keep fun b o hb e => e58 b o (by
      rcases hb with rfl | ⟨j, hj, rfl⟩
      · exact hp9
      · have := hpa j hj; omega) e
  have hpO : p < O := by
    obtain ⟨o, e, _⟩ := hPA₅.cls (.inl rfl)
    exact alive6 p hp9 o e
  have hpaO : ∀ j, j < (szv ns).toNat → pa j < O := fun j hj => by
    obtain ⟨o, e, _⟩ := hPA₅.cls (.inr ⟨j, hj, rfl⟩)
    exact alive6 (pa j) (by have := hpa j hj; omega) o e
  have hrows : ∀ j, j < 4 → ∃ a : Nat, ysT[j]? = some (.ref a) ∧ a < O ∧ s₈.heap.IsList a (tbRow ns j).toArray := fun j hj => by
    obtain ⟨a, h1, h2, ⟨o, e, r⟩⟩ := hTT.2 j hj
    exact ⟨a, by simpa using h2, alive6 a (by omega) o e, o, e58 a o (by omega) e, r⟩
  have H : LawH mg mb ns vs L l p T O R (O + 1) pa s₈.heap := {
    base := B₈
    script := IsCell.kw hsc₆ fun o e => e78 (L + 1) o (by omega) (by omega) (by omega) e
    list := hl₈
    pool := IsCell.kw hp₆ fun o e => e78 (L + 3) o (by omega) (by omega) (by omega) e
    poolAt := hPA₈
    order := IsCell.kw hO fun o e => e₈ (L + 4) o (by omega) (by omega) e
    orderL := ⟨ysO, hOp₈.isList, hOi⟩
    row := IsCell.kw hR fun o e => e78 (L + 8) o (by omega) (by omega) (by omega) e
    rowL := by rw [← hRi, Array.toArray_toList]; exact hR₈.isList
    table := IsCell.kw hTc₆ fun o e => e78 (L + 9) o (by omega) (by omega) (by omega) e
    tabAt := ⟨ysT, hT₈.isList, fun j hj => let ⟨a, h1, _, h3⟩ := hrows j hj; ⟨a, h1, h3⟩⟩
    bd := ⟨by omega, by omega, by omega, by omega, by omega, by omega, hL, fun j hj => by have := hpaO j hj; omega, ysT, hT₈.isList, fun j hj => let ⟨a, h1, h2, _⟩ := hrows j hj; ⟨a, h1, by omega⟩⟩ }
  have hT₈' : TabF none s₈.heap := hT₇.keep fun b o hb e => by
    rcases hb with rfl | rfl | ⟨c, P, h, _⟩
    · exact e₈ 43 o (by omega) (by omega) e
    · exact e₈ 47 o (by omega) (by omega) e
    · cases h
  have hTL₈ : TabL #[] s₈.heap := hTL₇.keep fun b o hb e => by
    rcases hb with rfl | rfl
    · exact e₈ 78 o (by omega) (by omega) e
    · exact e₈ 76 o (by omega) (by omega) e
  refine wpAny_mono (tail7 hA hk hf N H hi hn hm₈ ⟨_, IsCell.kw hsz₆ fun o e => e78 (L + 2) o (by omega) (by omega) (by omega) e⟩ (by omega) hT₈' hTL₈ rfl (let ⟨n, e⟩ := hOp₈; ⟨_, e⟩)
    ⟨_, IsCell.kw c5₆ fun o e => e78 (L + 5) o (by omega) (by omega) (by omega) e⟩ ⟨_, IsCell.kw c6₆ fun o e => e78 (L + 6) o (by omega) (by omega) (by omega) e⟩ ⟨_, IsCell.kw c7₆ fun o e => e78 (L + 7) o (by omega) (by omega) (by omega) e⟩)
    (fun f s₉ q => ⟨q.1, ?_, q.2.2⟩) fun _ _ q => q
  have W : ∀ {c : Nat} {a b : Shared}, Kw [c] a b → c ∈ [L, L + 2, L + 3, L + 4, L + 5, L + 6, L + 7, L + 8, L + 9, 43, 76, O] → Mv [L, L + 2, L + 3, L + 4, L + 5, L + 6, L + 7, L + 8, L + 9, 43, 76, O] a b := fun x hc => x.mv.mono fun b hb => by
    rw [List.mem_singleton] at hb; subst hb; exact hc
  have m2 := W k₂ (by simp)
  have m3 := W k₃ (by simp)
  have m4 := W k₄ (by simp)
  have m5 := W k₅ (by simp)
  have m6 := W k₆ (by simp)
  have m7 := W k₇ (by simp)
  have m8 : Mv [L, L + 2, L + 3, L + 4, L + 5, L + 6, L + 7, L + 8, L + 9, 43, 76, O] s₇ s₈ := k₈.mv.mono fun b hb => by
    simp only [List.mem_cons, List.not_mem_nil, or_false] at hb
    rcases hb with h | h <;> simp [h]
  have m9 : Mv [L, L + 2, L + 3, L + 4, L + 5, L + 6, L + 7, L + 8, L + 9, 43, 76, O] s₈ s₉ := q.2.1.mono fun b hb => by
    simp only [List.mem_cons, List.not_mem_nil, or_false] at hb
    rcases hb with h | h | h | h | h | h <;> simp [h]
  refine (((((((m2.trans m3).trans m4).trans m5).trans m6).trans m7).trans m8).trans m9).drop fun b hb => ?_
  simp only [List.mem_cons, List.not_mem_nil, or_false] at hb
  rcases hb with h | h | h | h | h | h | h | h | h | h | h | h
  rotate_right
  · right
    cases hq : s.heap.get? b with
    | none => rfl
    | some o =>
      exfalso
      have hbO : @Eq Nat b O := h
      have h9 : @LT.lt Nat _ (L + 9) b := by omega
      have := hOlt b o (e₆ b o (by omega) (e₅ b o (by omega) (e₄ b o (by omega) (e₃ b o (by omega) (e₂ b o (by omega) hq)))))
      omega
  all_goals exact .inl (by simp [h])
end
end Mine

namespace Mine
variable {mg mb : Str → Option Value} {ns : List Int} {vs : List Value} {l : Nat}

section
variable {prog : Program} {w : World} {A : Around} {s : Shared}

/-- law called: it gives True -/
theorem law_call (hA : Room 0 A) (hf : A.frames = some []) (N : Names mg mb) (B : Base mg mb s.heap) (hl : s.heap.IsList l vs.toArray) (hi : IntsAre vs ns) (hn : ns.length ≤ 63) (hT : TabF none s.heap) (hTL : TabL #[] s.heap) :
    codeAny (model prog w) A (.call (.ref 79) ⟨[.ref l], []⟩) (fun r s' => r = .ok (.ret (.bool true)) ∧ Mv [43, 76] s s' ∧ EndT s') s := by
  refine codeAny_call_cellsB (fd := fdL) (body := bodyL) (binds := [("script", .ref l)]) (hA.room (by omega)) B.f79 rfl B.nl B.c78 rfl (BindsTo.of_eq rfl) rfl (fun x hx => ?_) fun s₁ x => ?_
  · rw [List.mem_singleton] at hx
    subst hx
    exact .inr ⟨rfl, rfl⟩
  have hlt : @LT.lt Nat _ l s.heap.objs.size := by obtain ⟨o, e, _⟩ := hl; exact Heap.lt_size e
  have hL80 : @LE.le Nat _ 80 s.heap.objs.size := B.size
  have hns := x.toInCall.ns
  have hcell := x.cell
  obtain ⟨h₁, tk, rfl, hk₁⟩ := x.done
  have hsub : Sub s.heap h₁ := hk₁
  refine wpAny_mono (law_body (k := 1) (L := s.heap.objs.size) (hA.deeper _) (by omega) (by show A.frames.map _ = _; rw [hf]; rfl) N (B.sub hsub) hL80 (hl.at fun o e => hsub _ _ e) hlt hi hn hns (hcell "script" _ rfl) (fun i h2 h9 => ?_) (hT.keep fun b o _ e => hsub b o e) (hTL.keep fun b o _ e => hsub b o e)) (fun f s' q => ?_) fun _ _ q => q.elim
  · have h : i = 2 ∨ i = 3 ∨ i = 4 ∨ i = 5 ∨ i = 6 ∨ i = 7 ∨ i = 8 ∨ i = 9 := by omega
    rcases h with rfl | rfl | rfl | rfl | rfl | rfl | rfl | rfl
    · exact ⟨_, hcell "size" _ rfl⟩
    · exact ⟨_, hcell "pool" _ rfl⟩
    · exact ⟨_, hcell "order" _ rfl⟩
    · exact ⟨_, hcell "a" _ rfl⟩
    · exact ⟨_, hcell "b" _ rfl⟩
    · exact ⟨_, hcell "noted" _ rfl⟩
    · exact ⟨_, hcell "row" _ rfl⟩
    · exact ⟨_, hcell "table" _ rfl⟩
  · obtain ⟨rfl, hmv, hend⟩ := q
    refine ⟨rfl, ?_, hend⟩
    refine (((Kp.mk hsub).mv _).trans hmv).drop fun b hb => ?_
    have gn : ∀ (q : Nat), @LE.le Nat _ s.heap.objs.size q → s.heap.get? q = none := fun q hq => get_none hq
    simp only [List.mem_cons, List.not_mem_nil, or_false] at hb
    rcases hb with h | h | h | h | h | h | h | h | h | h | h
    case inr.inr.inr.inr.inr.inr.inr.inr.inr.inl => exact .inl (by simp [h])
    case inr.inr.inr.inr.inr.inr.inr.inr.inr.inr => exact .inl (by simp [h])
    all_goals exact .inr (by rw [h]; exact gn _ (by omega))

/-- what the end wants of the old heap -/
theorem law_old {s' : Shared} (hT : TabF none s.heap) (hTL : TabL #[] s.heap) (h43 : s.heap.get? 43 = some { cls := .none, data := .fields #[] }) (m : Mv [43, 76] s s') (e : EndT s') : OldK s.heap s'.heap := by
  obtain ⟨⟨tb, ps, _, ht, _⟩, ps', _, ht'⟩ := e
  obtain ⟨_, _, t43, _⟩ := hT
  have t76 := hTL.2
  have kk : ∀ (b : Nat) o, b ≠ 43 → b ≠ 76 → s.heap.get? b = some o → s'.heap.get? b = some o := fun b o h1 h2 e => m.keep b o (by simp only [List.mem_cons, List.not_mem_nil, or_false, not_or]; exact ⟨h1, h2⟩) e
  refine ⟨fun b o e => ?_, fun b o e => ?_⟩
  · by_cases h1 : b = 43
    · subst h1
      rw [h43] at e; cases e
      exact .inr (.inl ⟨t43.isCodeTable, rfl, #[], ps, rfl, by rw [ht.2]; simp⟩)
    · by_cases h2 : b = 76
      · subst h2
        rw [t76.2] at e; cases e
        exact .inr (.inl ⟨t76.isCodeTable, rfl, #[], ps', rfl, by rw [ht'.2]; simp⟩)
      · exact .inl (kk b o h1 h2 e)
  · by_cases h1 : b = 43
    · exact ⟨_, h1 ▸ ht.2⟩
    · by_cases h2 : b = 76
      · exact ⟨_, h2 ▸ ht'.2⟩
      · exact ⟨o, kk b o h1 h2 e⟩

theorem law_bare {s' : Shared} (m : Mv [43, 76] s s') (hg : s.gens = #[]) : AllBare s'.gens := m.gens.2 (by rw [hg]; intro x hx; simp at hx)
theorem law_os {W : List Addr} {s' : Shared} (m : Mv W s s') : s'.os = s.os := by obtain ⟨_, _, _, rfl, _⟩ := m; rfl
end
end Mine

namespace Mine
theorem post_true1 (a : List WData) : PySem.Challenge.rw_fj5001_01.row.claim.post a (.bool true) a = true := by
  refine postW_of (X := true) ?_ ?_ rfl
  · show WShape.has _ _ WShape.bool = true
    simp [WShape.has, WShape.arms]
  · show WTm.value _ (.eq .res (.lit (.bool true))) _ = _
    simp [WTm.value]
    simp [same]
end Mine

set_option maxHeartbeats 8000000 in
theorem PySem.Challenge.cw_fj5001_01_holds : PySem.Challenge.rw_fj5001_01.Holds := by
  w_on; o_law; x_head
  (case hw => w_witness2)
  k_fill
  intro w s₀ s₁ mg mb G Y fa o pm cd doc dV kV ho hd hcd hD hmg hg args vals as hpre hlay hrd hwl hlo
  have KX := kIn_of Y
  refine Ground.open G ?_
  intro T B D TE TW
  wrow_args hpre hlay hrd hwl hlo
  (first | refine callC_kw (enter_call ?_) | refine enter_call ?_)
  rename_i ns _ _ _ _ _ _ _ l vs _ hl _ _ _ hi _ hlen _
  have hB : Mine.Base mg mb s₁.heap := {
    g := T.g
    b := T.b
    nl := T.nolimit
    mod := KX 4 _ rfl
    d33 := ⟨_, KX 33 _ rfl⟩
    d41 := KX 41 _ rfl
    f40 := KX 40 _ rfl
    f48 := KX 48 _ rfl
    f55 := KX 55 _ rfl
    f62 := KX 62 _ rfl
    f69 := KX 69 _ rfl
    f74 := KX 74 _ rfl
    f79 := KX 79 _ rfl
    c39 := ⟨_, _, _, _, rfl, KX 39 _ rfl, rfl, rfl⟩
    c47 := ⟨_, _, _, _, rfl, KX 47 _ rfl, rfl, rfl⟩
    c54 := ⟨_, _, _, _, rfl, KX 54 _ rfl, rfl, rfl⟩
    c61 := ⟨_, _, _, _, rfl, KX 61 _ rfl, rfl, rfl⟩
    c68 := ⟨_, _, _, _, rfl, KX 68 _ rfl, rfl, rfl⟩
    c73 := ⟨_, _, _, _, rfl, KX 73 _ rfl, rfl, rfl⟩
    c78 := ⟨_, _, _, _, rfl, KX 78 _ rfl, rfl, rfl⟩ }
  have hNs := T.g
  obtain ⟨o3, es3, ep3, e3, d3, _, f3⟩ := hNs
  have e3' : s₁.heap.get? 3 = some o3 := e3
  rw [KX 3 _ rfl] at e3'
  cases e3'
  cases d3
  have hN : Mine.Names mg mb := {
    mod := (f3 _).symm.trans rfl
    name := (f3 _).symm.trans rfl
    max_len := (f3 _).symm.trans rfl
    maximal := (f3 _).symm.trans rfl
    at_ := (f3 _).symm.trans rfl
    raises := (f3 _).symm.trans rfl
    refused := (f3 _).symm.trans rfl
    same := (f3 _).symm.trans rfl
    gone := fun x hx => by
      simp only [List.mem_cons, List.not_mem_nil, or_false] at hx
      rcases hx with rfl | rfl | rfl | rfl | rfl | rfl | rfl | rfl | rfl | rfl | rfl <;> exact (f3 _).symm.trans rfl
    built := fun x hx => T.builtins x (by
      simp only [List.mem_cons, List.not_mem_nil, or_false] at hx
      rcases hx with rfl | rfl | rfl | rfl | rfl | rfl | rfl | rfl | rfl | rfl | rfl <;> decide) }
  have h79 : Value.ref fa = Value.ref 79 := Option.some.inj ((show mg "law" = some (.ref fa) from hmg).symm.trans ((f3 _).symm.trans rfl))
  cases h79
  have h43 : s₁.heap.get? 43 = some { cls := .none, data := .fields #[] } := KX 43 _ rfl
  have h76 : s₁.heap.get? 76 = some { cls := .none, data := .fields #[] } := KX 76 _ rfl
  have hT : Mine.TabF none s₁.heap := ⟨#[], ⟨_, _, _, _, _, _, _, _, _, _, KX 47 _ rfl, rfl, rfl, rfl, rfl, rfl, rfl, h43, rfl, trivial, by decide⟩, ⟨⟨_, _, KX 47 _ rfl, rfl, rfl, rfl⟩, h43⟩, rfl, fun _ _ q => nomatch q⟩
  have hTL : Mine.TabL #[] s₁.heap := ⟨⟨_, _, _, _, _, _, _, _, _, _, KX 78 _ rfl, rfl, rfl, rfl, rfl, rfl, rfl, h76, rfl, trivial, by decide⟩, ⟨⟨_, _, KX 78 _ rfl, rfl, rfl, rfl⟩, h76⟩⟩
  refine codeAny_mono (Mine.law_call (mg := mg) (mb := mb) (ns := ns) (vs := vs) (l := l) ⟨rfl, by decide, by decide⟩ rfl hN hB hl hi (by omega) hT hTL) (fun r s' q => ?_)
  obtain ⟨rfl, m, e⟩ := q
  exact ⟨.inl ⟨.bool true, .bool true, [], rfl, fun _ => rfl, .bool true, Mine.post_true1 _, fun _ => ⟨List.nodup_nil, fun a ha => nomatch ha⟩⟩, Mine.law_old hT hTL h43 m e, Mine.law_os m, Mine.law_bare m hg⟩
