import PyProof.Rows.All
import Wide.All
import OpenK.AllK
import Wide.FinOn
import PySem.Challenge.RW_pe0236_01
open PySem PySem.W PyProof.Rows PyProof.Rows.LCg PySem.Calls PySem.Spec
set_option Elab.async false
set_option maxRecDepth 100000
set_option maxHeartbeats 8000000
set_option linter.unusedVariables false
set_option linter.unusedSimpArgs false
namespace Mine
/- The head in two parts. `pre` lays the written part of the heap (pre.heap_1) and the view (pre.view_1) and proves nothing of the top
   (its premise is never met; nothing below uses the theorem): the contracts name these two. The head itself is proved in law_holds. -/
theorem with_three {A B C D : Prop} (hl : A) (hw : B) (hc : C) (rest : D) : D := rest
theorem with_hc {C D : Prop} (hc : C) (rest : D) : D := rest
theorem pre (h : ∀ p : Prop, p) : PySem.Challenge.rw_pe0236_01.Holds := by
  w_on
  refine holds_law (h _) fun said => ?_
  apply with_three
  case rest => k_head
  all_goals exact h _
/- lighter proofs ahead of omega's: what stands in the context, sums below a bound, closed facts -/
local macro_rules | `(tactic| omega) => `(tactic| with_reducible first | assumption | (refine Nat.lt_of_le_of_lt (Nat.add_le_add_left ?_ _) (by assumption); decide) | decide)

/-- the state behind a turn of a comprehension: the iterator, the block's names, the list so far, the rest -/
def CEnd (h₀ : Heap) (L : Addr) (m : Str → Option Value) (s₁ : Shared) (I : Addr) (oI : Obj) (C D : Addr) (oD : Obj) (S Inv : List (Addr × Obj) → Prop) (s₂ : Shared) : Prop :=
  ∃ h' tk oC m₂ news', s₂ = { s₁ with heap := h', toks := tk } ∧ Fr h₀ L h' m ∧ NsObj oC m₂ ∧ News h₀ L h' ((I, oI) :: (C, oC) :: (D, oD) :: news') ∧ Off3 I C D news' ∧ S news' ∧ Inv news'

/-- one turn: from the item to the list with one more item, or (a test said no) the same list -/
def CTurn (prog : Program) (w : World) (A : Around) (h₀ : Heap) (L : Addr) (m : Str → Option Value) (env : Env) (target : Expr) (ifs : List Expr) (elt : Expr) (scope : Scope) (cl : List (Str × Addr)) (s : Shared)
    (S : List (Addr × Obj) → Prop) (P : Nat → Value → Prop) (Inv : Nat → List Value → List (Addr × Obj) → Prop) : Prop :=
  ∀ i v ys news I oI C oC m₁ D h tk (E' : Value → Shared → Prop), P i v → Inv i ys news → S news → NsObj oC m₁ → Fr h₀ L h m → News h₀ L h ((I, oI) :: (C, oC) :: (D, lst ys) :: news) → Off3 I C D news → ((@Ne Nat I C) ∧ (@Ne Nat I D) ∧ (@Ne Nat C D)) →
    wpAny (model prog w) A (assign target (compEnvC scope cl C env) v) (fun _ s₁ =>
      wpAny (model prog w) A (forIn ifs true fun c r => if r = true then do let ok ← isTrue c (compEnvC scope cl C env) (eval c (compEnvC scope cl C env)); pure (ForInStep.yield ok) else pure (ForInStep.yield r)) (fun ok s₂ =>
        if ok = true then wpAny (model prog w) A (eval elt (compEnvC scope cl C env)) (fun y s₃ => CEnd h₀ L m { s with heap := h, toks := tk } I oI C D (lst ys) S (Inv (i + 1) (ys ++ [y])) s₃) E' s₂
        else CEnd h₀ L m { s with heap := h, toks := tk } I oI C D (lst ys) S (Inv (i + 1) ys) s₂) E' s₁) E' { s with heap := h, toks := tk }

theorem walks_lt {prog : Program} {w : World} {A : Around} {I : Addr} {fp wr : List Addr} {n : Nat} {P : Nat → Value → Prop} {St : Nat → Heap → Prop} (W : Walks prog w A I fp wr n P St) : Walks prog w A I fp wr n (fun i v => P i v ∧ i < n) St where
  sub := W.sub
  frame := W.frame
  item := fun i s Q E hi st hQ => W.item i s Q E hi st fun v h' tk hP => hQ v h' tk ⟨hP, hi⟩
  done := W.done
  self := W.self
section
variable {prog : Program} {w : World} {A : Around} {E : Value → Shared → Prop} {s : Shared} {h₀ : Heap} {L : Addr} {m : Str → Option Value} {env : Env}

theorem cloop_gen {elt target iter : Expr} {ifs : List Expr} {scope : Scope} {pos : Pos} {it acc : Value} {env : Env} {R : Result → Shared → Prop} (I : Nat → Shared → Prop)
    (turn : ∀ n s, I n s → wpAny (model prog w) A (pyNext it) (fun r s₁ => match r with
      | none => R (.ok .next) s₁
      | some v => wpAny (model prog w) A (letOwnedTupleGo target it v) (fun _ s₁' => wpAny (model prog w) A (assign target env v) (fun _ s₂ =>
          wpAny (model prog w) A (forIn ifs true fun c r => if r = true then do let ok ← isTrue c env (eval c env); pure (ForInStep.yield ok) else pure (ForInStep.yield r)) (fun ok s₃ =>
            if ok = true then wpAny (model prog w) A (eval elt env) (fun x s₄ =>
              wpAny (model prog w) A (call (.builtin "list.append") [acc, x]) (fun _ s₅ => ∃ m, m < n ∧ I m s₅) (notedBy (model prog w) A env fun e s' => R (.error e) s') s₄) (notedBy (model prog w) A env fun e s' => R (.error e) s') s₃
            else ∃ m, m < n ∧ I m s₃) (notedBy (model prog w) A env fun e s' => R (.error e) s') s₂) (notedBy (model prog w) A env fun e s' => R (.error e) s') s₁') (notedBy (model prog w) A env fun e s' => R (.error e) s') s₁) (notedBy (model prog w) A env fun e s' => R (.error e) s') s)
    (n : Nat) (h : I n s) :
    codeAny (model prog w) A (.compLoop (.ListComp elt [⟨target, iter, ifs, 0⟩] scope pos) 0 it acc env) R s := by
  refine codeAny_loop rfl I (fun n s hI => ?_) n h
  show wpAny _ A ((compTurn (.ListComp elt [⟨target, iter, ifs, 0⟩] scope pos) 0 it acc env).onRaise (fun x => do noteFrame x env; theTreesLotGoes x)) _ _ s
  refine wpAny_noted ?_
  rw [compTurn_list]
  refine wpAny_bind (wpAny_standAt (wpAny_bind (wpAny_mono (turn n s hI) (fun r s₁ h₁ => ?_) fun _ _ h' => h')))
  cases r with
  | none => exact wpAny_pure h₁
  | some v =>
    refine wpAny_bind (wpAny_mono h₁ (fun _ s₁' h₁' => ?_) fun _ _ h' => h')
    refine wpAny_bind (wpAny_mono h₁' (fun _ s₂ h₂ => wpAny_bind (wpAny_mono h₂ (fun ok s₃ h₃ => ?_) fun _ _ h' => h')) fun _ _ h' => h')
    cases ok with
    | false => exact wpAny_pure ⟨rfl, h₃⟩
    | true => exact wpAny_bind (wpAny_bind (wpAny_mono h₃ (fun x s₄ h₄ => wpAny_bind (wpAny_mono h₄ (fun _ s₅ h₅ => wpAny_pure (wpAny_pure ⟨rfl, h₅⟩)) fun _ _ h' => h')) fun _ _ h' => h'))

theorem comp_block {elt target iter : Expr} {ifs : List Expr} {scope : Scope} {cl : List (Str × Addr)} {pos : Pos} {s₂ : Shared} {I : Addr} {fp : List Addr} {n : Nat} {P : Nat → Value → Prop} {St : Nat → Heap → Prop} {S : List (Addr × Obj) → Prop} {news : List (Addr × Obj)}
    {Inv : Nat → List Value → List (Addr × Obj) → Prop} {RR : Value → Addr → Result → Shared → Prop}
    (W : Walks prog w A I fp [I] n P St) (hsz : n ≤ sizeLine) (hIo : ∀ i h, St i h → ∃ o, h.get? I = some o)
    (hlet : ∀ i v (s : Shared) (Q : Unit → Shared → Prop) (E : Value → Shared → Prop), P i v → St (i + 1) s.heap → Q () s → wpAny (model prog w) A (letOwnedTupleGo target (.ref I) v) Q E s)
    (hSt : ∀ i h h' o nw, St i h → h.get? I = some o → h'.get? I = some o → (∀ b o, h₀.get? b = some o → h'.get? b = some o) → News h₀ L h' nw → S nw → St i h')
    (hcell : ∀ y ∈ scope.names, y.2 ≠ .cell) (hkind : scope.kind = .function) (hst : St 0 s₂.heap) (hfp : ∀ b ∈ fp, b < s₂.heap.objs.size)
    (F : Fr h₀ L s₂.heap m) (N : News h₀ L s₂.heap news) (hIL : L ≠ I) (hI₀ : h₀.get? I = none) (off : ∀ p ∈ news, p.1 ≠ I) (hS : S news)
    (hInv : Inv 0 [] news) (hT : CTurn prog w A h₀ L m env target ifs elt scope cl s₂ S P Inv)
    (hRR : ∀ D C h tk m' ys news', Fr h₀ L h m → News h₀ L h ((D, lst ys) :: news') → Off1 D news' → h.Ns C m' → h₀.get? C = none → h₀.get? D = none → C ≠ L → D ≠ L → C ≠ D → (∀ p ∈ news', p.1 ≠ C) → Inv n ys news' → RR (.ref D) C (.ok .next) { s₂ with heap := h, toks := tk }) :
    wpAny (model prog w) A (newList []) (fun acc s₃ => wpAny (model prog w) A (newFunctionEnv scope env.globals cl [] env.qual none .none (some env)) (fun cenv s₄ =>
      codeAny (model prog w) A (.compStart (.ListComp elt [⟨target, iter, ifs, 0⟩] scope pos) 0 (.ref I) acc { cenv with scope := relabel scope env }) (RR acc cenv.locals) s₄) E s₃) E s₂ := by
  refine wpAny_newObj_type (wpAny_newFunctionEnv hcell (by intro y hy; simp at hy) (fun h₁ hns₁ hsb₁ => ?_) hkind)
  dsimp only at hns₁ hsb₁ ⊢
  generalize hH2 : s₂.heap.push { cls := .type "list", dict := none, data := .seq ([] : List Value).toArray } = H2 at hns₁ hsb₁ ⊢
  have hC : H2.objs.size = s₂.heap.objs.size + 1 := by rw [← hH2, Heap.size_push]
  generalize hDe : s₂.heap.objs.size = D at *
  generalize hCe : H2.objs.size = C at *
  have hC' : @Eq Nat C (D + 1) := hC
  have hDC : @Ne Nat D C := by omega
  have below : ∀ b : Nat, @LT.lt Nat _ b D → @Ne Nat b C ∧ @Ne Nat b D := fun b hb => ⟨by omega, by omega⟩
  have hCf : C ∉ fp := fun hm => by have q : @LT.lt Nat _ C D := hfp _ hm; omega
  have hDf : D ∉ fp := fun hm => by have q : @LT.lt Nat _ D D := hfp _ hm; omega
  have hIlt : @LT.lt Nat _ I D := hfp I (W.sub I (List.mem_singleton.mpr rfl))
  have lt_of : ∀ b o, s₂.heap.get? b = some o → b < D := fun b o e => hDe ▸ Heap.lt_size e
  have old : ∀ b o, s₂.heap.get? b = some o → h₁.get? b = some o := fun b o e =>
    hsb₁.extBut b o (below b (lt_of b o e)).1 (Heap.get?_push_of_some _ (hH2 ▸ Heap.get?_push_of_some _ e))
  have hacc : h₁.get? D = some (lst []) := hsb₁.extBut _ _ hDC (Heap.get?_push_of_some _ (hH2 ▸ hDe ▸ Heap.get?_push_size _ rfl))
  have fresh₀ : ∀ a : Nat, @LE.le Nat _ D a → h₀.get? a = none := fun a ha => by
    cases e : h₀.get? a with
    | none => rfl
    | some o' => have q : @LT.lt Nat _ a D := lt_of a o' (F.keep a o' e); omega
  have hD₀ : h₀.get? D = none := fresh₀ _ (Nat.le_refl _)
  have hC₀ : h₀.get? C = none := fresh₀ _ (by omega)
  have hLlt : @LT.lt Nat _ L D := hDe ▸ F.ns.lt
  have hDL : @Ne Nat D L := by omega
  have hCL : @Ne Nat C L := by omega
  have hCI : @Ne Nat I C := by omega
  have hDI : @Ne Nat I D := by omega
  have nlt : ∀ p ∈ news, @LT.lt Nat _ p.1 D := fun p hp => lt_of _ _ (N p hp).1
  have loop : ∀ s₃ : Shared, s₃ = { s₂ with heap := h₁, toks := s₂.toks + ([] : List (Str × Value)).length } →
      codeAny (model prog w) A (.compLoop (.ListComp elt [⟨target, iter, ifs, 0⟩] scope pos) 0 (.ref I) (.ref D) (compEnvC scope cl C env)) (RR (.ref D) C) s₃ := by
    rintro s₃ rfl
    refine cloop_gen
      (fun k s' => ∃ h' tk i ys m' news', s' = { s₂ with heap := h', toks := tk } ∧ i ≤ n ∧ k = n + 1 - i ∧ ys.length ≤ i ∧ St i h' ∧ Fr h₀ L h' m ∧ h'.Ns C m' ∧ News h₀ L h' ((D, lst ys) :: news') ∧
        Off3 I C D news' ∧ S news' ∧ Inv i ys news') ?_ (n + 1)
      ⟨h₁, _, 0, [], _, news, rfl, Nat.zero_le _, rfl, Nat.le_refl _, W.frame _ _ _ hst fun b _ o e => old b o e, F.keeps old, hns₁, fun p hp => ?_, Off3.of fun p hp => ⟨off p hp, (below _ (nlt p hp)).1, (below _ (nlt p hp)).2⟩, hS, hInv⟩
    · rintro k s' ⟨h', tk, i, ys, m', news', rfl, hi, rfl, hyl, hst', F', hn', N', off', hS', I'⟩
      have off3 := off'.mem
      have offI : ∀ p ∈ (D, lst ys) :: news', p.1 ≠ I := fun p hp => by
        rcases List.mem_cons.mp hp with rfl | hp
        · exact Ne.symm hDI
        · exact (off3 p hp).1
      by_cases hlt : i < n
      · refine W.item i _ _ _ hlt hst' fun v h₂ tk₂ hPv hst₂ hk₂ => ?_
        refine hlet i v _ _ _ hPv hst₂ ?_
        obtain ⟨oI, heI⟩ := hIo _ _ hst₂
        obtain ⟨oC, heC, hoC⟩ := ns_obj (hn'.at' fun o e => hk₂ C o (by simpa using Ne.symm hCI) e)
        have N₂ : News h₀ L h₂ ((D, lst ys) :: news') := news_but N' hk₂ offI
        have N₃ : News h₀ L h₂ ((I, oI) :: (C, oC) :: (D, lst ys) :: news') := fun p hp => by
          rcases List.mem_cons.mp hp with rfl | hp
          · exact ⟨heI, Ne.symm hIL, hI₀⟩
          · rcases List.mem_cons.mp hp with rfl | hp
            · exact ⟨heC, hCL, hC₀⟩
            · exact N₂ p hp
        have fin : ∀ (ys' : List Value), ys'.length ≤ i + 1 → ∀ s₅ : Shared, ∀ h₅ tk₅ m₅ news₅, s₅ = { s₂ with heap := h₅, toks := tk₅ } → St (i + 1) h₅ → Fr h₀ L h₅ m → h₅.Ns C m₅ → News h₀ L h₅ ((D, lst ys') :: news₅) → Off3 I C D news₅ → S news₅ → Inv (i + 1) ys' news₅ →
            ∃ k, k < n + 1 - i ∧ ∃ h' tk i ys m' news', s₅ = { s₂ with heap := h', toks := tk } ∧ i ≤ n ∧ k = n + 1 - i ∧ ys.length ≤ i ∧ St i h' ∧ Fr h₀ L h' m ∧ h'.Ns C m' ∧ News h₀ L h' ((D, lst ys) :: news') ∧ Off3 I C D news' ∧ S news' ∧ Inv i ys news' :=
          fun ys' hl s₅ h₅ tk₅ m₅ news₅ e a1 a2 a3 a4 a5 a6 a7 => ⟨n + 1 - (i + 1), by omega, h₅, tk₅, i + 1, ys', m₅, news₅, e, hlt, rfl, hl, a1, a2, a3, a4, a5, a6, a7⟩
        refine wpAny_mono (hT i v ys news' I oI C oC _ D h₂ tk₂ _ hPv I' hS' hoC (fr_but F' hk₂ hIL hI₀) N₃ off' ⟨hCI, hDI, Ne.symm hDC⟩) (fun _ s₃ h₃ => wpAny_mono h₃ (fun ok s₄ h₄ => ?_) fun _ _ e => e) fun _ _ e => e
        have open4 : ∀ (s₄ : Shared) (In : List (Addr × Obj) → Prop), CEnd h₀ L m { s₂ with heap := h₂, toks := tk₂ } I oI C D (lst ys) S In s₄ →
            ∃ h₄ tk₄ oC' m₄ news₄, s₄ = { s₂ with heap := h₄, toks := tk₄ } ∧ St (i + 1) h₄ ∧ Fr h₀ L h₄ m ∧ h₄.get? C = some oC' ∧ NsObj oC' m₄ ∧ h₄.get? D = some (lst ys) ∧ News h₀ L h₄ news₄ ∧ Off3 I C D news₄ ∧ S news₄ ∧ In news₄ := by
          rintro s₄ In ⟨h₄, tk₄, oC', m₄, news₄, rfl, F₄, hoC', N₄, off₄, hS₄, In₄⟩
          have zI := (N₄ _ (.head _)).1
          have zC := (N₄ _ (.tail _ (.head _))).1
          have zD := (N₄ _ (.tail _ (.tail _ (.head _)))).1
          have N₄' : News h₀ L h₄ news₄ := fun p hp => N₄ p (.tail _ (.tail _ (.tail _ hp)))
          exact ⟨h₄, tk₄, oC', m₄, news₄, rfl, hSt _ _ _ _ _ hst₂ heI zI F₄.keep N₄' hS₄, F₄, zC, hoC', zD, N₄', off₄, hS₄, In₄⟩
        cases ok with
        | true =>
          simp only [if_true] at h₄ ⊢
          refine wpAny_mono h₄ (fun y s₅ h₅ => ?_) fun _ _ e => e
          obtain ⟨h₄, tk₄, oC', m₄, news₄, rfl, hst₄, F₄, zC, hoC', zD, N₄, off₄, hS₄, In₄⟩ := open4 _ _ h₅
          have off4 := off₄.mem
          refine append_at (hsz := by show ys.toArray.size ≤ sizeLine; rw [List.size_toArray]; omega) zD fun h₅ hs₅ hD₅ => ?_
          refine fin (ys ++ [y]) (by simp; omega) _ h₅ tk₄ m₄ news₄ rfl (W.frame _ _ _ hst₄ fun b hb o e => hs₅.extBut b o (fun q => hDf (q ▸ hb)) e) (F₄.change hs₅ hDL hD₀)
            ((hoC'.ns zC).sameBut hs₅ (Ne.symm hDC)) (fun p hp => ?_) off₄ hS₄ In₄
          rcases List.mem_cons.mp hp with rfl | hp
          · exact ⟨hD₅.trans (congrArg some (lst_snoc ys y)), hDL, hD₀⟩
          · exact ⟨hs₅.extBut _ _ (off4 p hp).2.2 (N₄ p hp).1, (N₄ p hp).2⟩
        | false =>
          simp only [Bool.false_eq_true, if_false] at h₄ ⊢
          obtain ⟨h₆, tk₄, oC', m₄, news₄, rfl, hst₄, F₄, zC, hoC', zD, N₄, off₄, hS₄, In₄⟩ := open4 _ _ h₄
          refine fin ys (by omega) _ h₆ tk₄ m₄ news₄ rfl hst₄ F₄ (hoC'.ns zC) (fun p hp => ?_) off₄ hS₄ In₄
          rcases List.mem_cons.mp hp with rfl | hp
          · exact ⟨zD, hDL, hD₀⟩
          · exact N₄ p hp
      · obtain rfl : i = n := Nat.le_antisymm hi (Nat.not_lt.mp hlt)
        refine W.done _ _ _ hst' fun h₂ tk₂ hk₂ => ?_
        exact hRR _ _ h₂ tk₂ _ ys news' (fr_but F' hk₂ hIL hI₀) (news_but N' hk₂ offI) off'.one (hn'.at' fun o e => hk₂ _ o (by simpa using Ne.symm hCI) e) hC₀ hD₀ hCL hDL (Ne.symm hDC) (fun p hp => (off3 p hp).2.1) I'
    · rcases List.mem_cons.mp hp with rfl | hp
      · exact ⟨hacc, hDL, hD₀⟩
      · exact ⟨old _ _ (N p hp).1, (N p hp).2⟩
  exact codeAny_compStart_list (loop _ rfl) (W.self 0 _ _ _ (W.frame _ _ _ hst fun b _ o e => old b o e) (loop _ rfl))

/-- the source is a list (of the ledger, or of the base): what a comprehension asks behind its evaluation -/
def CSrcL (prog : Program) (w : World) (A : Around) (h₀ : Heap) (L : Addr) (m : Str → Option Value) (env : Env) (target : Expr) (ifs : List Expr) (elt : Expr) (scope : Scope) (cl : List (Str × Addr)) (Fin : Shared → List Value → List (Addr × Obj) → Prop) (xv : Value) (s₁ : Shared) : Prop :=
  ∃ ax its news Inv, xv = .ref ax ∧ A.handled = none ∧ Fr h₀ L s₁.heap m ∧ News h₀ L s₁.heap news ∧ SrcAt h₀ ax its news ∧ its.size ≤ sizeLine ∧ Inv 0 [] news ∧
    (∀ i v (s : Shared) (I : Addr) (Q : Unit → Shared → Prop) (E : Value → Shared → Prop), its[i]? = some v → s.heap.IsListIter I ax (i + 1) → Q () s → wpAny (model prog w) A (letOwnedTupleGo target (.ref I) v) Q E s) ∧
    ∀ s₂ : Shared, (∃ h, s₂ = { s₁ with heap := h }) → CTurn prog w A h₀ L m env target ifs elt scope cl s₂ (SrcAt h₀ ax its) (fun i v => its[i]? = some v) Inv ∧ ∀ ys news', Inv its.size ys news' → Fin s₂ ys news'
/-- the source is a range by ones -/
def CSrcR (prog : Program) (w : World) (A : Around) (h₀ : Heap) (L : Addr) (m : Str → Option Value) (env : Env) (target : Expr) (ifs : List Expr) (elt : Expr) (scope : Scope) (cl : List (Str × Addr)) (Fin : Shared → List Value → List (Addr × Obj) → Prop) (xv : Value) (s₁ : Shared) : Prop :=
  ∃ r a b t u v n news Inv, xv = .ref r ∧ A.handled = none ∧ Fr h₀ L s₁.heap m ∧ News h₀ L s₁.heap news ∧ IsRange s₁.heap r a b 1 t u v ∧ Builtin.Range.small a b 1 = true ∧ Builtin.Range.rangeSize a b 1 = ((n : Nat) : Int) ∧ n ≤ sizeLine ∧ Inv 0 [] news ∧ (∀ it v, letOwnedTupleGo target it v = pure ()) ∧
    ∀ s₂ : Shared, (∃ h, s₂ = { s₁ with heap := h }) → CTurn prog w A h₀ L m env target ifs elt scope cl s₂ (fun _ => True) (fun i v => (∃ t, v = .int (a + (i : Int)) t) ∧ i < n) Inv ∧ ∀ ys news', Inv n ys news' → Fin s₂ ys news'
def CSrc (prog : Program) (w : World) (A : Around) (h₀ : Heap) (L : Addr) (m : Str → Option Value) (env : Env) (target : Expr) (ifs : List Expr) (elt : Expr) (scope : Scope) (cl : List (Str × Addr)) (Fin : Shared → List Value → List (Addr × Obj) → Prop) (xv : Value) (s₁ : Shared) : Prop :=
  CSrcL prog w A h₀ L m env target ifs elt scope cl Fin xv s₁ ∨ CSrcR prog w A h₀ L m env target ifs elt scope cl Fin xv s₁

theorem csrc_block {elt target iter : Expr} {ifs : List Expr} {scope : Scope} {cl : List (Str × Addr)} {pos : Pos} {Fin : Shared → List Value → List (Addr × Obj) → Prop} {RR : Value → Addr → Result → Shared → Prop} {xv : Value} {s₁ : Shared}
    (hcell : ∀ y ∈ scope.names, y.2 ≠ .cell) (hkind : scope.kind = .function)
    (h₁ : CSrc prog w A h₀ L m env target ifs elt scope cl Fin xv s₁)
    (hRR : ∀ s₂ : Shared, (∃ h, s₂ = { s₁ with heap := h }) → ∀ D C h tk m' ys news', Fr h₀ L h m → News h₀ L h ((D, lst ys) :: news') → Off1 D news' → h.Ns C m' → h₀.get? C = none → h₀.get? D = none → C ≠ L → D ≠ L → C ≠ D → (∀ p ∈ news', p.1 ≠ C) → Fin s₂ ys news' → RR (.ref D) C (.ok .next) { s₂ with heap := h, toks := tk }) :
    wpAny (model prog w) A (pyIter xv) (fun it s₂ => wpAny (model prog w) A (newList []) (fun acc s₃ => wpAny (model prog w) A (newFunctionEnv scope env.globals cl [] env.qual none .none (some env)) (fun cenv s₄ =>
      codeAny (model prog w) A (.compStart (.ListComp elt [⟨target, iter, ifs, 0⟩] scope pos) 0 it acc { cenv with scope := relabel scope env }) (RR acc cenv.locals) s₄) E s₃) E s₂) E s₁ := by
  rcases h₁ with ⟨ax, its, news, Inv, rfl, hh, F, N, S, hsz, hI, hlet, R⟩ | ⟨r, a, b, t, u, v, n, news, Inv, rfl, hh, F, N, hr, hsm, hn, hsz, hI, hlet, R⟩
  · have hl := S.list F.keep N
    have hlt : @LT.lt Nat _ ax s₁.heap.objs.size := by obtain ⟨_, e, _⟩ := hl; exact Heap.lt_size e
    refine wpAny_pyIter_list hl ?_
    have up : ∀ b o, s₁.heap.get? b = some o → (s₁.heap.push { cls := .type "list_iterator", data := .fields #[.ref ax, .int 0 0] }).get? b = some o := fun b o e => Heap.get?_push_of_some _ e
    obtain ⟨hT, hF⟩ := R _ ⟨_, rfl⟩
    refine comp_block (Walks.list hh s₁.heap.objs.size ax (Nat.ne_of_lt hlt) its) hsz (fun i h st => by obtain ⟨o, e, _⟩ := st.1; exact ⟨o, e⟩)
      (fun i v s Q E hv st hQ => hlet i v s _ Q E hv st.1 hQ) list_st hcell hkind ⟨⟨_, Heap.get?_push_size _ rfl, rfl, rfl⟩, hl.push _⟩ (fun b hb => ?_)
      (F.keeps up) (N.grown up) (Nat.ne_of_lt F.ns.lt) (next_is_new F) (fun p hp => Nat.ne_of_lt (Heap.lt_size (N p hp).1)) S hI hT
      (fun D C h tk m' ys news' a1 a2 a3 a4 a5 a6 a7 a8 a9 a10 a11 => hRR _ ⟨_, rfl⟩ D C h tk m' ys news' a1 a2 a3 a4 a5 a6 a7 a8 a9 a10 (hF ys news' a11))
    show b < (s₁.heap.push _).objs.size
    rw [Heap.size_push]
    rcases List.mem_cons.mp hb with rfl | hb
    · exact Nat.lt_succ_self _
    · rw [List.mem_singleton.mp hb]; exact Nat.lt_succ_of_lt hlt
  · refine wpAny_pyIter_range hr hsm ?_
    obtain ⟨hT, hF⟩ := R _ ⟨_, rfl⟩
    refine comp_block (walks_lt (range_walks hh a n)) hsz (fun i h st => ⟨_, st⟩) (fun i v s Q E hv st hQ => by rw [hlet]; exact wpAny_pure hQ) range_st hcell hkind
      (by show IsRangeIter _ _ _ _ _; rw [hn]; simpa using Heap.get?_push_size _ rfl) (fun b hb => ?_)
      (F.keeps fun _ _ e => Heap.get?_push_of_some _ e) (N.grown fun _ _ e => Heap.get?_push_of_some _ e) (Nat.ne_of_lt F.ns.lt) (next_is_new F) (fun p hp => Nat.ne_of_lt (Heap.lt_size (N p hp).1)) trivial hI hT
      (fun D C h tk m' ys news' a1 a2 a3 a4 a5 a6 a7 a8 a9 a10 a11 => hRR _ ⟨_, rfl⟩ D C h tk m' ys news' a1 a2 a3 a4 a5 a6 a7 a8 a9 a10 (hF ys news' a11))
    rw [List.mem_singleton.mp hb]
    show s₁.heap.objs.size < (s₁.heap.push _).objs.size
    rw [Heap.size_push]; exact Nat.lt_succ_self _

/-- a comprehension of one clause, any target, any tests -/
theorem comp_eval {elt target iter : Expr} {ifs : List Expr} {scope : Scope} {cl : List (Str × Addr)} {pos : Pos} {Q : Value → Shared → Prop}
    (_F₀ : Fr h₀ L s.heap m)
    (hclos : closureFor scope env = pure cl) (hcell : ∀ y ∈ scope.names, y.2 ≠ .cell) (hkind : scope.kind = .function)
    (hnames : ∀ y ∈ scope.names, y.2 = .local → scope.names.lookup y.1 = some .local)
    (h : wpAny (model prog w) A (eval iter env) (CSrc prog w A h₀ L m env target ifs elt scope cl (fun s₂ => FinE h₀ L m s₂ Q)) E s)
    (hs : ∀ x, foldedSetIterable iter env x = pure x := by intro _; rfl) :
    wpAny (model prog w) A (eval (.ListComp elt [⟨target, iter, ifs, 0⟩] scope pos) env) Q E s := by
  rw [eval_ListComp]
  refine wpAny_comprehension_free (use := none) rfl hs hclos hkind hnames (wpAny_mono h (fun xv s₁ h₁ => csrc_block hcell hkind h₁ ?_) fun _ _ e => e)
  rintro s₂ _ D C h tk m' ys news' F' N' o1 hn hC₀ hD₀ hCL hDL hCD offC fin
  refine ⟨m', hn, fun h'' hs'' => fin D h'' tk (F'.change hs'' hCL hC₀) (fun p hp => ⟨hs''.extBut _ _ ?_ (N' p hp).1, (N' p hp).2⟩) o1⟩
  rcases List.mem_cons.mp hp with rfl | hp
  · exact Ne.symm hCD
  · exact offC p hp

/-- the same as the value of an assignment to a plain local name -/
theorem comp_assign {elt target iter : Expr} {ifs : List Expr} {y : Str} {py : Pos} {scope : Scope} {cl : List (Str × Addr)} {pos spos : Pos} {Q : Flow → Shared → Prop} (_F₀ : Fr h₀ L s.heap m) (hLe : env.locals = L)
    (hsw : swapsWith (.ListComp elt [⟨target, iter, ifs, 0⟩] scope pos) (some (.Name y py)) spos.line env = pure true)
    (hclos : closureFor scope env = pure cl) (hcell : ∀ z ∈ scope.names, z.2 ≠ .cell) (hkind : scope.kind = .function)
    (hnames : ∀ z ∈ scope.names, z.2 = .local → scope.names.lookup z.1 = some .local)
    (hy : env.kindOf y = some .local) (hp : (env.scope.kind == .class || (env.scope.kind == .module && env.locals != env.globals)) = false)
    (h : wpAny (model prog w) A (eval iter env) (CSrc prog w A h₀ L m env target ifs elt scope cl (fun s₂ => FinA h₀ L m s₂ y Q)) E s)
    (hs : ∀ x, foldedSetIterable iter env x = pure x := by intro _; rfl) :
    wpAny (model prog w) A (exec (.Assign [.Name y py] (.ListComp elt [⟨target, iter, ifs, 0⟩] scope pos) spos) env) Q E s := by
  subst hLe
  rw [exec_Assign_Name_used _ _ _ _ hsw]
  refine wpAny_bind (wpAny_standAt (wpAny_bind ?_))
  show wpAny _ A (do let _ ← comprehension (.ListComp elt [⟨target, iter, ifs, 0⟩] scope pos) scope env _ (newList []) false (eval iter env) (some (assign (.Name y py) env))) _ _ s
  refine wpAny_bind (wpAny_mono (wpAny_comprehension_free (use := some (assign (.Name y py) env)) (Q := fun _ s' => Q .next s') rfl hs hclos hkind hnames
    (wpAny_mono h (fun xv s₁ h₁ => csrc_block hcell hkind h₁ ?_) fun _ _ e => e)) (fun _ s' hq => wpAny_pure (wpAny_pure hq)) fun _ _ e => e)
  rintro s₂ _ D C h' tk m' ys news' F' N' o1 hn hC₀ hD₀ hCL hDL hCD offC fin
  show wpAny _ A (assign (.Name y py) env (.ref D)) _ _ _
  refine wpAny_assign_Name (wpAny_storeName_local hy F'.ns (fun h₂ hn₂ hs₂ => ?_) hp)
  have hL₀ : h₀.get? env.locals = none := Heap.get?_none_of_le F'.above
  have F₂ : Fr h₀ env.locals h₂ (fun z => if z = y then some (.ref D) else m z) := ⟨hn₂, fun b o e => hs₂.extBut b o (fun q => by rw [q, hL₀] at e; cases e) (F'.keep b o e), F'.above⟩
  refine ⟨m', hn.sameBut hs₂ hCL, fun h'' hs'' => fin D h'' _ (F₂.change hs'' hCL hC₀) (fun p hp => ?_) o1⟩
  have z : h₂.get? p.1 = some p.2 := hs₂.extBut _ _ (N' p hp).2.1 (N' p hp).1
  refine ⟨hs''.extBut _ _ ?_ z, (N' p hp).2⟩
  rcases List.mem_cons.mp hp with rfl | hp
  · exact Ne.symm hCD
  · exact offC p hp
end

def CEnd2 (h₀ : Heap) (L : Addr) (m : Str → Option Value) (s₁ : Shared) (I : Addr) (oI : Obj) (C D : Addr) (S : List (Addr × Obj) → Prop) (Inv : List Value → (Str → Option Value) → List (Addr × Obj) → Prop) (s₂ : Shared) : Prop :=
  ∃ h' tk oC m₂ ys' news', s₂ = { s₁ with heap := h', toks := tk } ∧ Fr h₀ L h' m ∧ NsObj oC m₂ ∧ News h₀ L h' ((I, oI) :: (C, oC) :: (D, lst ys') :: news') ∧ Off3 I C D news' ∧ S news' ∧ Inv ys' m₂ news'

section
variable {prog : Program} {w : World} {A : Around} {E : Value → Shared → Prop} {h₀ : Heap} {L : Addr} {m : Str → Option Value} {env : Env}

theorem cloop_core {elt : Expr} {gens : List Comprehension} {scope : Scope} {pos : Pos} {d : Nat} {cenv : Env} {I C D : Addr} {p : Pos} {B : Value → Sem Unit} {fp : List Addr} {n : Nat} {P : Nat → Value → Prop} {St : Nat → Heap → Prop} {S : List (Addr × Obj) → Prop}
    {Inv : Nat → List Value → (Str → Option Value) → List (Addr × Obj) → Prop} {R : Result → Shared → Prop} {s₂ : Shared} {ys₀ : List Value} {m₀ : Str → Option Value} {news₀ : List (Addr × Obj)}
    (hunf : compTurn (.ListComp elt gens scope pos) d (.ref I) (.ref D) cenv = (standAt p >>= fun _ => pyNext (.ref I) >>= fun r => match r with
      | none => pure (.done .next)
      | some v => B v >>= fun _ => again (.compLoop (.ListComp elt gens scope pos) d (.ref I) (.ref D) cenv)))
    (W : Walks prog w A I fp [I] n P St) (hIo : ∀ i h, St i h → ∃ o, h.get? I = some o)
    (hSt : ∀ i h h' o nw, St i h → h.get? I = some o → h'.get? I = some o → (∀ b o, h₀.get? b = some o → h'.get? b = some o) → News h₀ L h' nw → S nw → St i h')
    (hIL : L ≠ I) (hI₀ : h₀.get? I = none) (hCL : C ≠ L) (hC₀ : h₀.get? C = none) (hDL : D ≠ L) (hD₀ : h₀.get? D = none) (hIC : I ≠ C) (hID : I ≠ D)
    (turn : ∀ i v ys news oI oC m₁ h tk (E' : Value → Shared → Prop), i < n → P i v → Inv i ys m₁ news → S news → NsObj oC m₁ → Fr h₀ L h m → News h₀ L h ((I, oI) :: (C, oC) :: (D, lst ys) :: news) → Off3 I C D news → St (i + 1) h →
      wpAny (model prog w) A (B v) (fun _ s' => CEnd2 h₀ L m s₂ I oI C D S (Inv (i + 1)) s') E' { s₂ with heap := h, toks := tk })
    (hst : St 0 s₂.heap) (F : Fr h₀ L s₂.heap m) (hn : s₂.heap.Ns C m₀) (N : News h₀ L s₂.heap ((D, lst ys₀) :: news₀)) (off : Off3 I C D news₀) (hS : S news₀) (hInv : Inv 0 ys₀ m₀ news₀)
    (done : ∀ h tk ys m' news', Inv n ys m' news' → S news' → Fr h₀ L h m → h.Ns C m' → News h₀ L h ((D, lst ys) :: news') → Off3 I C D news' → R (.ok .next) { s₂ with heap := h, toks := tk }) :
    codeAny (model prog w) A (.compLoop (.ListComp elt gens scope pos) d (.ref I) (.ref D) cenv) R s₂ := by
  refine codeAny_loop rfl
    (fun k s' => ∃ h' tk i ys m' news', s' = { s₂ with heap := h', toks := tk } ∧ i ≤ n ∧ k = n + 1 - i ∧ St i h' ∧ Fr h₀ L h' m ∧ h'.Ns C m' ∧ News h₀ L h' ((D, lst ys) :: news') ∧ Off3 I C D news' ∧ S news' ∧ Inv i ys m' news') ?_ (n + 1)
    ⟨s₂.heap, s₂.toks, 0, ys₀, m₀, news₀, rfl, Nat.zero_le _, rfl, hst, F, hn, N, off, hS, hInv⟩
  rintro k s' ⟨h', tk, i, ys, m', news', rfl, hi, rfl, hst', F', hn', N', off', hS', I'⟩
  show wpAny _ A ((compTurn (.ListComp elt gens scope pos) d (.ref I) (.ref D) cenv).onRaise (fun x => do noteFrame x cenv; theTreesLotGoes x)) _ _ _
  refine wpAny_noted ?_
  rw [hunf]
  refine wpAny_bind (wpAny_standAt (wpAny_bind ?_))
  have off3 := off'.mem
  have offI : ∀ p ∈ (D, lst ys) :: news', p.1 ≠ I := fun p hp => by
    rcases List.mem_cons.mp hp with rfl | hp
    · exact Ne.symm hID
    · exact (off3 p hp).1
  by_cases hlt : i < n
  · refine W.item i _ _ _ hlt hst' fun v h₂ tk₂ hPv hst₂ hk₂ => ?_
    obtain ⟨oI, heI⟩ := hIo _ _ hst₂
    obtain ⟨oC, heC, hoC⟩ := ns_obj (hn'.at' fun o e => hk₂ C o (by simpa using Ne.symm hIC) e)
    have N₂ : News h₀ L h₂ ((D, lst ys) :: news') := news_but N' hk₂ offI
    have N₃ : News h₀ L h₂ ((I, oI) :: (C, oC) :: (D, lst ys) :: news') := fun p hp => by
      rcases List.mem_cons.mp hp with rfl | hp
      · exact ⟨heI, Ne.symm hIL, hI₀⟩
      · rcases List.mem_cons.mp hp with rfl | hp
        · exact ⟨heC, hCL, hC₀⟩
        · exact N₂ p hp
    refine wpAny_bind (wpAny_mono (turn i v ys news' oI oC _ h₂ tk₂ _ hlt hPv I' hS' hoC (fr_but F' hk₂ hIL hI₀) N₃ off' hst₂) (fun _ s₄ h₄ => ?_) fun _ _ e => e)
    obtain ⟨h₄, tk₄, oC', m₄, ys', news₄, rfl, F₄, hoC', N₄, off₄, hS₄, In₄⟩ := h₄
    have zI := (N₄ _ (.head _)).1
    have zC := (N₄ _ (.tail _ (.head _))).1
    have zD := N₄ _ (.tail _ (.tail _ (.head _)))
    have N₄' : News h₀ L h₄ news₄ := fun p hp => N₄ p (.tail _ (.tail _ (.tail _ hp)))
    refine wpAny_pure ⟨rfl, n + 1 - (i + 1), by omega, h₄, tk₄, i + 1, ys', m₄, news₄, rfl, hlt, rfl, hSt _ _ _ _ _ hst₂ heI zI F₄.keep N₄' hS₄, F₄, hoC'.ns zC, fun p hp => ?_, off₄, hS₄, In₄⟩
    rcases List.mem_cons.mp hp with rfl | hp
    · exact zD
    · exact N₄' p hp
  · obtain rfl : i = n := Nat.le_antisymm hi (Nat.not_lt.mp hlt)
    refine W.done _ _ _ hst' fun h₂ tk₂ hk₂ => wpAny_pure ?_
    exact done h₂ tk₂ ys m' news' I' hS' (fr_but F' hk₂ hIL hI₀) (hn'.at' fun o e => hk₂ _ o (by simpa using Ne.symm hIC) e) (news_but N' hk₂ offI) off'

theorem compTurn_two0 (elt iter iter₁ target target₁ : Expr) (scope : Scope) (pos : Pos) (it acc : Value) (cenv : Env) (hs : ∀ x, foldedSetIterable iter₁ cenv x = pure x) :
    compTurn (.ListComp elt [⟨target, iter, [], 0⟩, ⟨target₁, iter₁, [], 0⟩] scope pos) 0 it acc cenv = (standAt iter.pos >>= fun _ => pyNext it >>= fun r => match r with
      | none => pure (.done .next)
      | some v => (letOwnedTupleGo target it v >>= fun _ => assign target cenv v >>= fun _ => eval iter₁ cenv >>= fun x => standAt iter₁.pos >>= fun _ => pure x >>= fun x => holding [x] (pyIter x) >>= fun it₁ =>
          runOwn (.compStart (.ListComp elt [⟨target, iter, [], 0⟩, ⟨target₁, iter₁, [], 0⟩] scope pos) 1 it₁ acc cenv) cenv >>= fun _ => pure ()) >>= fun _ => again (.compLoop (.ListComp elt [⟨target, iter, [], 0⟩, ⟨target₁, iter₁, [], 0⟩] scope pos) 0 it acc cenv)) := by
  have e : (fun x => foldedSetIterable iter₁ cenv x) = fun x => pure x := funext hs
  show (standAt iter.pos >>= fun _ => pyNext it >>= fun r => match r with
      | none => pure (.done .next)
      | some v => letOwnedTupleGo target it v >>= fun _ => assign target cenv v >>= fun _ => (eval iter₁ cenv >>= fun x => standAt iter₁.pos >>= fun _ => foldedSetIterable iter₁ cenv x >>= fun x => holding [x] (pyIter x) >>= fun it₁ =>
          runOwn (.compStart (.ListComp elt [⟨target, iter, [], 0⟩, ⟨target₁, iter₁, [], 0⟩] scope pos) 1 it₁ acc cenv) cenv >>= fun _ => again (.compLoop (.ListComp elt [⟨target, iter, [], 0⟩, ⟨target₁, iter₁, [], 0⟩] scope pos) 0 it acc cenv))) = _
  simp only [hs, bind_assoc, pure_bind]

theorem compTurn_two1 (elt iter iter₁ target target₁ : Expr) (scope : Scope) (pos : Pos) (it acc : Value) (cenv : Env) :
    compTurn (.ListComp elt [⟨target, iter, [], 0⟩, ⟨target₁, iter₁, [], 0⟩] scope pos) 1 it acc cenv = (standAt iter₁.pos >>= fun _ => pyNext it >>= fun r => match r with
      | none => pure (.done .next)
      | some v => (letOwnedTupleGo target₁ it v >>= fun _ => assign target₁ cenv v >>= fun _ => eval elt cenv >>= fun y => call (.builtin "list.append") [acc, y] >>= fun _ => pure ()) >>= fun _ => again (.compLoop (.ListComp elt [⟨target, iter, [], 0⟩, ⟨target₁, iter₁, [], 0⟩] scope pos) 1 it acc cenv)) := by
  show (standAt iter₁.pos >>= fun _ => pyNext it >>= fun r => match r with
      | none => pure (.done .next)
      | some v => letOwnedTupleGo target₁ it v >>= fun _ => assign target₁ cenv v >>= fun _ => (eval elt cenv >>= fun y => call (.builtin "list.append") [acc, y] >>= fun _ => pure ()) >>= fun _ => again (.compLoop (.ListComp elt [⟨target, iter, [], 0⟩, ⟨target₁, iter₁, [], 0⟩] scope pos) 1 it acc cenv)) = _
  simp only [bind_assoc, pure_bind]

theorem compStart_two1 {elt target iter target₁ iter₁ scope pos it acc cenv} {R : Result → Shared → Prop} {s : Shared}
    (h0 : codeAny (model prog w) A (.compLoop (.ListComp elt [⟨target, iter, [], 0⟩, ⟨target₁, iter₁, [], 0⟩] scope pos) 1 it acc cenv) R s)
    (h : wpAny (model prog w) A (pyIter it) (fun it' s' => codeAny (model prog w) A (.compLoop (.ListComp elt [⟨target, iter, [], 0⟩, ⟨target₁, iter₁, [], 0⟩] scope pos) 1 it' acc cenv) R s')
      (notedBy (model prog w) A cenv fun x s' => R (.error x) s') s) :
    codeAny (model prog w) A (.compStart (.ListComp elt [⟨target, iter, [], 0⟩, ⟨target₁, iter₁, [], 0⟩] scope pos) 1 it acc cenv) R s := by
  refine codeAny_of_tree ?_
  show wpAny _ _ ((compStart (.ListComp elt [⟨target, iter, [], 0⟩, ⟨target₁, iter₁, [], 0⟩] scope pos) 1 it acc cenv).onRaise (fun x => do noteFrame x cenv; standAt theWindowsPlace)) _ _ s
  refine wpAny_notedAt ?_
  unfold compStart
  show wpAny _ _ (ask >>= _) _ _ s
  refine wpAny_bind (wpAny_askSetting (wpAny_ite ?_))
  split
  · first
      | exact wpAny_bind (wpAny_pure (wpAny_pure (And.intro rfl h0)))
      | exact wpAny_pure (And.intro rfl h0)
  · first
      | exact wpAny_bind (wpAny_rule (wpAny_bind (wpAny_standAt (wpAny_bind (wpAny_mono h (fun it' s' h' => wpAny_pure (And.intro rfl h')) fun _ _ x => x)))))
      | (refine wpAny_bind (wpAny_rule ?_); show wpAny _ _ (standAt iter₁.pos >>= _) _ _ s; exact wpAny_bind (wpAny_standAt (wpAny_bind (wpAny_mono h (fun it' s' h' => wpAny_pure (And.intro rfl h')) fun _ _ x => x))))

/-- storing a local of the block -/
theorem store_C {scope : Scope} {cl : List (Str × Addr)} {C : Addr} {x : Str} {px : Pos} {v : Value} {m₁ : Str → Option Value} {h : Heap} {tk : Nat} {s : Shared} {oC : Obj} {news : List (Addr × Obj)} {Q : Unit → Shared → Prop}
    (hx : scope.names.lookup x = some .local) (hkind : scope.kind = .function) (F : Fr h₀ L h m) (hoC : NsObj oC m₁) (N : News h₀ L h ((C, oC) :: news)) (off : ∀ p ∈ news, p.1 ≠ C)
    (k : ∀ h' tk' oC', Fr h₀ L h' m → NsObj oC' (fun z => if z = x then some v else m₁ z) → News h₀ L h' ((C, oC') :: news) → (∀ b o, b ≠ C → h.get? b = some o → h'.get? b = some o) → Q () { s with heap := h', toks := tk' }) :
    wpAny (model prog w) A (assign (.Name x px) (compEnvC scope cl C env) v) Q E { s with heap := h, toks := tk } := by
  have zC := N _ (.head _)
  refine wpAny_assign_Name (wpAny_storeName_local (lookup_relabel_local hx) (hoC.ns zC.1) (fun h₃ hn₃ hs₃ => ?_) (by simp [compEnvC, relabel, hkind]))
  obtain ⟨oC', heC, hoC'⟩ := ns_obj hn₃
  have hs₃' : Heap.SameBut C h h₃ := hs₃
  refine k h₃ _ oC' (F.change hs₃' zC.2.1 zC.2.2) hoC' (fun p hp => ?_) fun b o hb e => hs₃'.extBut b o hb e
  rcases List.mem_cons.mp hp with rfl | hp
  · exact ⟨heC, zC.2⟩
  · have z := N p (.tail _ hp)
    exact ⟨hs₃'.extBut _ _ (off p hp) z.1, z.2⟩

/-- the end of an inner turn -/
def C2End (h₀ : Heap) (L : Addr) (m : Str → Option Value) (s : Shared) (I' : Addr) (oI' : Obj) (C : Addr) (oC' : Obj) (D : Addr) (ys' : List Value) (I : Addr) (oI : Obj) (S : List (Addr × Obj) → Prop) (In : List Value → List (Addr × Obj) → Prop) (z : Value) (s₃ : Shared) : Prop :=
  ∃ h'' tk'' news'', s₃ = { s with heap := h'', toks := tk'' } ∧ Fr h₀ L h'' m ∧ News h₀ L h'' ((I', oI') :: (C, oC') :: (D, lst ys') :: (I, oI) :: news'') ∧ Off3 I' C D ((I, oI) :: news'') ∧ Off3 I C D news'' ∧ S news'' ∧ In (ys' ++ [z]) news''
/-- behind the inner source's evaluation: the range, its own turns, and the way back -/
def C2Src (prog : Program) (w : World) (A : Around) (h₀ : Heap) (L : Addr) (m : Str → Option Value) (env : Env) (x y : Str) (elt : Expr) (scope : Scope) (cl : List (Str × Addr)) (s : Shared)
    (S : List (Addr × Obj) → Prop) (v : Value) (ys : List Value) (I : Addr) (oI : Obj) (C : Addr) (oC : Obj) (D : Addr) (Inv : List Value → List (Addr × Obj) → Prop) (xv : Value) (s₁ : Shared) : Prop :=
  ∃ (r : Addr) (a b : Int) (t u w' : Tok) (n : Nat) (Inv₁ : Nat → List Value → List (Addr × Obj) → Prop) (h₁ : Heap) (tk₁ : Nat) (news₁ : List (Addr × Obj)), xv = .ref r ∧ s₁ = { s with heap := h₁, toks := tk₁ } ∧ Fr h₀ L h₁ m ∧ News h₀ L h₁ ((I, oI) :: (C, oC) :: (D, lst ys) :: news₁) ∧ Off3 I C D news₁ ∧ S news₁ ∧
      IsRange h₁ r a b 1 t u w' ∧ Builtin.Range.small a b 1 = true ∧ Builtin.Range.rangeSize a b 1 = ((n : Nat) : Int) ∧ Inv₁ 0 ys news₁ ∧
      (∀ j ys' news', Inv₁ j ys' news' → ys'.length ≤ 1000) ∧
      (∀ j t' ys' news' I' oI' oC' m₃ h' tk' (E'' : Value → Shared → Prop), j < n → Inv₁ j ys' news' → S news' → NsObj oC' m₃ → m₃ x = some v → m₃ y = some (.int (a + (j : Int)) t') → Fr h₀ L h' m → News h₀ L h' ((I', oI') :: (C, oC') :: (D, lst ys') :: (I, oI) :: news') → Off3 I' C D ((I, oI) :: news') → Off3 I C D news' →
        wpAny (model prog w) A (eval elt (compEnvC scope cl C env)) (C2End h₀ L m s I' oI' C oC' D ys' I oI S (Inv₁ (j + 1))) E'' { s with heap := h', toks := tk' }) ∧
      (∀ ys' news', Inv₁ n ys' news' → Inv ys' news')
/-- what the outer clause's turn asks, behind its assignment -/
def C2Turn (prog : Program) (w : World) (A : Around) (h₀ : Heap) (L : Addr) (m : Str → Option Value) (env : Env) (x y : Str) (iter₁ elt : Expr) (scope : Scope) (cl : List (Str × Addr)) (s : Shared)
    (S : List (Addr × Obj) → Prop) (P : Nat → Value → Prop) (Inv : Nat → List Value → List (Addr × Obj) → Prop) : Prop :=
  ∀ i v ys news I oI C oC m₂ D h tk (E' : Value → Shared → Prop), P i v → Inv i ys news → S news → NsObj oC m₂ → m₂ x = some v → Fr h₀ L h m → News h₀ L h ((I, oI) :: (C, oC) :: (D, lst ys) :: news) → Off3 I C D news → ((@Ne Nat I C) ∧ (@Ne Nat I D) ∧ (@Ne Nat C D)) →
    wpAny (model prog w) A (eval iter₁ (compEnvC scope cl C env)) (C2Src prog w A h₀ L m env x y elt scope cl s S v ys I oI C oC D (Inv (i + 1))) E' { s with heap := h, toks := tk }
/-- behind the outer source's evaluation -/
def C2Top (prog : Program) (w : World) (A : Around) (h₀ : Heap) (L : Addr) (m : Str → Option Value) (env : Env) (x y : Str) (iter₁ elt : Expr) (scope : Scope) (cl : List (Str × Addr)) (Q : Value → Shared → Prop) (xv : Value) (s₁ : Shared) : Prop :=
  ∃ (ax : Addr) (its : Array Value) (news : List (Addr × Obj)) (Inv : Nat → List Value → List (Addr × Obj) → Prop), xv = .ref ax ∧ A.handled = none ∧ Fr h₀ L s₁.heap m ∧ News h₀ L s₁.heap news ∧ SrcAt h₀ ax its news ∧ Inv 0 [] news ∧
      ∀ s₂ : Shared, (∃ h, s₂ = { s₁ with heap := h }) → C2Turn prog w A h₀ L m env x y iter₁ elt scope cl s₂ (SrcAt h₀ ax its) (fun i v => its[i]? = some v) Inv ∧ ∀ ys news', Inv its.size ys news' → FinE h₀ L m s₂ Q ys news'

theorem comp2_turn {elt iter iter₁ : Expr} {x y : Str} {px py : Pos} {scope : Scope} {cl : List (Str × Addr)} {pos : Pos} {s₂ : Shared} {S : List (Addr × Obj) → Prop} {P : Nat → Value → Prop} {Inv : Nat → List Value → List (Addr × Obj) → Prop} {I C D : Addr} {oI oC : Obj} {m₁ : Str → Option Value} {i : Nat} {v : Value} {ys : List Value} {news : List (Addr × Obj)} {h : Heap} {tk : Nat}
    (hh : A.handled = none) (hx : scope.names.lookup x = some .local) (hy : scope.names.lookup y = some .local) (hxy : x ≠ y) (hkind : scope.kind = .function)
    (hT : C2Turn prog w A h₀ L m env x y iter₁ elt scope cl s₂ S P Inv) (hne : (@Ne Nat I C) ∧ (@Ne Nat I D) ∧ (@Ne Nat C D))
    (hP : P i v) (hI : Inv i ys news) (hS : S news) (hoC : NsObj oC m₁) (F : Fr h₀ L h m) (N : News h₀ L h ((I, oI) :: (C, oC) :: (D, lst ys) :: news)) (off : Off3 I C D news) :
    wpAny (model prog w) A (letOwnedTupleGo (.Name x px) (.ref I) v >>= fun _ => assign (.Name x px) (compEnvC scope cl C env) v >>= fun _ => eval iter₁ (compEnvC scope cl C env) >>= fun xv => standAt iter₁.pos >>= fun _ => pure xv >>= fun xv => holding [xv] (pyIter xv) >>= fun it₁ =>
          runOwn (.compStart (.ListComp elt [⟨.Name x px, iter, [], 0⟩, ⟨.Name y py, iter₁, [], 0⟩] scope pos) 1 it₁ (.ref D) (compEnvC scope cl C env)) (compEnvC scope cl C env) >>= fun _ => pure ())
      (fun _ s' => CEnd2 h₀ L m s₂ I oI C D S (fun ys _ news => Inv (i + 1) ys news) s') E { s₂ with heap := h, toks := tk } := by
  refine wpAny_bind (wpAny_of_eq (rfl : letOwnedTupleGo (.Name x px) (.ref I) v = pure ()) ?_)
  have off3 := off.mem
  have N' : News h₀ L h ((C, oC) :: (I, oI) :: (D, lst ys) :: news) := fun p hp => N p (by
    rcases List.mem_cons.mp hp with rfl | hp
    · exact .tail _ (.head _)
    · rcases List.mem_cons.mp hp with rfl | hp
      · exact .head _
      · exact .tail _ (.tail _ hp))
  refine wpAny_bind (store_C hx hkind F hoC N' (fun p hp => ?_) fun h₁ tk₁ oC₁ F₁ hoC₁ N₁ keep₁ => ?_)
  · rcases List.mem_cons.mp hp with rfl | hp
    · exact hne.1
    · rcases List.mem_cons.mp hp with rfl | hp
      · exact Ne.symm hne.2.2
      · exact (off3 p hp).2.1
  have N₁' : News h₀ L h₁ ((I, oI) :: (C, oC₁) :: (D, lst ys) :: news) := fun p hp => N₁ p (by
    rcases List.mem_cons.mp hp with rfl | hp
    · exact .tail _ (.head _)
    · rcases List.mem_cons.mp hp with rfl | hp
      · exact .head _
      · exact .tail _ (.tail _ hp))
  refine wpAny_bind (wpAny_mono (hT i v ys news I oI C oC₁ _ D h₁ tk₁ _ hP hI hS hoC₁ (by simp) F₁ N₁' off hne) ?_ fun _ _ e => e)
  rintro xv s₁ ⟨r, a, b, t, u, w', n, Inv₁, h₂, tk₂, news₁, rfl, rfl, F₂, N₂, off₂, hS₂, hr, hsm, hn, hI₂, hlen, turn, back⟩
  refine wpAny_bind (wpAny_standAt (wpAny_bind (wpAny_pure (wpAny_bind (wpAny_holding (wpAny_pyIter_range hr hsm ?_))))))
  have off2 := off₂.mem
  generalize hI' : h₂.objs.size = I'
  have hlt : ∀ p ∈ (I, oI) :: (C, oC₁) :: (D, lst ys) :: news₁, @LT.lt Nat _ p.1 I' := fun p hp => hI' ▸ Heap.lt_size (N₂ p hp).1
  have hIlt := hlt _ (.head _)
  have hClt := hlt _ (.tail _ (.head _))
  have hDlt := hlt _ (.tail _ (.tail _ (.head _)))
  have zI := N₂ _ (.head _)
  have zC := N₂ _ (.tail _ (.head _))
  have zD := N₂ _ (.tail _ (.tail _ (.head _)))
  have hLlt : @LT.lt Nat _ L I' := hI' ▸ F₂.ns.lt
  have up : ∀ {o : Obj} (b o'), h₂.get? b = some o' → (h₂.push o).get? b = some o' := fun b o' e => Heap.get?_push_of_some _ e
  dsimp only at hIlt hClt hDlt ⊢
  refine wpAny_bind (wpAny_runOwn ?_)
  show codeAny (model prog w) A _ _ _
  have loop : codeAny (model prog w) A (.compLoop (.ListComp elt [⟨.Name x px, iter, [], 0⟩, ⟨.Name y py, iter₁, [], 0⟩] scope pos) 1 (.ref I') (.ref D) (compEnvC scope cl C env))
      (fun r s' => match r with | .ok f => wpAny (model prog w) A (pure ()) (fun _ s' => CEnd2 h₀ L m s₂ I oI C D S (fun ys _ news => Inv (i + 1) ys news) s') E s' | .error e => cameBackBy (model prog w) A (compEnvC scope cl C env) E e s')
      { s₂ with heap := h₂.push { cls := .type "range_iterator", data := .fields #[rawInt a, rawInt (Builtin.Range.rangeSize a b 1), rawInt 1] }, toks := tk₂ } := by
    refine cloop_core (L := L) (m := m) (h₀ := h₀) (S := fun nw => ∃ nw', nw = (I, oI) :: nw' ∧ Off3 I C D nw' ∧ S nw') (Inv := fun j ys' m' nw => ∃ nw', nw = (I, oI) :: nw' ∧ m' x = some v ∧ Inv₁ j ys' nw') (ys₀ := ys) (news₀ := (I, oI) :: news₁) (p := iter₁.pos)
      (B := fun v => letOwnedTupleGo (.Name y py) (.ref I') v >>= fun _ => assign (.Name y py) (compEnvC scope cl C env) v >>= fun _ => eval elt (compEnvC scope cl C env) >>= fun y => call (.builtin "list.append") [.ref D, y] >>= fun _ => pure ())
      (compTurn_two1 ..) (range_walks hh a n) (fun i h st => ⟨_, st⟩) (fun i h h' o nw st e e' k N' _ => range_st (h₀ := h₀) (L := L) i h h' o nw st e e' k N' trivial) (Nat.ne_of_lt hLlt) (hI' ▸ next_is_new F₂) zC.2.1 zC.2.2 zD.2.1 zD.2.2 (Nat.ne_of_gt hClt) (Nat.ne_of_gt hDlt)
      ?turn (by show IsRangeIter _ _ _ _ _; rw [← hI', hn]; simpa using Heap.get?_push_size _ rfl) (F₂.keeps up) ((hoC₁.ns zC.1).at' fun o e => up _ _ e) ?news ?off ⟨_, rfl, off₂, hS₂⟩ ⟨_, rfl, by simp, hI₂⟩ ?done
    case news =>
      intro p hp
      have : p ∈ (I, oI) :: (C, oC₁) :: (D, lst ys) :: news₁ := by
        rcases List.mem_cons.mp hp with rfl | hp
        · exact .tail _ (.tail _ (.head _))
        · rcases List.mem_cons.mp hp with rfl | hp
          · exact .head _
          · exact .tail _ (.tail _ (.tail _ hp))
      exact ⟨up _ _ (N₂ p this).1, (N₂ p this).2⟩
    case off =>
      refine Off3.of fun p hp => ?_
      rcases List.mem_cons.mp hp with rfl | hp
      · exact ⟨Nat.ne_of_lt hIlt, hne.1, hne.2.1⟩
      · exact ⟨Nat.ne_of_lt (hlt p (.tail _ (.tail _ (.tail _ hp)))), (off2 p hp).2⟩
    case turn =>
      rintro j v' ys' nw oI' oC' m₃ h' tk' E' hj ⟨t', rfl⟩ ⟨nw', rfl, hmx, hi'⟩ ⟨nw'', hq, offI, hS'⟩ hoC' F' N' off' _
      obtain rfl : nw' = nw'' := by injection hq
      have off3' := off'.mem
      refine wpAny_bind (wpAny_of_eq (rfl : letOwnedTupleGo (.Name y py) (.ref I') _ = pure ()) ?_)
      have Nc : News h₀ L h' ((C, oC') :: (I', oI') :: (D, lst ys') :: (I, oI) :: nw') := fun p hp => N' p (by
        rcases List.mem_cons.mp hp with rfl | hp
        · exact .tail _ (.head _)
        · rcases List.mem_cons.mp hp with rfl | hp
          · exact .head _
          · exact .tail _ (.tail _ hp))
      refine wpAny_bind (store_C hy hkind F' hoC' Nc (fun p hp => ?_) fun h₃ tk₃ oC₃ F₃ hoC₃ N₃ keep₃ => ?_)
      · rcases List.mem_cons.mp hp with rfl | hp
        · exact Nat.ne_of_gt hClt
        · rcases List.mem_cons.mp hp with rfl | hp
          · exact Ne.symm hne.2.2
          · exact (off3' p hp).2.1
      have N₃' : News h₀ L h₃ ((I', oI') :: (C, oC₃) :: (D, lst ys') :: (I, oI) :: nw') := fun p hp => N₃ p (by
        rcases List.mem_cons.mp hp with rfl | hp
        · exact .tail _ (.head _)
        · rcases List.mem_cons.mp hp with rfl | hp
          · exact .head _
          · exact .tail _ (.tail _ hp))
      refine wpAny_bind (wpAny_mono (turn j t' ys' nw' I' oI' oC₃ _ h₃ tk₃ _ hj hi' hS' hoC₃ (by simp [hxy, hmx]) (by simp) F₃ N₃' off' offI) ?_ fun _ _ e => e)
      rintro z s₄ ⟨h₄, tk₄, nw₄, rfl, F₄, N₄, off₄, offI₄, hS₄, In₄⟩
      have zD' := N₄ _ (.tail _ (.tail _ (.head _)))
      have off4 := off₄.mem
      refine wpAny_bind (append_at (hsz := by show ys'.toArray.size ≤ sizeLine; rw [List.size_toArray]; have := hlen _ _ _ hi'; rw [sizeLine_eq]; omega) zD'.1 fun h₅ hs₅ hD₅ => wpAny_pure ?_)
      refine ⟨h₅, tk₄, oC₃, _, ys' ++ [z], (I, oI) :: nw₄, rfl, F₄.change hs₅ zD'.2.1 zD'.2.2, hoC₃, fun p hp => ?_, off₄, ⟨_, rfl, offI₄, hS₄⟩, ⟨_, rfl, by simp [hxy, hmx], In₄⟩⟩
      rcases List.mem_cons.mp hp with rfl | hp
      · have z := N₄ _ (.head _)
        exact ⟨hs₅.extBut _ _ (Nat.ne_of_gt hDlt) z.1, z.2⟩
      · rcases List.mem_cons.mp hp with rfl | hp
        · have z := N₄ _ (.tail _ (.head _))
          exact ⟨hs₅.extBut _ _ hne.2.2 z.1, z.2⟩
        · rcases List.mem_cons.mp hp with rfl | hp
          · exact ⟨hD₅.trans (congrArg some (lst_snoc ys' z)), zD'.2⟩
          · have z := N₄ p (.tail _ (.tail _ (.tail _ hp)))
            exact ⟨hs₅.extBut _ _ (off4 p hp).2.2 z.1, z.2⟩
    case done =>
      rintro h' tk' ys' m' nw ⟨nw', rfl, hmx, hi'⟩ ⟨nw'', hq, offI, hS'⟩ F' hn' N' off'
      obtain rfl : nw' = nw'' := by injection hq
      obtain ⟨oC', heC, hoC'⟩ := ns_obj hn'
      refine wpAny_pure ⟨h', tk', oC', m', ys', nw', rfl, F', hoC', fun p hp => ?_, offI, hS', back _ _ hi'⟩
      rcases List.mem_cons.mp hp with rfl | hp
      · exact N' _ (.tail _ (.head _))
      · rcases List.mem_cons.mp hp with rfl | hp
        · exact ⟨heC, zC.2⟩
        · rcases List.mem_cons.mp hp with rfl | hp
          · exact N' _ (.head _)
          · exact N' _ (.tail _ (.tail _ hp))
  refine compStart_two1 loop ?_
  refine (range_walks (prog := prog) (w := w) hh a n (I := I')).self 0 _ _ _ ?_ loop
  show IsRangeIter _ _ _ _ _
  rw [← hI', hn]; simpa using Heap.get?_push_size _ rfl

/-- a comprehension of two clauses, plain names, no tests, the inner source a range -/
theorem comp2_eval {elt iter iter₁ : Expr} {x y : Str} {px py : Pos} {scope : Scope} {cl : List (Str × Addr)} {pos : Pos} {Q : Value → Shared → Prop} {s : Shared}
    (_F₀ : Fr h₀ L s.heap m)
    (hclos : closureFor scope env = pure cl) (hcell : ∀ y ∈ scope.names, y.2 ≠ .cell) (hkind : scope.kind = .function)
    (hnames : ∀ y ∈ scope.names, y.2 = .local → scope.names.lookup y.1 = some .local)
    (hx : scope.names.lookup x = some .local) (hy : scope.names.lookup y = some .local) (hxy : x ≠ y)
    (h : wpAny (model prog w) A (eval iter env) (C2Top prog w A h₀ L m env x y iter₁ elt scope cl Q) E s)
    (hs : ∀ x, foldedSetIterable iter env x = pure x := by intro _; rfl)
    (hs₁ : ∀ C x, foldedSetIterable iter₁ (compEnvC scope cl C env) x = pure x := by intro _ _; rfl) :
    wpAny (model prog w) A (eval (.ListComp elt [⟨.Name x px, iter, [], 0⟩, ⟨.Name y py, iter₁, [], 0⟩] scope pos) env) Q E s := by
  rw [eval_ListComp]
  refine wpAny_comprehension_free (use := none) rfl hs hclos hkind hnames (wpAny_mono h ?_ fun _ _ e => e)
  rintro xv s₁ ⟨ax, its, news, Inv, rfl, hh, F, N, S, hI, R⟩
  have hl := S.list F.keep N
  refine wpAny_pyIter_list hl ?_
  obtain ⟨hT, hF⟩ := R { s₁ with heap := s₁.heap.push { cls := .type "list_iterator", data := .fields #[.ref ax, .int 0 0] } } ⟨_, rfl⟩
  refine wpAny_newObj_type (wpAny_newFunctionEnv hcell (by intro y hy; simp at hy) (fun h₁ hns₁ hsb₁ => ?_) hkind)
  dsimp only at hns₁ hsb₁ ⊢
  generalize hH1 : s₁.heap.push { cls := .type "list_iterator", data := .fields #[.ref ax, .int 0 0] } = H1 at *
  generalize hH2 : H1.push { cls := .type "list", dict := none, data := .seq ([] : List Value).toArray } = H2 at *
  have e1 : H1.objs.size = s₁.heap.objs.size + 1 := by rw [← hH1, Heap.size_push]
  have e2 : H2.objs.size = H1.objs.size + 1 := by rw [← hH2, Heap.size_push]
  have hlt0 : ∀ b o, s₁.heap.get? b = some o → @LT.lt Nat _ b s₁.heap.objs.size := fun b o e => Heap.lt_size e
  have k01 : ∀ b o, s₁.heap.get? b = some o → H1.get? b = some o := fun b o e => hH1 ▸ Heap.get?_push_of_some _ e
  have k12 : ∀ b o, H1.get? b = some o → H2.get? b = some o := fun b o e => hH2 ▸ Heap.get?_push_of_some _ e
  have hI1 : H1.get? s₁.heap.objs.size = some { cls := .type "list_iterator", data := .fields #[.ref ax, .int 0 0] } := hH1 ▸ Heap.get?_push_size _ rfl
  have hD2 : H2.get? H1.objs.size = some (lst []) := hH2 ▸ Heap.get?_push_size _ rfl
  have k23 : ∀ b o, H2.get? b = some o → h₁.get? b = some o := fun b o e => hsb₁.extBut b o (Nat.ne_of_lt (Heap.lt_size e)) (Heap.get?_push_of_some _ e)
  have old : ∀ b o, s₁.heap.get? b = some o → h₁.get? b = some o := fun b o e => k23 b o (k12 b o (k01 b o e))
  have hLlt : @LT.lt Nat _ L s₁.heap.objs.size := F.ns.lt
  have fresh₀ : ∀ a : Nat, @LE.le Nat _ s₁.heap.objs.size a → h₀.get? a = none := fun a ha => by
    cases e : h₀.get? a with
    | none => rfl
    | some o' => have q := hlt0 a o' (F.keep a o' e); omega
  generalize hIe : s₁.heap.objs.size = I at *
  generalize hDe : H1.objs.size = D at *
  generalize hCe : H2.objs.size = C at *
  have e1' : @Eq Nat D (I + 1) := e1
  have e2' : @Eq Nat C (D + 1) := e2
  have hne : (@Ne Nat I C) ∧ (@Ne Nat I D) ∧ (@Ne Nat C D) := ⟨by omega, by omega, by omega⟩
  have hIL : @Ne Nat L I := by omega
  have hCL : @Ne Nat C L := by omega
  have hDL : @Ne Nat D L := by omega
  have hax : @LT.lt Nat _ ax I := by obtain ⟨_, e, _⟩ := hl; exact hlt0 _ _ e
  have hC₀ : h₀.get? C = none := fresh₀ _ (by omega)
  have hD₀ : h₀.get? D = none := fresh₀ _ (by omega)
  have hI₀ : h₀.get? I = none := fresh₀ _ (by omega)
  have hF₁ : Fr h₀ L h₁ m := F.keeps old
  have hst : h₁.IsListIter I ax 0 ∧ h₁.IsList ax its := ⟨⟨_, k23 _ _ (k12 _ _ hI1), rfl, rfl⟩, let ⟨o, e, r⟩ := hl; ⟨o, old _ _ e, r⟩⟩
  have nlt : ∀ p ∈ news, @LT.lt Nat _ p.1 I := fun p hp => hlt0 _ _ (N p hp).1
  have off₀ : Off3 I C D news := Off3.of fun p hp => by have q := nlt p hp; exact ⟨(by omega : @Ne Nat p.1 I), (by omega : @Ne Nat p.1 C), (by omega : @Ne Nat p.1 D)⟩
  have N₁ : News h₀ L h₁ ((D, lst []) :: news) := fun p hp => by
    rcases List.mem_cons.mp hp with rfl | hp
    · exact ⟨k23 _ _ hD2, hDL, hD₀⟩
    · exact ⟨old _ _ (N p hp).1, (N p hp).2⟩
  have loop : codeAny (model prog w) A (.compLoop (.ListComp elt [⟨.Name x px, iter, [], 0⟩, ⟨.Name y py, iter₁, [], 0⟩] scope pos) 0 (.ref I) (.ref D) (compEnvC scope cl C env))
      (compPost (model prog w) A E none Q (.ref D) C) { s₁ with heap := h₁, toks := s₁.toks + ([] : List (Str × Value)).length } := by
    refine cloop_core (L := L) (m := m) (h₀ := h₀) (S := SrcAt h₀ ax its) (Inv := fun i ys _ nw => Inv i ys nw) (ys₀ := []) (news₀ := news) (p := iter.pos) (C := C)
      (compTurn_two0 _ _ _ _ _ _ _ _ _ _ (hs₁ C)) (Walks.list hh I ax (Nat.ne_of_lt hax) its) (fun i h st => by obtain ⟨o, e, _⟩ := st.1; exact ⟨o, e⟩) list_st
      hIL hI₀ hCL hC₀ hDL hD₀ hne.1 hne.2.1 ?_ hst hF₁ hns₁ N₁ off₀ S hI ?_
    · intro i v ys news oI oC m₁ h tk E' _ hP hI' hS' hoC F' N' off' _
      exact comp2_turn (s₂ := { s₁ with heap := H1 }) hh hx hy hxy hkind hT hne hP hI' hS' hoC F' N' off'
    · intro h tk ys m' news' hI' _ F' hn' N' off'
      have off3 := off'.mem
      refine ⟨m', hn', fun h'' hs'' => hF ys news' hI' D h'' tk (F'.change hs'' hCL hC₀) (fun p hp => ⟨hs''.extBut _ _ ?_ (N' p hp).1, (N' p hp).2⟩) off'.one⟩
      rcases List.mem_cons.mp hp with rfl | hp
      · exact Ne.symm hne.2.2
      · exact (off3 p hp).2.1
  exact codeAny_compStart_list loop ((Walks.list (prog := prog) (w := w) hh I ax (Nat.ne_of_lt hax) its).self 0 _ _ _ hst loop)
end
section
variable {prog : Program} {w : World} {A : Around} {E : Value → Shared → Prop} {s : Shared} {h₀ : Heap} {L : Addr} {m : Str → Option Value} {env : Env}

/-- a tuple unpacked into plain local names of a block -/
theorem assign2_C {scope : Scope} {cl : List (Str × Addr)} {C T : Addr} {x₁ x₂ : Str} {p₁ p₂ tp : Pos} {kk : Nat} {v₁ v₂ : Value} {m₁ : Str → Option Value} {h : Heap} {tk : Nat} {oC : Obj} {news : List (Addr × Obj)} {Q : Unit → Shared → Prop}
    (hh : A.handled = none) (hx₁ : scope.names.lookup x₁ = some .local) (hx₂ : scope.names.lookup x₂ = some .local) (hkind : scope.kind = .function) (F : Fr h₀ L h m) (hoC : NsObj oC m₁) (N : News h₀ L h ((C, oC) :: news)) (off : ∀ p ∈ news, p.1 ≠ C)
    (ht : h.IsTuple T #[v₁, v₂])
    (k : ∀ h' tk' oC', Fr h₀ L h' m → NsObj oC' (fun z => if z = x₂ then some v₂ else if z = x₁ then some v₁ else m₁ z) → News h₀ L h' ((C, oC') :: news) → Q () { s with heap := h', toks := tk' }) :
    wpAny (model prog w) A (assign (.Tuple [.Name x₁ p₁, .Name x₂ p₂] kk tp) (compEnvC scope cl C env) (.ref T)) Q E { s with heap := h, toks := tk } := by
  have zC := N _ (.head _)
  refine wpAny_assign_Tuple hh ht rfl rfl fun h₁ he₁ => ?_
  have up₁ : ∀ c o, h.get? c = some o → h₁.get? c = some o := fun c o e => he₁ c o (Nat.ne_of_lt (Heap.lt_size e)) e
  have hp : ((compEnvC scope cl C env).scope.kind == .class || ((compEnvC scope cl C env).scope.kind == .module && (compEnvC scope cl C env).locals != (compEnvC scope cl C env).globals)) = false := by simp [compEnvC, relabel, hkind]
  show wpAny _ _ (assignInOrder [assign (.Name x₁ p₁) (compEnvC scope cl C env), assign (.Name x₂ p₂) (compEnvC scope cl C env)] [v₁, v₂]) _ _ _
  refine assignInOrder_cons (wpAny_assign_Name (wpAny_storeName_local (lookup_relabel_local hx₁) (hoC.ns (up₁ _ _ zC.1)) (fun h₂ hn₂ hs₂ => ?_) hp))
  refine assignInOrder_cons (wpAny_assign_Name (wpAny_storeName_local (lookup_relabel_local hx₂) hn₂ (fun h₃ hn₃ hs₃ => ?_) hp))
  refine assignInOrder_nil ?_
  obtain ⟨oC', heC, hoC'⟩ := ns_obj hn₃
  have hs₂' : Heap.SameBut C h₁ h₂ := hs₂
  have hs₃' : Heap.SameBut C h₂ h₃ := hs₃
  refine k h₃ _ oC' (((F.keeps up₁).change hs₂' zC.2.1 zC.2.2).change hs₃' zC.2.1 zC.2.2) hoC' fun p hp => ?_
  rcases List.mem_cons.mp hp with rfl | hp
  · exact ⟨heC, zC.2⟩
  · have z := N p (.tail _ hp)
    exact ⟨hs₃'.extBut _ _ (off p hp) (hs₂'.extBut _ _ (off p hp) (up₁ _ _ z.1)), z.2⟩

theorem assign3_C {scope : Scope} {cl : List (Str × Addr)} {C T : Addr} {x₁ x₂ x₃ : Str} {p₁ p₂ p₃ tp : Pos} {kk : Nat} {v₁ v₂ v₃ : Value} {m₁ : Str → Option Value} {h : Heap} {tk : Nat} {oC : Obj} {news : List (Addr × Obj)} {Q : Unit → Shared → Prop}
    (hh : A.handled = none) (hx₁ : scope.names.lookup x₁ = some .local) (hx₂ : scope.names.lookup x₂ = some .local) (hx₃ : scope.names.lookup x₃ = some .local) (hkind : scope.kind = .function) (F : Fr h₀ L h m) (hoC : NsObj oC m₁) (N : News h₀ L h ((C, oC) :: news)) (off : ∀ p ∈ news, p.1 ≠ C)
    (ht : h.IsTuple T #[v₁, v₂, v₃])
    (k : ∀ h' tk' oC', Fr h₀ L h' m → NsObj oC' (fun z => if z = x₃ then some v₃ else if z = x₂ then some v₂ else if z = x₁ then some v₁ else m₁ z) → News h₀ L h' ((C, oC') :: news) → Q () { s with heap := h', toks := tk' }) :
    wpAny (model prog w) A (assign (.Tuple [.Name x₁ p₁, .Name x₂ p₂, .Name x₃ p₃] kk tp) (compEnvC scope cl C env) (.ref T)) Q E { s with heap := h, toks := tk } := by
  have zC := N _ (.head _)
  refine wpAny_assign_Tuple hh ht rfl rfl fun h₁ he₁ => ?_
  have up₁ : ∀ c o, h.get? c = some o → h₁.get? c = some o := fun c o e => he₁ c o (Nat.ne_of_lt (Heap.lt_size e)) e
  have hp : ((compEnvC scope cl C env).scope.kind == .class || ((compEnvC scope cl C env).scope.kind == .module && (compEnvC scope cl C env).locals != (compEnvC scope cl C env).globals)) = false := by simp [compEnvC, relabel, hkind]
  show wpAny _ _ (assignInOrder [assign (.Name x₁ p₁) (compEnvC scope cl C env), assign (.Name x₂ p₂) (compEnvC scope cl C env), assign (.Name x₃ p₃) (compEnvC scope cl C env)] [v₁, v₂, v₃]) _ _ _
  refine assignInOrder_cons (wpAny_assign_Name (wpAny_storeName_local (lookup_relabel_local hx₁) (hoC.ns (up₁ _ _ zC.1)) (fun h₂ hn₂ hs₂ => ?_) hp))
  refine assignInOrder_cons (wpAny_assign_Name (wpAny_storeName_local (lookup_relabel_local hx₂) hn₂ (fun h₃ hn₃ hs₃ => ?_) hp))
  refine assignInOrder_cons (wpAny_assign_Name (wpAny_storeName_local (lookup_relabel_local hx₃) hn₃ (fun h₄ hn₄ hs₄ => ?_) hp))
  refine assignInOrder_nil ?_
  obtain ⟨oC', heC, hoC'⟩ := ns_obj hn₄
  have hs₂' : Heap.SameBut C h₁ h₂ := hs₂
  have hs₃' : Heap.SameBut C h₂ h₃ := hs₃
  have hs₄' : Heap.SameBut C h₃ h₄ := hs₄
  refine k h₄ _ oC' ((((F.keeps up₁).change hs₂' zC.2.1 zC.2.2).change hs₃' zC.2.1 zC.2.2).change hs₄' zC.2.1 zC.2.2) hoC' fun p hp => ?_
  rcases List.mem_cons.mp hp with rfl | hp
  · exact ⟨heC, zC.2⟩
  · have z := N p (.tail _ hp)
    exact ⟨hs₄'.extBut _ _ (off p hp) (hs₃'.extBut _ _ (off p hp) (hs₂'.extBut _ _ (off p hp) (up₁ _ _ z.1))), z.2⟩

/-- the ledger with the block's names first -/
theorem news_C {I C D : Addr} {oI oC oD : Obj} {news : List (Addr × Obj)} {h : Heap} (N : News h₀ L h ((I, oI) :: (C, oC) :: (D, oD) :: news)) : News h₀ L h ((C, oC) :: (I, oI) :: (D, oD) :: news) := fun p hp => N p (by
  rcases List.mem_cons.mp hp with rfl | hp
  · exact .tail _ (.head _)
  · rcases List.mem_cons.mp hp with rfl | hp
    · exact .head _
    · exact .tail _ (.tail _ hp))
theorem news_I {I C D : Addr} {oI oC oD : Obj} {news : List (Addr × Obj)} {h : Heap} (N : News h₀ L h ((C, oC) :: (I, oI) :: (D, oD) :: news)) : News h₀ L h ((I, oI) :: (C, oC) :: (D, oD) :: news) := fun p hp => N p (by
  rcases List.mem_cons.mp hp with rfl | hp
  · exact .tail _ (.head _)
  · rcases List.mem_cons.mp hp with rfl | hp
    · exact .head _
    · exact .tail _ (.tail _ hp))
theorem off_C {I C D : Addr} {oI oD : Obj} {news : List (Addr × Obj)} (off : Off3 I C D news) (hne : (@Ne Nat I C) ∧ (@Ne Nat I D) ∧ (@Ne Nat C D)) : ∀ p ∈ (I, oI) :: (D, oD) :: news, p.1 ≠ C := fun p hp => by
  rcases List.mem_cons.mp hp with rfl | hp
  · exact hne.1
  · rcases List.mem_cons.mp hp with rfl | hp
    · exact Ne.symm hne.2.2
    · exact (off.mem p hp).2.1

variable {elt : Expr} {scope : Scope} {cl : List (Str × Addr)} {S : List (Addr × Obj) → Prop} {P : Nat → Value → Prop} {Inv : Nat → List Value → List (Addr × Obj) → Prop}

/-- what is left of a turn behind its assignment -/
def CRest (prog : Program) (w : World) (A : Around) (h₀ : Heap) (L : Addr) (m : Str → Option Value) (env : Env) (ifs : List Expr) (elt : Expr) (scope : Scope) (cl : List (Str × Addr)) (s : Shared) (S : List (Addr × Obj) → Prop) (Inv : Nat → List Value → List (Addr × Obj) → Prop) (i : Nat) (ys : List Value) (news : List (Addr × Obj)) (M₂ : (Str → Option Value) → Prop) : Prop :=
  ∀ I oI C oC m₂ D h tk (E' : Value → Shared → Prop), NsObj oC m₂ → M₂ m₂ → Fr h₀ L h m → News h₀ L h ((I, oI) :: (C, oC) :: (D, lst ys) :: news) → Off3 I C D news → ((@Ne Nat I C) ∧ (@Ne Nat I D) ∧ (@Ne Nat C D)) →
    match ifs with
    | [] => wpAny (model prog w) A (eval elt (compEnvC scope cl C env)) (fun y s₃ => CEnd h₀ L m { s with heap := h, toks := tk } I oI C D (lst ys) S (Inv (i + 1) (ys ++ [y])) s₃) E' { s with heap := h, toks := tk }
    | c :: _ => wpAny (model prog w) A (isTrue c (compEnvC scope cl C env) (eval c (compEnvC scope cl C env))) (fun ok s₂ =>
        if ok = true then wpAny (model prog w) A (eval elt (compEnvC scope cl C env)) (fun y s₃ => CEnd h₀ L m { s with heap := h, toks := tk } I oI C D (lst ys) S (Inv (i + 1) (ys ++ [y])) s₃) E' s₂
        else CEnd h₀ L m { s with heap := h, toks := tk } I oI C D (lst ys) S (Inv (i + 1) ys) s₂) E' { s with heap := h, toks := tk }

theorem cturn_name {x : Str} {px : Pos} {ifs : List Expr} (hifs : ifs.length ≤ 1) (hx : scope.names.lookup x = some .local) (hkind : scope.kind = .function)
    (h : ∀ i v ys news, P i v → Inv i ys news → S news → CRest prog w A h₀ L m env ifs elt scope cl s S Inv i ys news (fun m₂ => m₂ x = some v)) :
    CTurn prog w A h₀ L m env (.Name x px) ifs elt scope cl s S P Inv := by
  intro i v ys news I oI C oC m₁ D h₁ tk E' hP hI hS hoC F N off hne
  refine store_C hx hkind F hoC (news_C N) (off_C off hne) fun h₂ tk₂ oC₂ F₂ hoC₂ N₂ _ => ?_
  have R := h i v ys news hP hI hS I oI C oC₂ _ D h₂ tk₂ E' hoC₂ (by simp) F₂ (news_I N₂) off hne
  cases ifs with
  | nil => exact wpAny_tests_nil (by simp only [if_true]; exact R)
  | cons c r =>
    cases r with
    | nil => exact wpAny_tests_one R
    | cons => simp at hifs

theorem cturn_pair {x₁ x₂ : Str} {p₁ p₂ tp : Pos} {kk : Nat} {ifs : List Expr} (hh : A.handled = none) (hifs : ifs.length ≤ 1) (hx₁ : scope.names.lookup x₁ = some .local) (hx₂ : scope.names.lookup x₂ = some .local) (hxx : x₁ ≠ x₂) (hkind : scope.kind = .function)
    (h : ∀ i v ys news, P i v → Inv i ys news → S news → ∃ (T : Addr) (n : Nat) (v₁ v₂ : Value), v = .ref T ∧ (T, ({ cls := .type "tuple", data := .seq #[v₁, v₂] n } : Obj)) ∈ news ∧
      CRest prog w A h₀ L m env ifs elt scope cl s S Inv i ys news (fun m₂ => m₂ x₁ = some v₁ ∧ m₂ x₂ = some v₂)) :
    CTurn prog w A h₀ L m env (.Tuple [.Name x₁ p₁, .Name x₂ p₂] kk tp) ifs elt scope cl s S P Inv := by
  intro i v ys news I oI C oC m₁ D h₁ tk E' hP hI hS hoC F N off hne
  obtain ⟨T, n, v₁, v₂, rfl, hT, R⟩ := h i v ys news hP hI hS
  have zT := N _ (.tail _ (.tail _ (.tail _ hT)))
  refine assign2_C hh hx₁ hx₂ hkind F hoC (news_C N) (off_C off hne) ⟨_, zT.1, rfl, n, rfl⟩ fun h₂ tk₂ oC₂ F₂ hoC₂ N₂ => ?_
  have R := R I oI C oC₂ _ D h₂ tk₂ E' hoC₂ ⟨by simp [hxx], by simp⟩ F₂ (news_I N₂) off hne
  cases ifs with
  | nil => exact wpAny_tests_nil (by simp only [if_true]; exact R)
  | cons c r =>
    cases r with
    | nil => exact wpAny_tests_one R
    | cons => simp at hifs

theorem cturn_triple {x₁ x₂ x₃ : Str} {p₁ p₂ p₃ tp : Pos} {kk : Nat} {ifs : List Expr} (hh : A.handled = none) (hifs : ifs.length ≤ 1) (hx₁ : scope.names.lookup x₁ = some .local) (hx₂ : scope.names.lookup x₂ = some .local) (hx₃ : scope.names.lookup x₃ = some .local) (h12 : x₁ ≠ x₂) (h13 : x₁ ≠ x₃) (h23 : x₂ ≠ x₃) (hkind : scope.kind = .function)
    (h : ∀ i v ys news, P i v → Inv i ys news → S news → ∃ (T : Addr) (n : Nat) (v₁ v₂ v₃ : Value), v = .ref T ∧ (T, ({ cls := .type "tuple", data := .seq #[v₁, v₂, v₃] n } : Obj)) ∈ news ∧
      CRest prog w A h₀ L m env ifs elt scope cl s S Inv i ys news (fun m₂ => m₂ x₁ = some v₁ ∧ m₂ x₂ = some v₂ ∧ m₂ x₃ = some v₃)) :
    CTurn prog w A h₀ L m env (.Tuple [.Name x₁ p₁, .Name x₂ p₂, .Name x₃ p₃] kk tp) ifs elt scope cl s S P Inv := by
  intro i v ys news I oI C oC m₁ D h₁ tk E' hP hI hS hoC F N off hne
  obtain ⟨T, n, v₁, v₂, v₃, rfl, hT, R⟩ := h i v ys news hP hI hS
  have zT := N _ (.tail _ (.tail _ (.tail _ hT)))
  refine assign3_C hh hx₁ hx₂ hx₃ hkind F hoC (news_C N) (off_C off hne) ⟨_, zT.1, rfl, n, rfl⟩ fun h₂ tk₂ oC₂ F₂ hoC₂ N₂ => ?_
  have R := R I oI C oC₂ _ D h₂ tk₂ E' hoC₂ ⟨by simp [h12, h13], by simp [h23], by simp⟩ F₂ (news_I N₂) off hne
  cases ifs with
  | nil => exact wpAny_tests_nil (by simp only [if_true]; exact R)
  | cons c r =>
    cases r with
    | nil => exact wpAny_tests_one R
    | cons => simp at hifs

/-- a turn's end, from the walk's own facts -/
theorem cend_intro {I C D : Addr} {oI oC oD : Obj} {m₂ : Str → Option Value} {s₁ : Shared} {all : List (Addr × Obj)} {h' : Heap} {tk : Nat} {In : List (Addr × Obj) → Prop} (news' : List (Addr × Obj))
    (F : Fr h₀ L h' m) (hoC : NsObj oC m₂) (N : News h₀ L h' all) (sub : ∀ p ∈ (I, oI) :: (C, oC) :: (D, oD) :: news', p ∈ all) (off : Off3 I C D news') (hS : S news') (hI : In news') :
    CEnd h₀ L m s₁ I oI C D oD S In { s₁ with heap := h', toks := tk } := ⟨h', tk, oC, m₂, news', rfl, F, hoC, fun p hp => N p (sub p hp), off, hS, hI⟩
end
/-- a cell with nothing in it -/
abbrev cell0 : Obj := { cls := .type "cell", data := .cell none }
section
variable {prog : Program} {w : World} {A : Around} {E : Value → Shared → Prop} {s : Shared} {h₀ : Heap} {L : Addr} {m : Str → Option Value} {env : Env}
theorem wpAny_newFunctionEnv_one {M : Model} {scope : Scope} {globals : Addr} {closure : List (Str × Addr)} {qual : Str} {code : Value} {outer : Env} {builtins : Addr} {pn : Str} {Q : Env → Shared → Prop}
    (hcf : ∀ n, cellsFrom n scope.names closure = (pn, n) :: closure) (hpc : ∀ h, pushCells h scope.names = h.push cell0)
    (hQ : Q (newEnv scope s.heap.objs.size globals ((pn, (s.heap.push { cls := .type "dict", data := .dict #[] }).objs.size) :: closure) qual none code (some outer) builtins) { s with heap := (s.heap.push { cls := .type "dict", data := .dict #[] }).push cell0 }) :
    wpAny M A (newFunctionEnv scope globals closure [] qual none code (some outer) builtins) Q E s := by
  simp only [newFunctionEnv, Option.isSome_some, if_true]
  refine wpAny_bind (wpAny_alloc ?_)
  refine wpAny_bind (wpAny_layCells _ (fun name kind cells => by cases hkc : kind == NameKind.cell <;> simp) _ _ _ _ ?_)
  dsimp only
  rw [hcf, hpc]
  refine wpAny_bind ?_
  rw [List.forIn_nil]
  exact wpAny_pure (wpAny_pure hQ)
theorem comp_blockK {elt target iter : Expr} {ifs : List Expr} {scope : Scope} {cl : List (Str × Addr)} {pos : Pos} {s₂ : Shared} {I : Addr} {fp : List Addr} {n : Nat} {P : Nat → Value → Prop} {St : Nat → Heap → Prop} {S : List (Addr × Obj) → Prop} {news : List (Addr × Obj)}
    {Inv : Addr → Nat → List Value → List (Addr × Obj) → Prop} {pn : Str} {RR : Value → Addr → Result → Shared → Prop}
    (W : Walks prog w A I fp [I] n P St) (hsz : n ≤ sizeLine) (hIo : ∀ i h, St i h → ∃ o, h.get? I = some o)
    (hlet : ∀ i v (s : Shared) (Q : Unit → Shared → Prop) (E : Value → Shared → Prop), P i v → St (i + 1) s.heap → Q () s → wpAny (model prog w) A (letOwnedTupleGo target (.ref I) v) Q E s)
    (hSt : ∀ i h h' o nw, St i h → h.get? I = some o → h'.get? I = some o → (∀ b o, h₀.get? b = some o → h'.get? b = some o) → News h₀ L h' nw → S nw → St i h')
    (hcf : ∀ n, cellsFrom n scope.names cl = (pn, n) :: cl) (hpc : ∀ h, pushCells h scope.names = h.push cell0) (hkind : scope.kind = .function) (hst : St 0 s₂.heap) (hfp : ∀ b ∈ fp, b < s₂.heap.objs.size)
    (F : Fr h₀ L s₂.heap m) (N : News h₀ L s₂.heap news) (hIL : L ≠ I) (hI₀ : h₀.get? I = none) (off : ∀ p ∈ news, p.1 ≠ I) (hS : S news)
    (hSK : ∀ K o, S ((K, o) :: news)) (hInv : ∀ K, (∀ p ∈ news, p.1 ≠ K) → Inv K 0 [] ((K, cell0) :: news)) (hT : ∀ K, CTurn prog w A h₀ L m env target ifs elt scope ((pn, K) :: cl) s₂ S P (Inv K))
    (hRR : ∀ D C h tk m' ys news', Fr h₀ L h m → News h₀ L h ((D, lst ys) :: news') → Off1 D news' → h.Ns C m' → h₀.get? C = none → h₀.get? D = none → C ≠ L → D ≠ L → C ≠ D → (∀ p ∈ news', p.1 ≠ C) → (∃ K, Inv K n ys news') → RR (.ref D) C (.ok .next) { s₂ with heap := h, toks := tk }) :
    wpAny (model prog w) A (newList []) (fun acc s₃ => wpAny (model prog w) A (newFunctionEnv scope env.globals cl [] env.qual none .none (some env)) (fun cenv s₄ =>
      codeAny (model prog w) A (.compStart (.ListComp elt [⟨target, iter, ifs, 0⟩] scope pos) 0 (.ref I) acc { cenv with scope := relabel scope env }) (RR acc cenv.locals) s₄) E s₃) E s₂ := by
  refine wpAny_newObj_type (wpAny_newFunctionEnv_one hcf hpc ?_)
  dsimp only
  generalize hH2 : s₂.heap.push { cls := .type "list", dict := none, data := .seq ([] : List Value).toArray } = H2 at *
  have hC : H2.objs.size = s₂.heap.objs.size + 1 := by rw [← hH2, Heap.size_push]
  generalize hDe : s₂.heap.objs.size = D at *
  generalize hCe : H2.objs.size = C at *
  have hC' : @Eq Nat C (D + 1) := hC
  generalize hHd : H2.push { cls := .type "dict", data := .dict #[] } = H3 at *
  have hK : H3.objs.size = C + 1 := by rw [← hHd, Heap.size_push, hCe]
  generalize hh1 : H3.push cell0 = h₁ at *
  have k23 : ∀ b o, H2.get? b = some o → H3.get? b = some o := fun b o e => hHd ▸ Heap.get?_push_of_some _ e
  have k34 : ∀ b o, H3.get? b = some o → h₁.get? b = some o := fun b o e => hh1 ▸ Heap.get?_push_of_some _ e
  have hns₁ : h₁.Ns C (fun _ => none) := by
    have q := (Heap.Ns.new H2 (.type "dict")).keeps (h' := h₁) (by rw [hHd]; exact k34)
    rwa [hCe] at q
  have hcell₁ : h₁.get? (C + 1) = some cell0 := by
    have q := Heap.get?_push_size (h := H3) (o := cell0) (by rfl)
    rwa [hh1, hK] at q
  have hDC : @Ne Nat D C := by omega
  have below : ∀ b : Nat, @LT.lt Nat _ b D → @Ne Nat b C ∧ @Ne Nat b D := fun b hb => ⟨by omega, by omega⟩
  have hCf : C ∉ fp := fun hm => by have q : @LT.lt Nat _ C D := hfp _ hm; omega
  have hDf : D ∉ fp := fun hm => by have q : @LT.lt Nat _ D D := hfp _ hm; omega
  have hIlt : @LT.lt Nat _ I D := hfp I (W.sub I (List.mem_singleton.mpr rfl))
  have lt_of : ∀ b o, s₂.heap.get? b = some o → b < D := fun b o e => hDe ▸ Heap.lt_size e
  have old : ∀ b o, s₂.heap.get? b = some o → h₁.get? b = some o := fun b o e =>
    k34 _ _ (k23 _ _ (hH2 ▸ Heap.get?_push_of_some _ e))
  have hacc : h₁.get? D = some (lst []) := k34 _ _ (k23 _ _ (hH2 ▸ hDe ▸ Heap.get?_push_size _ rfl))
  have fresh₀ : ∀ a : Nat, @LE.le Nat _ D a → h₀.get? a = none := fun a ha => by
    cases e : h₀.get? a with
    | none => rfl
    | some o' => have q : @LT.lt Nat _ a D := lt_of a o' (F.keep a o' e); omega
  have hD₀ : h₀.get? D = none := fresh₀ _ (Nat.le_refl _)
  have hC₀ : h₀.get? C = none := fresh₀ _ (by omega)
  have hK₀ : h₀.get? (C + 1 : Nat) = none := fresh₀ (C + 1 : Nat) (by omega)
  have hLlt : @LT.lt Nat _ L D := hDe ▸ F.ns.lt
  have hDL : @Ne Nat D L := by omega
  have hCL : @Ne Nat C L := by omega
  have hCI : @Ne Nat I C := by omega
  have hDI : @Ne Nat I D := by omega
  have nlt : ∀ p ∈ news, @LT.lt Nat _ p.1 D := fun p hp => lt_of _ _ (N p hp).1
  have hKL : @Ne Nat (C + 1) L := by omega
  have hnK : ∀ p ∈ news, p.1 ≠ (C + 1 : Nat) := fun p hp => by have q := nlt p hp; exact (by omega : @Ne Nat p.1 (C + 1))
  have loop : ∀ s₃ : Shared, s₃ = { s₂ with heap := h₁, toks := s₂.toks } →
      codeAny (model prog w) A (.compLoop (.ListComp elt [⟨target, iter, ifs, 0⟩] scope pos) 0 (.ref I) (.ref D) (compEnvC scope ((pn, C + 1) :: cl) C env)) (RR (.ref D) C) s₃ := by
    rintro s₃ rfl
    refine cloop_gen
      (fun k s' => ∃ h' tk i ys m' news', s' = { s₂ with heap := h', toks := tk } ∧ i ≤ n ∧ k = n + 1 - i ∧ ys.length ≤ i ∧ St i h' ∧ Fr h₀ L h' m ∧ h'.Ns C m' ∧ News h₀ L h' ((D, lst ys) :: news') ∧
        Off3 I C D news' ∧ S news' ∧ Inv (C + 1) i ys news') ?_ (n + 1)
      ⟨h₁, _, 0, [], _, (C + 1, cell0) :: news, rfl, Nat.zero_le _, rfl, Nat.le_refl _, W.frame _ _ _ hst fun b _ o e => old b o e, F.keeps old, hns₁, fun p hp => ?_, Off3.of fun p hp => ?_, hSK _ _, hInv _ hnK⟩
    · rintro k s' ⟨h', tk, i, ys, m', news', rfl, hi, rfl, hyl, hst', F', hn', N', off', hS', I'⟩
      have off3 := off'.mem
      have offI : ∀ p ∈ (D, lst ys) :: news', p.1 ≠ I := fun p hp => by
        rcases List.mem_cons.mp hp with rfl | hp
        · exact Ne.symm hDI
        · exact (off3 p hp).1
      by_cases hlt : i < n
      · refine W.item i _ _ _ hlt hst' fun v h₂ tk₂ hPv hst₂ hk₂ => ?_
        refine hlet i v _ _ _ hPv hst₂ ?_
        obtain ⟨oI, heI⟩ := hIo _ _ hst₂
        obtain ⟨oC, heC, hoC⟩ := ns_obj (hn'.at' fun o e => hk₂ C o (by simpa using Ne.symm hCI) e)
        have N₂ : News h₀ L h₂ ((D, lst ys) :: news') := news_but N' hk₂ offI
        have N₃ : News h₀ L h₂ ((I, oI) :: (C, oC) :: (D, lst ys) :: news') := fun p hp => by
          rcases List.mem_cons.mp hp with rfl | hp
          · exact ⟨heI, Ne.symm hIL, hI₀⟩
          · rcases List.mem_cons.mp hp with rfl | hp
            · exact ⟨heC, hCL, hC₀⟩
            · exact N₂ p hp
        have fin : ∀ (ys' : List Value), ys'.length ≤ i + 1 → ∀ s₅ : Shared, ∀ h₅ tk₅ m₅ news₅, s₅ = { s₂ with heap := h₅, toks := tk₅ } → St (i + 1) h₅ → Fr h₀ L h₅ m → h₅.Ns C m₅ → News h₀ L h₅ ((D, lst ys') :: news₅) → Off3 I C D news₅ → S news₅ → Inv (C + 1) (i + 1) ys' news₅ →
            ∃ k, k < n + 1 - i ∧ ∃ h' tk i ys m' news', s₅ = { s₂ with heap := h', toks := tk } ∧ i ≤ n ∧ k = n + 1 - i ∧ ys.length ≤ i ∧ St i h' ∧ Fr h₀ L h' m ∧ h'.Ns C m' ∧ News h₀ L h' ((D, lst ys) :: news') ∧ Off3 I C D news' ∧ S news' ∧ Inv (C + 1) i ys news' :=
          fun ys' hl s₅ h₅ tk₅ m₅ news₅ e a1 a2 a3 a4 a5 a6 a7 => ⟨n + 1 - (i + 1), by omega, h₅, tk₅, i + 1, ys', m₅, news₅, e, hlt, rfl, hl, a1, a2, a3, a4, a5, a6, a7⟩
        refine wpAny_mono (hT (C + 1) i v ys news' I oI C oC _ D h₂ tk₂ _ hPv I' hS' hoC (fr_but F' hk₂ hIL hI₀) N₃ off' ⟨hCI, hDI, Ne.symm hDC⟩) (fun _ s₃ h₃ => wpAny_mono h₃ (fun ok s₄ h₄ => ?_) fun _ _ e => e) fun _ _ e => e
        have open4 : ∀ (s₄ : Shared) (In : List (Addr × Obj) → Prop), CEnd h₀ L m { s₂ with heap := h₂, toks := tk₂ } I oI C D (lst ys) S In s₄ →
            ∃ h₄ tk₄ oC' m₄ news₄, s₄ = { s₂ with heap := h₄, toks := tk₄ } ∧ St (i + 1) h₄ ∧ Fr h₀ L h₄ m ∧ h₄.get? C = some oC' ∧ NsObj oC' m₄ ∧ h₄.get? D = some (lst ys) ∧ News h₀ L h₄ news₄ ∧ Off3 I C D news₄ ∧ S news₄ ∧ In news₄ := by
          rintro s₄ In ⟨h₄, tk₄, oC', m₄, news₄, rfl, F₄, hoC', N₄, off₄, hS₄, In₄⟩
          have zI := (N₄ _ (.head _)).1
          have zC := (N₄ _ (.tail _ (.head _))).1
          have zD := (N₄ _ (.tail _ (.tail _ (.head _)))).1
          have N₄' : News h₀ L h₄ news₄ := fun p hp => N₄ p (.tail _ (.tail _ (.tail _ hp)))
          exact ⟨h₄, tk₄, oC', m₄, news₄, rfl, hSt _ _ _ _ _ hst₂ heI zI F₄.keep N₄' hS₄, F₄, zC, hoC', zD, N₄', off₄, hS₄, In₄⟩
        cases ok with
        | true =>
          simp only [if_true] at h₄ ⊢
          refine wpAny_mono h₄ (fun y s₅ h₅ => ?_) fun _ _ e => e
          obtain ⟨h₄, tk₄, oC', m₄, news₄, rfl, hst₄, F₄, zC, hoC', zD, N₄, off₄, hS₄, In₄⟩ := open4 _ _ h₅
          have off4 := off₄.mem
          refine append_at (hsz := by show ys.toArray.size ≤ sizeLine; rw [List.size_toArray]; omega) zD fun h₅ hs₅ hD₅ => ?_
          refine fin (ys ++ [y]) (by simp; omega) _ h₅ tk₄ m₄ news₄ rfl (W.frame _ _ _ hst₄ fun b hb o e => hs₅.extBut b o (fun q => hDf (q ▸ hb)) e) (F₄.change hs₅ hDL hD₀)
            ((hoC'.ns zC).sameBut hs₅ (Ne.symm hDC)) (fun p hp => ?_) off₄ hS₄ In₄
          rcases List.mem_cons.mp hp with rfl | hp
          · exact ⟨hD₅.trans (congrArg some (lst_snoc ys y)), hDL, hD₀⟩
          · exact ⟨hs₅.extBut _ _ (off4 p hp).2.2 (N₄ p hp).1, (N₄ p hp).2⟩
        | false =>
          simp only [Bool.false_eq_true, if_false] at h₄ ⊢
          obtain ⟨h₆, tk₄, oC', m₄, news₄, rfl, hst₄, F₄, zC, hoC', zD, N₄, off₄, hS₄, In₄⟩ := open4 _ _ h₄
          refine fin ys (by omega) _ h₆ tk₄ m₄ news₄ rfl hst₄ F₄ (hoC'.ns zC) (fun p hp => ?_) off₄ hS₄ In₄
          rcases List.mem_cons.mp hp with rfl | hp
          · exact ⟨zD, hDL, hD₀⟩
          · exact N₄ p hp
      · obtain rfl : i = n := Nat.le_antisymm hi (Nat.not_lt.mp hlt)
        refine W.done _ _ _ hst' fun h₂ tk₂ hk₂ => ?_
        exact hRR _ _ h₂ tk₂ _ ys news' (fr_but F' hk₂ hIL hI₀) (news_but N' hk₂ offI) off'.one (hn'.at' fun o e => hk₂ _ o (by simpa using Ne.symm hCI) e) hC₀ hD₀ hCL hDL (Ne.symm hDC) (fun p hp => (off3 p hp).2.1) ⟨_, I'⟩
    · rcases List.mem_cons.mp hp with rfl | hp
      · exact ⟨hacc, hDL, hD₀⟩
      · rcases List.mem_cons.mp hp with rfl | hp
        · exact ⟨hcell₁, hKL, hK₀⟩
        · exact ⟨old _ _ (N p hp).1, (N p hp).2⟩
    · rcases List.mem_cons.mp hp with rfl | hp
      · exact ⟨(by omega : @Ne Nat (C + 1) I), (by omega : @Ne Nat (C + 1) C), (by omega : @Ne Nat (C + 1) D)⟩
      · exact ⟨off p hp, (below _ (nlt p hp)).1, (below _ (nlt p hp)).2⟩
  rw [hK]
  exact codeAny_compStart_list (loop _ rfl) (W.self 0 _ _ _ (W.frame _ _ _ hst fun b _ o e => old b o e) (loop _ rfl))


/-- the source is a list; the scope has one cell -/
def CSrcK (prog : Program) (w : World) (A : Around) (h₀ : Heap) (L : Addr) (m : Str → Option Value) (env : Env) (target : Expr) (ifs : List Expr) (elt : Expr) (scope : Scope) (cl : List (Str × Addr)) (pn : Str) (Fin : Shared → List Value → List (Addr × Obj) → Prop) (xv : Value) (s₁ : Shared) : Prop :=
  ∃ (ax : Addr) (its : Array Value) (news : List (Addr × Obj)) (Inv : Addr → Nat → List Value → List (Addr × Obj) → Prop), xv = .ref ax ∧ A.handled = none ∧ Fr h₀ L s₁.heap m ∧ News h₀ L s₁.heap news ∧ SrcAt h₀ ax its news ∧ its.size ≤ sizeLine ∧ (∀ K, (∀ p ∈ news, p.1 ≠ K) → Inv K 0 [] ((K, cell0) :: news)) ∧
    (∀ i v (s : Shared) (I : Addr) (Q : Unit → Shared → Prop) (E : Value → Shared → Prop), its[i]? = some v → s.heap.IsListIter I ax (i + 1) → Q () s → wpAny (model prog w) A (letOwnedTupleGo target (.ref I) v) Q E s) ∧
    ∀ s₂ : Shared, (∃ h, s₂ = { s₁ with heap := h }) → (∀ K, CTurn prog w A h₀ L m env target ifs elt scope ((pn, K) :: cl) s₂ (SrcAt h₀ ax its) (fun i v => its[i]? = some v) (Inv K)) ∧ ∀ K ys news', Inv K its.size ys news' → Fin s₂ ys news'
theorem srcAt_more {h₀ : Heap} {ax : Addr} {its : Array Value} {p : Addr × Obj} {news : List (Addr × Obj)} (h : SrcAt h₀ ax its news) : SrcAt h₀ ax its (p :: news) := by
  rcases h with h | ⟨o, hm, r⟩
  · exact .inl h
  · exact .inr ⟨o, .tail _ hm, r⟩
theorem csrcK_block {elt target iter : Expr} {ifs : List Expr} {scope : Scope} {cl : List (Str × Addr)} {pos : Pos} {pn : Str} {Fin : Shared → List Value → List (Addr × Obj) → Prop} {RR : Value → Addr → Result → Shared → Prop} {xv : Value} {s₁ : Shared}
    (hcf : ∀ n, cellsFrom n scope.names cl = (pn, n) :: cl) (hpc : ∀ h, pushCells h scope.names = h.push cell0) (hkind : scope.kind = .function)
    (h₁ : CSrcK prog w A h₀ L m env target ifs elt scope cl pn Fin xv s₁)
    (hRR : ∀ s₂ : Shared, (∃ h, s₂ = { s₁ with heap := h }) → ∀ D C h tk m' ys news', Fr h₀ L h m → News h₀ L h ((D, lst ys) :: news') → Off1 D news' → h.Ns C m' → h₀.get? C = none → h₀.get? D = none → C ≠ L → D ≠ L → C ≠ D → (∀ p ∈ news', p.1 ≠ C) → Fin s₂ ys news' → RR (.ref D) C (.ok .next) { s₂ with heap := h, toks := tk }) :
    wpAny (model prog w) A (pyIter xv) (fun it s₂ => wpAny (model prog w) A (newList []) (fun acc s₃ => wpAny (model prog w) A (newFunctionEnv scope env.globals cl [] env.qual none .none (some env)) (fun cenv s₄ =>
      codeAny (model prog w) A (.compStart (.ListComp elt [⟨target, iter, ifs, 0⟩] scope pos) 0 it acc { cenv with scope := relabel scope env }) (RR acc cenv.locals) s₄) E s₃) E s₂) E s₁ := by
  obtain ⟨ax, its, news, Inv, rfl, hh, F, N, S, hsz, hI, hlet, R⟩ := h₁
  have hl := S.list F.keep N
  have hlt : @LT.lt Nat _ ax s₁.heap.objs.size := by obtain ⟨_, e, _⟩ := hl; exact Heap.lt_size e
  refine wpAny_pyIter_list hl ?_
  have up : ∀ b o, s₁.heap.get? b = some o → (s₁.heap.push { cls := .type "list_iterator", data := .fields #[.ref ax, .int 0 0] }).get? b = some o := fun b o e => Heap.get?_push_of_some _ e
  obtain ⟨hT, hF⟩ := R _ ⟨_, rfl⟩
  refine comp_blockK (Walks.list hh s₁.heap.objs.size ax (Nat.ne_of_lt hlt) its) hsz (fun i h st => by obtain ⟨o, e, _⟩ := st.1; exact ⟨o, e⟩)
    (fun i v s Q E hv st hQ => hlet i v s _ Q E hv st.1 hQ) list_st hcf hpc hkind ⟨⟨_, Heap.get?_push_size _ rfl, rfl, rfl⟩, hl.push _⟩ (fun b hb => ?_)
    (F.keeps up) (N.grown up) (Nat.ne_of_lt F.ns.lt) (next_is_new F) (fun p hp => Nat.ne_of_lt (Heap.lt_size (N p hp).1)) S (fun _ _ => srcAt_more S) hI hT
    (fun D C h tk m' ys news' a1 a2 a3 a4 a5 a6 a7 a8 a9 a10 ⟨K, a11⟩ => hRR _ ⟨_, rfl⟩ D C h tk m' ys news' a1 a2 a3 a4 a5 a6 a7 a8 a9 a10 (hF K ys news' a11))
  show b < (s₁.heap.push _).objs.size
  rw [Heap.size_push]
  rcases List.mem_cons.mp hb with rfl | hb
  · exact Nat.lt_succ_self _
  · rw [List.mem_singleton.mp hb]; exact Nat.lt_succ_of_lt hlt

/-- a comprehension of one clause whose scope has one cell, its source a list, its value assigned to a plain local name -/
theorem comp_assignK {elt target iter : Expr} {ifs : List Expr} {y : Str} {py : Pos} {scope : Scope} {cl : List (Str × Addr)} {pos spos : Pos} {pn : Str} {Q : Flow → Shared → Prop} (_F₀ : Fr h₀ L s.heap m) (hLe : env.locals = L)
    (hsw : swapsWith (.ListComp elt [⟨target, iter, ifs, 0⟩] scope pos) (some (.Name y py)) spos.line env = pure true)
    (hclos : closureFor scope env = pure cl) (hcf : ∀ n, cellsFrom n scope.names cl = (pn, n) :: cl) (hpc : ∀ h, pushCells h scope.names = h.push cell0) (hkind : scope.kind = .function)
    (hnames : ∀ z ∈ scope.names, z.2 = .local → scope.names.lookup z.1 = some .local)
    (hy : env.kindOf y = some .local) (hp : (env.scope.kind == .class || (env.scope.kind == .module && env.locals != env.globals)) = false)
    (h : wpAny (model prog w) A (eval iter env) (CSrcK prog w A h₀ L m env target ifs elt scope cl pn (fun s₂ => FinA h₀ L m s₂ y Q)) E s)
    (hs : ∀ x, foldedSetIterable iter env x = pure x := by intro _; rfl) :
    wpAny (model prog w) A (exec (.Assign [.Name y py] (.ListComp elt [⟨target, iter, ifs, 0⟩] scope pos) spos) env) Q E s := by
  subst hLe
  rw [exec_Assign_Name_used _ _ _ _ hsw]
  refine wpAny_bind (wpAny_standAt (wpAny_bind ?_))
  show wpAny _ A (do let _ ← comprehension (.ListComp elt [⟨target, iter, ifs, 0⟩] scope pos) scope env _ (newList []) false (eval iter env) (some (assign (.Name y py) env))) _ _ s
  refine wpAny_bind (wpAny_mono (wpAny_comprehension_free (use := some (assign (.Name y py) env)) (Q := fun _ s' => Q .next s') rfl hs hclos hkind hnames
    (wpAny_mono h (fun xv s₁ h₁ => csrcK_block hcf hpc hkind h₁ ?_) fun _ _ e => e)) (fun _ s' hq => wpAny_pure (wpAny_pure hq)) fun _ _ e => e)
  rintro s₂ _ D C h' tk m' ys news' F' N' o1 hn hC₀ hD₀ hCL hDL hCD offC fin
  show wpAny _ A (assign (.Name y py) env (.ref D)) _ _ _
  refine wpAny_assign_Name (wpAny_storeName_local hy F'.ns (fun h₂ hn₂ hs₂ => ?_) hp)
  have hL₀ : h₀.get? env.locals = none := Heap.get?_none_of_le F'.above
  have F₂ : Fr h₀ env.locals h₂ (fun z => if z = y then some (.ref D) else m z) := ⟨hn₂, fun b o e => hs₂.extBut b o (fun q => by rw [q, hL₀] at e; cases e) (F'.keep b o e), F'.above⟩
  refine ⟨m', hn.sameBut hs₂ hCL, fun h'' hs'' => fin D h'' _ (F₂.change hs'' hCL hC₀) (fun p hp => ?_) o1⟩
  have z : h₂.get? p.1 = some p.2 := hs₂.extBut _ _ (N' p hp).2.1 (N' p hp).1
  refine ⟨hs''.extBut _ _ ?_ z, (N' p hp).2⟩
  rcases List.mem_cons.mp hp with rfl | hp
  · exact Ne.symm hCD
  · exact offC p hp
end

/-- a loop's state between two turns: the ledger and the named locals are those of a state c; all else stands, but for the names that are forgotten -/
def KgS {σ : Type} (Led : σ → List (Addr × Obj)) (ps : σ → List (Str × Value)) (x : Str) (stored : List Str) (m₀ : Str → Option Value) (P : σ → Prop) (m : Str → Option Value) (nx : List (Addr × Obj)) : Prop :=
  ∃ c : σ, nx = Led c ∧ (∀ p ∈ ps c, m p.1 = some p.2) ∧ (∀ z, z ≠ x → (∀ p ∈ ps c, z ≠ p.1) → stored.contains z = false → m z = m₀ z) ∧ P c

section
variable {prog : Program} {w : World} {A : Around} {E : Value → Shared → Prop} {s : Shared} {env : Env} {h₀ : Heap} {x : Str} {body : List Stmt} {Q : Flow → Shared → Prop}

theorem g_core {σ : Type} {I : Addr} {n : Nat} {PV : Nat → Value → Prop} {St : Nat → Heap → Prop} {m₀ : Str → Option Value} (Led : σ → List (Addr × Obj)) (ps : σ → List (Str × Value)) (stored : List Str) (P : Nat → σ → Prop) (c₀ : σ)
    (W : Walks prog w A I [I] [I] n PV St) (hob : ∀ i h, St i h → ∃ o, h.get? I = some o) (hI : I ≠ env.locals) (hI₀ : h₀.get? I = none) (hIn : ∀ p ∈ Led c₀, p.1 ≠ I) (hst : St 0 s.heap)
    (F : Fr h₀ env.locals s.heap m₀) (N : News h₀ env.locals s.heap (Led c₀)) (hk : ∀ p ∈ ps c₀, m₀ p.1 = some p.2) (hp : P 0 c₀)
    (turn : ∀ i v (c : σ) (u : Str → Option Value) h tk own, i < n → PV i v → P i c → OwnOff own ((Led c).map (·.1)) →
      Fr h₀ env.locals h (fun y => if y = x then some v else kstB (fun z => if stored.contains z then u z else m₀ z) (ps c) y) → News h₀ env.locals h (Led c ++ own) →
      wpAny (model prog w) A (execs body env) (InvPostG h₀ env.locals (KgS Led ps x stored m₀ (P (i + 1))) own { s with heap := h, toks := tk } Q) E { s with heap := h, toks := tk })
    (done : ∀ (c : σ) (u : Str → Option Value) h tk, P n c → Fr h₀ env.locals h (fun y => if y = x then u y else kstB (fun z => if stored.contains z then u z else m₀ z) (ps c) y) → News h₀ env.locals h (Led c) → Q .next { s with heap := h, toks := tk }) :
    LoopAtV prog w A h₀ env x body Q E (.ref I) s := by
  refine kdr_loop (fun i m nx => KgS Led ps x stored m₀ (P i) m nx) W (fun _ h => h) (fun _ h => h) (fun i h st b hb => by rw [List.mem_singleton.mp hb]; exact hob i h st) (fun hm => hI (List.mem_singleton.mp hm).symm)
    (fun b hb => by rw [List.mem_singleton.mp hb]; exact hI₀) (fun p hp hm => hIn p hp (List.mem_singleton.mp hm)) hst F N ⟨c₀, rfl, hk, fun _ _ _ _ => rfl, hp⟩ ?_ ?_
  · rintro i v m₁ nx h tk own hi hv hoff ⟨c, rfl, h1, h2, hp'⟩ F₁ N₁
    exact turn i v c m₁ h tk own hi hv hp' hoff (kst_fr h1 h2 F₁) N₁
  · rintro m₁ nx h tk ⟨c, rfl, h1, h2, hp'⟩ F₁ N₁
    exact done c m₁ h tk hp' (kst_frOut h1 h2 F₁) N₁

theorem g_text {σ : Type} {xt : Str} {tx : Tok} {m₀ : Str → Option Value} (Led : σ → List (Addr × Obj)) (ps : σ → List (Str × Value)) (stored : List Str) (P : Nat → σ → Prop) (c₀ : σ)
    (hh : A.handled = none) (F : Fr h₀ env.locals s.heap m₀) (N : News h₀ env.locals s.heap (Led c₀)) (hk : ∀ p ∈ ps c₀, m₀ p.1 = some p.2) (hp : P 0 c₀)
    (turn : ∀ i n t (c : σ) (u : Str → Option Value) h tk own, xt.cps[i]? = some n → P i c → OwnOff own ((Led c).map (·.1)) →
      Fr h₀ env.locals h (fun y => if y = x then some (.str ⟨#[n]⟩ t) else kstB (fun z => if stored.contains z then u z else m₀ z) (ps c) y) → News h₀ env.locals h (Led c ++ own) →
      wpAny (model prog w) A (execs body env) (InvPostG h₀ env.locals (KgS Led ps x stored m₀ (P (i + 1))) own { s with heap := h, toks := tk } Q) E { s with heap := h, toks := tk })
    (done : ∀ (c : σ) (u : Str → Option Value) h tk, P xt.cps.size c → Fr h₀ env.locals h (fun y => if y = x then u y else kstB (fun z => if stored.contains z then u z else m₀ z) (ps c) y) → News h₀ env.locals h (Led c) → Q .next { s with heap := h, toks := tk }) :
    wpAny (model prog w) A (pyIter (.str xt tx)) (fun it s₂ => LoopAtV prog w A h₀ env x body Q E it s₂) E s := by
  have go : ∀ (o : Obj) (St : Nat → Heap → Prop), Walks prog w A s.heap.objs.size [s.heap.objs.size] [s.heap.objs.size] xt.cps.size (SignAt xt) St → (∀ i h, St i h → ∃ o, h.get? s.heap.objs.size = some o) → St 0 (s.heap.push o) →
      LoopAtV prog w A h₀ env x body Q E (.ref s.heap.objs.size) { s with heap := s.heap.push o } := by
    intro o St W hob hst
    refine g_core Led ps stored P c₀ W hob (Nat.ne_of_gt F.ns.lt) (next_is_new F) (fun p hp => Nat.ne_of_lt (Heap.lt_size (N p hp).1)) hst (F.push _) (fun p hp => ⟨Heap.get?_push_of_some _ (N p hp).1, (N p hp).2⟩) hk hp ?_ ?_
    · rintro i v c u h tk own hi ⟨n, t, hn, rfl⟩ hP hoff F₁ N₁
      exact turn i n t c u h tk own hn hP hoff F₁ N₁
    · intro c u h tk hP F₁ N₁
      exact done c u h tk hP F₁ N₁
  cases ha : xt.cps.all (· < 128)
  · exact wpAny_pyIter_wide ha (go _ _ (Walks.strWide hh _ xt tx) (fun i h st => let ⟨o, ho, _⟩ := st; ⟨o, ho⟩) ⟨_, Heap.get?_push_size _ rfl, rfl, rfl⟩)
  · exact wpAny_pyIter_ascii ha (go _ _ (Walks.strAscii hh _ xt tx) (fun i h st => let ⟨o, ho, _⟩ := st; ⟨o, ho⟩) ⟨_, Heap.get?_push_size _ rfl, rfl, rfl⟩)

theorem g_range {σ : Type} {r : Addr} {a₀ b₀ : Int} {t₀ u₀ v₀ : Tok} {n : Nat} {m₀ : Str → Option Value} (Led : σ → List (Addr × Obj)) (ps : σ → List (Str × Value)) (stored : List Str) (P : Nat → σ → Prop) (c₀ : σ)
    (hh : A.handled = none) (hr : IsRange s.heap r a₀ b₀ 1 t₀ u₀ v₀) (hsmall : Builtin.Range.small a₀ b₀ 1 = true) (hsz : Builtin.Range.rangeSize a₀ b₀ 1 = (n : Int))
    (F : Fr h₀ env.locals s.heap m₀) (N : News h₀ env.locals s.heap (Led c₀)) (hk : ∀ p ∈ ps c₀, m₀ p.1 = some p.2) (hp : P 0 c₀)
    (turn : ∀ (i : Nat) t (c : σ) (u : Str → Option Value) h tk own, i < n → P i c → OwnOff own ((Led c).map (·.1)) →
      Fr h₀ env.locals h (fun y => if y = x then some (.int (a₀ + (i : Int)) t) else kstB (fun z => if stored.contains z then u z else m₀ z) (ps c) y) → News h₀ env.locals h (Led c ++ own) →
      wpAny (model prog w) A (execs body env) (InvPostG h₀ env.locals (KgS Led ps x stored m₀ (P (i + 1))) own { s with heap := h, toks := tk } Q) E { s with heap := h, toks := tk })
    (done : ∀ (c : σ) (u : Str → Option Value) h tk, P n c → Fr h₀ env.locals h (fun y => if y = x then u y else kstB (fun z => if stored.contains z then u z else m₀ z) (ps c) y) → News h₀ env.locals h (Led c) → Q .next { s with heap := h, toks := tk }) :
    wpAny (model prog w) A (pyIter (.ref r)) (fun it s₂ => LoopAtV prog w A h₀ env x body Q E it s₂) E s := by
  refine wpAny_pyIter_range hr hsmall ?_
  refine g_core Led ps stored P c₀ (range_walks hh a₀ n) (fun i h st => ⟨_, st⟩) (Nat.ne_of_gt F.ns.lt) (next_is_new F) (fun p hp => Nat.ne_of_lt (Heap.lt_size (N p hp).1))
    (by show IsRangeIter _ _ _ _ _; rw [hsz]; simpa using Heap.get?_push_size _ rfl) (F.push _) (fun p hp => ⟨Heap.get?_push_of_some _ (N p hp).1, (N p hp).2⟩) hk hp ?_ ?_
  · rintro i v c u h tk own hi ⟨t, rfl⟩ hP hoff F₁ N₁
    exact turn i t c u h tk own hi hP hoff F₁ N₁
  · intro c u h tk hP F₁ N₁
    exact done c u h tk hP F₁ N₁

/-- a turn's end -/
theorem g_end {σ : Type} {L : Addr} {Led : σ → List (Addr × Obj)} {ps : σ → List (Str × Value)} {stored : List Str} {m₀ : Str → Option Value} {P : σ → Prop} (c : σ) {m' : Str → Option Value} {own news' : List (Addr × Obj)} {s₁ : Shared} {h' : Heap} {tk : Nat}
    (F : Fr h₀ L h' m') (N : News h₀ L h' news') (hn : ∀ p ∈ Led c, p ∈ news') (ho : ∀ p ∈ own, p ∈ news') (hoff : OwnOff own ((Led c).map (·.1)))
    (hk : ∀ p ∈ ps c, m' p.1 = some p.2) (hr : ∀ z, z ≠ x → (∀ p ∈ ps c, z ≠ p.1) → stored.contains z = false → m' z = m₀ z) (hp : P c) :
    InvEndG h₀ L (KgS Led ps x stored m₀ P) own s₁ { s₁ with heap := h', toks := tk } :=
  ⟨h', tk, m', news', Led c, rfl, F, N, hn, ho, hoff, c, rfl, hk, hr, hp⟩
end
/-- a text by its signs' numbers -/
def tx (l : List Nat) : Str := ⟨l.toArray⟩
theorem tx_length (l : List Nat) : (tx l).length = l.length := by simp [tx, Str.length]
theorem tx_append (a b : List Nat) : tx a ++ tx b = tx (a ++ b) := by
  show (⟨a.toArray ++ b.toArray⟩ : Str) = ⟨(a ++ b).toArray⟩
  simp
theorem tx_blank : Str.ofString " " = tx [32] := by decide +kernel
theorem tx_tab : Str.ofString "\t" = tx [9] := by decide +kernel
theorem tx_nil : Str.ofString "" = tx [] := by decide +kernel
theorem tx_tail : Str.ofString "x \t" = tx [120, 32, 9] := by decide +kernel
theorem fold_cat (xs : List (Array Nat)) : ∀ a : Array Nat, xs.foldl (· ++ ·) a = a ++ (xs.map (·.toList)).flatten.toArray := by
  induction xs with
  | nil => intro a; simp
  | cons x r ih =>
    intro a
    rw [List.foldl_cons, ih]
    apply Array.toList_inj.mp
    simp
theorem tx_mul {k : Int} (h : 0 ≤ k) : Txt.mul (tx [32]) k = tx (List.replicate k.toNat 32) := by
  unfold Txt.mul
  by_cases h1 : k < 1
  · obtain rfl : k = 0 := by omega
    decide +kernel
  · rw [if_neg h1]
    split
    · rename_i q
      have : k = 1 := by simpa [tx, Str.length] using q
      subst this
      decide +kernel
    · rw [fold_cat]
      have : ((List.replicate k.toNat (tx [32]).cps).map (·.toList)).flatten = List.replicate k.toNat 32 := by
        show ((List.replicate k.toNat [32].toArray).map (·.toList)).flatten = _
        rw [List.map_replicate]
        generalize k.toNat = n
        induction n with
        | zero => rfl
        | succ n ih => simp only [List.replicate_succ, List.flatten_cons, ih]; rfl
      rw [this]
      simp [tx]
theorem tx_join (xs : List (List Nat)) : Txt.join (tx []) (xs.map tx) = tx xs.flatten := by
  have e : Txt.join (tx []) (xs.map tx) = Str.join (tx []) (xs.map tx) := StrLaws.glued_eq_join _ _
  rw [e]
  clear e
  induction xs with
  | nil => rfl
  | cons a r ih =>
    cases r with
    | nil => simp [Str.join]
    | cons b r =>
      show tx a ++ tx [] ++ Str.join (tx []) ((b :: r).map tx) = _
      rw [ih, tx_append, tx_append]; simp
/-- a run of blanks and its tab -/
def runTx (r : Int) : List Nat := List.replicate r.toNat 32 ++ [9]
theorem runTx_length {r : Int} (h : 0 ≤ r ∧ r < 10) : (runTx r).length ≤ 10 := by simp [runTx]; omega
/-- a lead -/
def leadTx (ns : List Int) (tl : Int) : List Nat := ns.flatMap runTx ++ List.replicate tl.toNat 32 ++ [120, 32, 9]
section
variable {prog : Program} {w : World} {A : Around} {E : Value → Shared → Prop} {s : Shared}
theorem cmpLt_rich {x y : Int} {t u : Tok} {Q : Value → Shared → Prop} (h : Q (.bool (decide (x < y))) s) : wpAny (model prog w) A (richCompare .Lt (.int x t) (.int y u)) Q E s := by
  have : wpAny (model prog w) A (compareOp .Lt (.int x t) (.int y u)) Q E s := PyProof.Rows.lt_int h
  exact this
/-- one tuple of two ints below another -/
def lexLt (x1 x2 y1 y2 : Int) : Bool := if x1 = y1 then decide (x2 < y2) else decide (x1 < y1)
theorem tuple_lt2 {a b : Addr} {oa ob : Obj} {x1 x2 y1 y2 : Int} {t1 t2 u1 u2 : Tok} {na nb : Nat} {Q : Value → Shared → Prop}
    (hoa : s.heap.get? a = some oa) (hca : oa.cls = .type "tuple") (hda : oa.data = .seq #[.int x1 t1, .int x2 t2] na)
    (hob : s.heap.get? b = some ob) (hcb : ob.cls = .type "tuple") (hdb : ob.data = .seq #[.int y1 u1, .int y2 u2] nb)
    (hu : A.units < cLine) (h : Q (.bool (lexLt x1 x2 y1 y2)) s) :
    wpAny (model prog w) A (compareOp .Lt (.ref a) (.ref b)) Q E s := by
  refine cmp_ofLt ?_
  have hTa : s.TypeIs (.ref a) "tuple" := ⟨oa, hoa, hca⟩
  have hTb : s.TypeIs (.ref b) "tuple" := ⟨ob, hob, hcb⟩
  refine wpAny_richCompare_same_room (op := .Lt) hTa hTb F.slot_tuple_lt (wpAny_call_entry F.slot_tuple_lt hTa F.entry_tuple_lt ?_ (F.args_tuple_lt_2 _ _)) hu
  show wpAny _ _ (isInstance (.ref b) (.type "tuple") >>= _) _ _ s
  refine wpAny_bind (wpAny_isInstance hTb isSubtype_tuple_tuple ?_)
  simp only [Bool.not_true, Bool.false_eq_true, if_false]
  refine wpAny_bind (wpAny_tupleItemsOf hoa hda ?_)
  refine wpAny_bind (wpAny_tupleItemsOf hob hdb ?_)
  simp only [List.zip_cons_cons, List.zip_nil_right, List.forIn_cons, List.forIn_nil]
  refine wpAny_bind (wpAny_bind (wpAny_bind (wpAny_eqBool_int ?_)))
  unfold lexLt at h
  by_cases h1 : x1 = y1
  · rw [if_pos h1] at h
    rw [show (x1 == y1) = true from by simp [h1]]
    simp only [Bool.not_true, Bool.false_eq_true, if_false]
    refine wpAny_pure (wpAny_bind (wpAny_bind (wpAny_eqBool_int ?_)))
    by_cases h2 : x2 = y2
    · rw [show (x2 == y2) = true from by simp [h2]]
      simp only [Bool.not_true, Bool.false_eq_true, if_false]
      refine wpAny_pure (wpAny_pure (wpAny_pure ⟨_, rfl, (fun e => nomatch e), ?_⟩))
      rw [show decide (x2 < y2) = false from by simp [h2]] at h
      exact h
    · rw [show (x2 == y2) = false from by simp [h2]]
      simp only [Bool.not_false, if_true]
      exact wpAny_bind (wpAny_rule (wpAny_bind (cmpLt_rich (wpAny_bind (wpAny_pure (wpAny_pure (wpAny_pure (wpAny_pure ⟨_, rfl, (fun e => nomatch e), h⟩))))))))
  · rw [if_neg h1] at h
    rw [show (x1 == y1) = false from by simp [h1]]
    simp only [Bool.not_false, if_true]
    exact wpAny_bind (wpAny_rule (wpAny_bind (cmpLt_rich (wpAny_bind (wpAny_pure (wpAny_pure (wpAny_pure (wpAny_pure ⟨_, rfl, (fun e => nomatch e), h⟩))))))))
end
theorem lex_left {p q n : Int} (h : 0 ≤ q) : lexLt p q n 0 = decide (p < n) := by
  unfold lexLt
  split
  · rename_i e; subst e; simp; omega
  · rfl
theorem lex_right {p q n : Int} (h : q ≤ p) : lexLt n n p q = decide (n < p) := by
  unfold lexLt
  split
  · rename_i e; subst e; simp; omega
  · rfl
/-- the items of a list and what they stand for -/
inductive All2 {α : Type} (R : Value → α → Prop) : List Value → List α → Prop
  | nil : All2 R [] []
  | cons {v : Value} {x : α} {vs : List Value} {xs : List α} : R v x → All2 R vs xs → All2 R (v :: vs) (x :: xs)
namespace All2
variable {α β : Type} {R S : Value → α → Prop}
theorem mono (h : ∀ v x, R v x → S v x) : ∀ {vs : List Value} {xs : List α}, All2 R vs xs → All2 S vs xs
  | _, _, .nil => .nil
  | _, _, .cons a r => .cons (h _ _ a) (r.mono h)
theorem length : ∀ {vs : List Value} {xs : List α}, All2 R vs xs → vs.length = xs.length
  | _, _, .nil => rfl
  | _, _, .cons _ r => by simp [r.length]
theorem append : ∀ {vs ws : List Value} {xs ys : List α}, All2 R vs xs → All2 R ws ys → All2 R (vs ++ ws) (xs ++ ys)
  | _, _, _, _, .nil, h => h
  | _, _, _, _, .cons a r, h => .cons a (r.append h)
theorem snoc {vs : List Value} {xs : List α} {v : Value} {x : α} (h : All2 R vs xs) (hx : R v x) : All2 R (vs ++ [v]) (xs ++ [x]) := h.append (.cons hx .nil)
theorem get : ∀ {vs : List Value} {xs : List α}, All2 R vs xs → ∀ {i : Nat} {v : Value}, vs[i]? = some v → ∃ x, xs[i]? = some x ∧ R v x
  | _, _, .nil, _, _, h => by simp at h
  | _, _, .cons a r, 0, v, h => by simp at h; exact ⟨_, rfl, h ▸ a⟩
  | _, _, .cons a r, i + 1, v, h => by simp at h ⊢; exact r.get h
theorem take : ∀ {vs : List Value} {xs : List α}, All2 R vs xs → ∀ k : Nat, All2 R (vs.take k) (xs.take k)
  | _, _, .nil, k => by simp; exact .nil
  | _, _, .cons a r, 0 => by simp; exact .nil
  | _, _, .cons a r, k + 1 => by simp; exact .cons a (r.take k)
end All2
/-- a pair of ints of the ledger -/
def PairR (tl : List (Addr × Obj)) (v : Value) (p : Int × Int) : Prop := ∃ (D : Addr) (t u : Tok) (n : Nat), v = .ref D ∧ (D, ({ cls := .type "tuple", data := .seq #[.int p.1 t, .int p.2 u] n } : Obj)) ∈ tl
theorem PairR.mono {tl tl' : List (Addr × Obj)} (hs : ∀ p ∈ tl, p ∈ tl') {v : Value} {p : Int × Int} (h : PairR tl v p) : PairR tl' v p := by
  obtain ⟨D, t, u, n, rfl, hm⟩ := h
  exact ⟨D, t, u, n, rfl, hs _ hm⟩
/-- the prime powers to 12, each with its prime -/
def PW : List (Int × Int) := [(2, 2), (3, 3), (4, 2), (5, 5), (7, 7), (8, 2), (9, 3), (11, 11)]
/-- a while loop's end: the ledger and the named locals are those of a state c -/
def WDone {σ : Type} (h₀ : Heap) (L : Addr) (s : Shared) (Led : σ → List (Addr × Obj)) (ps : σ → List (Str × Value)) (stored : List Str) (m₀ : Str → Option Value) (D : σ → Prop) (s₂ : Shared) : Prop :=
  ∃ (c' : σ) (h' : Heap) (tk : Nat) (m' : Str → Option Value) (news' : List (Addr × Obj)), s₂ = { s with heap := h', toks := tk } ∧ Fr h₀ L h' m' ∧ News h₀ L h' news' ∧ (∀ p ∈ Led c', p ∈ news') ∧ (∀ p ∈ ps c', m' p.1 = some p.2) ∧ (∀ z, (∀ p ∈ ps c', z ≠ p.1) → stored.contains z = false → m' z = m₀ z) ∧ D c'
def wdQ {σ : Type} (h₀ : Heap) (L : Addr) (s : Shared) (Led : σ → List (Addr × Obj)) (ps : σ → List (Str × Value)) (stored : List Str) (m₀ : Str → Option Value) (D : σ → Prop) (Q : Flow → Shared → Prop) (f : Flow) (s₂ : Shared) : Prop :=
  match f with
  | .next => WDone h₀ L s Led ps stored m₀ D s₂
  | f => Q f s₂
section
variable {prog : Program} {w : World} {A : Around} {E : Value → Shared → Prop} {Q : Flow → Shared → Prop} {s : Shared} {env : Env} {h₀ : Heap} {L : Addr}
theorem w_while {σ : Type} {test : Expr} {body : List Stmt} {pos : Pos} {m₀ : Str → Option Value} (Led : σ → List (Addr × Obj)) (ps : σ → List (Str × Value)) (stored : List Str) (P : σ → Prop) (D : σ → Prop) (μ : σ → Nat) (c₀ : σ)
    (F : Fr h₀ L s.heap m₀) (N : News h₀ L s.heap (Led c₀)) (hk : ∀ p ∈ ps c₀, m₀ p.1 = some p.2) (hp : P c₀)
    (turn : ∀ (c : σ) (u : Str → Option Value) h tk, P c → Fr h₀ L h (kstB (fun z => if stored.contains z then u z else m₀ z) (ps c)) → News h₀ L h (Led c) →
      wpAny (model prog w) A (isTrue test env (eval test env)) (fun b s₂ =>
        if b = true then wpAny (model prog w) A (execs body env) (KswPost h₀ L s Led ps (fun _ => True) stored m₀ P μ (wdQ h₀ L s Led ps stored m₀ D Q) c) E s₂ else wdQ h₀ L s Led ps stored m₀ D Q .next s₂) E { s with heap := h, toks := tk })
    (done : ∀ (c : σ) (u : Str → Option Value) h tk, D c → Fr h₀ L h (kstB (fun z => if stored.contains z then u z else m₀ z) (ps c)) → News h₀ L h (Led c) → Q .next { s with heap := h, toks := tk })
    (hE : PassesOwn (model prog w) A env E := by passes_own) :
    wpAny (model prog w) A (exec (.While test body [] pos) env) Q E s := by
  refine wpAny_mono (ksw_while (Q := wdQ h₀ L s Led ps stored m₀ D Q) Led ps (fun _ => True) stored P μ c₀ F N trivial hk hp (fun c u h tk _ => turn c u h tk) hE) (fun f s₂ q => ?_) fun _ _ x => x
  cases f with
  | next =>
    obtain ⟨c', h', tk, m', news', rfl, F', N', hn, hk9, hr9, hd9⟩ := q
    exact done c' m' h' tk hd9 (ksw_fr hk9 hr9 F') (fun p hp => N' p (hn p hp))
  | ret v => exact q
  | brk => exact q
  | cont => exact q
theorem w_done {σ : Type} {Led : σ → List (Addr × Obj)} {ps : σ → List (Str × Value)} {stored : List Str} {m₀ m' : Str → Option Value} {D : σ → Prop} {h' : Heap} {tk : Nat} {news' : List (Addr × Obj)} (c' : σ)
    (F : Fr h₀ L h' m') (N : News h₀ L h' news') (hn : ∀ p ∈ Led c', p ∈ news') (hk : ∀ p ∈ ps c', m' p.1 = some p.2) (hr : ∀ z, (∀ p ∈ ps c', z ≠ p.1) → stored.contains z = false → m' z = m₀ z) (hd : D c') :
    wdQ h₀ L s Led ps stored m₀ D Q .next { s with heap := h', toks := tk } := ⟨c', h', tk, m', news', rfl, F, N, hn, hk, hr, hd⟩
end
theorem fill : PySem.Challenge.rw_pe0236_01 = PySem.Challenge.rw_pe0236_01 ∧ pre.heap_1 = pre.heap_1 := by
  k_fill
  w_top off
  exact ⟨rfl, rfl⟩
structure At (lv : Nat) (w : World) (dp un : Nat) (cs : Scope) (L : Addr) (outer : List Env) (h₀ : Heap) (m : Str → Option Value) (s : Shared) (news : List (Addr × Obj)) : Prop where
  below : ∃ A₀ base, Below A₀ base outer h₀
  fr : Fr h₀ L s.heap m
  kin : (pre.heap_1 w.params).In h₀
  nw : News h₀ L s.heap news
  top : ∃ mean mg mb, Top pre.view_1 (looseW pre.view_1 [Str.ofString "bisect_right", Str.ofString "bisect_left", Str.ofString "Whitespace"]) mean mg mb h₀
  kind : cs.kind = .function
  room : dp + lv < recursionLimit
  units : un + 500 + 10 * lv < cLine
variable {w : World} {dp un : Nat} {gd : Option (List Code)} {cn : Str} {cs : Scope} {a : Addr} {ccd : Value} {cl : List (Str × Addr)} {outer : List Env} {h₀ : Heap} {L : Addr} {m : Str → Option Value} {s : Shared} {Q E : Value → Shared → Prop} {news : List (Addr × Obj)}
abbrev PG : Program := PySem.Challenge.rw_pe0236_01.row.prog
local macro_rules | `(tactic| k_room) => `(tactic| ((try simp only [depth_mark, depth_under_make, depth_under_kw, depth_in1, depth_deeper, depth_caller]); (simp only [recursionLimit] at *); omega))
local macro_rules | `(tactic| tb_start) => `(tactic| exact ⟨⟨_, _, by k_asm⟩, by k_asm, by k_asm, by k_asm, ⟨_, _, _, by k_asm⟩, by first | rfl | assumption, by ktr_room, by ktr_units⟩)
theorem news_front {h₀ h : Heap} {L : Addr} {news : List (Addr × Obj)} {p : Addr × Obj} (N : News h₀ L h news) (hm : p ∈ news) : News h₀ L h (p :: news) := fun q hq => N q (by rcases List.mem_cons.mp hq with rfl | hq; exact hm; exact hq)
theorem news_back {h₀ h : Heap} {L : Addr} {news : List (Addr × Obj)} {p : Addr × Obj} (N : News h₀ L h (p :: news)) : News h₀ L h news := fun q hq => N q (.tail _ hq)
theorem news_sub {h₀ h : Heap} {L : Addr} {news all : List (Addr × Obj)} (N : News h₀ L h all) (hs : ∀ p ∈ news, p ∈ all) : News h₀ L h news := fun p hp => N p (hs p hp)
local macro_rules | `(tactic| tb_rel) => `(tactic| first | exact fun _ hp => hp | exact fun _ hp => .tail _ hp | exact fun _ hp => .tail _ (.tail _ hp) | exact fun _ hp => .tail _ (.tail _ (.tail _ hp)) | exact fun _ hp => .tail _ (.tail _ (.tail _ (.tail _ hp))))
local macro_rules | `(tactic| ktr_rel) => `(tactic| (intro z h1 h2 h3; (simp only [List.forall_mem_cons, List.not_mem_nil, false_implies, implies_true, and_true, ne_eq] at h2); (try simp only [List.contains_cons, List.contains_nil, Bool.or_false, Bool.or_eq_false_iff, beq_eq_false_iff_ne, ne_eq] at h3); simp [kstB, h1, h2, h3]))
theorem allNe_lt {d : Addr} : ∀ {l : List (Addr × Obj)}, AllLt d l → ∀ p ∈ l, p.1 ≠ d
  | [], _, _, h => nomatch h
  | _ :: _, x, p, h => by
    rcases List.mem_cons.mp h with rfl | h
    · exact Nat.ne_of_lt x.1
    · exact allNe_lt x.2 p h
local macro_rules | `(tactic| k_all) => `(tactic| first | exact allNe_lt (by assumption) | assumption | (refine List.forall_mem_append.mpr ⟨?a, ?b⟩; (case a => k_all); (case b => k_all)))
theorem allLt_append {d : Addr} : ∀ {l r : List (Addr × Obj)}, AllLt d (l ++ r) ↔ AllLt d l ∧ AllLt d r
  | [], _ => by simp [AllLt]
  | p :: l, r => by
    show (_ ∧ AllLt d (l ++ r)) ↔ (_ ∧ AllLt d l) ∧ AllLt d r
    rw [allLt_append]; exact and_assoc.symm
theorem ownOff_lt {own : List (Addr × Obj)} {adr : List Addr} {d : Addr} (h : OwnOff own adr) (hd : AllLt d own) : OwnOff own (d :: adr) := fun p hp b hb => by
  rcases List.mem_cons.mp hb with rfl | hb
  · exact allNe_lt hd p hp
  · exact h p hp b hb
theorem news_drop3 {h₀ h : Heap} {L : Addr} {p a b c : Addr × Obj} {R own : List (Addr × Obj)} (N : News h₀ L h (p :: a :: b :: (c :: R ++ own))) : News h₀ L h (p :: R ++ own) := fun q hq => N q (by
  rcases List.mem_append.mp hq with hq | hq
  · rcases List.mem_cons.mp hq with rfl | hq
    · exact .head _
    · exact .tail _ (.tail _ (.tail _ (List.mem_append.mpr (.inl (.tail _ hq)))))
  · exact .tail _ (.tail _ (.tail _ (List.mem_append.mpr (.inr hq)))))
/-- two addresses apart, out of omega's sight -/
def NeA (a b : Addr) : Prop := a ≠ b
theorem NeA.ne {a b : Addr} (h : NeA a b) : a ≠ b := h
/-- a goal that the walk leaves alone -/
def Hold (p : Prop) : Prop := p
theorem hold {p : Prop} (h : Hold p) : p := h
local macro_rules | `(tactic| ktr_unf) => `(tactic| (intro z h2 h3; (simp only [List.forall_mem_cons, List.not_mem_nil, false_implies, implies_true, and_true, ne_eq] at h2); (try simp only [List.contains_cons, List.contains_nil, Bool.or_false, Bool.or_eq_false_iff, beq_eq_false_iff_ne, ne_eq] at h3); simp [kstB, h2, h3]))
local macro_rules | `(tactic| k_ne) => `(tactic| exact NeA.ne (by assumption))

def lprod (ns : List Int) : Int := ns.foldl (fun a b => a * b) 1
theorem lprod_snoc (ns : List Int) (n : Int) : lprod (ns ++ [n]) = lprod ns * n := by simp [lprod]
/-- _law_product: the product of a list of ints -/
theorem product_spec (l : Addr) (vs : List Value) (n : Nat) (ns : List Int)
   (H : At 1 w dp un cs L outer h₀ m s news) (hm : (l, W.listOf vs.toArray n) ∈ news)
   (hI : IntsAre vs ns) (hb : ∀ x ∈ ns, -(2 ^ 64) < x ∧ x < 2 ^ 64)
   (hret : ∀ t h' tk', Fr h₀ L h' m → News h₀ L h' news → Q (.int (lprod ns) t) { s with heap := h', toks := tk' }) :
   wpAny (model PG w) (ktrTop dp un gd cn cs L a ccd cl outer) (call (.ref 154) [.ref l]) Q E s := by
  obtain ⟨⟨A₀, base, B⟩, F, X, N, ⟨mean, mg, mb, T⟩, hk, hd, hu⟩ := H
  replace N := news_front N hm
  k_with_none
  k_with "pyIter ref" => k_state (fun pre told => told = lprod pre) "told"
  k_with "state" => (first | rfl | (subst_vars; exact (lprod_snoc _ _).symm))
  k_with "binaryOp Mult int int" => (refine mul_int ?_ (IntMulOk.of_right (intBits_le_64 (hb _ (by assumption)).1 (hb _ (by assumption)).2)))
  refine wpAny_call ?_
  k_dflt cell_enter
  k_steps
  subst_vars
  exact hret _ _ _ (by k_asm) (news_back (p := (l, W.listOf vs.toArray n)) (by assumption))

def rng (r : Int) : List Int := (List.range r.toNat).map fun (i : Nat) => (1 : Int) + (i : Int)
theorem mem_rng {x r : Int} (h : x ∈ rng r) : 1 ≤ x ∧ x ≤ r := by
  simp only [rng, List.mem_map, List.mem_range] at h
  obtain ⟨i, hi, rfl⟩ := h
  omega
theorem rng_length (r : Int) : (rng r).length = r.toNat := by simp [rng]
theorem rng_take {r : Int} {j : Nat} (h : j < r.toNat) : (rng r).take (j + 1) = (rng r).take j ++ [1 + (j : Int)] := by
  rw [List.take_add_one]
  simp [rng, h]
theorem rng_all (r : Int) : (rng r).take r.toNat = rng r := List.take_of_length_le (by rw [rng_length]; exact Nat.le_refl _)
theorem rangeSize_one {k : Int} (h : 0 ≤ k) : Builtin.Range.rangeSize 1 (k + 1) 1 = ((k.toNat : Nat) : Int) := by
  unfold Builtin.Range.rangeSize
  simp only [Int.reduceLT, gt_iff_lt, if_true]
  split <;> omega
theorem flat_length {f : Int → List Int} (ns : List Int) (h : ∀ x ∈ ns, (f x).length ≤ 9) : (ns.flatMap f).length ≤ 9 * ns.length := by
  induction ns with
  | nil => simp
  | cons n r ih =>
    have h1 := h n (.head _)
    have h2 := ih fun x hx => h x (.tail _ hx)
    simp only [List.flatMap_cons, List.length_append, List.length_cons]
    omega
theorem flat_take {f : Int → List Int} {ns : List Int} {i : Nat} {k : Int} (hk : ns[i]? = some k) : (ns.take (i + 1)).flatMap f = (ns.take i).flatMap f ++ f k := by
  rw [List.take_add_one, hk]; simp
theorem take_bound {f : Int → List Int} {ns : List Int} (i : Nat) (h : ∀ x ∈ ns, (f x).length ≤ 9) (hl : ns.length ≤ 5) : ((ns.take i).flatMap f).length ≤ 45 := by
  have := flat_length (f := f) (ns.take i) fun x hx => h x (List.mem_of_mem_take hx)
  have q : (ns.take i).length ≤ ns.length := by simp [List.length_take]; omega
  omega
/-- _law_factorials: the product of the runs' factorials -/
theorem fact_spec (l : Addr) (vs : List Value) (n : Nat) (ns : List Int)
   (H : At 2 w dp un cs L outer h₀ m s news) (hm : (l, W.listOf vs.toArray n) ∈ news)
   (hI : IntsAre vs ns) (hb : ∀ x ∈ ns, 0 ≤ x ∧ x < 10) (hl : ns.length ≤ 5)
   (hret : ∀ t h' tk', Fr h₀ L h' m → News h₀ L h' news → Q (.int (lprod (ns.flatMap rng)) t) { s with heap := h', toks := tk' }) :
   wpAny (model PG w) (ktrTop dp un gd cn cs L a ccd cl outer) (call (.ref 159) [.ref l]) Q E s := by
  obtain ⟨⟨A₀, base, B⟩, F, X, N, ⟨mean, mg, mb, T⟩, hk, hd, hu⟩ := H
  replace N := news_front N hm
  have hb9 : ∀ x ∈ ns, (rng x).length ≤ 9 := fun x hx => by have := hb x hx; rw [rng_length]; omega
  k_with_none
  refine wpAny_call ?_
  k_dflt cell_enter
  k_steps
  refine comp2_eval (by k_asm) (by with_unfolding_all rfl) (by decide) (by rfl) (by decide) (by rfl) (by rfl) (by decide) ?_
  k_steps
  refine ⟨l, vs.toArray, _, (fun i ys nw => nw = _ ∧ IntsAre ys ((ns.take i).flatMap rng)), rfl, rfl, (by k_asm), (by k_asm), .inr ⟨_, .head _, rfl, _, rfl⟩, ⟨rfl, .nil⟩, ?_⟩
  rintro s₂ ⟨hh2, rfl⟩
  refine ⟨?_, ?_⟩
  · rintro i v ys nw I oI C oC m₂ D h tk E' hv ⟨rfl, hys⟩ hS hoC hx F2 N2 off hne
    obtain ⟨k, t, rfl, hk⟩ := hI.at i v (by simpa using hv)
    have hkb := hb k (List.mem_of_getElem? hk)
    k_steps
    refine ⟨_, 1, k + 1, _, _, _, k.toNat, (fun j ys' nw => nw = _ ∧ IntsAre ys' ((ns.take i).flatMap rng ++ (rng k).take j)), _, _, _, rfl, rfl, (by k_asm), (by k_asm), off, hS, (by assumption), small_one (by omega) (by omega) (by omega) (by omega), rangeSize_one hkb.1, ⟨rfl, by simpa using hys⟩, ?_, ?_, ?_⟩
    · rintro j ys' nw ⟨rfl, hys'⟩
      rw [hys'.length, List.length_append, List.length_take, rng_length]
      have := take_bound (f := rng) i hb9 hl
      omega
    · rintro j t' ys' nw I' oI' oC' m₃ h' tk' E'' hj ⟨rfl, hys'⟩ hS' hoC' hx' hy' F3 N3 off' offI
      k_steps
      refine ⟨_, _, _, rfl, (by k_asm), (by k_asm), off', offI, hS', rfl, ?_⟩
      rw [rng_take hj, ← List.append_assoc]
      exact hys'.append (.cons _ _ .nil)
    · rintro ys' nw ⟨rfl, hys'⟩
      refine ⟨rfl, ?_⟩
      rw [flat_take hk, ← rng_all k]
      exact hys'
  · rintro ys nw ⟨rfl, hys⟩ D h tk F2 N2 off1
    rw [List.size_toArray, hI.length, List.take_length] at hys
    have hb2 : ∀ x ∈ ns.flatMap rng, -(2 ^ 64) < x ∧ x < 2 ^ 64 := fun x hx => by
      obtain ⟨r, hr, hxr⟩ := List.mem_flatMap.mp hx
      have := mem_rng hxr
      have := hb r hr
      omega
    k_with "call ref" => (k_dflt (refine product_spec _ _ _ _ (by tb_start) (.head _) hys hb2 ?_))
    k_steps
    exact hret _ _ _ (by k_asm) (news_sub (by assumption) (by tb_rel))

/-- the count of runs, one more run of b blanks -/
def grown (cs : List Int) (b : Int) : List Int := if (cs.length : Int) ≤ b then cs ++ (List.replicate (b - cs.length + 1).toNat [0]).flatten else cs
def bump (cs : List Int) (b : Int) : List Int := (grown cs b).set b.toNat ((grown cs b).getD b.toNat 0 + 1)
/-- what the reading loop keeps: the counts, the blanks since the last tab, the signs, the tabs -/
structure Sc where
  cs : List Int
  b : Int
  n : Int
  nt : Int
def Sc.one (s : Sc) (c : Nat) : Sc := if c = 32 then ⟨s.cs, s.b + 1, s.n + 1, s.nt⟩ else ⟨bump s.cs s.b, 0, s.n + 1, s.nt + 1⟩
def scan (xs : List Nat) : Sc := xs.foldl Sc.one ⟨[], 0, 0, 0⟩
theorem scan_snoc (xs : List Nat) (c : Nat) : scan (xs ++ [c]) = (scan xs).one c := by simp [scan]
structure WSt where
  adr : Addr
  vs : List Value
  nn : Nat
  sc : Sc
  tb : Tok
  tn : Tok
  tt : Tok
def ScOk (i : Nat) (sc : Sc) : Prop := 0 ≤ sc.b ∧ sc.b ≤ (i : Int) ∧ sc.cs.length ≤ i
theorem flat_zeros (k : Nat) : (List.replicate k [(0 : Int)]).flatten = List.replicate k 0 := by
  induction k with
  | zero => rfl
  | succ k ih => simp only [List.replicate_succ, List.flatten_cons, ih]; rfl
theorem grown_length (cs : List Int) {b : Int} (h : 0 ≤ b) : (grown cs b).length = max cs.length (b.toNat + 1) := by
  unfold grown
  split
  · rw [List.length_append, flat_zeros, List.length_replicate]; omega
  · omega
theorem scOk_one {i : Nat} {sc : Sc} (h : ScOk i sc) (c : Nat) : ScOk (i + 1) (sc.one c) := by
  obtain ⟨h1, h2, h3⟩ := h
  unfold Sc.one
  split
  · exact ⟨by show 0 ≤ sc.b + 1; omega, by show sc.b + 1 ≤ ((i + 1 : Nat) : Int); omega, by show sc.cs.length ≤ i + 1; omega⟩
  · refine ⟨Int.le_refl _, by show (0 : Int) ≤ ((i + 1 : Nat) : Int); omega, ?_⟩
    show (bump sc.cs sc.b).length ≤ i + 1
    unfold bump
    rw [List.length_set, grown_length _ h1]
    omega
/-- a Whitespace's own dict -/
abbrev wsDict (w : World) (raw : Str) (tr : Tok) (sc : Sc) (T1 : Addr) (tn tt k1 k2 k3 k4 k5 : Tok) (sm : Bool) : Obj :=
  dictOf [{ hash := PyData.keyHash w.params (Str.ofString "raw"), key := .str (Str.ofString "raw") k1, val := .str raw tr },
    { hash := PyData.keyHash w.params (Str.ofString "n"), key := .str (Str.ofString "n") k2, val := .int sc.n tn },
    { hash := PyData.keyHash w.params (Str.ofString "nt"), key := .str (Str.ofString "nt") k3, val := .int sc.nt tt },
    { hash := PyData.keyHash w.params (Str.ofString "norm"), key := .str (Str.ofString "norm") k4, val := .ref T1 },
    { hash := PyData.keyHash w.params (Str.ofString "is_simple"), key := .str (Str.ofString "is_simple") k5, val := .bool sm }] 5
abbrev tup (vs : List Value) : Obj := { cls := .type "tuple", data := .seq vs.toArray }
/-- a Whitespace of the ledger: its object, its dict, its norm, its counts -/
def WsAt (w : World) (x : Addr) (sc : Sc) (news : List (Addr × Obj)) : Prop :=
  ∃ (d T1 T2 : Addr) (vs : List Value) (raw : Str) (tr tn tt tb k1 k2 k3 k4 k5 : Tok) (sm : Bool),
    (x, instObj 129 d) ∈ news ∧ (d, wsDict w raw tr sc T1 tn tt k1 k2 k3 k4 k5 sm) ∈ news ∧ (T1, tup [.ref T2, .int sc.b tb]) ∈ news ∧ (T2, tup vs) ∈ news ∧ IntsAre vs sc.cs
theorem WsAt.mono {w : World} {x : Addr} {sc : Sc} {news news' : List (Addr × Obj)} (h : WsAt w x sc news) (hs : ∀ p ∈ news, p ∈ news') : WsAt w x sc news' := by
  obtain ⟨d, T1, T2, vs, raw, tr, tn, tt, tb, k1, k2, k3, k4, k5, sm, a1, a2, a3, a4, a5⟩ := h
  exact ⟨d, T1, T2, vs, raw, tr, tn, tt, tb, k1, k2, k3, k4, k5, sm, hs _ a1, hs _ a2, hs _ a3, hs _ a4, a5⟩
/-- what is new lies above what was -/
def Above (news tl : List (Addr × Obj)) : Prop := ∀ p ∈ tl, ∀ q ∈ news, @LT.lt Nat _ q.1 p.1
theorem lt_of_allLt {d : Addr} : ∀ {l : List (Addr × Obj)}, AllLt d l → ∀ q ∈ l, @LT.lt Nat _ q.1 d
  | [], _, _, h => nomatch h
  | _ :: _, x, p, h => by
    rcases List.mem_cons.mp h with rfl | h
    · exact x.1
    · exact lt_of_allLt x.2 p h
theorem ws_exit {h₀ h : Heap} {L : Addr} {a b c d e f : Addr × Obj} {news own : List (Addr × Obj)} (N : News h₀ L h (a :: b :: c :: d :: e :: f :: (news ++ own))) : News h₀ L h ([a, b, e, f] ++ news) := fun q hq => N q (by
  simp only [List.mem_append, List.mem_cons, List.not_mem_nil, or_false] at hq ⊢
  rcases hq with (h | h | h | h) | h <;> simp [h])
theorem ws_above {a b e f : Addr × Obj} {news own : List (Addr × Obj)} (ha : AllLt a.1 (news ++ own)) (hb : AllLt b.1 (news ++ own)) (hf : AllLt f.1 news) (hfe : @LT.lt Nat _ f.1 e.1) : Above news [a, b, e, f] := fun p hp q hq => by
  have h1 := lt_of_allLt (allLt_append.mp ha).1 q hq
  have h2 := lt_of_allLt (allLt_append.mp hb).1 q hq
  have h3 := lt_of_allLt hf q hq
  simp only [List.mem_cons, List.not_mem_nil, or_false] at hp
  rcases hp with rfl | rfl | rfl | rfl
  · exact h1
  · exact h2
  · exact Nat.lt_trans h3 hfe
  · exact h3

/-- Whitespace(text): the reading loop, run once for every text of blanks and tabs ahead of an x -/
theorem ws_spec (xs : List Nat) (rest : List Nat) (tt : Tok)
   (H : At 2 w dp un cs L outer h₀ m s news) (hlen : xs.length ≤ 100) (hxs : ∀ c ∈ xs, c = 32 ∨ c = 9)
   (hret : ∀ x tl h' tk', Fr h₀ L h' m → News h₀ L h' (tl ++ news) → Above news tl → WsAt w x (scan xs) tl → Q (.ref x) { s with heap := h', toks := tk' }) :
   wpAny (model PG w) (ktrTop dp un gd cn cs L a ccd cl outer) (call (.ref 129) [.str (tx (xs ++ 120 :: rest)) tt]) Q E s := by
  obtain ⟨⟨A₀, base, B⟩, F, X, N, ⟨mean, mg, mb, T⟩, hk, hd, hu⟩ := H
  k_with_none
  k_dflt (refine' call_cls ?k1 ?k2 ?k3 ?k4 ?k5 ?k6 ?_; (case k1 => k_asm); (case k2 => k_asm); (case k3 => k_asm); (case k4 => k_is); (case k5 => k_is); (case k6 => k_is); k_whole; intro x' d' h' F' N' l1 l2; (try k_lt l1); (try k_lt2 l2); (try k_sweep); cell_enter)
  k_steps
  rename_i D' _ lD _ _ _ _ l' _ lL _ _ _ _ _ _
  refine g_text (σ := WSt) (fun c => (c.adr, W.listOf c.vs.toArray c.nn) :: _) (fun c => [(Str.ofString "count", .ref c.adr), (Str.ofString "b", .int c.sc.b c.tb), (Str.ofString "n", .int c.sc.n c.tn), (Str.ofString "nt", .int c.sc.nt c.tt)]) []
    (fun i c => i ≤ xs.length ∧ c.sc = scan (xs.take i) ∧ IntsAre c.vs c.sc.cs ∧ ScOk i c.sc ∧ @LT.lt Nat _ D' c.adr ∧ @LT.lt Nat _ x' c.adr ∧ @LT.lt Nat _ d' c.adr ∧ AllLt c.adr news) ⟨l', [], 0, ⟨[], 0, 0, 0⟩, tk, tk, tk⟩ rfl (by k_asm) (by k_asm) ?_ ?_ ?_ ?_
  · simp only [List.mem_cons, List.not_mem_nil, or_false, forall_eq_or_imp, forall_eq]
    exact ⟨rfl, rfl, rfl, rfl⟩
  · refine ⟨Nat.zero_le _, rfl, .nil, ⟨Int.le_refl _, Int.le_refl _, Nat.le_refl _⟩, lL⟩
  · rintro i c t st u h tk own hc ⟨hi, hsc, hI, hok, hlt⟩ hoff F2 N2
    have hMk : KstMark := kstMark
    have e9 : ¬ ((9 : Nat) = 32) := by decide
    have hok0 := hok
    obtain ⟨hb0, hb1, hcl⟩ := hok
    have hlt0 := hlt
    obtain ⟨hq1, hq2, hq3, hq4⟩ := hlt
    rcases Nat.lt_or_ge i xs.length with hlt' | hge
    · have hcx : xs[i]? = some c := by
        have : (xs ++ 120 :: rest)[i]? = some c := by simpa [tx] using hc
        rwa [List.getElem?_append_left hlt'] at this
      have hsn : xs.take (i + 1) = xs.take i ++ [c] := by rw [List.take_add_one, hcx]; rfl
      have hok2 : ScOk (i + 1) (st.sc.one c) := scOk_one hok0 c
      rcases hxs c (List.mem_of_getElem? hcx) with rfl | rfl
      · k_steps
        refine g_end ⟨st.adr, st.vs, st.nn, st.sc.one 32, _, _, st.tt⟩ (by k_asm) (by k_asm) (by kst_in) (by kst_inAny) hoff (by kst_all) (by ktr_rel) ⟨hlt', ?_, hI, hok2, hlt0⟩
        rw [hsn, scan_snoc, hsc]
      · k_steps
        · rename ((_ : Nat) < _ ∧ (_ : Nat) < _ ∧ AllLt _ (_ ++ _)) => hA
          rename ((_ : Int) ≤ _) => hg
          obtain ⟨_, _, hA⟩ := hA
          rw [allLt_append] at hA
          obtain ⟨⟨_, hA1, hA2, hA3, hA4⟩, hAo⟩ := hA
          rename News _ _ _ _ => NN
          refine g_end (own := own) ⟨_, _, _, st.sc.one 9, _, _, _⟩ (by k_asm) (news_drop3 NN) (fun p hp => List.mem_append_left own hp) (fun p hp => List.mem_append_right _ hp) (ownOff_lt (by exact fun p hp b hb => hoff p hp b (.tail _ hb)) hAo) (by kst_all) (by ktr_rel) ⟨hlt', ?_, ?_, hok2, hA1, hA2, hA3, hA4⟩
          · rw [hsn, scan_snoc, hsc]
          · simp only [Sc.one, if_neg e9, bump, grown, if_pos hg]
            assumption
        · rename (¬ (_ : Int) ≤ _) => hg
          refine g_end (own := own) ⟨st.adr, _, st.nn, st.sc.one 9, _, _, _⟩ (by k_asm) (by k_asm) (fun p hp => List.mem_append_left own hp) (fun p hp => List.mem_append_right _ hp) (by exact hoff) (by kst_all) (by ktr_rel) ⟨hlt', ?_, ?_, hok2, hlt0⟩
          · rw [hsn, scan_snoc, hsc]
          · simp only [Sc.one, if_neg e9, bump, grown, if_neg hg]
            assumption
    · obtain rfl : i = xs.length := Nat.le_antisymm hi hge
      obtain rfl : 120 = c := by
        have : (xs ++ 120 :: rest)[xs.length]? = some c := by simpa [tx] using hc
        simpa using this
      have ho1 : ∀ p ∈ own, p.1 ≠ d' := fun p hp => hoff p hp _ (by simp)
      have l1' := allLt_of l1
      simp only [List.cons_append] at N2
      have hsz : st.vs.toArray.size ≤ 16384 := by rw [List.size_toArray, hI.length]; omega
      k_with "call type:tuple" => (k_dflt (refine kde_tupleOf (by k_asm) (by k_asm) (News.isList (by k_asm) (.head _)) hsz (zs := st.vs) rfl ?_); intro D' h' F' N' l1; (try k_lt l1))
      k_steps
      rename News _ _ _ _ => NN
      rename (_ ∧ _ ∧ _ ∧ _ ∧ AllLt D' _) => hA1
      rename (_ ∧ _ ∧ _ ∧ _ ∧ _ ∧ AllLt _ (_ ++ _)) => hA2
      rw [List.take_length] at hsc
      refine hret x' _ _ _ (by k_asm) (ws_exit NN) (ws_above hA2.2.2.2.2.2 hA1.2.2.2.2 l1' l2) ?_
      rw [← hsc]
      exact ⟨d', _, _, st.vs, _, _, _, _, _, _, _, _, _, _, _, .tail _ (.tail _ (.head _)), .tail _ (.tail _ (.tail _ (.head _))), .head _, .tail _ (.head _), hI⟩
  · rintro c u h tk ⟨hi, _⟩
    exfalso
    simp [tx] at hi
    omega

theorem strs_at : ∀ {vs : List Value} {ys : List Str}, StrsAre vs ys → vs.length = ys.length
  | _, _, .nil => rfl
  | _, _, .cons _ _ h => by simp [strs_at h]
theorem strs_snoc {us : List Value} {ws : List Str} {x : Str} {t : Tok} (h : StrsAre us ws) : StrsAre (us ++ [.str x t]) (ws ++ [x]) := KStt.strs_snoc h
/-- _law_lead: the Whitespace of the runs -/
theorem lead_spec (l : Addr) (vs : List Value) (n : Nat) (ns : List Int) (tl : Int) (tt : Tok)
   (H : At 3 w dp un cs L outer h₀ m s news) (hm : (l, W.listOf vs.toArray n) ∈ news)
   (hI : IntsAre vs ns) (hb : ∀ x ∈ ns, 0 ≤ x ∧ x < 10) (hl : ns.length ≤ 5) (ht : 0 ≤ tl ∧ tl < 12)
   (hret : ∀ x new h' tk', Fr h₀ L h' m → News h₀ L h' (new ++ news) → Above news new → WsAt w x (scan (ns.flatMap runTx ++ List.replicate tl.toNat 32)) new → Q (.ref x) { s with heap := h', toks := tk' }) :
   wpAny (model PG w) (ktrTop dp un gd cn cs L a ccd cl outer) (call (.ref 169) [.ref l, .int tl tt]) Q E s := by
  obtain ⟨⟨A₀, base, B⟩, F, X, N, ⟨mean, mg, mb, T⟩, hk, hd, hu⟩ := H
  replace N := news_front N hm
  k_with_none
  k_with "eval ListComp" => (k_dflt (refine comp_eval (by k_asm) (by with_unfolding_all rfl) (by decide) (by rfl) (by decide) ?_))
  refine wpAny_call ?_
  k_dflt cell_enter
  k_steps
  refine .inl ⟨l, vs.toArray, _, (fun i ys nw => nw = _ ∧ StrsAre ys ((ns.take i).map (fun r => tx (runTx r)))), rfl, rfl, (by k_asm), (by k_asm), .inr ⟨_, .head _, rfl, _, rfl⟩, ?_, ⟨rfl, .nil⟩, (fun _ _ _ _ _ _ _ _ hQ => wpAny_pure hQ), ?_⟩
  · rw [List.size_toArray, hI.length, sizeLine_eq]; omega
  rintro s₂ ⟨hh2, rfl⟩
  refine ⟨cturn_name (by decide) (by rfl) (by rfl) ?_, ?_⟩
  · rintro i v ys nw hv ⟨rfl, hys⟩ hS
    obtain ⟨k, t, rfl, hk⟩ := hI.at i v (by simpa using hv)
    have hkb := hb k (List.mem_of_getElem? hk)
    intro I oI C oC m₂ D h tk E' hoC hx F2 N2 off hne
    dsimp only
    k_steps
    refine cend_intro _ (by k_asm) hoC (by k_asm) (fun _ h => h) off hS ⟨rfl, ?_⟩
    rw [List.take_add_one, hk]
    simp only [Option.toList, List.map_append, List.map_cons, List.map_nil]
    rw [tx_blank, tx_mul hkb.1, tx_tab, tx_append]
    exact strs_snoc hys
  · rintro ys nw ⟨rfl, hys⟩ D h tk F2 N2 off1
    rw [List.size_toArray, hI.length, List.take_length] at hys
    have hlen : (ns.flatMap runTx).length ≤ 50 := by
      have : ∀ ks : List Int, (∀ x ∈ ks, 0 ≤ x ∧ x < 10) → (ks.flatMap runTx).length ≤ 10 * ks.length := by
        intro ks hk
        induction ks with
        | nil => simp
        | cons k r ih =>
          have h1 := runTx_length (hk k (.head _))
          have h2 := ih fun x hx => hk x (.tail _ hx)
          simp only [List.flatMap_cons, List.length_append, List.length_cons]
          omega
      have := this ns hb
      omega
    have hw : ((ns.map fun r => tx (runTx r)).map (·.length)).sum + (ns.map fun r => tx (runTx r)).length ≤ 1048576 := by
      have e : ((ns.map fun r => tx (runTx r)).map (·.length)).sum = (ns.flatMap runTx).length := by
        rw [List.map_map, List.length_flatMap]
        exact congrArg List.sum (List.map_congr_left fun r _ => tx_length _)
      rw [e, List.length_map]
      omega
    have hj : Txt.join (Str.ofString "") (ns.map fun r => tx (runTx r)) = tx (ns.flatMap runTx) := by
      have := tx_join (ns.map runTx)
      rw [List.map_map] at this
      rw [tx_nil]
      exact this
    have hmu : Txt.mul (Str.ofString " ") tl = tx (List.replicate tl.toNat 32) := by rw [tx_blank, tx_mul ht.1]
    have ha1 : tx (ns.flatMap runTx) ++ tx (List.replicate tl.toNat 32) = tx (ns.flatMap runTx ++ List.replicate tl.toNat 32) := tx_append _ _
    have ha2 : tx (ns.flatMap runTx ++ List.replicate tl.toNat 32) ++ Str.ofString "x \t" = tx (leadTx ns tl) := by rw [tx_tail, tx_append]; rfl
    have hs1 : (tx (ns.flatMap runTx)).length + (tx (List.replicate tl.toNat 32)).length ≤ sizeLine := by rw [tx_length, tx_length, List.length_replicate, sizeLine_eq]; omega
    have hs2 : (tx (ns.flatMap runTx ++ List.replicate tl.toNat 32)).length + (Str.ofString "x \t").length ≤ sizeLine := by rw [tx_tail, tx_length, tx_length, List.length_append, List.length_replicate, sizeLine_eq]; simp only [List.length_cons, List.length_nil]; omega
    k_with "call builtin:str.join" => (k_dflt (refine join_listW ⟨_, (News.get (by k_asm) (.head _)), rfl, _, rfl⟩ hys (by decide) hw ?_); intro _ _; rw [hj])
    k_with "binaryOp Add str str" => (first
      | (rw [hmu]; k_dflt (refine PyProof.Rows.add_str (fun _ _ => ?_) hs1); rw [ha1])
      | (k_dflt (refine PyProof.Rows.add_str (fun _ _ => ?_) hs2); rw [ha2]))
    have hxs : ∀ c ∈ ns.flatMap runTx ++ List.replicate tl.toNat 32, c = 32 ∨ c = 9 := by
      intro c hc
      rcases List.mem_append.mp hc with hc | hc
      · obtain ⟨r, _, hr⟩ := List.mem_flatMap.mp hc
        rcases List.mem_append.mp hr with hr | hr
        · exact .inl (List.eq_of_mem_replicate hr)
        · exact .inr (List.mem_singleton.mp hr)
      · exact .inl (List.eq_of_mem_replicate hc)
    have hln : (ns.flatMap runTx ++ List.replicate tl.toNat 32).length ≤ 100 := by rw [List.length_append, List.length_replicate]; omega
    k_with "call ref" => (k_dflt (refine ws_spec _ [32, 9] _ (by tb_start) hln hxs ?_); intro x9 new9 h9 tk9 F9 N9 ab9 ws9)
    k_steps
    refine hret _ new9 _ _ (by k_asm) (news_sub (by assumption) (fun p hp => ?_)) (fun p hp q hq => ab9 p hp q (.tail _ (.tail _ hq))) ws9
    rcases List.mem_append.mp hp with hp | hp
    · exact List.mem_append.mpr (.inl hp)
    · exact List.mem_append.mpr (.inr (.tail _ (.tail _ hp)))

theorem news_front4 {h₀ h : Heap} {L : Addr} {news : List (Addr × Obj)} {p q r t : Addr × Obj} (N : News h₀ L h news) (hp : p ∈ news) (hq : q ∈ news) (hr : r ∈ news) (ht : t ∈ news) : News h₀ L h (p :: q :: r :: t :: news) := fun z hz => N z (by
  simp only [List.mem_cons] at hz
  rcases hz with rfl | rfl | rfl | rfl | hz <;> assumption)
/-- the longest run of blanks -/
def longest (sc : Sc) : Int := max ((sc.cs.length : Int) - 1) sc.b
/-- longest_run_of_spaces -/
theorem longest_spec (x : Addr) (sc : Sc)
   (H : At 1 w dp un cs L outer h₀ m s news) (hw : WsAt w x sc news) (hok : ScOk 100 sc)
   (hret : ∀ t h' tk', Fr h₀ L h' m → News h₀ L h' news → Q (.int (longest sc) t) { s with heap := h', toks := tk' }) :
   wpAny (model PG w) (ktrTop dp un gd cn cs L a ccd cl outer) (call (.ref 91) [.ref x]) Q E s := by
  obtain ⟨⟨A₀, base, B⟩, F, X, N, ⟨mean, mg, mb, T⟩, hk, hd, hu⟩ := H
  obtain ⟨d, T1, T2, vs, raw, tr, tn, tt, tb, k1, k2, k3, k4, k5, sm, a1, a2, a3, a4, hI⟩ := hw
  replace N := news_front4 N a1 a2 a3 a4
  have hMk : KstMark := kstMark
  obtain ⟨hb0, hb1, hcl⟩ := hok
  have hsz : (vs.toArray.size : Int) = (sc.cs.length : Int) := by rw [List.size_toArray, hI.length]
  k_with_none
  k_with "call builtin:len" => (k_dflt (refine PyProof.Rows.len_tuple (News.isTup (by k_asm) (.tail _ (.tail _ (.tail _ (.head _))))) (by rw [hsz]; omega) ?_); rw [hsz])
  refine wpAny_call ?_
  k_dflt cell_enter
  k_steps
  have e : (if sc.b > (sc.cs.length : Int) - 1 then sc.b else (sc.cs.length : Int) - 1) = longest sc := by
    unfold longest
    split <;> omega
  rw [e]
  exact hret _ _ _ (by k_asm) (news_sub (by assumption) (by tb_rel))
theorem seqIndex_in {k : Int} {n : Nat} (h0 : 0 ≤ k) (h1 : k < (n : Int)) : seqIndex? k n = some k.toNat := by
  unfold seqIndex?
  have : ¬ k < 0 := by omega
  simp [this, h0, h1]
theorem fdiv_bounds {a b : Int} (ha : 0 ≤ a) (hb : 1 ≤ b) : 0 ≤ a.fdiv b ∧ a.fdiv b ≤ a := by
  rw [Int.fdiv_eq_ediv_of_nonneg _ (by omega)]
  refine ⟨Int.ediv_nonneg ha (by omega), ?_⟩
  exact Int.ediv_le_self _ ha
/-- the sum that indent_level's loop makes -/
def ilSum (cs : List Int) (ts : Int) (i : Nat) : Int := ((List.range i).map fun (j : Nat) => (ts + (j : Int)).fdiv ts * cs.getD (ts + (j : Int)).toNat 0).sum
theorem ilSum_succ (cs : List Int) (ts : Int) (i : Nat) : ilSum cs ts (i + 1) = ilSum cs ts i + (ts + (i : Int)).fdiv ts * cs.getD (ts + (i : Int)).toNat 0 := by
  simp [ilSum, List.range_succ]
/-- indent_level's answer -/
def indent (sc : Sc) (ts : Int) : Int := sc.b + ts * (ilSum sc.cs ts (sc.cs.length - ts).toNat + sc.nt)
theorem rangeSize_to {a b : Int} : Builtin.Range.rangeSize a b 1 = (((b - a).toNat : Nat) : Int) := by
  unfold Builtin.Range.rangeSize
  simp only [Int.reduceLT, gt_iff_lt, if_true]
  split <;> omega
/-- indent_level -/
theorem indent_spec (x : Addr) (sc : Sc) (ts : Int) (tz : Tok)
   (H : At 1 w dp un cs L outer h₀ m s news) (hw : WsAt w x sc news) (hok : ScOk 100 sc) (hts : 1 ≤ ts ∧ ts ≤ 100)
   (hret : ∀ t h' tk', Fr h₀ L h' m → News h₀ L h' news → Q (.int (indent sc ts) t) { s with heap := h', toks := tk' }) :
   wpAny (model PG w) (ktrTop dp un gd cn cs L a ccd cl outer) (call (.ref 98) [.ref x, .int ts tz]) Q E s := by
  obtain ⟨⟨A₀, base, B⟩, F, X, N, ⟨mean, mg, mb, T⟩, hk, hd, hu⟩ := H
  obtain ⟨d, T1, T2, vs, raw, tr, tn, tt, tb, k1, k2, k3, k4, k5, sm, a1, a2, a3, a4, hI⟩ := hw
  replace N := news_front4 N a1 a2 a3 a4
  have hMk : KstMark := kstMark
  obtain ⟨hb0, hb1, hcl⟩ := hok
  have hsz : (vs.toArray.size : Int) = (sc.cs.length : Int) := by rw [List.size_toArray, hI.length]
  k_with_none
  k_with "call builtin:len" => (k_dflt (refine PyProof.Rows.len_tuple (News.isTup (by k_asm) (.tail _ (.tail _ (.tail _ (.head _))))) (by rw [hsz]; omega) ?_); rw [hsz])
  k_with "pyIter ref" => (k_dflt (refine g_range (σ := Int × Tok) (fun _ => _) (fun c => [(Str.ofString "il", .int c.1 c.2)]) [] (fun i c => c.1 = ilSum sc.cs ts i) (0, _) rfl (by assumption) (small_one (by omega) (by omega) (by omega) (by omega)) rangeSize_to (by k_asm) (by k_asm) (by kst_all) rfl (hold ?_) (hold ?_)))
  refine wpAny_call ?_
  k_dflt cell_enter
  k_steps
  · rintro i t ⟨il, ti⟩ u h tk own hi hp hoff F2 N2
    dsimp only at hp N2
    obtain ⟨v, hv⟩ : ∃ v, vs[(ts + (i : Int)).toNat]? = some v := ⟨_, List.getElem?_eq_getElem (by rw [hI.length]; omega)⟩
    obtain ⟨tv, rfl⟩ := hI.int_at _ _ hv
    have hix : seqIndex? (ts + (i : Int)) vs.length = some (ts + (i : Int)).toNat := seqIndex_in (by omega) (by rw [hI.length]; omega)
    have hfd := fdiv_bounds (a := ts + (i : Int)) (b := ts) (by omega) (by omega)
    k_with "subscriptTail" => (k_dflt (refine item_tupleT (News.isTup (by k_asm) (.tail _ (.tail _ (.tail _ (.head _))))) (by omega) (by omega) hix hv ?_))
    k_with "binaryOp Mult int int" => (refine mul_int ?_ (IntMulOk.of_left (intBits_le_64 (by omega) (by omega))))
    k_steps
    refine g_end (own := own) (_, _) (by k_asm) (by k_asm) (fun p hp => List.mem_append_left own hp) (fun p hp => List.mem_append_right _ hp) (by exact hoff) (by kst_all) (by ktr_rel) ?_
    rw [ilSum_succ, ← hp]
  · rintro ⟨il, ti⟩ u h tk hp F2 N2
    dsimp only at hp N2
    subst hp
    k_steps
    exact hret _ _ _ (by k_asm) (news_sub (by assumption) (by tb_rel))

/-- a list's items are rows of three ints, kept in the ledger -/
inductive Rows3 (tl : List (Addr × Obj)) : List Value → List (Int × Int × Int) → Prop
  | nil : Rows3 tl [] []
  | snoc {vs : List Value} {rs : List (Int × Int × Int)} {D : Addr} {a b c : Int} {ta tb tc : Tok} : Rows3 tl vs rs → (D, tup [.int a ta, .int b tb, .int c tc]) ∈ tl → Rows3 tl (vs ++ [.ref D]) (rs ++ [(a, b, c)])
theorem Rows3.mono {tl tl' : List (Addr × Obj)} (hs : ∀ p ∈ tl, p ∈ tl') {vs : List Value} {rs : List (Int × Int × Int)} (h : Rows3 tl vs rs) : Rows3 tl' vs rs := by
  induction h with
  | nil => exact .nil
  | snoc _ hm ih => exact .snoc ih (hs _ hm)
theorem Rows3.length {tl : List (Addr × Obj)} {vs : List Value} {rs : List (Int × Int × Int)} (h : Rows3 tl vs rs) : vs.length = rs.length := by
  induction h with
  | nil => rfl
  | snoc _ _ ih => simp [ih]
structure RSt where
  vs : List Value
  nn : Nat
  tl : List (Addr × Obj)
def rowOf (sc1 sc2 : Sc) (ts : Int) : Int × Int × Int := (ts, indent sc1 ts, indent sc2 ts)
theorem filter_range_succ (p : Int → Bool) (i : Nat) : ((List.range (i + 1)).map fun (j : Nat) => (1 : Int) + j).filter p = ((List.range i).map fun (j : Nat) => (1 : Int) + j).filter p ++ (if p (1 + (i : Int)) then [1 + (i : Int)] else []) := by
  rw [List.range_succ, List.map_append, List.filter_append]
  cases h : p (1 + (i : Int)) <;> simp [h]
theorem mem_app {p : Addr × Obj} {a b c : List (Addr × Obj)} (h : p ∈ a) : p ∈ c ++ (b ++ a) := List.mem_append.mpr (.inr (List.mem_append.mpr (.inr h)))
theorem name5 {a b c d l : Nat} {news : List (Addr × Obj)} {p : Prop} (_h : a < l ∧ b < l ∧ c < l ∧ d < l ∧ AllLt l news) (k : ∀ z : Addr, z = l → p) : p := k l rfl
theorem wit_exit {h₀ h : Heap} {L : Addr} {D A b c d e : Addr × Obj} {tl news own : List (Addr × Obj)} (N : News h₀ L h (D :: A :: b :: c :: d :: e :: (tl ++ news ++ own))) : News h₀ L h ((A :: b :: c :: d :: e :: ((D :: tl) ++ news)) ++ own) := fun q hq => N q (by
  simp only [List.mem_append, List.mem_cons] at hq ⊢
  grind)
theorem own_row {own tl news : List (Addr × Obj)} {A A' b c d e D : Addr × Obj} (hA : A'.1 = A.1) (h : OwnOff own ((A :: b :: c :: d :: e :: (tl ++ news)).map (·.1))) (hD : AllLt D.1 own) : OwnOff own ((A' :: b :: c :: d :: e :: ((D :: tl) ++ news)).map (·.1)) := fun p hp z hz => by
  by_cases hzD : z = D.1
  · rw [hzD]; exact allNe_lt hD p hp
  · refine h p hp z ?_
    simp only [List.map_cons, List.map_append, List.mem_cons, List.mem_append] at hz ⊢
    grind
theorem done_exit {h₀ h : Heap} {L : Addr} {A b c d e : Addr × Obj} {tl news : List (Addr × Obj)} (N : News h₀ L h (A :: b :: c :: d :: e :: (tl ++ news))) : News h₀ L h (A :: (tl ++ news)) := fun q hq => N q (by
  simp only [List.mem_append, List.mem_cons] at hq ⊢
  grind)

/-- the rows that not_equal_witness makes -/
def rowsNe (sc1 sc2 : Sc) (n : Nat) : List (Int × Int × Int) := (((List.range n).map fun (j : Nat) => (1 : Int) + j).filter fun ts => decide (indent sc1 ts ≠ indent sc2 ts)).map (rowOf sc1 sc2)
theorem rowsNe_length (sc1 sc2 : Sc) (n : Nat) : (rowsNe sc1 sc2 n).length ≤ n := by
  unfold rowsNe
  rw [List.length_map]
  refine Nat.le_trans (List.length_filter_le _ _) ?_
  simp
theorem rowsNe_succ (sc1 sc2 : Sc) (i : Nat) : rowsNe sc1 sc2 (i + 1) = rowsNe sc1 sc2 i ++ (if (fun ts => decide (indent sc1 ts ≠ indent sc2 ts)) (1 + (i : Int)) = true then [rowOf sc1 sc2 (1 + (i : Int))] else []) := by
  unfold rowsNe
  rw [filter_range_succ, List.map_append]
  congr 1
  split <;> simp
/-- not_equal_witness -/
theorem not_equal_witness_spec (x y : Addr) (sc1 sc2 : Sc)
   (H : At 2 w dp un cs L outer h₀ m s news) (hw1 : WsAt w x sc1 news) (hok1 : ScOk 50 sc1) (hw2 : WsAt w y sc2 news) (hok2 : ScOk 50 sc2)
   (hret : ∀ l vs nn new h' tk', Fr h₀ L h' m → News h₀ L h' ((l, W.listOf vs.toArray nn) :: (new ++ news)) → Above news ((l, W.listOf vs.toArray nn) :: new) → Rows3 new vs (rowsNe sc1 sc2 (max (longest sc1) (longest sc2) + 1).toNat) → Q (.ref l) { s with heap := h', toks := tk' }) :
   wpAny (model PG w) (ktrTop dp un gd cn cs L a ccd cl outer) (call (.ref 112) [.ref x, .ref y]) Q E s := by
  obtain ⟨⟨A₀, base, B⟩, F, X, N, ⟨mean, mg, mb, T⟩, hk, hd, hu⟩ := H
  have hMk : KstMark := kstMark
  have hl1 : 0 ≤ longest sc1 ∧ longest sc1 ≤ 50 := by obtain ⟨h1, h2, h3⟩ := hok1; unfold longest; omega
  have hl2 : 0 ≤ longest sc2 ∧ longest sc2 ≤ 50 := by obtain ⟨h1, h2, h3⟩ := hok2; unfold longest; omega
  have hw1' := hw1
  have hw2' := hw2
  obtain ⟨d1, _, _, _, _, _, _, _, _, _, _, _, _, _, _, i1, j1, _, _, _⟩ := hw1
  obtain ⟨d2, _, _, _, _, _, _, _, _, _, _, _, _, _, _, i2, j2, _, _, _⟩ := hw2
  replace N := news_front4 N i1 j1 i2 j2
  have ho1 : ScOk 100 sc1 := ⟨hok1.1, by have := hok1.2.1; omega, by have := hok1.2.2; omega⟩
  have ho2 : ScOk 100 sc2 := ⟨hok2.1, by have := hok2.2.1; omega, by have := hok2.2.2; omega⟩
  k_with_none
  k_with "call ref" => (first
    | (k_dflt (refine longest_spec x sc1 (by tb_start) (by exact hw1'.mono (fun p hp => by simp [hp])) ho1 ?_); intro t9 h9 tk9 F9 N9)
    | (k_dflt (refine longest_spec y sc2 (by tb_start) (by exact hw2'.mono (fun p hp => by simp [hp])) ho2 ?_); intro t9 h9 tk9 F9 N9)
    | (k_dflt (refine indent_spec x sc1 _ _ (by tb_start) (by exact hw1'.mono (fun p hp => by simp [hp])) ho1 hts ?_); intro t9 h9 tk9 F9 N9)
    | (k_dflt (refine indent_spec y sc2 _ _ (by tb_start) (by exact hw2'.mono (fun p hp => by simp [hp])) ho2 hts ?_); intro t9 h9 tk9 F9 N9))
  k_with "pyIter ref" => (refine hold ?_)
  have hmx : (if longest sc2 > longest sc1 then longest sc2 else longest sc1) = max (longest sc1) (longest sc2) := by split <;> omega
  k_with "call builtin:max" => (k_dflt (refine max_two_N rfl (by k_asm) (by k_asm) ?_); intro h9 tk9 F9 N9; rw [hmx])
  refine wpAny_call ?_
  k_dflt cell_enter
  k_steps
  rename (_ ∧ _ ∧ _ ∧ _ ∧ AllLt _ news) => lL
  refine name5 lL fun l' e9 => ?_
  subst e9
  obtain ⟨q1, q2, q3, q4, q5⟩ := lL
  refine g_range (σ := RSt) (fun c => (l', W.listOf c.vs.toArray c.nn) :: (x, _) :: (d1, _) :: (y, _) :: (d2, _) :: (c.tl ++ news)) (fun _ => []) [] (fun i c => Rows3 c.tl c.vs (rowsNe sc1 sc2 i) ∧ (∀ p ∈ c.tl, @LT.lt Nat _ l' p.1)) ⟨[], 0, []⟩ rfl (by assumption) (small_one (by omega) (by omega) (by omega) (by omega)) rangeSize_to (by k_asm) (by k_asm) (by kst_all) ⟨.nil, fun _ hp => nomatch hp⟩ ?_ ?_
  · rintro i t ⟨vs, nn, tl⟩ u h tk own hi ⟨hr, hab⟩ hoff F2 N2
    dsimp only at hr hab N2
    simp only [List.cons_append] at N2
    have hts : 1 ≤ 1 + (i : Int) ∧ 1 + (i : Int) ≤ 100 := by omega
    have hne1 : ∀ p ∈ tl ++ news, p.1 ≠ l' := fun p hp => (List.mem_append.mp hp).elim (fun h => Nat.ne_of_gt (hab p h)) fun h => allNe_lt q5 p h
    have hne2 : ∀ p ∈ own, p.1 ≠ l' := fun p hp => hoff p hp _ (.head _)
    have hsz : vs.toArray.size ≤ sizeLine := by
      have := rowsNe_length sc1 sc2 i
      rw [List.size_toArray, hr.length, sizeLine_eq]; omega
    k_with "call builtin:list.append" => (k_dflt (refine' append_K ?k1 ?k2 ?k3 ?_ ?z; (case k1 => k_asm); (case k2 => k_asm); (case k3 => k_upd); (case z => exact hsz)); intro h9 F9 N9)
    k_steps
    · rename (_ ∧ _ ∧ _ ∧ _ ∧ _ ∧ AllLt _ (_ ++ _ ++ _)) => hA
      simp only [List.push_toArray] at N9
      refine g_end (own := own) ⟨_, nn + 1, _ :: tl⟩ (by k_asm) (wit_exit N9) (fun p hp => List.mem_append_left own hp) (fun p hp => List.mem_append_right _ hp) (own_row rfl hoff (allLt_append.mp hA.2.2.2.2.2).2) (by kst_all) (by ktr_rel) ⟨?_, ?_⟩
      · rw [rowsNe_succ, if_pos (by simp only [decide_eq_true_eq]; assumption)]
        exact .snoc (hr.mono fun _ h => .tail _ h) (.head _)
      · intro p hp
        rcases List.mem_cons.mp hp with rfl | hp
        · exact hA.1
        · exact hab p hp
    · refine g_end (own := own) ⟨vs, nn, tl⟩ (by k_asm) (by k_asm) (fun p hp => List.mem_append_left own hp) (fun p hp => List.mem_append_right _ hp) (by exact hoff) (by kst_all) (by ktr_rel) ⟨?_, hab⟩
      rw [rowsNe_succ, if_neg (by simp only [decide_eq_true_eq]; intro hq; exact hq (by assumption)), List.append_nil]
      exact hr
  · rintro ⟨vs, nn, tl⟩ u h tk ⟨hr, hab⟩ F2 N2
    dsimp only at hr hab N2
    have e9 : (max (longest sc1) (longest sc2) + 1 + 1 - 1).toNat = (max (longest sc1) (longest sc2) + 1).toNat := by congr 1; omega
    rw [e9] at hr
    k_steps
    refine hret l' vs nn tl _ _ (by k_asm) (done_exit (by k_asm)) (fun p hp q hq => ?_) hr
    have h1 := lt_of_allLt q5 q hq
    rcases List.mem_cons.mp hp with rfl | hp
    · exact h1
    · exact Nat.lt_trans h1 (hab p hp)

/-- the rows that not_less_witness makes -/
def rowsGe (sc1 sc2 : Sc) (n : Nat) : List (Int × Int × Int) := (((List.range n).map fun (j : Nat) => (1 : Int) + j).filter fun ts => decide (indent sc2 ts ≤ indent sc1 ts)).map (rowOf sc1 sc2)
theorem rowsGe_length (sc1 sc2 : Sc) (n : Nat) : (rowsGe sc1 sc2 n).length ≤ n := by
  unfold rowsGe
  rw [List.length_map]
  refine Nat.le_trans (List.length_filter_le _ _) ?_
  simp
theorem rowsGe_succ (sc1 sc2 : Sc) (i : Nat) : rowsGe sc1 sc2 (i + 1) = rowsGe sc1 sc2 i ++ (if (fun ts => decide (indent sc2 ts ≤ indent sc1 ts)) (1 + (i : Int)) = true then [rowOf sc1 sc2 (1 + (i : Int))] else []) := by
  unfold rowsGe
  rw [filter_range_succ, List.map_append]
  congr 1
  split <;> simp
/-- not_less_witness -/
theorem not_less_witness_spec (x y : Addr) (sc1 sc2 : Sc)
   (H : At 2 w dp un cs L outer h₀ m s news) (hw1 : WsAt w x sc1 news) (hok1 : ScOk 50 sc1) (hw2 : WsAt w y sc2 news) (hok2 : ScOk 50 sc2)
   (hret : ∀ l vs nn new h' tk', Fr h₀ L h' m → News h₀ L h' ((l, W.listOf vs.toArray nn) :: (new ++ news)) → Above news ((l, W.listOf vs.toArray nn) :: new) → Rows3 new vs (rowsGe sc1 sc2 (max (longest sc1) (longest sc2) + 1).toNat) → Q (.ref l) { s with heap := h', toks := tk' }) :
   wpAny (model PG w) (ktrTop dp un gd cn cs L a ccd cl outer) (call (.ref 126) [.ref x, .ref y]) Q E s := by
  obtain ⟨⟨A₀, base, B⟩, F, X, N, ⟨mean, mg, mb, T⟩, hk, hd, hu⟩ := H
  have hMk : KstMark := kstMark
  have hl1 : 0 ≤ longest sc1 ∧ longest sc1 ≤ 50 := by obtain ⟨h1, h2, h3⟩ := hok1; unfold longest; omega
  have hl2 : 0 ≤ longest sc2 ∧ longest sc2 ≤ 50 := by obtain ⟨h1, h2, h3⟩ := hok2; unfold longest; omega
  have hw1' := hw1
  have hw2' := hw2
  obtain ⟨d1, _, _, _, _, _, _, _, _, _, _, _, _, _, _, i1, j1, _, _, _⟩ := hw1
  obtain ⟨d2, _, _, _, _, _, _, _, _, _, _, _, _, _, _, i2, j2, _, _, _⟩ := hw2
  replace N := news_front4 N i1 j1 i2 j2
  have ho1 : ScOk 100 sc1 := ⟨hok1.1, by have := hok1.2.1; omega, by have := hok1.2.2; omega⟩
  have ho2 : ScOk 100 sc2 := ⟨hok2.1, by have := hok2.2.1; omega, by have := hok2.2.2; omega⟩
  k_with_none
  k_with "call ref" => (first
    | (k_dflt (refine longest_spec x sc1 (by tb_start) (by exact hw1'.mono (fun p hp => by simp [hp])) ho1 ?_); intro t9 h9 tk9 F9 N9)
    | (k_dflt (refine longest_spec y sc2 (by tb_start) (by exact hw2'.mono (fun p hp => by simp [hp])) ho2 ?_); intro t9 h9 tk9 F9 N9)
    | (k_dflt (refine indent_spec x sc1 _ _ (by tb_start) (by exact hw1'.mono (fun p hp => by simp [hp])) ho1 hts ?_); intro t9 h9 tk9 F9 N9)
    | (k_dflt (refine indent_spec y sc2 _ _ (by tb_start) (by exact hw2'.mono (fun p hp => by simp [hp])) ho2 hts ?_); intro t9 h9 tk9 F9 N9))
  k_with "pyIter ref" => (refine hold ?_)
  have hmx : (if longest sc2 > longest sc1 then longest sc2 else longest sc1) = max (longest sc1) (longest sc2) := by split <;> omega
  k_with "call builtin:max" => (k_dflt (refine max_two_N rfl (by k_asm) (by k_asm) ?_); intro h9 tk9 F9 N9; rw [hmx])
  refine wpAny_call ?_
  k_dflt cell_enter
  k_steps
  rename (_ ∧ _ ∧ _ ∧ _ ∧ AllLt _ news) => lL
  refine name5 lL fun l' e9 => ?_
  subst e9
  obtain ⟨q1, q2, q3, q4, q5⟩ := lL
  refine g_range (σ := RSt) (fun c => (l', W.listOf c.vs.toArray c.nn) :: (x, _) :: (d1, _) :: (y, _) :: (d2, _) :: (c.tl ++ news)) (fun _ => []) [] (fun i c => Rows3 c.tl c.vs (rowsGe sc1 sc2 i) ∧ (∀ p ∈ c.tl, @LT.lt Nat _ l' p.1)) ⟨[], 0, []⟩ rfl (by assumption) (small_one (by omega) (by omega) (by omega) (by omega)) rangeSize_to (by k_asm) (by k_asm) (by kst_all) ⟨.nil, fun _ hp => nomatch hp⟩ ?_ ?_
  · rintro i t ⟨vs, nn, tl⟩ u h tk own hi ⟨hr, hab⟩ hoff F2 N2
    dsimp only at hr hab N2
    simp only [List.cons_append] at N2
    have hts : 1 ≤ 1 + (i : Int) ∧ 1 + (i : Int) ≤ 100 := by omega
    have hne1 : ∀ p ∈ tl ++ news, p.1 ≠ l' := fun p hp => (List.mem_append.mp hp).elim (fun h => Nat.ne_of_gt (hab p h)) fun h => allNe_lt q5 p h
    have hne2 : ∀ p ∈ own, p.1 ≠ l' := fun p hp => hoff p hp _ (.head _)
    have hsz : vs.toArray.size ≤ sizeLine := by
      have := rowsGe_length sc1 sc2 i
      rw [List.size_toArray, hr.length, sizeLine_eq]; omega
    k_with "call builtin:list.append" => (k_dflt (refine' append_K ?k1 ?k2 ?k3 ?_ ?z; (case k1 => k_asm); (case k2 => k_asm); (case k3 => k_upd); (case z => exact hsz)); intro h9 F9 N9)
    k_steps
    · rename (_ ∧ _ ∧ _ ∧ _ ∧ _ ∧ AllLt _ (_ ++ _ ++ _)) => hA
      simp only [List.push_toArray] at N9
      refine g_end (own := own) ⟨_, nn + 1, _ :: tl⟩ (by k_asm) (wit_exit N9) (fun p hp => List.mem_append_left own hp) (fun p hp => List.mem_append_right _ hp) (own_row rfl hoff (allLt_append.mp hA.2.2.2.2.2).2) (by kst_all) (by ktr_rel) ⟨?_, ?_⟩
      · rw [rowsGe_succ, if_pos (by simp only [decide_eq_true_eq]; assumption)]
        exact .snoc (hr.mono fun _ h => .tail _ h) (.head _)
      · intro p hp
        rcases List.mem_cons.mp hp with rfl | hp
        · exact hA.1
        · exact hab p hp
    · refine g_end (own := own) ⟨vs, nn, tl⟩ (by k_asm) (by k_asm) (fun p hp => List.mem_append_left own hp) (fun p hp => List.mem_append_right _ hp) (by exact hoff) (by kst_all) (by ktr_rel) ⟨?_, hab⟩
      rw [rowsGe_succ, if_neg (by simp only [decide_eq_true_eq]; assumption), List.append_nil]
      exact hr
  · rintro ⟨vs, nn, tl⟩ u h tk ⟨hr, hab⟩ F2 N2
    dsimp only at hr hab N2
    have e9 : (max (longest sc1) (longest sc2) + 1 + 1 - 1).toNat = (max (longest sc1) (longest sc2) + 1).toNat := by congr 1; omega
    rw [e9] at hr
    k_steps
    refine hret l' vs nn tl _ _ (by k_asm) (done_exit (by k_asm)) (fun p hp q hq => ?_) hr
    have h1 := lt_of_allLt q5 q hq
    rcases List.mem_cons.mp hp with rfl | hp
    · exact h1
    · exact Nat.lt_trans h1 (hab p hp)

/-- equal -/
theorem equal_spec (x y : Addr) (sc1 sc2 : Sc)
   (H : At 1 w dp un cs L outer h₀ m s news) (hw1 : WsAt w x sc1 news) (hok1 : ScOk 100 sc1) (hw2 : WsAt w y sc2 news) (hok2 : ScOk 100 sc2)
   (hret : ∀ h' tk', Fr h₀ L h' m → News h₀ L h' news → Q (.bool (decide (sc1.cs = sc2.cs ∧ sc1.b = sc2.b))) { s with heap := h', toks := tk' }) :
   wpAny (model PG w) (ktrTop dp un gd cn cs L a ccd cl outer) (call (.ref 105) [.ref x, .ref y]) Q E s := by
  obtain ⟨⟨A₀, base, B⟩, F, X, N, ⟨mean, mg, mb, T⟩, hk, hd, hu⟩ := H
  have hMk : KstMark := kstMark
  obtain ⟨d1, T1, T2, vs, _, _, _, _, _, _, _, _, _, _, _, i1, j1, k1, l1, hI⟩ := hw1
  obtain ⟨d2, U1, U2, us, _, _, _, _, _, _, _, _, _, _, _, i2, j2, k2, l2, hJ⟩ := hw2
  replace N := news_front4 (news_front4 N i2 j2 k2 l2) (.tail _ (.tail _ (.tail _ (.tail _ i1)))) (.tail _ (.tail _ (.tail _ (.tail _ j1)))) (.tail _ (.tail _ (.tail _ (.tail _ k1)))) (.tail _ (.tail _ (.tail _ (.tail _ l1))))
  have hsh : ∀ (ns : List Int) (b : Int), SeqAt.shaped (.tuple [.tuple (ns.map PyData.int), .int b]) = true := fun ns b => by
    simp [SeqAt.shaped, PyData.canLay0, PyData.canLayAll0, PyData.depth, PyData.depthAll, ke_canLayAll0, ke_depthAll]
  have hev : PyData.eqv (.tuple [.tuple (sc1.cs.map PyData.int), .int sc1.b]) (.tuple [.tuple (sc2.cs.map PyData.int), .int sc2.b]) = decide (sc1.cs = sc2.cs ∧ sc1.b = sc2.b) := by
    simp only [PyData.eqv, PyData.eqvAll, ked_eqvAll, Bool.and_true]
    by_cases p : sc1.cs = sc2.cs <;> by_cases q : sc1.b = sc2.b <;> simp [p, q]
  k_with_none
  k_with "compareOp Eq ref ref" => (k_dflt (refine eq_dataH (reads_tuple_at (News.get (by k_asm) (.tail _ (.tail _ (.head _)))) rfl rfl (ReadsAll.cons (reads_tuple_at (News.get (by k_asm) (.tail _ (.tail _ (.tail _ (.head _))))) rfl rfl (readsAll_of_ints hI)) (ReadsAll.cons (Reads.int _ _) ReadsAll.nil))) (reads_tuple_at (News.get (by k_asm) (.tail _ (.tail _ (.tail _ (.tail _ (.tail _ (.tail _ (.head _)))))))) rfl rfl (ReadsAll.cons (reads_tuple_at (News.get (by k_asm) (.tail _ (.tail _ (.tail _ (.tail _ (.tail _ (.tail _ (.tail _ (.head _))))))))) rfl rfl (readsAll_of_ints hJ)) (ReadsAll.cons (Reads.int _ _) ReadsAll.nil))) (hsh _ _) (hsh _ _) (by ktr_units) ?_); rw [hev])
  refine wpAny_call ?_
  k_dflt cell_enter
  k_steps
  exact hret _ _ (by k_asm) (news_sub (by assumption) (fun p hp => .tail _ (.tail _ (.tail _ (.tail _ (.tail _ (.tail _ (.tail _ (.tail _ hp)))))))))

/-- the number of those up to it -/
def cntR (n : Int) : Int := if n < 2 then 0 else if n < 3 then 1 else if n < 4 then 2 else if n < 5 then 3 else if n < 7 then 4 else if n < 8 then 5 else if n < 9 then 6 else if n < 11 then 7 else 8
def pwAt (i : Nat) : Int := (PW.getD i (0, 0)).1
theorem cntR_all : ∀ k : Nat, k < 9 → ∀ n : Nat, n < 101 → ((k : Int) = 0 ∨ pwAt ((k : Int) - 1).toNat ≤ (n : Int)) → ((k : Int) = 8 ∨ (n : Int) < pwAt (k : Int).toNat) → (k : Int) = cntR (n : Int) := by decide +kernel
theorem cntR_of {k n : Int} (hn : 0 ≤ n ∧ n ≤ 100) (h0 : 0 ≤ k) (h8 : k ≤ 8) (h1 : k = 0 ∨ pwAt (k - 1).toNat ≤ n) (h2 : k = 8 ∨ n < pwAt k.toNat) : k = cntR n := by
  obtain ⟨k, rfl⟩ := Int.eq_ofNat_of_zero_le h0
  obtain ⟨n, rfl⟩ := Int.eq_ofNat_of_zero_le hn.1
  exact cntR_all k (Nat.lt_succ_of_le (Int.ofNat_le.mp h8)) n (Nat.lt_succ_of_le (Int.ofNat_le.mp hn.2)) h1 h2
theorem pw_all : ∀ i : Nat, i < 8 → ∀ p ∈ PW[i]?, pwAt i = p.1 ∧ 0 ≤ p.2 ∧ p.2 ≤ p.1 := by decide
theorem pw_get {i : Nat} {p : Int × Int} (h : PW[i]? = some p) : pwAt i = p.1 ∧ 0 ≤ p.2 ∧ p.2 ≤ p.1 := pw_all i (List.getElem?_eq_some_iff.mp h).1 p h

/-- the prime of a prime power, else 1 -/
def primeOf (n : Int) : Int := if n = 2 then 2 else if n = 3 then 3 else if n = 4 then 2 else if n = 5 then 5 else if n = 7 then 7 else if n = 8 then 2 else if n = 9 then 3 else if n = 11 then 11 else 1
theorem pw_primes : ∀ i : Nat, i < 8 → ∀ p ∈ PW[i]?, primeOf p.1 = p.2 := by decide
theorem pw_prime {i : Nat} {p : Int × Int} (h : PW[i]? = some p) : primeOf p.1 = p.2 := pw_primes i (List.getElem?_eq_some_iff.mp h).1 p h
theorem prime_nones : ∀ k : Nat, k < 9 → ∀ n : Nat, n < 101 → ((k : Int) = 0 ∨ pwAt ((k : Int) - 1).toNat < (n : Int)) → ((k : Int) = 8 ∨ (n : Int) < pwAt (k : Int).toNat) → primeOf (n : Int) = 1 := by decide +kernel
theorem prime_none {k n : Int} (hn : 1 ≤ n ∧ n ≤ 100) (h0 : 0 ≤ k) (h8 : k ≤ 8) (h1 : k = 0 ∨ pwAt (k - 1).toNat < n) (h2 : k = 8 ∨ n < pwAt k.toNat) : primeOf n = 1 := by
  obtain ⟨k, rfl⟩ := Int.eq_ofNat_of_zero_le h0
  obtain ⟨n, rfl⟩ := Int.eq_ofNat_of_zero_le (Int.le_trans (by decide) hn.1)
  exact prime_nones k (Nat.lt_succ_of_le (Int.ofNat_le.mp h8)) n (Nat.lt_succ_of_le (Int.ofNat_le.mp hn.2)) h1 h2
structure BSt where
  lo : Int
  hi : Int
  tl : Tok
  th : Tok
/-- _law_prime -/
theorem prime_spec (l : Addr) (vs : List Value) (nn : Nat) (n : Int) (tn : Tok)
   (H : At 3 w dp un cs L outer h₀ m s news) (hm : (l, W.listOf vs.toArray nn) ∈ news) (hp : All2 (PairR news) vs PW) (hn : 1 ≤ n ∧ n ≤ 100)
   (hret : ∀ t h' tk', Fr h₀ L h' m → News h₀ L h' news → Q (.int (primeOf n) t) { s with heap := h', toks := tk' }) :
   wpAny (model PG w) (ktrTop dp un gd cn cs L a ccd cl outer) (call (.ref 147) [.ref l, .int n tn]) Q E s := by
  obtain ⟨⟨A₀, base, B⟩, F, X, N, ⟨mean, mg, mb, T⟩, hk, hd, hu⟩ := H
  replace N := news_front N hm
  have hl8 : vs.length = 8 := hp.length
  have hlz : (vs.toArray.size : Int) = 8 := by rw [List.size_toArray, hl8]; rfl
  k_with_none
  k_with "exec While Compare cons nil" => (refine hold ?_)
  k_with "exec While Compare" => (refine hold ?_)
  k_with "call builtin:len" => (k_dflt (refine kst_len (by k_asm) (by k_mem) hl8 (by decide) ?_))
  refine wpAny_call ?_
  k_dflt cell_enter
  k_steps
  unfold Hold
  refine ksw_while (σ := BSt) (fun _ => _) (fun c => [(Str.ofString "lo", .int c.lo c.tl), (Str.ofString "hi", .int c.hi c.th)]) (fun _ => True) [Str.ofString "mid"]
    (fun c => 0 ≤ c.lo ∧ c.lo ≤ c.hi ∧ c.hi ≤ 8 ∧ (c.lo = 0 ∨ pwAt (c.lo - 1).toNat < n) ∧ (c.hi = 8 ∨ n ≤ pwAt c.hi.toNat)) (fun c => (c.hi - c.lo).toNat) ⟨0, 8, _, _⟩ (by k_asm) (by k_asm) trivial (by kst_all) ⟨by show (0 : Int) ≤ 0; decide, by show (0 : Int) ≤ 8; decide, by show (8 : Int) ≤ 8; decide, .inl rfl, .inl rfl⟩ ?_
  rintro ⟨lo, hi, tl, th⟩ u h tk _ ⟨b0, b1, b2, b3, b4⟩ F2 N2
  dsimp only at b0 b1 b2 b3 b4
  rcases (by omega : lo < hi ∨ hi ≤ lo) with hlt | hge
  · have hfd : (lo + hi).fdiv 2 = (lo + hi) / 2 := Int.fdiv_eq_ediv_of_nonneg _ (by omega)
    obtain ⟨v, hv⟩ : ∃ v, vs[((lo + hi).fdiv 2).toNat]? = some v := ⟨_, List.getElem?_eq_getElem (by rw [hl8, hfd]; omega)⟩
    obtain ⟨p, hpp, D, t9, u9, n9, rfl, hD⟩ := hp.get hv
    obtain ⟨e1, e2, e3⟩ := pw_get hpp
    replace N2 := news_front N2 (.tail _ (.tail _ hD))
    k_with "subscriptTail" => (k_dflt (refine item_litK (News.isList (by k_asm) (by k_mem)) (by omega) (by omega) hv ?_))
    k_with "compareOp Lt ref ref" => (k_dflt (refine tuple_lt2 (News.get (by k_asm) (by k_mem)) rfl rfl (News.get (by k_asm) (by k_mem)) rfl rfl (by ktr_units) ?_); rw [lex_left e2])
    k_steps
    · rename ((_ : Int) < n) => hq
      refine ksw_end ⟨_, _, _, _⟩ (by k_asm) (by k_asm) (fun _ hp => .tail _ hp) trivial (by kst_all) (by ktr_unf) ⟨?_, ?_, ?_, .inr ?_, ?_⟩ ?_
      all_goals dsimp only
      all_goals try omega
      rw [show (lo + hi).fdiv 2 + 1 - 1 = (lo + hi).fdiv 2 from by omega, e1]
      exact hq
    · rename (¬ (_ : Int) < n) => hq
      refine ksw_end ⟨_, _, _, _⟩ (by k_asm) (by k_asm) (fun _ hp => .tail _ hp) trivial (by kst_all) (by ktr_unf) ⟨?_, ?_, ?_, ?_, .inr ?_⟩ ?_
      all_goals dsimp only
      all_goals try omega
  · obtain rfl : hi = lo := by omega
    rcases (by omega : hi < 8 ∨ hi = 8) with h8 | h8
    · obtain ⟨v, hv⟩ : ∃ v, vs[hi.toNat]? = some v := ⟨_, List.getElem?_eq_getElem (by rw [hl8]; omega)⟩
      obtain ⟨p, hpp, D, t9, u9, n9, rfl, hD⟩ := hp.get hv
      obtain ⟨e1, e2, e3⟩ := pw_get hpp
      replace N2 := news_front N2 (.tail _ (.tail _ hD))
      k_with "subscriptTail" => (first | (k_dflt (refine item_litK (News.isList (by k_asm) (by k_mem)) (by omega) (by omega) hv ?_)) | (k_dflt (refine item_tupleT (l := [.int p.1 t9, .int p.2 u9]) (News.isTup (by k_asm) (by k_mem)) (by decide) (by decide) rfl rfl ?_)))
      k_steps
      · rename (p.1 = n) => hq
        rw [← pw_prime hpp, hq]
        exact hret _ _ _ (by k_asm) (news_sub (by assumption) (by tb_rel))
      · rename (¬ p.1 = n) => hq
        rw [← prime_none hn b0 b2 b3 (by omega)]
        exact hret _ _ _ (by k_asm) (news_sub (by assumption) (by tb_rel))
    · k_steps
      rw [← prime_none hn b0 b2 b3 (by omega)]
      exact hret _ _ _ (by k_asm) (news_sub (by assumption) (by tb_rel))

/-- _law_common -/
theorem common_spec (l : Addr) (vs : List Value) (nn : Nat) (n : Int) (tn : Tok)
   (H : At 3 w dp un cs L outer h₀ m s news) (hm : (l, W.listOf vs.toArray nn) ∈ news) (hp : All2 (PairR news) vs PW) (hn : 0 ≤ n ∧ n ≤ 100)
   (hret : ∀ t h' tk', Fr h₀ L h' m → News h₀ L h' news → Q (.int (lprod ((PW.take (cntR n).toNat).map (·.2))) t) { s with heap := h', toks := tk' }) :
   wpAny (model PG w) (ktrTop dp un gd cn cs L a ccd cl outer) (call (.ref 164) [.ref l, .int n tn]) Q E s := by
  obtain ⟨⟨A₀, base, B⟩, F, X, N, ⟨mean, mg, mb, T⟩, hk, hd, hu⟩ := H
  replace N := news_front N hm
  have hl8 : vs.length = 8 := hp.length
  k_with_none
  k_with "eval ListComp" => (k_dflt (refine comp_eval (by k_asm) (by with_unfolding_all rfl) (by decide) (by rfl) (by decide) ?_))
  k_with "exec While Compare cons nil" => (refine hold ?_)
  k_with "exec While Compare" => (refine hold ?_)
  k_with "call builtin:len" => (k_dflt (refine kst_len (by k_asm) (by k_mem) hl8 (by decide) ?_))
  refine wpAny_call ?_
  k_dflt cell_enter
  k_steps
  unfold Hold
  refine ksw_while (σ := BSt) (fun _ => _) (fun c => [(Str.ofString "lo", .int c.lo c.tl), (Str.ofString "hi", .int c.hi c.th)]) (fun _ => True) [Str.ofString "mid"]
    (fun c => 0 ≤ c.lo ∧ c.lo ≤ c.hi ∧ c.hi ≤ 8 ∧ (c.lo = 0 ∨ pwAt (c.lo - 1).toNat ≤ n) ∧ (c.hi = 8 ∨ n < pwAt c.hi.toNat)) (fun c => (c.hi - c.lo).toNat) ⟨0, 8, _, _⟩ (by k_asm) (by k_asm) trivial (by kst_all) ⟨by show (0 : Int) ≤ 0; decide, by show (0 : Int) ≤ 8; decide, by show (8 : Int) ≤ 8; decide, .inl rfl, .inl rfl⟩ ?_
  rintro ⟨lo, hi, tl, th⟩ u h tk _ ⟨b0, b1, b2, b3, b4⟩ F2 N2
  dsimp only at b0 b1 b2 b3 b4
  rcases (by omega : lo < hi ∨ hi ≤ lo) with hlt | hge
  · have hfd : (lo + hi).fdiv 2 = (lo + hi) / 2 := Int.fdiv_eq_ediv_of_nonneg _ (by omega)
    obtain ⟨v, hv⟩ : ∃ v, vs[((lo + hi).fdiv 2).toNat]? = some v := ⟨_, List.getElem?_eq_getElem (by rw [hl8, hfd]; omega)⟩
    obtain ⟨p, hpp, D, t9, u9, n9, rfl, hD⟩ := hp.get hv
    obtain ⟨e1, e2, e3⟩ := pw_get hpp
    replace N2 := news_front N2 (.tail _ (.tail _ hD))
    k_with "subscriptTail" => (k_dflt (refine item_litK (News.isList (by k_asm) (by k_mem)) (by omega) (by omega) hv ?_))
    k_with "compareOp Lt ref ref" => (k_dflt (refine tuple_lt2 (News.get (by k_asm) (by k_mem)) rfl rfl (News.get (by k_asm) (by k_mem)) rfl rfl (by ktr_units) ?_); rw [lex_right e3])
    k_steps
    · rename (n < (_ : Int)) => hq
      refine ksw_end ⟨_, _, _, _⟩ (by k_asm) (by k_asm) (fun _ hp => .tail _ hp) trivial (by kst_all) (by ktr_unf) ⟨?_, ?_, ?_, ?_, .inr ?_⟩ ?_
      all_goals dsimp only
      all_goals try omega
    · rename (¬ n < (_ : Int)) => hq
      refine ksw_end ⟨_, _, _, _⟩ (by k_asm) (by k_asm) (fun _ hp => .tail _ hp) trivial (by kst_all) (by ktr_unf) ⟨?_, ?_, ?_, .inr ?_, ?_⟩ ?_
      all_goals dsimp only
      all_goals try omega
      rw [show (lo + hi).fdiv 2 + 1 - 1 = (lo + hi).fdiv 2 from by omega, e1]
      omega
  · obtain rfl : hi = lo := by omega
    obtain rfl : hi = cntR n := cntR_of hn b0 b2 b3 b4
    have hsl : slicePick vs.toArray none (some (cntR n)) none = (vs.take (cntR n).toNat).toArray := by
      have := slicePick_upto' vs.toArray (cntR n).toNat
      rwa [Int.toNat_of_nonneg b0] at this
    k_with "subscriptTail" => fail
    k_steps
    rename News _ _ _ _ => NN
    rw [hsl] at NN
    have hpt := hp.take (cntR n).toNat
    refine .inl ⟨_, (vs.take (cntR n).toNat).toArray, _, (fun i ys nw => nw = _ ∧ IntsAre ys (((PW.take (cntR n).toNat).take i).map (·.2))), rfl, rfl, (by k_asm), NN, .inr ⟨_, .head _, rfl, _, rfl⟩, ?_, ⟨rfl, .nil⟩, (fun _ _ _ _ _ _ _ _ hQ => wpAny_pure hQ), ?_⟩
    · rw [List.size_toArray, List.length_take, hl8, sizeLine_eq]; omega
    rintro s₂ ⟨hh2, rfl⟩
    refine ⟨cturn_name (by decide) (by rfl) (by rfl) ?_, ?_⟩
    · rintro i v ys nw hv ⟨rfl, hys⟩ hS
      obtain ⟨p, hpp, D9, t9, u9, n9, rfl, hD⟩ := hpt.get (i := i) (v := v) (by simpa using hv)
      intro I oI C oC m₂ D h tk E' hoC hx F2 N2 off hne
      dsimp only
      replace N2 := news_front N2 (.tail _ (.tail _ (.tail _ (.tail _ (.tail _ (.tail _ hD))))))
      k_with "subscriptTail" => (k_dflt (refine item_tupleT (l := [.int p.1 t9, .int p.2 u9]) (News.isTup (by k_asm) (.head _)) (by decide) (by decide) rfl rfl ?_))
      k_steps
      refine cend_intro _ (by k_asm) hoC (by k_asm) (fun _ h => .tail _ h) off hS ⟨rfl, ?_⟩
      rw [List.take_add_one, hpp, List.map_append]
      exact hys.append (.cons _ _ .nil)
    · rintro ys nw ⟨rfl, hys⟩ D h tk F2 N2 off1
      have hlt8 : (PW.take (cntR n).toNat).length = (vs.take (cntR n).toNat).length := hpt.length.symm
      rw [List.size_toArray, ← hlt8, List.take_length] at hys
      have hb2 : ∀ x ∈ (PW.take (cntR n).toNat).map (·.2), -(2 ^ 64) < x ∧ x < 2 ^ 64 := by
        intro x hx
        obtain ⟨p, hp, rfl⟩ := List.mem_map.mp hx
        have hp' := List.mem_of_mem_take hp
        have : ∀ p ∈ PW, -(2 ^ 64) < p.2 ∧ p.2 < 2 ^ 64 := by decide
        exact this p hp'
      k_with "call ref" => (k_dflt (refine product_spec _ _ _ _ (by tb_start) (.head _) hys hb2 ?_); intro t9 h9 tk9 F9 N9)
      k_steps
      exact hret _ _ _ (by k_asm) (news_sub (by assumption) (by tb_rel))

theorem set_V {prog : Program} {A : Around} {h₀ : Heap} {L D : Addr} {m : Str → Option Value} {news news' : List (Addr × Obj)} {vs : List Value} {n : Nat} {k : Int} {v : Value} {t : Tok} {s : Shared} {E : Value → Shared → Prop} {Q : Unit → Shared → Prop} (F : Fr h₀ L s.heap m) (N : News h₀ L s.heap news) (U : Upd D (W.listOf vs.toArray n) (W.listOf (vs.set k.toNat v).toArray n) news news') (h0 : 0 ≤ k) (h1 : k < vs.length) (hfit : k < 2 ^ 63)
    (h : ∀ h', Fr h₀ L h' m → News h₀ L h' news' → Q () { s with heap := h' }) :
    wpAny (model prog w) A (setItem (.ref D) (.int k t) v) Q E s := by
  obtain ⟨pre, post, rfl, rfl, a, b⟩ := U.split
  have z := N (D, W.listOf vs.toArray n) (List.mem_append.mpr (.inr (.head _)))
  have hs : vs.toArray.size = vs.length := by rw [List.size_toArray]
  refine ki_setAt z.1 h0 hfit (by omega) (h _ (F.change (Heap.SameBut.update ..) z.2.1 z.2.2) (ki_turn _ N a b ?_ ?_))
  · show vs.toArray.setIfInBounds k.toNat v = (vs.set k.toNat v).toArray
    apply Array.toList_inj.mp
    simp
  · simp
theorem All2.set {α : Type} {R : Value → α → Prop} {v : Value} {x : α} (hx : R v x) : ∀ {vs : List Value} {xs : List α}, All2 R vs xs → ∀ k : Nat, All2 R (vs.set k v) (xs.set k x)
  | _, _, .nil, _ => .nil
  | _, _, .cons _ r, 0 => .cons hx r
  | _, _, .cons a r, k + 1 => .cons a (All2.set hx r k)
/-- _siftdown's loop, from startpos 0: the item x stands to be laid at pos -/
def sdGo (x : Int × Int) : Nat → List (Int × Int) → Nat → List (Int × Int)
  | 0, ps, pos => ps.set pos x
  | f + 1, ps, pos => if pos = 0 then ps.set pos x else
    let y := ps.getD ((pos - 1) / 2) (0, 0)
    if lexLt x.1 x.2 y.1 y.2 = true then sdGo x f (ps.set pos y) ((pos - 1) / 2) else ps.set pos x
structure SdSt where
  vs : List Value
  ps : List (Int × Int)
  pos : Nat
  tp : Tok
theorem siftdown_spec (c : Addr) (vs : List Value) (nn : Nat) (ps : List (Int × Int)) (pos : Nat) (tp tz : Tok)
   (H : At 1 w dp un cs L outer h₀ m s ((c, W.listOf vs.toArray nn) :: news)) (hne : ∀ p ∈ news, p.1 ≠ c) {R : Value → Int × Int → Prop} (hR : ∀ v p, R v p → PairR news v p) (hp : All2 R vs ps) (hl : vs.length ≤ 100) (hpos : pos < vs.length)
   (hret : ∀ vs' h' tk', Fr h₀ L h' m → News h₀ L h' ((c, W.listOf vs'.toArray nn) :: news) → vs'.length = vs.length → All2 R vs' (sdGo (ps.getD pos (0, 0)) pos ps pos) → Q .none { s with heap := h', toks := tk' }) :
   wpAny (model PG w) (ktrTop dp un gd cn cs L a ccd cl outer) (call (.ref 60) [.ref c, .int 0 tz, .int pos tp]) Q E s := by
  obtain ⟨⟨A₀, base, B⟩, F, X, N, ⟨mean, mg, mb, T⟩, hk, hd, hu⟩ := H
  obtain ⟨v, hv⟩ : ∃ v, vs[(pos : Int).toNat]? = some v := ⟨_, List.getElem?_eq_getElem (by simpa using hpos)⟩
  obtain ⟨x, hx, hRx⟩ := hp.get hv
  obtain ⟨D, t9, u9, n9, rfl, hD⟩ := hR _ _ hRx
  have hxg : ps.getD pos (0, 0) = x := by
    have : ps[pos]? = some x := by simpa using hx
    rw [List.getD_eq_getElem?_getD, this]; rfl
  rw [hxg] at hret
  have hDc : D ≠ c := hne _ hD
  k_with_none
  k_with "exec While Compare cons nil" => (refine hold ?_)
  k_with "exec While Compare" => (refine hold ?_)
  k_with "subscriptTail" => (k_dflt (refine item_litK (News.isList (by k_asm) (by k_mem)) (by omega) (by omega) hv ?_))
  refine wpAny_call ?_
  k_dflt cell_enter
  k_steps
  unfold Hold
  refine ksw_while (σ := SdSt) (fun c' => (c, W.listOf c'.vs.toArray nn) :: _) (fun c' => [(Str.ofString "pos", .int c'.pos c'.tp)]) (fun _ => True) [Str.ofString "parentpos", Str.ofString "parent"]
    (fun c' => c'.vs.length = vs.length ∧ c'.pos < vs.length ∧ All2 R c'.vs c'.ps ∧ ∃ f, c'.pos ≤ f ∧ sdGo x f c'.ps c'.pos = sdGo x pos ps pos) (fun c' => c'.pos) ⟨vs, ps, pos, tp⟩ (by k_asm) (by k_asm) trivial (by kst_all) ⟨rfl, hpos, hp, pos, Nat.le_refl _, rfl⟩ ?_
  rintro ⟨vs', ps', pos', tp'⟩ u h tk _ ⟨b0, b1, b2, f, b3, b4⟩ F2 N2
  dsimp only at b0 b1 b2 b3 b4 F2 N2
  have hlen' : vs'.length = ps'.length := b2.length
  replace N2 := news_front N2 (.tail _ hD)
  k_with "setItem ref int" => (k_dflt (refine set_V (by k_asm) (by k_asm) (by k_upd) (by omega) (by omega) (by omega) ?_); intro h9 F9 N9)
  k_with "setItem ref" => (k_dflt (refine set_V (by k_asm) (by k_asm) (by k_upd) (by omega) (by omega) (by omega) ?_); intro h9 F9 N9)
  rcases Nat.eq_zero_or_pos pos' with rfl | hps
  · k_steps
    have he : sdGo x f ps' 0 = ps'.set 0 x := by cases f <;> simp [sdGo]
    refine hret _ _ _ (by k_asm) (news_back (by assumption)) (by simpa using b0) ?_
    rw [← b4, he]
    exact b2.set hRx 0
  · have hq : ((pos' : Int) - 1).fdiv (2 ^ Int.toNat 1) = (((pos' - 1) / 2 : Nat) : Int) := by
      rw [Int.fdiv_eq_ediv_of_nonneg _ (by decide)]
      show ((pos' : Int) - 1) / 2 = _
      omega
    have hq2 : (((pos' : Int) - 1).fdiv (2 ^ Int.toNat 1)).toNat = (pos' - 1) / 2 := by rw [hq]; rfl
    have hlt : (pos' - 1) / 2 < pos' := by omega
    obtain ⟨v', hv'⟩ : ∃ v', vs'[(((pos' : Int) - 1).fdiv (2 ^ Int.toNat 1)).toNat]? = some v' := ⟨_, List.getElem?_eq_getElem (by rw [hq2]; omega)⟩
    obtain ⟨y, hy, hRy⟩ := b2.get hv'
    obtain ⟨D', t8, u8, n8, rfl, hD'⟩ := hR _ _ hRy
    have hyg : ps'.getD ((pos' - 1) / 2) (0, 0) = y := by
      rw [List.getD_eq_getElem?_getD, ← hq2, hy]; rfl
    have hDc' : D' ≠ c := hne _ hD'
    replace N2 := news_front N2 (.tail _ (.tail _ hD'))
    obtain ⟨f, rfl⟩ : ∃ f', f = f' + 1 := ⟨f - 1, by omega⟩
    rw [sdGo, if_neg (by omega)] at b4
    simp only [hyg] at b4
    k_with "subscriptTail" => (k_dflt (refine item_litK (News.isList (by k_asm) (by k_mem)) (by rw [hq]; omega) (by rw [hq]; omega) hv' ?_))
    rcases Bool.eq_false_or_eq_true (lexLt x.1 x.2 y.1 y.2) with hlx | hlx
    · rw [if_pos hlx] at b4
      k_with "compareOp Lt ref ref" => (k_dflt (refine tuple_lt2 (News.get (by k_asm) (by k_mem)) rfl rfl (News.get (by k_asm) (by k_mem)) rfl rfl (by ktr_units) ?_); rw [hlx])
      k_steps
      refine ksw_end ⟨vs'.set pos' (.ref D'), ps'.set pos' y, (pos' - 1) / 2, _⟩ (by k_asm) (by k_asm) (by tb_rel) trivial (by show ∀ p ∈ [(Str.ofString "pos", Value.int (((pos' - 1) / 2 : Nat) : Int) _)], _; rw [← hq]; kst_all) (by ktr_unf) ⟨by simpa using b0, by dsimp only; omega, b2.set hRy _, f, by dsimp only; omega, b4⟩ hlt
    · rw [if_neg (by rw [hlx]; decide)] at b4
      k_with "compareOp Lt ref ref" => (k_dflt (refine tuple_lt2 (News.get (by k_asm) (by k_mem)) rfl rfl (News.get (by k_asm) (by k_mem)) rfl rfl (by ktr_units) ?_); rw [hlx])
      k_steps
      refine hret _ _ _ (by k_asm) (news_back (news_back (by assumption))) (by simpa using b0) ?_
      rw [← b4]
      exact b2.set hRx _

/-- _siftup's loop: the smaller child goes up, and the place goes down -/
def suGo : Nat → List (Int × Int) → Nat → List (Int × Int) × Nat
  | 0, ps, pos => (ps, pos)
  | f + 1, ps, pos => if 2 * pos + 1 < ps.length then
      let a := ps.getD (2 * pos + 1) (0, 0)
      let b := ps.getD (2 * pos + 2) (0, 0)
      if 2 * pos + 2 < ps.length ∧ lexLt a.1 a.2 b.1 b.2 = false then suGo f (ps.set pos b) (2 * pos + 2) else suGo f (ps.set pos a) (2 * pos + 1)
    else (ps, pos)
/-- _siftup(heap, 0) -/
def suAll (ps : List (Int × Int)) : List (Int × Int) :=
  let r := suGo ps.length ps 0
  let x := ps.getD 0 (0, 0)
  sdGo x r.2 (r.1.set r.2 x) r.2
theorem suGo_end {f : Nat} {ps : List (Int × Int)} {pos : Nat} (h : ps.length ≤ 2 * pos + 1) : suGo f ps pos = (ps, pos) := by
  cases f with
  | zero => rfl
  | succ f => rw [suGo, if_neg (by omega)]
structure SuSt where
  vs : List Value
  ps : List (Int × Int)
  pos : Nat
  tp : Tok
  tc : Tok
theorem getD_of {ps : List (Int × Int)} {i : Nat} {x : Int × Int} (h : ps[i]? = some x) : ps.getD i (0, 0) = x := by
  rw [List.getD_eq_getElem?_getD, h]; rfl
theorem siftup_spec (c : Addr) (vs : List Value) (nn : Nat) (ps : List (Int × Int)) (tz : Tok)
   (H : At 2 w dp un cs L outer h₀ m s ((c, W.listOf vs.toArray nn) :: news)) (hne : ∀ p ∈ news, p.1 ≠ c) {R : Value → Int × Int → Prop} (hR : ∀ v p, R v p → PairR news v p) (hp : All2 R vs ps) (hl : vs.length ≤ 100) (hpos : 0 < vs.length)
   (hret : ∀ vs' h' tk', Fr h₀ L h' m → News h₀ L h' ((c, W.listOf vs'.toArray nn) :: news) → vs'.length = vs.length → All2 R vs' (suAll ps) → Q .none { s with heap := h', toks := tk' }) :
   wpAny (model PG w) (ktrTop dp un gd cn cs L a ccd cl outer) (call (.ref 67) [.ref c, .int 0 tz]) Q E s := by
  obtain ⟨⟨A₀, base, B⟩, F, X, N, ⟨mean, mg, mb, T⟩, hk, hd, hu⟩ := H
  obtain ⟨v, hv⟩ : ∃ v, vs[(0 : Int).toNat]? = some v := ⟨_, List.getElem?_eq_getElem (by simpa using hpos)⟩
  obtain ⟨x, hx, hRx⟩ := hp.get hv
  obtain ⟨D, t9, u9, n9, rfl, hD⟩ := hR _ _ hRx
  have hxg : ps.getD 0 (0, 0) = x := getD_of (by simpa using hx)
  have hDc : D ≠ c := hne _ hD
  have hlp : vs.length = ps.length := hp.length
  k_with_none
  k_with "exec While Compare cons nil" => (refine hold ?_)
  k_with "exec While Compare" => (refine hold ?_)
  k_with "call builtin:len" => (k_dflt (refine kst_len (by k_asm) (by k_mem) rfl (by omega) ?_))
  k_with "subscriptTail" => (k_dflt (refine item_litK (News.isList (by k_asm) (by k_mem)) (by omega) (by omega) hv ?_))
  refine wpAny_call ?_
  k_dflt cell_enter
  k_steps
  unfold Hold
  refine ksw_while (σ := SuSt) (fun c' => (c, W.listOf c'.vs.toArray nn) :: _) (fun c' => [(Str.ofString "pos", .int c'.pos c'.tp), (Str.ofString "childpos", .int (2 * (c'.pos : Int) + 1) c'.tc)]) (fun _ => True) [Str.ofString "rightpos"]
    (fun c' => c'.vs.length = vs.length ∧ c'.pos < vs.length ∧ All2 R c'.vs c'.ps ∧ ∃ f, vs.length ≤ f + c'.pos ∧ suGo f c'.ps c'.pos = suGo ps.length ps 0) (fun c' => vs.length - c'.pos) ⟨vs, ps, 0, _, _⟩ (by k_asm) (by k_asm) trivial (by kst_all) ⟨rfl, hpos, hp, ps.length, by omega, rfl⟩ ?_
  rintro ⟨vs', ps', pos', tp', tc'⟩ u h tk _ ⟨b0, b1, b2, f, b3, b4⟩ F2 N2
  dsimp only at b0 b1 b2 b3 b4 F2 N2
  have hlen' : vs'.length = ps'.length := b2.length
  replace N2 := news_front N2 (.tail _ hD)
  k_with "setItem ref int" => (k_dflt (refine set_V (by k_asm) (by k_asm) (by k_upd) (by omega) (by omega) (by omega) ?_); intro h9 F9 N9)
  k_with "setItem ref" => (k_dflt (refine set_V (by k_asm) (by k_asm) (by k_upd) (by omega) (by omega) (by omega) ?_); intro h9 F9 N9)
  k_with "subscriptTail" => fail
  rcases Nat.lt_or_ge (2 * pos' + 1) vs'.length with hlt | hge
  · obtain ⟨f, rfl⟩ : ∃ f', f = f' + 1 := ⟨f - 1, by omega⟩
    rw [suGo, if_pos (by omega)] at b4
    obtain ⟨v1, hv1⟩ : ∃ v', vs'[(2 * (pos' : Int) + 1).toNat]? = some v' := ⟨_, List.getElem?_eq_getElem (by omega)⟩
    obtain ⟨y1, hy1, hR1⟩ := b2.get hv1
    obtain ⟨D1, t1, u1, n1, rfl, hD1⟩ := hR _ _ hR1
    have e1 : (2 * (pos' : Int) + 1).toNat = 2 * pos' + 1 := by omega
    have hyg1 : ps'.getD (2 * pos' + 1) (0, 0) = y1 := getD_of (by rw [← e1]; exact hy1)
    have hDc1 : D1 ≠ c := hne _ hD1
    replace N2 := news_front N2 (.tail _ (.tail _ hD1))
    rw [hyg1] at b4
    rcases Nat.lt_or_ge (2 * pos' + 2) vs'.length with hlt2 | hge2
    · obtain ⟨v2, hv2⟩ : ∃ v', vs'[(2 * (pos' : Int) + 1 + 1).toNat]? = some v' := ⟨_, List.getElem?_eq_getElem (by omega)⟩
      obtain ⟨y2, hy2, hR2⟩ := b2.get hv2
      obtain ⟨D2, t2, u2, n2, rfl, hD2⟩ := hR _ _ hR2
      have e2 : (2 * (pos' : Int) + 1 + 1).toNat = 2 * pos' + 2 := by omega
      have hyg2 : ps'.getD (2 * pos' + 2) (0, 0) = y2 := getD_of (by rw [← e2]; exact hy2)
      have hDc2 : D2 ≠ c := hne _ hD2
      replace N2 := news_front N2 (.tail _ (.tail _ (.tail _ hD2)))
      rw [hyg2] at b4
      k_with "subscriptTail" => (first | (k_dflt (refine item_litK (News.isList (by k_asm) (by k_mem)) (by omega) (by omega) hv1 ?_)) | (k_dflt (refine item_litK (News.isList (by k_asm) (by k_mem)) (by omega) (by omega) hv2 ?_)))
      rcases Bool.eq_false_or_eq_true (lexLt y1.1 y1.2 y2.1 y2.2) with hlx | hlx
      · rw [if_neg (by rw [hlx]; simp)] at b4
        k_with "compareOp Lt ref ref" => (k_dflt (refine tuple_lt2 (News.get (by k_asm) (by k_mem)) rfl rfl (News.get (by k_asm) (by k_mem)) rfl rfl (by ktr_units) ?_); rw [hlx])
        k_steps
        refine ksw_end ⟨vs'.set pos' (.ref D1), ps'.set pos' y1, 2 * pos' + 1, _, _⟩ (by k_asm) (by k_asm) (by tb_rel) trivial (by show ∀ p ∈ [(Str.ofString "pos", Value.int ((2 * pos' + 1 : Nat) : Int) _), (Str.ofString "childpos", Value.int (2 * ((2 * pos' + 1 : Nat) : Int) + 1) _)], _; rw [show ((2 * pos' + 1 : Nat) : Int) = 2 * (pos' : Int) + 1 from by omega]; kst_all) (by ktr_unf) ⟨by simpa using b0, by dsimp only; omega, b2.set hR1 _, f, by dsimp only; omega, b4⟩ (by dsimp only; omega)
      · rw [if_pos ⟨by omega, hlx⟩] at b4
        k_with "compareOp Lt ref ref" => (k_dflt (refine tuple_lt2 (News.get (by k_asm) (by k_mem)) rfl rfl (News.get (by k_asm) (by k_mem)) rfl rfl (by ktr_units) ?_); rw [hlx])
        k_steps
        refine ksw_end ⟨vs'.set pos' (.ref D2), ps'.set pos' y2, 2 * pos' + 2, _, _⟩ (by k_asm) (by k_asm) (by tb_rel) trivial (by show ∀ p ∈ [(Str.ofString "pos", Value.int ((2 * pos' + 2 : Nat) : Int) _), (Str.ofString "childpos", Value.int (2 * ((2 * pos' + 2 : Nat) : Int) + 1) _)], _; rw [show ((2 * pos' + 2 : Nat) : Int) = 2 * (pos' : Int) + 1 + 1 from by omega]; kst_all) (by ktr_unf) ⟨by simpa using b0, by dsimp only; omega, b2.set hR2 _, f, by dsimp only; omega, b4⟩ (by dsimp only; omega)
    · rw [if_neg (by omega)] at b4
      k_with "subscriptTail" => (k_dflt (refine item_litK (News.isList (by k_asm) (by k_mem)) (by omega) (by omega) hv1 ?_))
      k_steps
      refine ksw_end ⟨vs'.set pos' (.ref D1), ps'.set pos' y1, 2 * pos' + 1, _, _⟩ (by k_asm) (by k_asm) (by tb_rel) trivial (by show ∀ p ∈ [(Str.ofString "pos", Value.int ((2 * pos' + 1 : Nat) : Int) _), (Str.ofString "childpos", Value.int (2 * ((2 * pos' + 1 : Nat) : Int) + 1) _)], _; rw [show ((2 * pos' + 1 : Nat) : Int) = 2 * (pos' : Int) + 1 from by omega]; kst_all) (by ktr_unf) ⟨by simpa using b0, by dsimp only; omega, b2.set hR1 _, f, by dsimp only; omega, b4⟩ (by dsimp only; omega)
  · rw [suGo_end (by omega)] at b4
    have hst : All2 R (vs'.set pos' (.ref D)) (ps'.set pos' x) := b2.set hRx _
    have hxs : (ps'.set pos' x).getD pos' (0, 0) = x := getD_of (by rw [List.getElem?_set_self (by omega)])
    k_with "call ref" => (refine hold ?_)
    k_steps
    unfold Hold
    rename News _ _ _ _ => NN
    replace NN := news_back NN
    refine siftdown_spec (news := news) c (vs'.set pos' (.ref D)) nn (ps'.set pos' x) pos' _ _ (by tb_start) hne hR hst (by simp; omega) (by simp; omega) ?_
    · intro vs9 h9 tk9 F9 N9 l9 hA9
      k_with "call ref" => fail
      k_steps
      refine hret _ _ _ (by k_asm) (by k_asm) (by rw [l9, List.length_set, b0]) ?_
      rw [hxs] at hA9
      rw [suAll, ← b4, hxg]
      exact hA9

/-- heappush -/
theorem heappush_spec (c D : Addr) (vs : List Value) (nn : Nat) (ps : List (Int × Int)) (x : Int × Int)
   (H : At 2 w dp un cs L outer h₀ m s ((c, W.listOf vs.toArray nn) :: news)) (hne : ∀ p ∈ news, p.1 ≠ c) {R : Value → Int × Int → Prop} (hR : ∀ v p, R v p → PairR news v p) (hp : All2 R vs ps) (hl : vs.length ≤ 50) (hx : R (.ref D) x)
   (hret : ∀ vs' nn' h' tk', Fr h₀ L h' m → News h₀ L h' ((c, W.listOf vs'.toArray nn') :: news) → vs'.length = vs.length + 1 → All2 R vs' (sdGo x ps.length (ps ++ [x]) ps.length) → Q .none { s with heap := h', toks := tk' }) :
   wpAny (model PG w) (ktrTop dp un gd cn cs L a ccd cl outer) (call (.ref 46) [.ref c, .ref D]) Q E s := by
  obtain ⟨⟨A₀, base, B⟩, F, X, N, ⟨mean, mg, mb, T⟩, hk, hd, hu⟩ := H
  have hlp : vs.length = ps.length := hp.length
  have hl1 : (vs ++ [Value.ref D]).length = ps.length + 1 := by simp [hlp]
  have hst : All2 R (vs ++ [.ref D]) (ps ++ [x]) := hp.snoc hx
  have hxs : (ps ++ [x]).getD ps.length (0, 0) = x := getD_of (by simp)
  k_with_none
  k_with "call builtin:len" => (k_dflt (refine kst_len (by k_asm) (by k_mem) hl1 (by omega) ?_))
  k_with "call ref" => (refine hold ?_)
  refine wpAny_call ?_
  k_dflt cell_enter
  k_steps
  unfold Hold
  rw [show (((ps.length + 1 : Nat) : Int) - 1) = (ps.length : Int) from by omega]
  refine siftdown_spec (news := news) c (vs ++ [.ref D]) _ (ps ++ [x]) ps.length _ _ (by tb_start) hne hR hst (by omega) (by omega) ?_
  intro vs9 h9 tk9 F9 N9 l9 hA9
  k_with "call ref" => fail
  k_steps
  refine hret _ _ _ _ (by k_asm) (by k_asm) (by rw [l9]; omega) ?_
  rw [hxs] at hA9
  exact hA9
/-- heapreplace -/
theorem heapreplace_spec (c D : Addr) (vs : List Value) (nn : Nat) (ps : List (Int × Int)) (x : Int × Int)
   (H : At 3 w dp un cs L outer h₀ m s ((c, W.listOf vs.toArray nn) :: news)) (hne : ∀ p ∈ news, p.1 ≠ c) {R : Value → Int × Int → Prop} (hR : ∀ v p, R v p → PairR news v p) (hp : All2 R vs ps) (hl : vs.length ≤ 50) (hl0 : 0 < vs.length) (hx : R (.ref D) x)
   (hret : ∀ v vs' h' tk', Fr h₀ L h' m → News h₀ L h' ((c, W.listOf vs'.toArray nn) :: news) → vs'.length = vs.length → All2 R vs' (suAll (ps.set 0 x)) → Q (.ref v) { s with heap := h', toks := tk' }) :
   wpAny (model PG w) (ktrTop dp un gd cn cs L a ccd cl outer) (call (.ref 53) [.ref c, .ref D]) Q E s := by
  obtain ⟨⟨A₀, base, B⟩, F, X, N, ⟨mean, mg, mb, T⟩, hk, hd, hu⟩ := H
  have hlp : vs.length = ps.length := hp.length
  have hst : All2 R (vs.set 0 (.ref D)) (ps.set 0 x) := hp.set hx 0
  obtain ⟨v, hv⟩ : ∃ v, vs[(0 : Int).toNat]? = some v := ⟨_, List.getElem?_eq_getElem (by simpa using hl0)⟩
  obtain ⟨y, hy, hRy⟩ := hp.get hv
  obtain ⟨D', t9, u9, n9, rfl, hD'⟩ := hR _ _ hRy
  k_with_none
  k_with "setItem ref int" => (k_dflt (refine set_V (by k_asm) (by k_asm) (by k_upd) (by omega) (by omega) (by omega) ?_); intro h9 F9 N9)
  k_with "subscriptTail" => (k_dflt (refine item_litK (News.isList (by k_asm) (by k_mem)) (by omega) (by omega) hv ?_))
  k_with "call ref" => (k_dflt (refine siftup_spec (news := news) c (vs.set 0 (.ref D)) nn (ps.set 0 x) _ (by tb_start) hne hR hst (by simp; omega) (by simp; omega) ?_); intro vs9 h9 tk9 F9 N9 l9 hA9)
  refine wpAny_call ?_
  k_dflt cell_enter
  k_steps
  exact hret _ _ _ _ (by k_asm) (by k_asm) (by rw [l9, List.length_set]) hA9

/-- the inner loop of _law_powers: the heads that stand at k go on to their next multiple -/
def inGo (k : Int) : Nat → List (Int × Int) → List Int → Option (List (Int × Int) × List Int)
  | 0, _, _ => none
  | _ + 1, [], met => some ([], met)
  | f + 1, p :: ps, met => if p.1 = k then inGo k f (suAll ((p :: ps).set 0 (k + p.2, p.2))) (met ++ [p.2]) else some (p :: ps, met)
/-- one turn of _law_powers -/
def pwTurn (k : Int) (st : List (Int × Int) × List (Int × Int)) : Option (List (Int × Int) × List (Int × Int)) :=
  match inGo k 20 st.1 [] with
  | none => none
  | some (ps, met) =>
    let ps2 := if met = [] then sdGo (2 * k, k) ps.length (ps ++ [(2 * k, k)]) ps.length else ps
    let met2 := if met = [] then [k] else met
    some (ps2, if met2.length = 1 then st.2 ++ [(k, met2.getD 0 0)] else st.2)
def pwRun : Nat → Option (List (Int × Int) × List (Int × Int))
  | 0 => some ([], [])
  | i + 1 => match pwRun i with
    | none => none
    | some st => pwTurn (2 + (i : Int)) st
theorem pwRun_some : ∀ i < 12, (pwRun i).isSome = true := by decide
theorem pwRun_end : (pwRun 11).map (·.2) = some PW := by decide
theorem pwRun_len : ∀ i < 12, ∀ st, pwRun i = some st → st.1.length ≤ 6 ∧ st.2.length ≤ 10 := by
  intro i hi st h
  have : ∀ i < 12, ((pwRun i).map fun st => decide (st.1.length ≤ 6 ∧ st.2.length ≤ 10)) = some true := by decide
  have := this i hi
  rw [h] at this
  simpa using this

structure PSt where
  vs : List Value
  nn : Nat
  ps : List (Int × Int)
  ws : List Value
  n2 : Nat
  qs : List (Int × Int)
  tl : List (Addr × Obj)
structure ISt where
  vs : List Value
  nn : Nat
  ps : List (Int × Int)
  mvs : List Value
  mn : Nat
  met : List Int
  tl : List (Addr × Obj)
  f : Nat
theorem pw_mem {p : Addr × Obj} {a b c d : List (Addr × Obj)} (h : p ∈ a ++ b) : p ∈ a ++ (b ++ c ++ d) := by
  simp only [List.mem_append] at h ⊢
  grind
theorem pw_front {h₀ h : Heap} {L : Addr} {D D1 d c t : Addr × Obj} {R : List (Addr × Obj)} (N : News h₀ L h (D :: D1 :: d :: c :: t :: R)) : News h₀ L h (c :: d :: t :: D :: R) := fun q hq => N q (by
  simp only [List.mem_cons] at hq ⊢
  grind)
theorem lt_of_allLt' {d : Addr} : ∀ {l : List (Addr × Obj)}, AllLt d l → ∀ p ∈ l, @LT.lt Nat _ p.1 d
  | [], _, _, h => nomatch h
  | _ :: _, x, p, h => by
    rcases List.mem_cons.mp h with rfl | h
    · exact x.1
    · exact lt_of_allLt' x.2 p h
theorem replace2 {D D1 d c t : Addr} {o1 od ot : Obj} {x y : Int} {tx ty : Tok} {n9 : Nat} {vs : List Value} {nn : Nat} {ps : List (Int × Int)} {tl1 tl rest : List (Addr × Obj)}
   (H : At 3 w dp un cs L outer h₀ m s ((D, ({ cls := .type "tuple", data := .seq #[.int x tx, .int y ty] n9 } : Obj)) :: (D1, o1) :: (d, od) :: (c, W.listOf vs.toArray nn) :: (t, ot) :: (tl1 ++ rest)))
   (hp : All2 (PairR (tl1 ++ tl)) vs ps) (hs : ∀ p ∈ tl1 ++ tl, p ∈ tl1 ++ rest) (n1 : D ≠ c) (n2 : d ≠ c) (n3 : t ≠ c) (n4 : ∀ p ∈ tl1 ++ rest, p.1 ≠ c) (hl : vs.length ≤ 50) (hl0 : 0 < vs.length)
   (hret : ∀ v vs' h' tk', Fr h₀ L h' m → News h₀ L h' ((d, od) :: (c, W.listOf vs'.toArray nn) :: (t, ot) :: (((D, ({ cls := .type "tuple", data := .seq #[.int x tx, .int y ty] n9 } : Obj)) :: tl1) ++ rest)) → vs'.length = vs.length → All2 (PairR (((D, ({ cls := .type "tuple", data := .seq #[.int x tx, .int y ty] n9 } : Obj)) :: tl1) ++ tl)) vs' (suAll (ps.set 0 (x, y))) → Q (.ref v) { s with heap := h', toks := tk' }) :
   wpAny (model PG w) (ktrTop dp un gd cn cs L a ccd cl outer) (call (.ref 53) [.ref c, .ref D]) Q E s := by
  obtain ⟨B, F, X, N, T, hk, hd, hu⟩ := H
  refine heapreplace_spec (R := PairR (((D, ({ cls := .type "tuple", data := .seq #[.int x tx, .int y ty] n9 } : Obj)) :: tl1) ++ tl)) c D vs nn ps (x, y) ⟨B, F, X, pw_front N, T, hk, hd, hu⟩ ?_ ?_ (hp.mono fun _ _ hh => hh.mono fun _ hp => .tail _ hp) hl hl0 ⟨D, _, _, _, rfl, .head _⟩ ?_
  · simp only [List.forall_mem_cons]
    exact ⟨n2, n3, n1, n4⟩
  · refine fun v p hh => hh.mono fun q hq => ?_
    rcases List.mem_cons.mp hq with rfl | hq
    · exact .tail _ (.tail _ (.head _))
    · exact .tail _ (.tail _ (.tail _ (hs _ hq)))
  · intro v vs' h' tk' F' N' l' hA
    refine hret v vs' h' tk' F' (fun q hq => N' q ?_) l' hA
    simp only [List.cons_append, List.mem_cons] at hq ⊢
    grind
theorem push2 {D D1 d c t : Addr} {o1 od ot : Obj} {x y : Int} {tx ty : Tok} {n9 : Nat} {vs : List Value} {nn : Nat} {ps : List (Int × Int)} {tl1 tl rest : List (Addr × Obj)}
   (H : At 2 w dp un cs L outer h₀ m s ((D, ({ cls := .type "tuple", data := .seq #[.int x tx, .int y ty] n9 } : Obj)) :: (D1, o1) :: (d, od) :: (c, W.listOf vs.toArray nn) :: (t, ot) :: (tl1 ++ rest)))
   (hp : All2 (PairR (tl1 ++ tl)) vs ps) (hs : ∀ p ∈ tl1 ++ tl, p ∈ tl1 ++ rest) (n1 : D ≠ c) (n2 : d ≠ c) (n3 : t ≠ c) (n4 : ∀ p ∈ tl1 ++ rest, p.1 ≠ c) (hl : vs.length ≤ 50)
   (hret : ∀ vs' nn' h' tk', Fr h₀ L h' m → News h₀ L h' ((d, od) :: (c, W.listOf vs'.toArray nn') :: (t, ot) :: (((D, ({ cls := .type "tuple", data := .seq #[.int x tx, .int y ty] n9 } : Obj)) :: tl1) ++ rest)) → vs'.length = vs.length + 1 → All2 (PairR (((D, ({ cls := .type "tuple", data := .seq #[.int x tx, .int y ty] n9 } : Obj)) :: tl1) ++ tl)) vs' (sdGo (x, y) ps.length (ps ++ [(x, y)]) ps.length) → Q .none { s with heap := h', toks := tk' }) :
   wpAny (model PG w) (ktrTop dp un gd cn cs L a ccd cl outer) (call (.ref 46) [.ref c, .ref D]) Q E s := by
  obtain ⟨B, F, X, N, T, hk, hd, hu⟩ := H
  refine heappush_spec (R := PairR (((D, ({ cls := .type "tuple", data := .seq #[.int x tx, .int y ty] n9 } : Obj)) :: tl1) ++ tl)) c D vs nn ps (x, y) ⟨B, F, X, pw_front N, T, hk, hd, hu⟩ ?_ ?_ (hp.mono fun _ _ hh => hh.mono fun _ hp => .tail _ hp) hl ⟨D, _, _, _, rfl, .head _⟩ ?_
  · simp only [List.forall_mem_cons]
    exact ⟨n2, n3, n1, n4⟩
  · refine fun v p hh => hh.mono fun q hq => ?_
    rcases List.mem_cons.mp hq with rfl | hq
    · exact .tail _ (.tail _ (.head _))
    · exact .tail _ (.tail _ (.tail _ (hs _ hq)))
  · intro vs' nn' h' tk' F' N' l' hA
    refine hret vs' nn' h' tk' F' (fun q hq => N' q ?_) l' hA
    simp only [List.cons_append, List.mem_cons] at hq ⊢
    grind
theorem pwRun_step {i : Nat} {ps qs ps' : List (Int × Int)} {met' : List Int} (h : pwRun i = some (ps, qs)) (hin : inGo (2 + (i : Int)) 20 ps [] = some (ps', met')) :
    pwRun (i + 1) = some (if met' = [] then sdGo (2 * (2 + (i : Int)), 2 + (i : Int)) ps'.length (ps' ++ [(2 * (2 + (i : Int)), 2 + (i : Int))]) ps'.length else ps', if (if met' = [] then [2 + (i : Int)] else met').length = 1 then qs ++ [(2 + (i : Int), (if met' = [] then [2 + (i : Int)] else met').getD 0 0)] else qs) := by
  simp only [pwRun, h, pwTurn, hin]
theorem pw_off {own tl1 tl news : List (Addr × Obj)} {c c' t t' : Addr × Obj} {d : Addr} (hoff : OwnOff own ((c :: t :: (tl ++ news)).map (·.1))) (ld : AllLt d own) (b3 : ∀ p ∈ tl1, @LT.lt Nat _ d p.1) (hc : c'.1 = c.1 := by rfl) (ht : t'.1 = t.1 := by rfl) :
    OwnOff own ((c' :: t' :: ((tl1 ++ tl) ++ news)).map (·.1)) := fun p hp z hz => by
  have h1 := lt_of_allLt' ld p hp
  simp only [List.map_cons, List.map_append, List.mem_cons, List.mem_append] at hz
  rcases hz with rfl | rfl | (hz | hz) | hz
  · rw [hc]; exact hoff p hp _ (.head _)
  · rw [ht]; exact hoff p hp _ (.tail _ (.head _))
  · obtain ⟨q, hq, rfl⟩ := List.mem_map.mp hz
    exact Nat.ne_of_lt (Nat.lt_trans h1 (b3 q hq))
  · exact hoff p hp _ (by simp only [List.map_cons, List.map_append, List.mem_cons, List.mem_append]; exact .inr (.inr (.inl hz)))
  · exact hoff p hp _ (by simp only [List.map_cons, List.map_append, List.mem_cons, List.mem_append]; exact .inr (.inr (.inr hz)))
theorem pw_above {tl1 tl : List (Addr × Obj)} {t d : Addr} (ldt : @LT.lt Nat _ t d) (b3 : ∀ p ∈ tl1, @LT.lt Nat _ d p.1) (hab : ∀ p ∈ tl, @LT.lt Nat _ t p.1) : ∀ p ∈ tl1 ++ tl, @LT.lt Nat _ t p.1 := fun p hp =>
  (List.mem_append.mp hp).elim (fun h => Nat.lt_trans ldt (b3 p h)) (hab p)
theorem pw_led3 {l d c t : Addr × Obj} {tl1 tl news own : List (Addr × Obj)} : ∀ p ∈ c :: t :: ((tl1 ++ tl) ++ news), p ∈ l :: d :: c :: t :: (tl1 ++ (tl ++ news ++ own)) := fun p hp => by
  simp only [List.mem_cons, List.mem_append] at hp ⊢
  grind
theorem pw_own3 {l d c t : Addr × Obj} {tl1 tl news own : List (Addr × Obj)} : ∀ p ∈ own, p ∈ l :: d :: c :: t :: (tl1 ++ (tl ++ news ++ own)) := fun p hp => by
  simp only [List.mem_cons, List.mem_append]
  grind
theorem pw_snoc {D : Addr} {x y : Int} {tx ty : Tok} {n9 : Nat} {tl1 tl : List (Addr × Obj)} {ws : List Value} {qs : List (Int × Int)} (hws : All2 (PairR tl) ws qs) :
    All2 (PairR (((D, ({ cls := .type "tuple", data := .seq #[.int x tx, .int y ty] n9 } : Obj)) :: tl1) ++ tl)) (ws ++ [.ref D]) (qs ++ [(x, y)]) :=
  (hws.mono fun _ _ hh => hh.mono fun _ hp => .tail _ (List.mem_append_right _ hp)).snoc ⟨D, tx, ty, n9, rfl, .head _⟩
theorem pw_led1 {D D2 d c t : Addr × Obj} {tl1 tl news own : List (Addr × Obj)} : ∀ p ∈ c :: t :: (((D :: D2 :: tl1) ++ tl) ++ news), p ∈ D :: d :: c :: t :: D2 :: (tl1 ++ (tl ++ news ++ own)) := fun p hp => by
  simp only [List.mem_cons, List.mem_append, List.cons_append] at hp ⊢
  grind
theorem pw_own1 {D D2 d c t : Addr × Obj} {tl1 tl news own : List (Addr × Obj)} : ∀ p ∈ own, p ∈ D :: d :: c :: t :: D2 :: (tl1 ++ (tl ++ news ++ own)) := fun p hp => by
  simp only [List.mem_cons, List.mem_append]
  grind
theorem pw_led2 {D l d c t : Addr × Obj} {tl1 tl news own : List (Addr × Obj)} : ∀ p ∈ c :: t :: (((D :: tl1) ++ tl) ++ news), p ∈ D :: l :: d :: c :: t :: (tl1 ++ (tl ++ news ++ own)) := fun p hp => by
  simp only [List.mem_cons, List.mem_append, List.cons_append] at hp ⊢
  grind
theorem pw_own2 {D l d c t : Addr × Obj} {tl1 tl news own : List (Addr × Obj)} : ∀ p ∈ own, p ∈ D :: l :: d :: c :: t :: (tl1 ++ (tl ++ news ++ own)) := fun p hp => by
  simp only [List.mem_cons, List.mem_append]
  grind
theorem nameOne {h₀ h : Heap} {L t : Addr} {o1 : Obj} {news : List (Addr × Obj)} {p : Prop} (_ : News h₀ L h ((t, o1) :: news)) (k : ∀ t' : Addr, t' = t → p) : p := k t rfl
theorem nameTwo {h₀ h : Heap} {L t c : Addr} {o1 o2 : Obj} {news : List (Addr × Obj)} {p : Prop} (_ : News h₀ L h ((t, o1) :: (c, o2) :: news)) (k : ∀ t' c' : Addr, t' = t → c' = c → p) : p := k t c rfl rfl
theorem newsSwap {h₀ h : Heap} {L : Addr} {a b : Addr × Obj} {news : List (Addr × Obj)} (N : News h₀ L h (a :: b :: news)) : News h₀ L h (b :: a :: news) := fun q hq => N q (by
  simp only [List.mem_cons] at hq ⊢
  grind)
theorem powers_spec (tn : Tok)
   (H : At 4 w dp un cs L outer h₀ m s news)
   (hret : ∀ t ws n2 tl h' tk', Fr h₀ L h' m → News h₀ L h' ((t, W.listOf ws.toArray n2) :: (tl ++ news)) → All2 (PairR tl) ws PW → (∀ q ∈ news, @LT.lt Nat _ q.1 t) → (∀ p ∈ tl, @LT.lt Nat _ t p.1) → Q (.ref t) { s with heap := h', toks := tk' }) :
   wpAny (model PG w) (ktrTop dp un gd cn cs L a ccd cl outer) (call (.ref 140) [.int 12 tn]) Q E s := by
  obtain ⟨⟨A₀, base, B⟩, F, X, N, ⟨mean, mg, mb, T⟩, hk, hd, hu⟩ := H
  k_with_none
  k_with "pyIter ref" => (refine hold ?_)
  refine wpAny_call ?_
  k_dflt cell_enter
  k_steps
  rename News _ _ _ _ => NN
  refine nameTwo NN fun t c e8 e9 => ?_
  subst e8 e9
  rename (_ ∧ AllLt t _) => lt1
  rename (∀ p : Addr × Obj, p ∈ news → _) => lc0
  have lc1 := allLt_of lc0
  obtain ⟨lct, lt2⟩ := lt1
  replace lct : @LT.lt Nat _ c t := lct
  unfold Hold
  refine g_range (σ := PSt) (n := 11) (fun st => (c, W.listOf st.vs.toArray st.nn) :: (t, W.listOf st.ws.toArray st.n2) :: (st.tl ++ news)) (fun _ => []) [Str.ofString "met"] (fun i st => pwRun i = some (st.ps, st.qs) ∧ All2 (PairR st.tl) st.vs st.ps ∧ All2 (PairR st.tl) st.ws st.qs ∧ (∀ p ∈ st.tl, @LT.lt Nat _ t p.1)) ⟨[], 0, [], [], 0, [], []⟩ rfl (by assumption) (by decide) (by decide) (by k_asm) (newsSwap NN) (by kst_all) ⟨rfl, .nil, .nil, fun _ hp => nomatch hp⟩ ?_ ?_
  · rintro i ti ⟨vs, nn, ps, ws, n2, qs, tl⟩ u h tk own hi ⟨hrun, hvs, hws, hab⟩ hoff F2 N2
    dsimp only at hrun hvs hws hab N2
    simp only [List.cons_append] at N2
    have hct : c ≠ t := Nat.ne_of_lt lct
    have hnt : ∀ p ∈ tl ++ news, p.1 ≠ t := fun p hp => (List.mem_append.mp hp).elim (fun h => Nat.ne_of_gt (hab p h)) fun h => allNe_lt lt2 p h
    have hnc : ∀ p ∈ tl ++ news, p.1 ≠ c := fun p hp => (List.mem_append.mp hp).elim (fun h => Nat.ne_of_gt (Nat.lt_trans lct (hab p h))) fun h => allNe_lt lc1 p h
    have hot : ∀ p ∈ own, p.1 ≠ t := fun p hp => hoff p hp _ (.tail _ (.head _))
    have hoc : ∀ p ∈ own, p.1 ≠ c := fun p hp => hoff p hp _ (.head _)
    have hrun1 := pwRun_some (i + 1) (by omega)
    have hlen1 := pwRun_len i (by omega) _ hrun
    rw [pwRun, hrun] at hrun1
    simp only [pwTurn] at hrun1
    obtain ⟨⟨ps', met'⟩, hin⟩ : ∃ r, inGo (2 + (i : Int)) 20 ps [] = some r := by
      cases hh : inGo (2 + (i : Int)) 20 ps [] with
      | none => rw [hh] at hrun1; cases hrun1
      | some r => exact ⟨r, rfl⟩
    k_with "exec While BoolOp cons nil" => (refine hold ?_)
    k_with "exec While BoolOp" => (refine hold ?_)
    k_steps
    rename News _ _ _ (_ :: _ :: _ :: (tl ++ news ++ own)) => NN
    refine nameOne NN fun d e9 => ?_
    subst e9
    rename (_ ∧ _ ∧ AllLt d _) => ld
    obtain ⟨ldc, ldt, ldr⟩ := ld
    replace ldc : @LT.lt Nat _ c d := ldc
    replace ldt : @LT.lt Nat _ t d := ldt
    have hcd : c ≠ d := Nat.ne_of_lt ldc
    have htd : t ≠ d := Nat.ne_of_lt ldt
    have hnd : ∀ p ∈ tl ++ news ++ own, p.1 ≠ d := allNe_lt ldr
    unfold Hold
    refine w_while (σ := ISt) (fun st => (d, W.listOf st.mvs.toArray st.mn) :: (c, W.listOf st.vs.toArray st.nn) :: (t, W.listOf ws.toArray n2) :: (st.tl ++ (tl ++ news ++ own))) (fun _ => []) []
      (fun st => inGo (2 + (i : Int)) st.f st.ps st.met = some (ps', met') ∧ All2 (PairR (st.tl ++ tl)) st.vs st.ps ∧ IntsAre st.mvs st.met ∧ (∀ p ∈ st.tl, @LT.lt Nat _ d p.1) ∧ st.vs.length ≤ 6 ∧ st.met.length + st.f ≤ 20)
      (fun st => All2 (PairR (st.tl ++ tl)) st.vs ps' ∧ IntsAre st.mvs met' ∧ (∀ p ∈ st.tl, @LT.lt Nat _ d p.1) ∧ st.vs.length ≤ 6 ∧ met'.length ≤ 20) (fun st => st.f) ⟨vs, nn, ps, [], 0, [], [], 20⟩ (by k_asm) (by k_asm) (by kst_all) ⟨hin, hvs, .nil, fun _ hp => (nomatch hp), by dsimp only; rw [hvs.length]; exact hlen1.1, by show 0 + 20 ≤ 20; decide⟩ ?_ ?_
    · rintro ⟨vs1, nn1, ps1, mvs, mn, met, tl1, f⟩ u1 h1 tk1 ⟨b0, b1, b2, b3, b4, b5⟩ F3 N3
      dsimp only at b0 b1 b2 b3 b4 b5 F3 N3
      cases f with
      | zero => cases b0
      | succ f =>
      have g1 : ∀ p ∈ tl1, p.1 ≠ d := fun p hp => Nat.ne_of_gt (b3 p hp)
      have g2 : ∀ p ∈ tl1, p.1 ≠ c := fun p hp => Nat.ne_of_gt (Nat.lt_trans ldc (b3 p hp))
      have g3 : ∀ p ∈ tl1, p.1 ≠ t := fun p hp => Nat.ne_of_gt (Nat.lt_trans ldt (b3 p hp))
      have hml : mvs.length = met.length := b2.length
      have hsz : mvs.toArray.size ≤ sizeLine := by rw [List.size_toArray, sizeLine_eq]; omega
      cases b1 with
      | nil =>
        k_steps
        rw [inGo] at b0
        obtain ⟨rfl, rfl⟩ : [] = ps' ∧ met = met' := by simpa using b0
        exact w_done ⟨[], nn1, [], mvs, mn, met, tl1, 0⟩ (by k_asm) (by k_asm) (fun _ h => h) (by kst_all) (by ktr_unf) ⟨.nil, b2, b3, b4, by omega⟩
      | cons hR1 hRr =>
        rename_i v1 p1 vs1 ps1
        have hRc := All2.cons hR1 hRr
        obtain ⟨D1, t1, u1, n1, rfl, hD1⟩ := hR1
        have hv0 : (Value.ref D1 :: vs1)[(0 : Int).toNat]? = some (.ref D1) := rfl
        replace N3 := news_front N3 (.tail _ (.tail _ (.tail _ (pw_mem hD1))))
        have hD1c : D1 ≠ c := by rcases List.mem_append.mp hD1 with h | h; exact g2 _ h; exact hnc _ (List.mem_append_left _ h)
        have hD1d : D1 ≠ d := by rcases List.mem_append.mp hD1 with h | h; exact g1 _ h; exact hnd _ (List.mem_append_left _ (List.mem_append_left _ h))
        have hD1t : D1 ≠ t := by rcases List.mem_append.mp hD1 with h | h; exact g3 _ h; exact hnt _ (List.mem_append_left _ h)
        rw [inGo] at b0
        have htr : (Value.ref D1 :: vs1).length < 2 ^ 62 := by omega
        k_with "truthy ref" => (k_dflt (refine kgr_truthy (by k_asm) (by k_mem) rfl rfl htr ?_); rw [show (!(Value.ref D1 :: vs1).isEmpty) = true from rfl])
        k_with "subscriptTail" => (first | (k_dflt (refine item_litK (News.isList (by k_asm) (by k_mem)) (by decide) (by decide) hv0 ?_)) | (k_dflt (refine item_tupleT (l := [.int p1.1 t1, .int p1.2 u1]) (News.isTup (by k_asm) (.head _)) (by decide) (by decide) rfl rfl ?_)))
        k_with "call builtin:list.append" => (k_dflt (refine' append_K ?k1 ?k2 ?k3 ?_ ?z; (case k1 => k_asm); (case k2 => k_asm); (case k3 => k_upd); (case z => exact hsz)); intro h9 F9 N9; simp only [List.push_toArray] at N9)
        k_with "call ref" => (refine hold ?_)
        k_steps
        · rename (p1.1 = 2 + (i : Int)) => hk1
          rw [if_pos hk1] at b0
          unfold Hold
          rename News _ _ _ ((_, _) :: (D1, _) :: _) => NN4
          rename (_ ∧ _ ∧ _ ∧ _ ∧ AllLt _ (tl1 ++ _)) => lD
          refine nameOne NN4 fun D2 e9 => ?_
          subst e9
          obtain ⟨_, lDd, lDc, lDt, lDr⟩ := lD
          have hne : ∀ p ∈ tl1 ++ (tl ++ news ++ own), p.1 ≠ c := List.forall_mem_append.mpr ⟨g2, List.forall_mem_append.mpr ⟨hnc, hoc⟩⟩
          refine replace2 (ps := p1 :: ps1) (by tb_start) hRc (fun p hp => pw_mem hp) (Nat.ne_of_gt lDc) (Ne.symm hcd) (Ne.symm hct) hne (by omega) (by simp) ?_
          intro v9 vs9 h9 tk9 F9 N9 l9 hA9
          k_with "call ref" => fail
          k_steps
          refine ksw_end ⟨vs9, nn1, _, mvs ++ [.int p1.2 u1], mn + 1, met ++ [p1.2], _ :: tl1, f⟩ (by k_asm) (by k_asm) (fun _ h => h) trivial (by kst_all) (by ktr_unf) ⟨b0, hA9, b2.append (.cons _ _ .nil), ?_, by dsimp only; omega, by simp only [List.length_append, List.length_cons, List.length_nil]; omega⟩ (Nat.lt_succ_self _)
          intro p hp
          rcases List.mem_cons.mp hp with rfl | hp
          · exact lDd
          · exact b3 p hp
        · rename (p1.1 ≠ 2 + (i : Int)) => hk1
          rw [if_neg hk1] at b0
          obtain ⟨rfl, rfl⟩ : p1 :: ps1 = ps' ∧ met = met' := by simpa using b0
          exact w_done ⟨.ref D1 :: vs1, nn1, [], mvs, mn, met, tl1, 0⟩ (by k_asm) (by k_asm) (fun _ h => .tail _ h) (by kst_all) (by ktr_unf) ⟨hRc, b2, b3, b4, by omega⟩
    · rintro ⟨vs1, nn1, ps1, mvs, mn, met, tl1, f⟩ u1 h1 tk1 ⟨b1, b2, b3, b4, b5⟩ F3 N3
      dsimp only at b1 b2 b3 b4 b5 F3 N3
      have g1 : ∀ p ∈ tl1, p.1 ≠ d := fun p hp => Nat.ne_of_gt (b3 p hp)
      have g2 : ∀ p ∈ tl1, p.1 ≠ c := fun p hp => Nat.ne_of_gt (Nat.lt_trans ldc (b3 p hp))
      have g3 : ∀ p ∈ tl1, p.1 ≠ t := fun p hp => Nat.ne_of_gt (Nat.lt_trans ldt (b3 p hp))
      have hml : mvs.length = met'.length := b2.length
      have hsw : ws.toArray.size ≤ sizeLine := by have hlen2 : qs.length ≤ 10 := hlen1.2; rw [List.size_toArray, hws.length, sizeLine_eq]; omega
      k_with "call builtin:list.append" => (k_dflt (refine' append_K ?k1 ?k2 ?k3 ?_ ?z; (case k1 => k_asm); (case k2 => k_asm); (case k3 => k_upd); (case z => exact hsw)); intro h9 F9 N9; simp only [List.push_toArray] at N9)
      k_with "call ref" => (refine hold ?_)
      k_with "call builtin:len" => (k_dflt (refine kst_len (by k_asm) (by k_mem) hml (by omega) ?_))
      k_steps
      · rename (decide (met' = []) = true) => hm0
        obtain rfl : met' = [] := by simpa using hm0
        cases b2
        unfold Hold
        rename News _ _ _ ((_, _) :: (_, _) :: (d, _) :: _) => NN4
        rename (_ ∧ _ ∧ _ ∧ _ ∧ AllLt _ (tl1 ++ _)) => lD
        refine nameOne NN4 fun D2 e9 => ?_
        subst e9
        obtain ⟨_, lDd, lDc, lDt, lDr⟩ := lD
        have hne : ∀ p ∈ tl1 ++ (tl ++ news ++ own), p.1 ≠ c := List.forall_mem_append.mpr ⟨g2, List.forall_mem_append.mpr ⟨hnc, hoc⟩⟩
        refine push2 (ps := ps') (by tb_start) b1 (fun p hp => pw_mem hp) (Nat.ne_of_gt lDc) (Ne.symm hcd) (Ne.symm hct) hne (by omega) ?_
        intro vs9 nn9 h9 tk9 F9 N9 l9 hA9
        have hDd : D2 ≠ d := Nat.ne_of_gt lDd
        have hDt : D2 ≠ t := Nat.ne_of_gt lDt
        simp only [List.cons_append] at N9
        k_with "call ref" => fail
        k_with "call builtin:len" => fail
        k_steps
        rename (_ ∧ _ ∧ _ ∧ _ ∧ AllLt _ (tl1 ++ _)) => lD
        obtain ⟨lD3, _, _, _, _⟩ := lD
        refine g_end (own := own) ⟨vs9, nn9, _, ws ++ [.ref _], n2 + 1, qs ++ [(2 + (i : Int), 2 + (i : Int))], (_ :: _ :: tl1) ++ tl⟩ (by k_asm) (by assumption) pw_led1 pw_own1 (pw_off hoff (allLt_append.mp ldr).2 (List.forall_mem_cons.mpr ⟨lD3, List.forall_mem_cons.mpr ⟨lDd, b3⟩⟩)) (by kst_all) (by ktr_rel) ⟨?_, hA9.mono fun _ _ hh => hh.mono fun _ hp => .tail _ hp, pw_snoc hws, pw_above ldt (List.forall_mem_cons.mpr ⟨lD3, List.forall_mem_cons.mpr ⟨lDd, b3⟩⟩) hab⟩
        rw [pwRun_step hrun hin]
        simp
      · rename (_ ∧ _ ∧ _ ∧ _ ∧ AllLt _ (tl1 ++ _)) => lD
        rename (decide (met' = []) = false) => hm0
        rename (_ = (1 : Int)) => hm1
        have hm0' : met' ≠ [] := by simpa using hm0
        obtain ⟨_, lDd, lDc, lDt, lDr⟩ := lD
        refine g_end (own := own) ⟨vs1, nn1, ps', ws ++ [.ref _], n2 + 1, qs ++ [(2 + (i : Int), met'.getD 0 0)], (_ :: tl1) ++ tl⟩ (by k_asm) N9 pw_led2 pw_own2 (pw_off hoff (allLt_append.mp ldr).2 (List.forall_mem_cons.mpr ⟨lDd, b3⟩)) (by kst_all) (by ktr_rel) ⟨?_, b1.mono fun _ _ hh => hh.mono fun _ hp => .tail _ hp, pw_snoc hws, pw_above ldt (List.forall_mem_cons.mpr ⟨lDd, b3⟩) hab⟩
        rw [pwRun_step hrun hin, if_neg hm0', if_neg hm0', if_pos (by omega)]
      · rename (decide (met' = []) = false) => hm0
        rename (_ ≠ (1 : Int)) => hm1
        have hm0' : met' ≠ [] := by simpa using hm0
        refine g_end (own := own) ⟨vs1, nn1, ps', ws, n2, qs, tl1 ++ tl⟩ (by k_asm) (by k_asm) pw_led3 pw_own3 (pw_off hoff (allLt_append.mp ldr).2 b3) (by kst_all) (by ktr_rel) ⟨?_, b1, hws.mono fun _ _ hh => hh.mono fun _ hp => List.mem_append_right _ hp, pw_above ldt b3 hab⟩
        rw [pwRun_step hrun hin, if_neg hm0', if_neg hm0', if_neg (by omega)]
  · rintro ⟨vs, nn, ps, ws, n2, qs, tl⟩ u h tk ⟨hrun, hvs, hws, hab⟩ F2 N2
    dsimp only at hrun hvs hws hab N2
    k_steps
    have hend := pwRun_end
    rw [hrun] at hend
    obtain rfl : qs = PW := by simpa using hend
    exact hret t ws n2 tl _ _ (by k_asm) (news_back (by k_asm)) hws (lt_of_allLt lt2) hab

def lawParts : List Stmt × Scope := match PG.main.body.getLast? with
  | some (.FunctionDef _ _ body _ _ _ scope _ _ _) => (body, scope)
  | _ => ([], default)
def lawBody : List Stmt := lawParts.1
def lawScope : Scope := lawParts.2
def seg1 : List Stmt := match lawBody with | a :: b :: c :: d :: _ => [a, b, c, d] | _ => []
def seg2 : List Stmt := match lawBody with | _ :: _ :: _ :: _ :: e :: f :: _ => [e, f] | _ => []
def seg3 : List Stmt := match lawBody with | _ :: _ :: _ :: _ :: _ :: _ :: g :: _ => [g] | _ => []
def seg4 : List Stmt := match lawBody with | _ :: _ :: _ :: _ :: _ :: _ :: _ :: a :: b :: c :: d :: _ => [a, b, c, d] | _ => []
def seg5 : List Stmt := match lawBody with | _ :: _ :: _ :: _ :: _ :: _ :: _ :: _ :: _ :: _ :: _ :: a :: b :: c :: d :: _ => [a, b, c, d] | _ => []
def seg6 : List Stmt := match lawBody with | _ :: _ :: _ :: _ :: _ :: _ :: _ :: _ :: _ :: _ :: _ :: _ :: _ :: _ :: _ :: a :: b :: c :: d :: _ => [a, b, c, d] | _ => []
theorem lawBody_is : lawBody = seg1 ++ (seg2 ++ (seg3 ++ (seg4 ++ (seg5 ++ seg6)))) := by rfl
abbrev lawCl (c1 c2 c3 c4 c5 c6 c7 : Addr) : List (Str × Addr) := [(Str.ofString "named", c7), (Str.ofString "marks", c6), (Str.ofString "commons", c5), (Str.ofString "powers", c4), (Str.ofString "tail", c3), (Str.ofString "under", c2), (Str.ofString "over", c1)]
theorem law_cl (n : Nat) : cellsFrom n lawScope.names [] = lawCl n (n + 1) (n + 1 + 1) (n + 1 + 1 + 1) (n + 1 + 1 + 1 + 1) (n + 1 + 1 + 1 + 1 + 1) (n + 1 + 1 + 1 + 1 + 1 + 1) := by rfl
theorem execs_append (env : Env) (b : List Stmt) : ∀ a : List Stmt, execs (a ++ b) env = (execs a env >>= fun f => match f with | .next => execs b env | f => pure f)
  | [] => by
    show execs b env = (pure Flow.next >>= _)
    rw [pure_bind]
  | x :: r => by
    show execs (x :: (r ++ b)) env = _
    rw [execs_cons, execs_cons, bind_assoc]
    congr 1
    funext f
    cases f with
    | next => exact execs_append env b r
    | ret v => dsimp only; rw [pure_bind]
    | brk => dsimp only; rw [pure_bind]
    | cont => dsimp only; rw [pure_bind]
theorem execs_two {M : Model} {A : Around} {env : Env} {E : Value → Shared → Prop} {a b : List Stmt} {Q : Flow → Shared → Prop} {s : Shared}
    (h : wpAny M A (execs a env) (fun f s' => match f with | .next => wpAny M A (execs b env) Q E s' | f => Q f s') E s) : wpAny M A (execs (a ++ b) env) Q E s := by
  rw [execs_append]
  refine wpAny_bind (wpAny_mono h (fun f s' h' => ?_) fun _ _ x => x)
  cases f with
  | next => exact h'
  | ret v => exact wpAny_pure h'
  | brk => exact wpAny_pure h'
  | cont => exact wpAny_pure h'

theorem off1_mem {D : Addr} {news : List (Addr × Obj)} (x : Off1 D news) : ∀ p ∈ news, p.1 ≠ D := by
  induction news with
  | nil => intro p h; cases h
  | cons q r ih =>
    intro p h
    rcases List.mem_cons.mp h with rfl | h
    · exact x.1
    · exact ih x.2 p h
theorem offA {D : Addr} {news : List (Addr × Obj)} (x : Off1 D news) {c : Addr} {o : Obj} (h : (c, o) ∈ news) : NeA D c := fun e => off1_mem x _ h e.symm
theorem news_comm {h₀ h : Heap} {L : Addr} {d : Addr × Obj} {tl ex : List (Addr × Obj)} (N : News h₀ L h (d :: (tl ++ ex))) : News h₀ L h (d :: (ex ++ tl)) := news_sub N fun p hp => by
  rcases List.mem_cons.mp hp with rfl | hp
  · exact .head _
  · exact .tail _ (List.mem_append.mpr (List.mem_append.mp hp).symm)
theorem news_cut1 {h₀ h : Heap} {L : Addr} {a b : Addr × Obj} {r : List (Addr × Obj)} (N : News h₀ L h (a :: b :: r)) : News h₀ L h (a :: r) := news_sub N fun p hp => by
  rcases List.mem_cons.mp hp with rfl | hp
  · exact .head _
  · exact .tail _ (.tail _ hp)
theorem news_cut3 {h₀ h : Heap} {L : Addr} {a b c d : Addr × Obj} {r : List (Addr × Obj)} (N : News h₀ L h (a :: b :: c :: d :: r)) : News h₀ L h (a :: r) := news_cut1 (news_cut1 (news_cut1 N))
theorem lst_is (ys : List Value) : lst ys = W.listOf ys.toArray ys.length := rfl
/-- a script number's last figure and the one ahead of it -/
def dig (x : Int) : Int × Int := (x.fmod 10, (x.fdiv 10).fmod 10)
theorem ints_get {vs : List Value} {ns : List Int} (h : IntsAre vs ns) {i : Nat} {v : Value} (hv : vs[i]? = some v) : ∃ n t, ns[i]? = some n ∧ v = .int n t := by
  induction h generalizing i with
  | nil => simp at hv
  | cons n t _ ih =>
    cases i with
    | zero => simp at hv; exact ⟨n, t, rfl, hv.symm⟩
    | succ i => exact ih (by simpa using hv)
theorem off_new {I C D T : Addr} {o : Obj} {news : List (Addr × Obj)} (off : Off3 I C D news) (h : @LT.lt Nat _ I T ∧ @LT.lt Nat _ C T ∧ @LT.lt Nat _ D T) : Off3 I C D ((T, o) :: news) :=
  ⟨⟨Nat.ne_of_gt h.1, Nat.ne_of_gt h.2.1, Nat.ne_of_gt h.2.2⟩, off⟩
theorem SrcAt.more {h₀ : Heap} {ax : Addr} {its : Array Value} {p : Addr × Obj} {news : List (Addr × Obj)} (h : SrcAt h₀ ax its news) : SrcAt h₀ ax its (p :: news) := by
  rcases h with h | ⟨o, hm, r⟩
  · exact .inl h
  · exact .inr ⟨o, .tail _ hm, r⟩
theorem sub_new {T I C D : Addr × Obj} {news : List (Addr × Obj)} : ∀ p ∈ I :: C :: D :: T :: news, p ∈ T :: I :: C :: D :: news := fun p hp => by
  simp only [List.mem_cons] at hp ⊢
  grind
theorem cells_src {l : Addr} {vs : List Value} {nn : Nat} {ns : List Int} {Fin : Shared → List Value → List (Addr × Obj) → Prop} {px p1 p2 p3 p4 p5 p6 p7 p8 p9 : Pos}
   (H : At 0 w dp un cs L outer h₀ m s news) (hm : (l, W.listOf vs.toArray nn) ∈ news) (hi : IntsAre vs ns) (hl : ns.length ≤ 63)
   (hfin : ∀ s₂, (∃ h, s₂ = { s with heap := h }) → ∀ ys tl, All2 (PairR tl) ys (ns.map dig) → Above news tl → Fin s₂ ys (tl ++ news)) :
   CSrc PG w (ktrTop dp un gd cn cs L a ccd cl outer) h₀ L m (envX cn cs L a ccd cl) (.Name (Str.ofString "x") px) []
     (.Tuple [.BinOp (.Name (Str.ofString "x") p1) .Mod (.Constant (.int 10) 0 p2) p3, .BinOp (.BinOp (.Name (Str.ofString "x") p4) .FloorDiv (.Constant (.int 10) 0 p5) p6) .Mod (.Constant (.int 10) 0 p7) p8] 0 p9)
     { kind := .function, names := [(Str.ofString ".0", .local), (Str.ofString "x", .local)], isGenerator := false, isCoroutine := false } [] Fin (.ref l) s := by
  obtain ⟨⟨A₀, base, B⟩, F, X, N, ⟨mean, mg, mb, T⟩, hk, hd, hu⟩ := H
  w_top off
  k_with_none
  refine .inl ⟨l, vs.toArray, news, (fun i ys nw => ∃ tl, nw = tl ++ news ∧ All2 (PairR tl) ys ((ns.take i).map dig) ∧ Above news tl), rfl, rfl, F, N, .inr ⟨_, hm, rfl, _, rfl⟩, ?_, ⟨[], rfl, .nil, fun _ hp => (nomatch hp)⟩, (fun _ _ _ _ _ _ _ _ hQ => wpAny_pure hQ), ?_⟩
  · rw [List.size_toArray, hi.length, sizeLine_eq]; omega
  rintro s₂ ⟨hh2, rfl⟩
  refine ⟨cturn_name (by decide) (by rfl) (by rfl) ?_, ?_⟩
  · rintro i v ys nw hv ⟨tl, rfl, hys, hab⟩ hS
    obtain ⟨n, t, hn, rfl⟩ := ints_get hi (by simpa using hv)
    intro I oI C oC m₂ D h tk E' hoC hx F2 N2 off hne
    dsimp only
    k_steps
    rename (_ ∧ _ ∧ _ ∧ AllLt _ (tl ++ news)) => lT
    refine cend_intro (_ :: (tl ++ news)) (by k_asm) hoC (by assumption) sub_new (off_new off ⟨lT.1, lT.2.1, lT.2.2.1⟩) (SrcAt.more hS) ⟨_ :: tl, rfl, ?_, fun p hp q hq => ?_⟩
    · rw [List.take_add_one, hn, List.map_append]
      exact (hys.mono fun _ _ hh => hh.mono fun _ hp => .tail _ hp).snoc ⟨_, _, _, _, rfl, .head _⟩
    · rcases List.mem_cons.mp hp with rfl | hp
      · exact lt_of_allLt (allLt_append.mp lT.2.2.2).2 q hq
      · exact hab p hp q hq
  · rintro ys nw ⟨tl, rfl, hys, hab⟩
    refine hfin _ ⟨_, rfl⟩ ys tl ?_ hab
    rwa [List.size_toArray, hi.length, List.take_length] at hys
/-- the first, or the second, of each pair -/
theorem pairs_src {l : Addr} {vs : List Value} {nn : Nat} {ps : List (Int × Int)} {Fin : Shared → List Value → List (Addr × Obj) → Prop} {px p1 p2 p3 : Pos} {scope : Scope} {x : Str} {k : Int} {f : Int × Int → Int}
   (H : At 0 w dp un cs L outer h₀ m s news) (hm : (l, W.listOf vs.toArray nn) ∈ news) (hp : All2 (PairR news) vs ps) (hl : ps.length ≤ 63)
   (hsc : scope = { kind := .function, names := [(Str.ofString ".0", .local), (Str.ofString "cell", .local)], isGenerator := false, isCoroutine := false })
   (hk : (k = 0 ∧ f = (·.1)) ∨ (k = 1 ∧ f = (·.2)))
   (hfin : ∀ s₂, (∃ h, s₂ = { s with heap := h }) → ∀ ys, IntsAre ys (ps.map f) → Fin s₂ ys news) :
   CSrc PG w (ktrTop dp un gd cn cs L a ccd cl outer) h₀ L m (envX cn cs L a ccd cl) (.Name (Str.ofString "cell") px) []
     (.Subscript (.Name (Str.ofString "cell") p1) (.Constant (.int k) 0 p2) p3) scope [] Fin (.ref l) s := by
  subst hsc
  obtain ⟨⟨A₀, base, B⟩, F, X, N, ⟨mean, mg, mb, T⟩, hk', hd, hu⟩ := H
  k_with_none
  refine .inl ⟨l, vs.toArray, news, (fun i ys nw => nw = news ∧ IntsAre ys ((ps.take i).map f)), rfl, rfl, F, N, .inr ⟨_, hm, rfl, _, rfl⟩, ?_, ⟨rfl, .nil⟩, (fun _ _ _ _ _ _ _ _ hQ => wpAny_pure hQ), ?_⟩
  · rw [List.size_toArray, hp.length, sizeLine_eq]; omega
  rintro s₂ ⟨hh2, rfl⟩
  refine ⟨cturn_name (by decide) (by rfl) (by rfl) ?_, ?_⟩
  · rintro i v ys nw hv ⟨rfl, hys⟩ hS
    obtain ⟨p, hpp, D9, t9, u9, n9, rfl, hD⟩ := hp.get (i := i) (v := v) (by simpa using hv)
    intro I oI C oC m₂ D h tk E' hoC hx F2 N2 off hne
    dsimp only
    replace N2 := news_front N2 (.tail _ (.tail _ (.tail _ hD)))
    rcases hk with ⟨rfl, rfl⟩ | ⟨rfl, rfl⟩
    all_goals
      k_with "subscriptTail" => (k_dflt (refine item_tupleT (l := [.int p.1 t9, .int p.2 u9]) (News.isTup (by k_asm) (.head _)) (by decide) (by decide) rfl rfl ?_))
      k_steps
      refine cend_intro _ (by k_asm) hoC (by k_asm) (fun _ h => .tail _ h) off hS ⟨rfl, ?_⟩
      rw [List.take_add_one, hpp, List.map_append]
      exact hys.append (.cons _ _ .nil)
  · rintro ys nw ⟨rfl, hys⟩
    refine hfin _ ⟨_, rfl⟩ ys ?_
    rwa [List.size_toArray, hp.length, List.take_length] at hys
/-- the remainders by 12 -/
theorem mods_src {l : Addr} {vs : List Value} {nn : Nat} {ns : List Int} {Fin : Shared → List Value → List (Addr × Obj) → Prop} {px p1 p2 p3 : Pos}
   (H : At 0 w dp un cs L outer h₀ m s news) (hm : (l, W.listOf vs.toArray nn) ∈ news) (hi : IntsAre vs ns) (hl : ns.length ≤ 63)
   (hfin : ∀ s₂, (∃ h, s₂ = { s with heap := h }) → ∀ ys, IntsAre ys (ns.map fun x : Int => x.fmod 12) → Fin s₂ ys news) :
   CSrc PG w (ktrTop dp un gd cn cs L a ccd cl outer) h₀ L m (envX cn cs L a ccd cl) (.Name (Str.ofString "x") px) []
     (.BinOp (.Name (Str.ofString "x") p1) .Mod (.Constant (.int 12) 0 p2) p3)
     { kind := .function, names := [(Str.ofString ".0", .local), (Str.ofString "x", .local)], isGenerator := false, isCoroutine := false } [] Fin (.ref l) s := by
  obtain ⟨⟨A₀, base, B⟩, F, X, N, ⟨mean, mg, mb, T⟩, hk, hd, hu⟩ := H
  k_with_none
  refine .inl ⟨l, vs.toArray, news, (fun i ys nw => nw = news ∧ IntsAre ys ((ns.take i).map fun x : Int => x.fmod 12)), rfl, rfl, F, N, .inr ⟨_, hm, rfl, _, rfl⟩, ?_, ⟨rfl, .nil⟩, (fun _ _ _ _ _ _ _ _ hQ => wpAny_pure hQ), ?_⟩
  · rw [List.size_toArray, hi.length, sizeLine_eq]; omega
  rintro s₂ ⟨hh2, rfl⟩
  refine ⟨cturn_name (by decide) (by rfl) (by rfl) ?_, ?_⟩
  · rintro i v ys nw hv ⟨rfl, hys⟩ hS
    obtain ⟨n, t, hn, rfl⟩ := ints_get hi (by simpa using hv)
    intro I oI C oC m₂ D h tk E' hoC hx F2 N2 off hne
    dsimp only
    k_steps
    refine cend_intro _ (by k_asm) hoC (by k_asm) (fun _ h => h) off hS ⟨rfl, ?_⟩
    rw [List.take_add_one, hn, List.map_append]
    exact hys.append (.cons _ _ .nil)
  · rintro ys nw ⟨rfl, hys⟩
    refine hfin _ ⟨_, rfl⟩ ys ?_
    rwa [List.size_toArray, hi.length, List.take_length] at hys

theorem nameO {o : Obj} {d : Data} {P : Prop} (_ : o.data = d) (k : ∀ z, z = o → P) : P := k o rfl
theorem nameR {h : Heap} {r : Addr} {a b c : Int} {t u v : Tok} {P : Prop} (_ : IsRange h r a b c t u v) (k : ∀ z, z = r → P) : P := k r rfl
def commonOf (n : Int) : Int := lprod ((PW.take (cntR n).toNat).map (·.2))
def commonsL : List Int := (List.range 10).map fun (i : Nat) => commonOf (i : Int)
theorem commons_take {i : Nat} (h : i < 10) : commonsL.take (i + 1) = commonsL.take i ++ [commonOf (i : Int)] := by
  rw [List.take_add_one]
  simp [commonsL, h]
theorem commons_src {l c1 c2 c3 c4 c5 c6 c7 r : Addr} {o4 : Obj} {vs : List Value} {nn : Nat} {Fin : Shared → List Value → List (Addr × Obj) → Prop} {px p1 p2 p3 p4 : Pos} {t u v : Tok}
   (H : At 5 w dp un lawScope L outer h₀ m s news) (hm : (l, W.listOf vs.toArray nn) ∈ news) (hm4 : (c4, o4) ∈ news) (d4 : o4.data = .cell (some (.ref l))) (hp : All2 (PairR news) vs PW) (hr : IsRange s.heap r 0 10 1 t u v)
   (hfin : ∀ s₂, (∃ h, s₂ = { s with heap := h }) → ∀ ys, IntsAre ys commonsL → Fin s₂ ys news) :
   CSrc PG w (ktrTop dp un gd cn lawScope L a ccd (lawCl c1 c2 c3 c4 c5 c6 c7) outer) h₀ L m (envX cn lawScope L a ccd (lawCl c1 c2 c3 c4 c5 c6 c7)) (.Name (Str.ofString "most") px) []
     (.Call (.Name (Str.ofString "_law_common") p1) [.Name (Str.ofString "powers") p2, .Name (Str.ofString "most") p3] [] p4)
     { kind := .function, names := [(Str.ofString ".0", .local), (Str.ofString "most", .local), (Str.ofString "_law_common", .globalImplicit), (Str.ofString "powers", .free)], isGenerator := false, isCoroutine := false } [(Str.ofString "powers", c4)] Fin (.ref r) s := by
  obtain ⟨⟨A₀, base, B⟩, F, X, N, ⟨mean, mg, mb, T⟩, hk, hd, hu⟩ := H
  w_top off
  k_with_none
  refine .inr ⟨r, 0, 10, _, _, _, 10, news, (fun i ys nw => nw = news ∧ IntsAre ys (commonsL.take i)), rfl, rfl, F, N, hr, by decide, by decide, by rw [sizeLine_eq]; omega, ⟨rfl, .nil⟩, fun _ _ => rfl, ?_⟩
  rintro s₂ ⟨hh2, rfl⟩
  refine ⟨cturn_name (by decide) (by rfl) (by rfl) ?_, ?_⟩
  · rintro i v ys nw ⟨⟨ti, rfl⟩, hi⟩ ⟨rfl, hys⟩ hS
    intro I oI C oC m₂ D h tk E' hoC hx F2 N2 off hne
    dsimp only
    replace N2 := news_front N2 (.tail _ (.tail _ (.tail _ hm4)))
    rw [Int.zero_add] at hx
    have hp4 : All2 (PairR ((c4, o4) :: (I, oI) :: (C, oC) :: (D, lst ys) :: nw)) vs PW := hp.mono fun _ _ hh => hh.mono fun _ hp => .tail _ (.tail _ (.tail _ (.tail _ hp)))
    k_with "call ref" => (k_dflt (refine common_spec _ _ _ _ _ (by tb_start) (.tail _ (.tail _ (.tail _ (.tail _ hm)))) hp4 ⟨by omega, by omega⟩ ?_); intro t9 h9 tk9 F9 N9)
    k_steps
    refine cend_intro _ (by k_asm) hoC (by k_asm) (fun _ h => .tail _ h) off hS ⟨rfl, ?_⟩
    rw [commons_take hi]
    exact hys.append (.cons _ _ .nil)
  · rintro ys nw ⟨rfl, hys⟩
    refine hfin _ ⟨_, rfl⟩ ys ?_
    rwa [List.take_of_length_le (by decide)] at hys
/-- the common multiples that a run looks up -/
def runCommons (r : Int) : List Int := (rng r).map fun k => commonsL.getD (r.fdiv k).toNat 0
theorem runCommons_length (r : Int) : (runCommons r).length = r.toNat := by rw [runCommons, List.length_map, rng_length]
theorem runCommons_take {r : Int} {j : Nat} (h : j < r.toNat) : (runCommons r).take (j + 1) = (runCommons r).take j ++ [commonsL.getD (r.fdiv (1 + (j : Int))).toNat 0] := by
  rw [runCommons, ← List.map_take, rng_take h, List.map_append, List.map_take]; rfl
theorem runCommons_all (r : Int) : (runCommons r).take r.toNat = runCommons r := List.take_of_length_le (by rw [runCommons_length]; exact Nat.le_refl _)
theorem runs_src {l lc c1 c2 c3 c4 c5 c6 c7 : Addr} {o5 : Obj} {vs vc : List Value} {nn nc : Nat} {ns : List Int} {Q' : Value → Shared → Prop} {p1 p2 p3 p4 p5 p6 q1 q2 q3 q4 q5 : Pos}
   (H : At 5 w dp un lawScope L outer h₀ m s news) (hm : (l, W.listOf vs.toArray nn) ∈ news) (hI : IntsAre vs ns) (hb : ∀ x ∈ ns, 0 ≤ x ∧ x < 10) (hl : ns.length ≤ 5)
   (hm5 : (c5, o5) ∈ news) (d5 : o5.data = .cell (some (.ref lc))) (hmc : (lc, W.listOf vc.toArray nc) ∈ news) (hc : IntsAre vc commonsL)
   (hfin : ∀ s₂, (∃ h, s₂ = { s with heap := h }) → ∀ ys, IntsAre ys (ns.flatMap runCommons) → FinE h₀ L m s₂ Q' ys news) :
   C2Top PG w (ktrTop dp un gd cn lawScope L a ccd (lawCl c1 c2 c3 c4 c5 c6 c7) outer) h₀ L m (envX cn lawScope L a ccd (lawCl c1 c2 c3 c4 c5 c6 c7)) (Str.ofString "run") (Str.ofString "k")
     (.Call (.Name (Str.ofString "range") p1) [.Constant (.int 1) 0 p2, .BinOp (.Name (Str.ofString "run") p3) .Add (.Constant (.int 1) 0 p4) p5] [] p6)
     (.Subscript (.Name (Str.ofString "commons") q1) (.BinOp (.Name (Str.ofString "run") q2) .FloorDiv (.Name (Str.ofString "k") q3) q4) q5)
     { kind := .function, names := [(Str.ofString ".0", .local), (Str.ofString "run", .local), (Str.ofString "k", .local), (Str.ofString "range", .globalImplicit), (Str.ofString "commons", .free)], isGenerator := false, isCoroutine := false } [(Str.ofString "commons", c5)] Q' (.ref l) s := by
  obtain ⟨⟨A₀, base, B⟩, F, X, N, ⟨mean, mg, mb, T⟩, hk, hd, hu⟩ := H
  have hb9 : ∀ x ∈ ns, (runCommons x).length ≤ 9 := fun x hx => by have := hb x hx; rw [runCommons_length]; omega
  k_with_none
  refine ⟨l, vs.toArray, news, (fun i ys nw => nw = news ∧ IntsAre ys ((ns.take i).flatMap runCommons)), rfl, rfl, F, N, .inr ⟨_, hm, rfl, _, rfl⟩, ⟨rfl, .nil⟩, ?_⟩
  rintro s₂ ⟨hh2, rfl⟩
  refine ⟨?_, ?_⟩
  · rintro i v ys nw I oI C oC m₂ D h tk E' hv ⟨rfl, hys⟩ hS hoC hx F2 N2 off hne
    obtain ⟨k, t, rfl, hk⟩ := hI.at i v (by simpa using hv)
    have hkb := hb k (List.mem_of_getElem? hk)
    k_steps
    refine ⟨_, 1, k + 1, _, _, _, k.toNat, (fun j ys' nw => nw = _ ∧ IntsAre ys' ((ns.take i).flatMap runCommons ++ (runCommons k).take j)), _, _, _, rfl, rfl, (by k_asm), (by k_asm), off, hS, (by assumption), small_one (by omega) (by omega) (by omega) (by omega), rangeSize_one hkb.1, ⟨rfl, by simpa using hys⟩, ?_, ?_, ?_⟩
    · rintro j ys' nw ⟨rfl, hys'⟩
      rw [hys'.length, List.length_append, List.length_take, runCommons_length]
      have := take_bound (f := runCommons) i hb9 hl
      omega
    · rintro j t' ys' nw I' oI' oC' m₃ h' tk' E'' hj ⟨rfl, hys'⟩ hS' hoC' hx' hy' F3 N3 off' offI
      replace N3 := news_front N3 (.tail _ (.tail _ (.tail _ (.tail _ hm5))))
      replace N3 := news_front N3 (.tail _ (.tail _ (.tail _ (.tail _ (.tail _ hmc)))))
      have hfd := fdiv_bounds (a := k) (b := 1 + (j : Int)) hkb.1 (by omega)
      have hcl : vc.length = 10 := by rw [hc.length]; rfl
      obtain ⟨v, hv⟩ : ∃ v, vc[(k.fdiv (1 + (j : Int))).toNat]? = some v := ⟨_, List.getElem?_eq_getElem (by omega)⟩
      obtain ⟨tv, rfl⟩ := hc.int_at _ _ hv
      k_with "subscriptTail" => (k_dflt (refine item_litK (News.isList (by k_asm) (by k_mem)) (by omega) (by omega) hv ?_))
      k_steps
      refine ⟨_, _, _, rfl, (by k_asm), news_back (news_back (by k_asm)), off', offI, hS', rfl, ?_⟩
      rw [runCommons_take hj, ← List.append_assoc]
      exact hys'.append (.cons _ _ .nil)
    · rintro ys' nw ⟨rfl, hys'⟩
      refine ⟨rfl, ?_⟩
      rw [flat_take hk, ← runCommons_all k]
      exact hys'
  · rintro ys nw ⟨rfl, hys⟩
    rw [List.size_toArray, hI.length, List.take_length] at hys
    exact hfin _ ⟨_, rfl⟩ ys hys
theorem walks_wide {prog : Program} {w : World} {A : Around} {I : Addr} {fp wr : List Addr} {n : Nat} {P : Nat → Value → Prop} {St : Nat → Heap → Prop} (W : Walks prog w A I fp wr n P St) : Walks prog w A I fp fp n P St where
  sub := fun _ h => h
  frame := W.frame
  item := fun i s Q E hi st hQ => W.item i s Q E hi st fun v h' tk hP hst hk => hQ v h' tk hP hst fun b o hb e => hk b o (fun q => hb (W.sub b q)) e
  done := fun s Q E st hQ => W.done s Q E st fun h' tk hk => hQ h' tk fun b o hb e => hk b o (fun q => hb (W.sub b q)) e
  self := W.self
theorem g_tuple {prog : Program} {w : World} {A : Around} {E : Value → Shared → Prop} {s : Shared} {env : Env} {h₀ : Heap} {x : Str} {body : List Stmt} {Q : Flow → Shared → Prop} {σ : Type} {ax : Addr} {items : Array Value} {na : Nat} {m₀ : Str → Option Value} (Led : σ → List (Addr × Obj)) (ps : σ → List (Str × Value)) (stored : List Str) (P : Nat → σ → Prop) (c₀ : σ)
    (hh : A.handled = none) (N : News h₀ env.locals s.heap ((ax, ({ cls := .type "tuple", data := .seq items na } : Obj)) :: Led c₀)) (hax : ∀ p ∈ Led c₀, p.1 ≠ ax)
    (F : Fr h₀ env.locals s.heap m₀) (hk : ∀ p ∈ ps c₀, m₀ p.1 = some p.2) (hp : P 0 c₀)
    (turn : ∀ (i : Nat) v (c : σ) (u : Str → Option Value) h tk own, items[i]? = some v → P i c → OwnOff own ((Led c).map (·.1)) →
      Fr h₀ env.locals h (fun y => if y = x then some v else kstB (fun z => if stored.contains z then u z else m₀ z) (ps c) y) → News h₀ env.locals h (Led c ++ own) →
      wpAny (model prog w) A (execs body env) (InvPostG h₀ env.locals (KgS Led ps x stored m₀ (P (i + 1))) own { s with heap := h, toks := tk } Q) E { s with heap := h, toks := tk })
    (done : ∀ (c : σ) (u : Str → Option Value) h tk, P items.size c → Fr h₀ env.locals h (fun y => if y = x then u y else kstB (fun z => if stored.contains z then u z else m₀ z) (ps c) y) → News h₀ env.locals h (Led c) → Q .next { s with heap := h, toks := tk }) :
    wpAny (model prog w) A (pyIter (.ref ax)) (fun it s₂ => LoopAtV prog w A h₀ env x body Q E it s₂) E s := by
  have zx := N _ (.head _)
  have ht : s.heap.IsTuple ax items := ⟨_, zx.1, rfl, na, rfl⟩
  have hlt : @LT.lt Nat _ ax s.heap.objs.size := Heap.lt_size zx.1
  have hN : ∀ p ∈ Led c₀, @LT.lt Nat _ p.1 s.heap.objs.size := fun p hp => Heap.lt_size (N p (.tail _ hp)).1
  have hL : @LT.lt Nat _ env.locals s.heap.objs.size := F.ns.lt
  refine wpAny_pyIter_tuple ht ?_
  refine kdr_loop (fun i m nx => KgS Led ps x stored m₀ (P i) m nx) (walks_wide (Walks.tuple hh s.heap.objs.size ax (Nat.ne_of_lt hlt) items)) (fun _ h => h) (fun _ h => h) (fun i h st b hb => ?_) (fun hm => ?_)
    (fun b hb => ?_) (fun p hp hm => ?_) ⟨⟨_, Heap.get?_push_size _ rfl, rfl, rfl⟩, ht.push _⟩ (F.push _) (fun p hp => ⟨Heap.get?_push_of_some _ (N p (.tail _ hp)).1, (N p (.tail _ hp)).2⟩) ⟨c₀, rfl, hk, fun _ _ _ _ => rfl, hp⟩ ?_ ?_
  · rcases List.mem_cons.mp hb with rfl | hb
    · obtain ⟨o, e, _⟩ := st.1; exact ⟨o, e⟩
    · rw [List.mem_singleton.mp hb]; obtain ⟨o, e, _⟩ := st.2; exact ⟨o, e⟩
  · rcases List.mem_cons.mp hm with hm | hm
    · exact absurd hL (hm ▸ Nat.lt_irrefl _)
    · exact zx.2.1 (List.mem_singleton.mp hm).symm
  · rcases List.mem_cons.mp hb with rfl | hb
    · exact next_is_new F
    · rw [List.mem_singleton.mp hb]; exact zx.2.2
  · rcases List.mem_cons.mp hm with hm | hm
    · exact absurd (hN p hp) (hm ▸ Nat.lt_irrefl _)
    · exact hax p hp (List.mem_singleton.mp hm)
  · rintro i v m₁ nx h tk own hi hv hoff ⟨c, rfl, h1, h2, hp'⟩ F₁ N₁
    exact turn i v c m₁ h tk own hv hp' hoff (kst_fr h1 h2 F₁) N₁
  · rintro m₁ nx h tk ⟨c, rfl, h1, h2, hp'⟩ F₁ N₁
    exact done c m₁ h tk hp' (kst_frOut h1 h2 F₁) N₁

theorem foldl_mul (ns : List Int) : ∀ a : Int, ns.foldl (fun a b => a * b) a = a * ns.foldl (fun a b => a * b) 1 := by
  induction ns with
  | nil => intro a; simp
  | cons n r ih =>
    intro a
    rw [List.foldl_cons, List.foldl_cons, ih, ih (1 * n), Int.one_mul, Int.mul_assoc]
theorem lprod_nil : lprod [] = 1 := rfl
theorem lprod_cons (n : Int) (r : List Int) : lprod (n :: r) = n * lprod r := by
  unfold lprod
  rw [List.foldl_cons, foldl_mul, Int.one_mul]
theorem lprod_append (a b : List Int) : lprod (a ++ b) = lprod a * lprod b := by
  unfold lprod
  rw [List.foldl_append, foldl_mul]
theorem ten_cases {P : Int → Prop} (h : ∀ i : Nat, i < 10 → P (i : Int)) {x : Int} (hx : 0 ≤ x ∧ x < 10) : P x := by
  have := h x.toNat (by omega)
  rwa [Int.toNat_of_nonneg hx.1] at this
theorem chebyshev_one : ∀ i : Nat, i < 10 → lprod (runCommons (i : Int)) = lprod (rng (i : Int)) := by decide +kernel
/-- Chebyshev: the common multiples over a bag's runs make the runs' factorials -/
theorem law1 (ns : List Int) (hb : ∀ x ∈ ns, 0 ≤ x ∧ x < 10) : lprod (ns.flatMap runCommons) = lprod (ns.flatMap rng) := by
  induction ns with
  | nil => rfl
  | cons n r ih =>
    rw [List.flatMap_cons, List.flatMap_cons, lprod_append, lprod_append, ih fun x hx => hb x (.tail _ hx), ten_cases (P := fun x => lprod (runCommons x) = lprod (rng x)) chebyshev_one (hb n (.head _))]
theorem runCommons_fit : ∀ i : Nat, i < 10 → (runCommons (i : Int)).all (fun x => decide (-(2 ^ 64) < x ∧ x < 2 ^ 64)) = true := by decide +kernel
theorem runCommons_bound (ns : List Int) (hb : ∀ x ∈ ns, 0 ≤ x ∧ x < 10) : ∀ x ∈ ns.flatMap runCommons, -(2 ^ 64) < x ∧ x < 2 ^ 64 := fun x hx => by
  obtain ⟨r, hr, hxr⟩ := List.mem_flatMap.mp hx
  have := ten_cases (P := fun r => (runCommons r).all (fun x => decide (-(2 ^ 64) < x ∧ x < 2 ^ 64)) = true) runCommons_fit (hb r hr)
  simpa using List.all_eq_true.mp this x hxr

theorem above_size {h₀ h : Heap} {L : Addr} {news : List (Addr × Obj)} (N : News h₀ L h news) : AllLt h.objs.size news := allLt_of (d := h.objs.size) fun p hp => Heap.lt_size (N p hp).1
theorem sub_new2 {T T' I C D c : Addr × Obj} {news : List (Addr × Obj)} : ∀ p ∈ I :: C :: D :: T :: T' :: news, p ∈ T :: T' :: c :: I :: C :: D :: news := fun p hp => by
  simp only [List.mem_cons] at hp ⊢
  grind
theorem Rows3.at {tl : List (Addr × Obj)} {vs : List Value} {rs : List (Int × Int × Int)} (h : Rows3 tl vs rs) : ∀ {i : Nat} {v : Value}, vs[i]? = some v → ∃ (D : Addr) (a b c : Int) (ta tb tc : Tok), rs[i]? = some (a, b, c) ∧ v = .ref D ∧ (D, tup [.int a ta, .int b tb, .int c tc]) ∈ tl := by
  induction h with
  | nil => intro i v h; simp at h
  | @snoc vs rs D a b c ta tb tc r hm ih =>
    intro i v h
    have hl := r.length
    rcases Nat.lt_trichotomy i vs.length with h1 | h1 | h1
    · rw [List.getElem?_append_left h1] at h
      rw [List.getElem?_append_left (by omega)]
      exact ih h
    · subst h1
      rw [List.getElem?_append_right (Nat.le_refl _), Nat.sub_self] at h
      rw [List.getElem?_append_right (by omega), hl, Nat.sub_self]
      simp at h
      exact ⟨D, a, b, c, ta, tb, tc, rfl, h.symm, hm⟩
    · rw [List.getElem?_eq_none (by simp; omega)] at h
      cases h
/-- a mark: a prime beside a quotient and a remainder -/
def MarkR (tl : List (Addr × Obj)) (v : Value) (q : Int × Int × Int) : Prop := ∃ (D D' : Addr) (t u t' : Tok), v = .ref D ∧ (D, tup [.int q.1 t, .ref D']) ∈ tl ∧ (D', tup [.int q.2.1 u, .int q.2.2 t']) ∈ tl
theorem MarkR.mono {tl tl' : List (Addr × Obj)} (hs : ∀ p ∈ tl, p ∈ tl') {v : Value} {q : Int × Int × Int} (h : MarkR tl v q) : MarkR tl' v q := by
  obtain ⟨D, D', t, u, t', rfl, h1, h2⟩ := h
  exact ⟨D, D', t, u, t', rfl, hs _ h1, hs _ h2⟩
def markOf (r : Int × Int × Int) : Int × Int × Int := (primeOf r.1, (r.2.1 - r.2.2).fdiv r.1, (r.2.1 - r.2.2).fmod r.1)
theorem marks_src {l c1 c2 c3 c4 c5 c6 c7 lp : Addr} {o4 : Obj} {vs vp : List Value} {nn np : Nat} {rows : List (Int × Int × Int)} {Fin : Shared → List Value → List (Addr × Obj) → Prop} {x1 x2 x3 xp p1 p2 p3 p4 q1 q2 q3 q4 q5 q6 q7 : Pos}
   (H : At 5 w dp un lawScope L outer h₀ m s news) (hm : (l, W.listOf vs.toArray nn) ∈ news) (hr : Rows3 news vs rows) (hb : ∀ r ∈ rows, 1 ≤ r.1 ∧ r.1 ≤ 100) (hl : rows.length ≤ 100)
   (hm4 : (c4, o4) ∈ news) (d4 : o4.data = .cell (some (.ref lp))) (hmp : (lp, W.listOf vp.toArray np) ∈ news) (hp : All2 (PairR news) vp PW)
   (hfin : ∀ s₂, (∃ h, s₂ = { s with heap := h }) → ∀ ys tl, All2 (MarkR tl) ys (rows.map markOf) → Above news tl → Fin s₂ ys (tl ++ news)) :
   CSrc PG w (ktrTop dp un gd cn lawScope L a ccd (lawCl c1 c2 c3 c4 c5 c6 c7) outer) h₀ L m (envX cn lawScope L a ccd (lawCl c1 c2 c3 c4 c5 c6 c7)) (.Tuple [.Name (Str.ofString "size") x1, .Name (Str.ofString "here") x2, .Name (Str.ofString "there") x3] 0 xp) []
     (.Tuple [.Call (.Name (Str.ofString "_law_prime") p1) [.Name (Str.ofString "powers") p2, .Name (Str.ofString "size") p3] [] p4, .Call (.Name (Str.ofString "divmod") q1) [.BinOp (.Name (Str.ofString "here") q2) .Sub (.Name (Str.ofString "there") q3) q4, .Name (Str.ofString "size") q5] [] q6] 0 q7)
     { kind := .function, names := [(Str.ofString ".0", .local), (Str.ofString "size", .local), (Str.ofString "here", .local), (Str.ofString "there", .local), (Str.ofString "_law_prime", .globalImplicit), (Str.ofString "divmod", .globalImplicit), (Str.ofString "powers", .free)], isGenerator := false, isCoroutine := false } [(Str.ofString "powers", c4)] Fin (.ref l) s := by
  obtain ⟨⟨A₀, base, B⟩, F, X, N, ⟨mean, mg, mb, T⟩, hk, hd, hu⟩ := H
  have hvl : vs.length = rows.length := hr.length
  w_top off
  k_with_none
  refine .inl ⟨l, vs.toArray, news, (fun i ys nw => ∃ tl, nw = tl ++ news ∧ All2 (MarkR tl) ys ((rows.take i).map markOf) ∧ Above news tl), rfl, rfl, F, N, .inr ⟨_, hm, rfl, _, rfl⟩, ?_, ⟨[], rfl, .nil, fun _ hp => (nomatch hp)⟩, ?_, ?_⟩
  · rw [List.size_toArray, hvl, sizeLine_eq]; omega
  · intro i v s I Q E hv hit hQ
    obtain ⟨T9, _, _, _, _, _, _, _, rfl, _⟩ := hr.at (i := i) (v := v) (by simpa using hv)
    exact wpAny_letOwnedTupleGo_listiter hit hQ
  rintro s₂ ⟨hh2, rfl⟩
  refine ⟨cturn_triple rfl (by decide) (by rfl) (by rfl) (by rfl) (by decide) (by decide) (by decide) (by rfl) ?_, ?_⟩
  · rintro i v ys nw hv ⟨tl, rfl, hys, hab⟩ hS
    obtain ⟨T9, ra, rb, rc, ta, tb, tc, hrr, rfl, hT⟩ := hr.at (i := i) (v := v) (by simpa using hv)
    have hbb := hb _ (List.mem_of_getElem? hrr)
    refine ⟨T9, _, _, _, _, rfl, List.mem_append_right tl hT, ?_⟩
    intro I oI C oC m₂ D h tk E' hoC hx F2 N2 off hne
    obtain ⟨hx1, hx2, hx3⟩ := hx
    dsimp only
    replace N2 := news_front N2 (.tail _ (.tail _ (.tail _ (List.mem_append_right tl hm4))))
    have hp4 : All2 (PairR ((c4, o4) :: (I, oI) :: (C, oC) :: (D, lst ys) :: (tl ++ news))) vp PW := hp.mono fun _ _ hh => hh.mono fun _ hp => .tail _ (.tail _ (.tail _ (.tail _ (List.mem_append_right tl hp))))
    k_with "call ref" => (k_dflt (refine prime_spec _ _ _ _ _ (by tb_start) (.tail _ (.tail _ (.tail _ (.tail _ (List.mem_append_right tl hmp))))) hp4 hbb ?_); intro t9 h9 tk9 F9 N9; k_dflt (have K9 := above_size N9))
    k_steps
    rename News _ _ _ (_ :: _ :: (c4, o4) :: _) => NN
    rename (_ ∧ _ ∧ _ ∧ _ ∧ _ ∧ AllLt _ (tl ++ news)) => lT
    refine nameOne NN fun D2 e9 => ?_
    subst e9
    obtain ⟨_, K1, K2, K3, K4⟩ := K9
    obtain ⟨l1, _, l2, l3, l4, l5⟩ := lT
    refine cend_intro (_ :: _ :: (tl ++ news)) (by k_asm) hoC NN sub_new2 (off_new (off_new off ⟨K1, K2, K3⟩) ⟨l2, l3, l4⟩) (SrcAt.more (SrcAt.more hS)) ⟨_ :: _ :: tl, rfl, ?_, fun p hp q hq => ?_⟩
    · rw [List.take_add_one, hrr, List.map_append]
      exact (hys.mono fun _ _ hh => hh.mono fun _ hp => .tail _ (.tail _ hp)).snoc ⟨D2, _, _, _, _, rfl, .head _, .tail _ (.head _)⟩
    · rcases List.mem_cons.mp hp with rfl | hp
      · exact lt_of_allLt (allLt_append.mp l5).2 q hq
      · rcases List.mem_cons.mp hp with rfl | hp
        · exact lt_of_allLt (allLt_append.mp K4).2 q hq
        · exact hab p hp q hq
  · rintro ys nw ⟨tl, rfl, hys, hab⟩
    refine hfin _ ⟨_, rfl⟩ ys tl ?_ hab
    rwa [List.size_toArray, hvl, List.take_length] at hys

/-- the marks with a remainder: none -/
theorem rests_src {l : Addr} {vs : List Value} {nn : Nat} {qs : List (Int × Int × Int)} {Fin : Shared → List Value → List (Addr × Obj) → Prop} {px p1 p2 p3 p4 p5 p6 p7 p8 : Pos}
   (H : At 5 w dp un cs L outer h₀ m s news) (hm : (l, W.listOf vs.toArray nn) ∈ news) (hq : All2 (MarkR news) vs qs) (h0 : ∀ q ∈ qs, q.2.2 = 0) (hl : qs.length ≤ 100)
   (hfin : ∀ s₂, (∃ h, s₂ = { s with heap := h }) → Fin s₂ [] news) :
   CSrc PG w (ktrTop dp un gd cn cs L a ccd cl outer) h₀ L m (envX cn cs L a ccd cl) (.Name (Str.ofString "mark") px)
     [.Compare (.Subscript (.Subscript (.Name (Str.ofString "mark") p1) (.Constant (.int 1) 0 p2) p3) (.Constant (.int 1) 0 p4) p5) [.NotEq] [.Constant (.int 0) 0 p6] p7]
     (.Name (Str.ofString "mark") p8)
     { kind := .function, names := [(Str.ofString ".0", .local), (Str.ofString "mark", .local)], isGenerator := false, isCoroutine := false } [] Fin (.ref l) s := by
  obtain ⟨⟨A₀, base, B⟩, F, X, N, ⟨mean, mg, mb, T⟩, hk, hd, hu⟩ := H
  have hvl : vs.length = qs.length := hq.length
  w_top off
  k_with_none
  refine .inl ⟨l, vs.toArray, news, (fun i ys nw => nw = news ∧ ys = []), rfl, rfl, F, N, .inr ⟨_, hm, rfl, _, rfl⟩, ?_, ⟨rfl, rfl⟩, (fun _ _ _ _ _ _ _ _ hQ => wpAny_pure hQ), ?_⟩
  · rw [List.size_toArray, hvl, sizeLine_eq]; omega
  rintro s₂ ⟨hh2, rfl⟩
  refine ⟨cturn_name (Nat.le_refl _) (by rfl) (by rfl) ?_, ?_⟩
  · rintro i v ys nw hv ⟨rfl, rfl⟩ hS
    obtain ⟨⟨q1, q2, q3⟩, hqq, D1, D2, t, u, t', rfl, hD1, hD2⟩ := hq.get (i := i) (v := v) (by simpa using hv)
    have hz : q3 = 0 := h0 _ (List.mem_of_getElem? hqq)
    subst hz
    dsimp only at hD1 hD2
    intro I oI C oC m₂ D h tk E' hoC hx F2 N2 off hne
    dsimp only
    replace N2 := news_front N2 (.tail _ (.tail _ (.tail _ hD1)))
    replace N2 := news_front N2 (.tail _ (.tail _ (.tail _ (.tail _ hD2))))
    k_with "subscriptTail" => (first | (k_dflt (refine item_tupleT (l := [.int q1 t, .ref D2]) (News.isTup (by k_asm) (.tail _ (.head _))) (by decide) (by decide) rfl rfl ?_)) | (k_dflt (refine item_tupleT (l := [.int q2 u, .int 0 t']) (News.isTup (by k_asm) (.head _)) (by decide) (by decide) rfl rfl ?_)))
    k_steps
    refine cend_intro _ (by k_asm) hoC (news_back (news_back (by k_asm))) (fun _ h => h) off hS ⟨rfl, rfl⟩
  · rintro ys nw ⟨rfl, rfl⟩
    exact hfin _ ⟨_, rfl⟩

/-- prime ** total where total lies above 0 -/
def upsOf (ss : List (Int × Int)) : List Int := (ss.filter fun p => decide (p.2 > 0)).map fun p => p.1 ^ p.2.toNat
def lowsOf (ss : List (Int × Int)) : List Int := (ss.filter fun p => decide (p.2 < 0)).map fun p => p.1 ^ (0 - p.2).toNat
theorem ups_src {l : Addr} {vs : List Value} {nn : Nat} {ss : List (Int × Int)} {Fin : Shared → List Value → List (Addr × Obj) → Prop} {x1 x2 xp t1 t2 t3 p1 p2 p3 : Pos}
   (H : At 5 w dp un cs L outer h₀ m s news) (hm : (l, W.listOf vs.toArray nn) ∈ news) (hp : All2 (PairR news) vs ss) (hb : ∀ p ∈ ss, 0 ≤ p.1 ∧ p.1 ≤ 100 ∧ -1000 ≤ p.2 ∧ p.2 ≤ 1000) (hl : ss.length ≤ 100)
   (hfin : ∀ s₂, (∃ h, s₂ = { s with heap := h }) → ∀ ys, IntsAre ys (upsOf ss) → Fin s₂ ys news) :
   CSrc PG w (ktrTop dp un gd cn cs L a ccd cl outer) h₀ L m (envX cn cs L a ccd cl) (.Tuple [.Name (Str.ofString "prime") x1, .Name (Str.ofString "total") x2] 0 xp)
     [.Compare (.Name (Str.ofString "total") t1) [.Gt] [.Constant (.int 0) 0 t2] t3]
     (.BinOp (.Name (Str.ofString "prime") p1) .Pow (.Name (Str.ofString "total") p2) p3)
     { kind := .function, names := [(Str.ofString ".0", .local), (Str.ofString "prime", .local), (Str.ofString "total", .local)], isGenerator := false, isCoroutine := false } [] Fin (.ref l) s := by
  obtain ⟨⟨A₀, base, B⟩, F, X, N, ⟨mean, mg, mb, T⟩, hk, hd, hu⟩ := H
  have hvl : vs.length = ss.length := hp.length
  w_top off
  k_with_none
  refine .inl ⟨l, vs.toArray, news, (fun i ys nw => nw = news ∧ IntsAre ys (upsOf (ss.take i))), rfl, rfl, F, N, .inr ⟨_, hm, rfl, _, rfl⟩, ?_, ⟨rfl, .nil⟩, ?_, ?_⟩
  · rw [List.size_toArray, hvl, sizeLine_eq]; omega
  · intro i v s I Q E hv hit hQ
    obtain ⟨_, _, D9, _, _, _, rfl, _⟩ := hp.get (i := i) (v := v) (by simpa using hv)
    exact wpAny_letOwnedTupleGo_listiter hit hQ
  rintro s₂ ⟨hh2, rfl⟩
  refine ⟨cturn_pair rfl (Nat.le_refl _) (by rfl) (by rfl) (by decide) (by rfl) ?_, ?_⟩
  · rintro i v ys nw hv ⟨rfl, hys⟩ hS
    obtain ⟨⟨p, q⟩, hpp, D9, t9, u9, n9, rfl, hD⟩ := hp.get (i := i) (v := v) (by simpa using hv)
    have hbb := hb _ (List.mem_of_getElem? hpp)
    obtain ⟨hb1, hb2, hb3, hb4⟩ := hbb
    dsimp only at hD hb1 hb2 hb3 hb4
    refine ⟨D9, n9, _, _, rfl, hD, ?_⟩
    intro I oI C oC m₂ D h tk E' hoC hx F2 N2 off hne
    obtain ⟨hx1, hx2⟩ := hx
    dsimp only
    k_with "binaryOp Pow int int" => (k_dflt (refine pow_int_small (by omega) (by omega) (by omega) ?_))
    k_steps
    · refine cend_intro _ (by k_asm) hoC (by k_asm) (fun _ h => h) off hS ⟨rfl, ?_⟩
      rename (q > 0) => hq
      rw [upsOf, List.take_add_one, hpp, List.filter_append, List.map_append]
      simp only [Option.toList, List.filter_cons, List.filter_nil, hq, decide_true, if_true, List.map_cons, List.map_nil]
      exact hys.append (.cons _ _ .nil)
    · refine cend_intro _ (by k_asm) hoC (by k_asm) (fun _ h => h) off hS ⟨rfl, ?_⟩
      rename (¬ (q > 0)) => hq
      rw [upsOf, List.take_add_one, hpp, List.filter_append, List.map_append]
      simp only [Option.toList, List.filter_cons, List.filter_nil, hq, decide_false, Bool.false_eq_true, if_false, List.map_nil, List.append_nil]
      exact hys
  · rintro ys nw ⟨rfl, hys⟩
    refine hfin _ ⟨_, rfl⟩ ys ?_
    rwa [List.size_toArray, hvl, List.take_length] at hys
theorem lows_src {l : Addr} {vs : List Value} {nn : Nat} {ss : List (Int × Int)} {Fin : Shared → List Value → List (Addr × Obj) → Prop} {x1 x2 xp t1 t2 t3 p1 p2 p3 p4 p5 : Pos}
   (H : At 5 w dp un cs L outer h₀ m s news) (hm : (l, W.listOf vs.toArray nn) ∈ news) (hp : All2 (PairR news) vs ss) (hb : ∀ p ∈ ss, 0 ≤ p.1 ∧ p.1 ≤ 100 ∧ -1000 ≤ p.2 ∧ p.2 ≤ 1000) (hl : ss.length ≤ 100)
   (hfin : ∀ s₂, (∃ h, s₂ = { s with heap := h }) → ∀ ys, IntsAre ys (lowsOf ss) → Fin s₂ ys news) :
   CSrc PG w (ktrTop dp un gd cn cs L a ccd cl outer) h₀ L m (envX cn cs L a ccd cl) (.Tuple [.Name (Str.ofString "prime") x1, .Name (Str.ofString "total") x2] 0 xp)
     [.Compare (.Name (Str.ofString "total") t1) [.Lt] [.Constant (.int 0) 0 t2] t3]
     (.BinOp (.Name (Str.ofString "prime") p1) .Pow (.BinOp (.Constant (.int 0) 0 p2) .Sub (.Name (Str.ofString "total") p3) p4) p5)
     { kind := .function, names := [(Str.ofString ".0", .local), (Str.ofString "prime", .local), (Str.ofString "total", .local)], isGenerator := false, isCoroutine := false } [] Fin (.ref l) s := by
  obtain ⟨⟨A₀, base, B⟩, F, X, N, ⟨mean, mg, mb, T⟩, hk, hd, hu⟩ := H
  have hvl : vs.length = ss.length := hp.length
  k_with_none
  refine .inl ⟨l, vs.toArray, news, (fun i ys nw => nw = news ∧ IntsAre ys (lowsOf (ss.take i))), rfl, rfl, F, N, .inr ⟨_, hm, rfl, _, rfl⟩, ?_, ⟨rfl, .nil⟩, ?_, ?_⟩
  · rw [List.size_toArray, hvl, sizeLine_eq]; omega
  · intro i v s I Q E hv hit hQ
    obtain ⟨_, _, D9, _, _, _, rfl, _⟩ := hp.get (i := i) (v := v) (by simpa using hv)
    exact wpAny_letOwnedTupleGo_listiter hit hQ
  rintro s₂ ⟨hh2, rfl⟩
  refine ⟨cturn_pair rfl (Nat.le_refl _) (by rfl) (by rfl) (by decide) (by rfl) ?_, ?_⟩
  · rintro i v ys nw hv ⟨rfl, hys⟩ hS
    obtain ⟨⟨p, q⟩, hpp, D9, t9, u9, n9, rfl, hD⟩ := hp.get (i := i) (v := v) (by simpa using hv)
    have hbb := hb _ (List.mem_of_getElem? hpp)
    obtain ⟨hb1, hb2, hb3, hb4⟩ := hbb
    dsimp only at hD hb1 hb2 hb3 hb4
    refine ⟨D9, n9, _, _, rfl, hD, ?_⟩
    intro I oI C oC m₂ D h tk E' hoC hx F2 N2 off hne
    obtain ⟨hx1, hx2⟩ := hx
    dsimp only
    k_with "binaryOp Pow int int" => (k_dflt (refine pow_int_small (by omega) (by omega) (by omega) ?_))
    k_steps
    · refine cend_intro _ (by k_asm) hoC (by k_asm) (fun _ h => h) off hS ⟨rfl, ?_⟩
      rename (q < 0) => hq
      rw [lowsOf, List.take_add_one, hpp, List.filter_append, List.map_append]
      simp only [Option.toList, List.filter_cons, List.filter_nil, hq, decide_true, if_true, List.map_cons, List.map_nil]
      exact hys.append (.cons _ _ .nil)
    · refine cend_intro _ (by k_asm) hoC (by k_asm) (fun _ h => h) off hS ⟨rfl, ?_⟩
      rename (¬ (q < 0)) => hq
      rw [lowsOf, List.take_add_one, hpp, List.filter_append, List.map_append]
      simp only [Option.toList, List.filter_cons, List.filter_nil, hq, decide_false, Bool.false_eq_true, if_false, List.map_nil, List.append_nil]
      exact hys
  · rintro ys nw ⟨rfl, hys⟩
    refine hfin _ ⟨_, rfl⟩ ys ?_
    rwa [List.size_toArray, hvl, List.take_length] at hys

abbrev sumScope : Scope := { kind := .function, names := [(Str.ofString ".0", .local), (Str.ofString "power", .local), (Str.ofString "prime", .cell), (Str.ofString "sum", .globalImplicit), (Str.ofString "marks", .free)], isGenerator := false, isCoroutine := false }
/-- the quotients of a prime's marks -/
def quotsOf (qs : List (Int × Int × Int)) (p : Int) : List Int := (qs.filter fun q => decide (q.1 = p)).map (·.2.1)
theorem quots_src {l c1 c2 c3 c4 c5 c6 c7 K C0 : Addr} {oK : Obj} {pr : Int} {tp : Tok} {vs : List Value} {nn : Nat} {qs : List (Int × Int × Int)} {Fin : Shared → List Value → List (Addr × Obj) → Prop} {px e1 e2 e3 e4 e5 t1 t2 t3 t4 t5 : Pos}
   (H : At 5 w dp un lawScope L outer h₀ m s news) (hm : (l, W.listOf vs.toArray nn) ∈ news) (hq : All2 (MarkR news) vs qs) (hl : qs.length ≤ 100) (hK : (K, oK) ∈ news) (dK : oK.data = .cell (some (.int pr tp)))
   (hfin : ∀ s₂, (∃ h, s₂ = { s with heap := h }) → ∀ ys, IntsAre ys (quotsOf qs pr) → Fin s₂ ys news) :
   CSrc PG w (ktrTop dp un gd cn lawScope L a ccd (lawCl c1 c2 c3 c4 c5 c6 c7) outer) h₀ L m (compEnvC sumScope [(Str.ofString "prime", K), (Str.ofString "marks", c6)] C0 (envX cn lawScope L a ccd (lawCl c1 c2 c3 c4 c5 c6 c7))) (.Name (Str.ofString "mark") px)
     [.Compare (.Subscript (.Name (Str.ofString "mark") t1) (.Constant (.int 0) 0 t2) t3) [.Eq] [.Name (Str.ofString "prime") t4] t5]
     (.Subscript (.Subscript (.Name (Str.ofString "mark") e1) (.Constant (.int 1) 0 e2) e3) (.Constant (.int 0) 0 e4) e5)
     { kind := .function, names := [(Str.ofString ".0", .local), (Str.ofString "mark", .local), (Str.ofString "prime", .free)], isGenerator := false, isCoroutine := false } [(Str.ofString "prime", K)] Fin (.ref l) s := by
  obtain ⟨⟨A₀, base, B⟩, F, X, N, ⟨mean, mg, mb, T⟩, hk, hd, hu⟩ := H
  have hvl : vs.length = qs.length := hq.length
  w_top off
  k_with_none
  refine .inl ⟨l, vs.toArray, news, (fun i ys nw => nw = news ∧ IntsAre ys (quotsOf (qs.take i) pr)), rfl, rfl, F, N, .inr ⟨_, hm, rfl, _, rfl⟩, ?_, ⟨rfl, .nil⟩, (fun _ _ _ _ _ _ _ _ hQ => wpAny_pure hQ), ?_⟩
  · rw [List.size_toArray, hvl, sizeLine_eq]; omega
  rintro s₂ ⟨hh2, rfl⟩
  refine ⟨cturn_name (Nat.le_refl _) (by rfl) (by rfl) ?_, ?_⟩
  · rintro i v ys nw hv ⟨rfl, hys⟩ hS
    obtain ⟨⟨q1, q2, q3⟩, hqq, D1, D2, t, u, t', rfl, hD1, hD2⟩ := hq.get (i := i) (v := v) (by simpa using hv)
    dsimp only at hD1 hD2
    intro I oI C oC m₂ D h tk E' hoC hx F2 N2 off hne
    dsimp only
    replace N2 := news_front N2 (.tail _ (.tail _ (.tail _ hD1)))
    replace N2 := news_front N2 (.tail _ (.tail _ (.tail _ (.tail _ hD2))))
    replace N2 := news_front N2 (.tail _ (.tail _ (.tail _ (.tail _ (.tail _ hK)))))
    k_with "subscriptTail" => (first | (k_dflt (refine item_tupleT (l := [.int q1 t, .ref D2]) (News.isTup (by k_asm) (.tail _ (.tail _ (.head _)))) (by decide) (by decide) rfl rfl ?_)) | (k_dflt (refine item_tupleT (l := [.int q2 u, .int q3 t']) (News.isTup (by k_asm) (.tail _ (.head _))) (by decide) (by decide) rfl rfl ?_)))
    k_steps
    · refine cend_intro _ (by k_asm) hoC (news_back (news_back (news_back (by k_asm)))) (fun _ h => h) off hS ⟨rfl, ?_⟩
      rename (q1 = pr) => hq9
      rw [quotsOf, List.take_add_one, hqq, List.filter_append, List.map_append]
      simp only [Option.toList, List.filter_cons, List.filter_nil, hq9, decide_true, if_true, List.map_cons, List.map_nil]
      exact hys.append (.cons _ _ .nil)
    · refine cend_intro _ (by k_asm) hoC (news_back (news_back (news_back (by k_asm)))) (fun _ h => h) off hS ⟨rfl, ?_⟩
      rename (¬ (q1 = pr)) => hq9
      rw [quotsOf, List.take_add_one, hqq, List.filter_append, List.map_append]
      simp only [Option.toList, List.filter_cons, List.filter_nil, hq9, decide_false, Bool.false_eq_true, if_false, List.map_nil, List.append_nil]
      exact hys
  · rintro ys nw ⟨rfl, hys⟩
    refine hfin _ ⟨_, rfl⟩ ys ?_
    rwa [List.size_toArray, hvl, List.take_length] at hys

section
variable {prog : Program} {A : Around} {env : Env} {elt : Expr} {ifs : List Expr} {scope : Scope} {S : List (Addr × Obj) → Prop} {P : Nat → Value → Prop} {Inv : Nat → List Value → List (Addr × Obj) → Prop}
theorem cturn_pairK {x₁ x₂ : Str} {p₁ p₂ tp : Pos} {kk : Nat} {K : Addr} (hh : A.handled = none) (hifs : ifs.length ≤ 1) (hx₁ : scope.names.lookup x₁ = some .local) (hx₂ : ∀ C, (compEnvC scope cl C env).kindOf x₂ = some .cell) (hcl : cl.lookup x₂ = some K) (hkind : scope.kind = .function)
    (h : ∀ i v ys news, P i v → Inv i ys news → S news → ∃ (T : Addr) (n : Nat) (v₁ v₂ : Value) (oK : Obj) (rest : List (Addr × Obj)) (w₀ : Option Value), v = .ref T ∧ (T, ({ cls := .type "tuple", data := .seq #[v₁, v₂] n } : Obj)) ∈ news ∧ news = (K, oK) :: rest ∧ oK.data = .cell w₀ ∧ (∀ p ∈ rest, p.1 ≠ K) ∧
      ∀ oK' : Obj, oK'.data = .cell (some v₂) → CRest prog w A h₀ L m env ifs elt scope cl s S Inv i ys ((K, oK') :: rest) (fun m₂ => m₂ x₁ = some v₁)) :
    CTurn prog w A h₀ L m env (.Tuple [.Name x₁ p₁, .Name x₂ p₂] kk tp) ifs elt scope cl s S P Inv := by
  intro i v ys news I oI C oC m₁ D h₁ tk E' hP hI hS hoC F N off hne
  obtain ⟨T, n, v₁, v₂, oK, rest, w₀, rfl, hT, rfl, hd, hr, R⟩ := h i v ys news hP hI hS
  have zT := N _ (.tail _ (.tail _ (.tail _ hT)))
  have zC := N _ (.tail _ (.head _))
  have zI := N _ (.head _)
  have zD := N _ (.tail _ (.tail _ (.head _)))
  have zK := N _ (.tail _ (.tail _ (.tail _ (.head _))))
  have ht : h₁.IsTuple T #[v₁, v₂] := ⟨_, zT.1, rfl, n, rfl⟩
  have hKI : @Ne Nat K I := off.1.1
  have hKC : @Ne Nat K C := off.1.2.1
  have hKD : @Ne Nat K D := off.1.2.2
  have off3 := off.2.mem
  refine wpAny_assign_Tuple hh ht rfl rfl fun h₂ he₂ => ?_
  have up₂ : ∀ c o, h₁.get? c = some o → h₂.get? c = some o := fun c o e => he₂ c o (Nat.ne_of_lt (Heap.lt_size e)) e
  have hp : ((compEnvC scope cl C env).scope.kind == .class || ((compEnvC scope cl C env).scope.kind == .module && (compEnvC scope cl C env).locals != (compEnvC scope cl C env).globals)) = false := by simp [compEnvC, relabel, hkind]
  have hkf : (compEnvC scope cl C env).scope.kind = .function := by simp [compEnvC, relabel, hkind]
  show wpAny _ _ (assignInOrder [assign (.Name x₁ p₁) (compEnvC scope cl C env), assign (.Name x₂ p₂) (compEnvC scope cl C env)] [v₁, v₂]) _ _ _
  refine assignInOrder_cons (wpAny_assign_Name (wpAny_storeName_local (lookup_relabel_local hx₁) (hoC.ns (up₂ _ _ zC.1)) (fun h₃ hn₃ hs₃ => ?_) hp))
  have hs₃' : Heap.SameBut C h₂ h₃ := hs₃
  refine assignInOrder_cons (wpAny_assign_Name (wpAny_storeName_cell hkf (hx₂ C) hcl (v₀ := w₀) ⟨oK, hs₃'.extBut _ _ hKC (up₂ _ _ zK.1), hd⟩ (fun h₄ hc₄ hs₄ => ?_)))
  refine assignInOrder_nil ?_
  have hs₄' : Heap.SameBut K h₃ h₄ := hs₄
  obtain ⟨oK', heK, hdK⟩ := hc₄
  obtain ⟨oC', heC, hoC'⟩ := ns_obj (hn₃.sameBut hs₄' (Ne.symm hKC))
  have N₄ : News h₀ L h₄ ((I, oI) :: (C, oC') :: (D, lst ys) :: (K, oK') :: rest) := fun p hp => by
    rcases List.mem_cons.mp hp with rfl | hp
    · exact ⟨hs₄'.extBut _ _ (Ne.symm hKI) (hs₃'.extBut _ _ hne.1 (up₂ _ _ zI.1)), zI.2⟩
    · rcases List.mem_cons.mp hp with rfl | hp
      · exact ⟨heC, zC.2⟩
      · rcases List.mem_cons.mp hp with rfl | hp
        · exact ⟨hs₄'.extBut _ _ (Ne.symm hKD) (hs₃'.extBut _ _ (Ne.symm hne.2.2) (up₂ _ _ zD.1)), zD.2⟩
        · rcases List.mem_cons.mp hp with rfl | hp
          · exact ⟨heK, zK.2⟩
          · have z := N p (.tail _ (.tail _ (.tail _ (.tail _ hp))))
            exact ⟨hs₄'.extBut _ _ (hr p hp) (hs₃'.extBut _ _ (off3 p hp).2.1 (up₂ _ _ z.1)), z.2⟩
  have F₄ : Fr h₀ L h₄ m := ((F.keeps up₂).change hs₃' zC.2.1 zC.2.2).change hs₄' zK.2.1 zK.2.2
  have R9 := fun tk9 => R oK' hdK I oI C oC' _ D h₄ tk9 E' hoC' (by simp) F₄ N₄ ⟨off.1, off.2⟩ hne
  cases ifs with
  | nil => exact wpAny_tests_nil (by simp only [if_true]; exact R9 _)
  | cons c r =>
    cases r with
    | nil => exact wpAny_tests_one (R9 _)
    | cons => simp at hifs
end

def sumsL (qs : List (Int × Int × Int)) (ps : List (Int × Int)) : List (Int × Int) := (ps.filter fun p => decide (p.1 = p.2)).map fun p => (p.2, (quotsOf qs p.2).sum)
theorem sub_new3 {T Z c I C D K : Addr × Obj} {tl news : List (Addr × Obj)} : ∀ p ∈ I :: C :: D :: K :: ((T :: tl) ++ news), p ∈ T :: Z :: c :: I :: C :: D :: K :: (tl ++ news) := fun p hp => by
  simp only [List.mem_cons, List.mem_append] at hp ⊢
  grind
section
local macro_rules | `(tactic| walk_at "eval ListComp") => `(tactic| (k_here; k_dflt (refine comp_eval (by k_asm) (by with_unfolding_all rfl) (by decide) (by rfl) (by decide) ?_)))
theorem sums_src {lp lk c1 c2 c3 c4 c5 c6 c7 : Addr} {o6 : Obj} {vp vk : List Value} {np nk : Nat} {qs : List (Int × Int × Int)} {Fin : Shared → List Value → List (Addr × Obj) → Prop} {x1 x2 xp px pi e1 e2 e3 e4 e5 e6 e7 e8 e9 e10 t1 t2 t3 s1 s2 s3 s4 s5 : Pos}
   (H : At 5 w dp un lawScope L outer h₀ m s news) (hmp : (lp, W.listOf vp.toArray np) ∈ news) (hp : All2 (PairR news) vp PW) (hm6 : (c6, o6) ∈ news) (d6 : o6.data = .cell (some (.ref lk))) (hmk : (lk, W.listOf vk.toArray nk) ∈ news) (hq : All2 (MarkR news) vk qs) (hl : qs.length ≤ 100)
   (hfin : ∀ s₂, (∃ h, s₂ = { s with heap := h }) → ∀ ys nw, All2 (PairR nw) ys (sumsL qs PW) → (∀ p ∈ news, p ∈ nw) → Fin s₂ ys nw) :
   CSrcK PG w (ktrTop dp un gd cn lawScope L a ccd (lawCl c1 c2 c3 c4 c5 c6 c7) outer) h₀ L m (envX cn lawScope L a ccd (lawCl c1 c2 c3 c4 c5 c6 c7)) (.Tuple [.Name (Str.ofString "power") x1, .Name (Str.ofString "prime") x2] 0 xp)
     [.Compare (.Name (Str.ofString "power") t1) [.Eq] [.Name (Str.ofString "prime") t2] t3]
     (.Tuple [.Name (Str.ofString "prime") e6, .Call (.Name (Str.ofString "sum") e7) [.ListComp (.Subscript (.Subscript (.Name (Str.ofString "mark") e1) (.Constant (.int 1) 0 e2) e3) (.Constant (.int 0) 0 e4) e5) [⟨.Name (Str.ofString "mark") px, .Name (Str.ofString "marks") pi,
        [.Compare (.Subscript (.Name (Str.ofString "mark") s1) (.Constant (.int 0) 0 s2) s3) [.Eq] [.Name (Str.ofString "prime") s4] s5], 0⟩]
        { kind := .function, names := [(Str.ofString ".0", .local), (Str.ofString "mark", .local), (Str.ofString "prime", .free)], isGenerator := false, isCoroutine := false } e8] [] e9] 0 e10)
     sumScope [(Str.ofString "marks", c6)] (Str.ofString "prime") Fin (.ref lp) s := by
  obtain ⟨⟨A₀, base, B⟩, F, X, N, ⟨mean, mg, mb, T⟩, hk, hd, hu⟩ := H
  have hvl : vp.length = 8 := hp.length
  w_top off
  k_with_none
  refine ⟨lp, vp.toArray, news, (fun K i ys nw => ∃ oK tl w₀, nw = (K, oK) :: (tl ++ news) ∧ oK.data = .cell w₀ ∧ All2 (PairR tl) ys (sumsL qs (PW.take i)) ∧ (∀ p ∈ tl ++ news, p.1 ≠ K)), rfl, rfl, F, N, .inr ⟨_, hmp, rfl, _, rfl⟩, ?_, fun K hK => ⟨cell0, [], none, rfl, rfl, .nil, hK⟩, ?_, ?_⟩
  · rw [List.size_toArray, hvl, sizeLine_eq]; omega
  · intro i v s I Q E hv hit hQ
    obtain ⟨_, _, D9, _, _, _, rfl, _⟩ := hp.get (i := i) (v := v) (by simpa using hv)
    exact wpAny_letOwnedTupleGo_listiter hit hQ
  rintro s₂ ⟨hh2, rfl⟩
  refine ⟨fun K => cturn_pairK rfl (Nat.le_refl _) (by rfl) (fun _ => by rfl) (by rfl) (by rfl) ?_, ?_⟩
  · rintro i v ys nw hv ⟨oK, tl, w₀, rfl, dK, hys, hnK⟩ hS
    obtain ⟨⟨p, q⟩, hpp, D9, t9, u9, n9, rfl, hD⟩ := hp.get (i := i) (v := v) (by simpa using hv)
    refine ⟨D9, n9, _, _, oK, tl ++ news, w₀, rfl, .tail _ (List.mem_append_right _ hD), rfl, dK, hnK, ?_⟩
    intro oK' dK' I oI C oC m₂ D h tk E' hoC hx F2 N2 off hne
    dsimp only
    dsimp only at dK' hx
    replace N2 := news_front N2 (.tail _ (.tail _ (.tail _ (.tail _ (List.mem_append_right tl hm6)))))
    k_steps
    · rename (p = q) => hpq
      have sub9 : ∀ p ∈ news, p ∈ (c6, o6) :: (I, oI) :: (C, oC) :: (D, lst ys) :: (K, oK') :: (tl ++ news) := fun p hp => .tail _ (.tail _ (.tail _ (.tail _ (.tail _ (List.mem_append_right tl hp)))))
      refine quots_src (by tb_start) (sub9 _ hmk) (hq.mono fun _ _ hh => hh.mono sub9) hl (by k_mem) dK' ?_
      rintro s₅ ⟨h₅, rfl⟩ zs hzs D5 hD5 tkD5 F5 N5 off5
      clear off5
      dsimp only
      k_steps
      rename News _ _ _ ((_, _) :: (D5, _) :: _) => NN
      rename (_ ∧ _ ∧ _ ∧ _ ∧ _ ∧ _ ∧ AllLt _ (tl ++ news)) => lT
      refine nameOne NN fun T9 e9 => ?_
      subst e9
      obtain ⟨_, l2, l3, l4, l5, l6, l7⟩ := lT
      refine cend_intro ((K, oK') :: (_ :: tl ++ news)) (by k_asm) hoC NN sub_new3 ⟨off.1, off_new off.2 ⟨l3, l4, l5⟩⟩ (by rcases hS with hS | ⟨o, hm, r⟩; exact .inl hS; exact .inr ⟨_, .tail _ (.tail _ (List.mem_append_right tl hmp)), rfl, _, rfl⟩) ⟨oK', _ :: tl, _, rfl, dK', ?_, fun p hp => ?_⟩
      · rw [sumsL, List.take_add_one, hpp, List.filter_append, List.map_append]
        simp only [Option.toList, List.filter_cons, List.filter_nil, hpq, decide_true, if_true, List.map_cons, List.map_nil]
        exact (hys.mono fun _ _ hh => hh.mono fun _ hp => .tail _ hp).snoc ⟨T9, _, _, _, rfl, .head _⟩
      · rcases List.mem_cons.mp hp with rfl | hp
        · exact Nat.ne_of_gt l6
        · exact hnK p hp
    · rename (p ≠ q) => hpq
      refine cend_intro ((K, oK') :: (tl ++ news)) (by k_asm) hoC (news_back N2) (fun _ h => h) off (by rcases hS with hS | ⟨o, hm, r⟩; exact .inl hS; exact .inr ⟨_, .tail _ (List.mem_append_right tl hmp), rfl, _, rfl⟩) ⟨oK', tl, _, rfl, dK', ?_, hnK⟩
      rw [sumsL, List.take_add_one, hpp, List.filter_append, List.map_append]
      simp only [Option.toList, List.filter_cons, List.filter_nil, hpq, decide_false, Bool.false_eq_true, if_false, List.map_nil, List.append_nil]
      exact hys
  · rintro K ys nw ⟨oK, tl, w₀, rfl, dK, hys, hnK⟩
    refine hfin _ ⟨_, rfl⟩ ys _ ?_ fun p hp => .tail _ (List.mem_append_right _ hp)
    rw [List.size_toArray, hvl] at hys
    exact hys.mono fun _ _ hh => hh.mono fun p hp => .tail _ (List.mem_append_left _ hp)
end

def seg6a : List Stmt := match seg6 with | a :: b :: _ => [a, b] | _ => []
def seg6b : List Stmt := match seg6 with | _ :: _ :: r => r | _ => []
theorem seg6_is : seg6 = seg6a ++ seg6b := by rfl
/-- the first of each row -/
theorem named_src {l : Addr} {vs : List Value} {nn : Nat} {rows : List (Int × Int × Int)} {Fin : Shared → List Value → List (Addr × Obj) → Prop} {px p1 p2 p3 : Pos}
   (H : At 5 w dp un cs L outer h₀ m s news) (hm : (l, W.listOf vs.toArray nn) ∈ news) (hr : Rows3 news vs rows) (hl : rows.length ≤ 100)
   (hfin : ∀ s₂, (∃ h, s₂ = { s with heap := h }) → ∀ ys, IntsAre ys (rows.map (·.1)) → Fin s₂ ys news) :
   CSrc PG w (ktrTop dp un gd cn cs L a ccd cl outer) h₀ L m (envX cn cs L a ccd cl) (.Name (Str.ofString "row") px) []
     (.Subscript (.Name (Str.ofString "row") p1) (.Constant (.int 0) 0 p2) p3)
     { kind := .function, names := [(Str.ofString ".0", .local), (Str.ofString "row", .local)], isGenerator := false, isCoroutine := false } [] Fin (.ref l) s := by
  obtain ⟨⟨A₀, base, B⟩, F, X, N, ⟨mean, mg, mb, T⟩, hk, hd, hu⟩ := H
  have hvl : vs.length = rows.length := hr.length
  w_top off
  k_with_none
  refine .inl ⟨l, vs.toArray, news, (fun i ys nw => nw = news ∧ IntsAre ys ((rows.take i).map (·.1))), rfl, rfl, F, N, .inr ⟨_, hm, rfl, _, rfl⟩, ?_, ⟨rfl, .nil⟩, (fun _ _ _ _ _ _ _ _ hQ => wpAny_pure hQ), ?_⟩
  · rw [List.size_toArray, hvl, sizeLine_eq]; omega
  rintro s₂ ⟨hh2, rfl⟩
  refine ⟨cturn_name (by decide) (by rfl) (by rfl) ?_, ?_⟩
  · rintro i v ys nw hv ⟨rfl, hys⟩ hS
    obtain ⟨T9, ra, rb, rc, ta, tb, tc, hrr, rfl, hT⟩ := hr.at (i := i) (v := v) (by simpa using hv)
    intro I oI C oC m₂ D h tk E' hoC hx F2 N2 off hne
    dsimp only
    replace N2 := news_front N2 (.tail _ (.tail _ (.tail _ hT)))
    k_with "subscriptTail" => (k_dflt (refine item_tupleT (l := [.int ra ta, .int rb tb, .int rc tc]) (News.isTup (by k_asm) (.head _)) (by decide) (by decide) rfl rfl ?_))
    k_steps
    refine cend_intro _ (by k_asm) hoC (by k_asm) (fun _ h => .tail _ h) off hS ⟨rfl, ?_⟩
    rw [List.take_add_one, hrr, List.map_append]
    exact hys.append (.cons _ _ .nil)
  · rintro ys nw ⟨rfl, hys⟩
    refine hfin _ ⟨_, rfl⟩ ys ?_
    rwa [List.size_toArray, hvl, List.take_length] at hys

theorem lacking_src {lp ln lo lu c1 c2 c3 c4 c5 c6 c7 : Addr} {o1 o2 o3 o7 : Obj} {vp vn vo vu : List Value} {np nn no nu : Nat} {xs ys names : List Int} {t : Int} {tt : Tok} {Fin : Shared → List Value → List (Addr × Obj) → Prop} {x1 x2 xp p1 p2 p3 p4 p5 p6 p7 p8 p9 p10 p11 p12 q1 q2 q3 e1 : Pos}
   (H : At 5 w dp un lawScope L outer h₀ m s news) (hmp : (lp, W.listOf vp.toArray np) ∈ news) (hp : All2 (PairR news) vp PW)
   (hm1 : (c1, o1) ∈ news) (d1 : o1.data = .cell (some (.ref lo))) (hmo : (lo, W.listOf vo.toArray no) ∈ news) (hio : IntsAre vo xs) (hlo : xs.length ≤ 5) (h9 : 9 ∈ xs) (hbo : ∀ x ∈ xs, 0 ≤ x ∧ x < 10)
   (hm2 : (c2, o2) ∈ news) (d2 : o2.data = .cell (some (.ref lu))) (hmu : (lu, W.listOf vu.toArray nu) ∈ news) (hiu : IntsAre vu ys) (hlu : ys.length ≤ 5)
   (hm3 : (c3, o3) ∈ news) (d3 : o3.data = .cell (some (.int t tt)))
   (hm7 : (c7, o7) ∈ news) (d7 : o7.data = .cell (some (.ref ln))) (hmn : (ln, W.listOf vn.toArray nn) ∈ news) (hin : IntsAre vn names) (hln : names.length ≤ 100)
   (hfin : ∀ s₂, (∃ h, s₂ = { s with heap := h }) → ∀ ys ls tl, IntsAre ys ls → ls.length ≤ 10 → (∀ q ∈ PW, q.1 ≤ 9 → q.1 ∉ names → ls ≠ []) → (∀ p ∈ news, p ∈ tl) → Fin s₂ ys tl) :
   CSrc PG w (ktrTop dp un gd cn lawScope L a ccd (lawCl c1 c2 c3 c4 c5 c6 c7) outer) h₀ L m (envX cn lawScope L a ccd (lawCl c1 c2 c3 c4 c5 c6 c7)) (.Tuple [.Name (Str.ofString "power") x1, .Name (Str.ofString "prime") x2] 0 xp)
     [.BoolOp .And [.Compare (.Name (Str.ofString "power") p1) [.LtE] [.BinOp (.Call (.Name (Str.ofString "max") p2) [.BinOp (.BinOp (.Name (Str.ofString "over") p3) .Add (.Name (Str.ofString "under") p4) p5) .Add (.List [.Name (Str.ofString "tail") p6] p7) p8] [] p9) .Add (.Constant (.int 1) 0 p10) p11] p12,
        .Compare (.Name (Str.ofString "power") q1) [.NotIn] [.Name (Str.ofString "named") q2] q3] ⟨190, 51, 190, 113⟩]
     (.Name (Str.ofString "power") e1)
     { kind := .function, names := [(Str.ofString ".0", .local), (Str.ofString "power", .local), (Str.ofString "prime", .local), (Str.ofString "max", .globalImplicit), (Str.ofString "named", .free), (Str.ofString "over", .free), (Str.ofString "tail", .free), (Str.ofString "under", .free)], isGenerator := false, isCoroutine := false }
     [(Str.ofString "named", c7), (Str.ofString "over", c1), (Str.ofString "tail", c3), (Str.ofString "under", c2)] Fin (.ref lp) s := by
  obtain ⟨⟨A₀, base, B⟩, F, X, N, ⟨mean, mg, mb, T⟩, hk, hd, hu⟩ := H
  have hvl : vp.length = 8 := hp.length
  w_top off
  k_with_none
  refine .inl ⟨lp, vp.toArray, news, (fun i zs nw => ∃ ls tl, nw = tl ++ news ∧ IntsAre zs ls ∧ ls.length ≤ i ∧ (∀ q ∈ PW.take i, q.1 ≤ 9 → q.1 ∉ names → ls ≠ [])), rfl, rfl, F, N, .inr ⟨_, hmp, rfl, _, rfl⟩, ?_, ⟨[], [], rfl, .nil, Nat.le_refl _, fun _ h => nomatch h⟩, ?_, ?_⟩
  · rw [List.size_toArray, hvl, sizeLine_eq]; omega
  · intro i v s I Q E hv hit hQ
    obtain ⟨_, _, D9, _, _, _, rfl, _⟩ := hp.get (i := i) (v := v) (by simpa using hv)
    exact wpAny_letOwnedTupleGo_listiter hit hQ
  rintro s₂ ⟨hh2, rfl⟩
  refine ⟨cturn_pair rfl (Nat.le_refl _) (by rfl) (by rfl) (by decide) (by rfl) ?_, ?_⟩
  · rintro i v zs nw hv ⟨ls, tl, rfl, hzs, hll, hno⟩ hS
    obtain ⟨⟨p, q⟩, hpp, D9, t9, u9, n9, rfl, hD⟩ := hp.get (i := i) (v := v) (by simpa using hv)
    refine ⟨D9, n9, _, _, rfl, List.mem_append_right tl hD, ?_⟩
    intro I oI C oC m₂ D h tk E' hoC hx F2 N2 off hne
    obtain ⟨hx1, hx2⟩ := hx
    dsimp only
    have sub9 : ∀ p ∈ news, p ∈ (I, oI) :: (C, oC) :: (D, lst zs) :: (tl ++ news) := fun p hp => .tail _ (.tail _ (.tail _ (List.mem_append_right tl hp)))
    replace N2 := news_front N2 (sub9 _ hm1)
    replace N2 := news_front N2 (.tail _ (sub9 _ hmo))
    replace N2 := news_front N2 (.tail _ (.tail _ (sub9 _ hm2)))
    replace N2 := news_front N2 (.tail _ (.tail _ (.tail _ (sub9 _ hmu))))
    replace N2 := news_front N2 (.tail _ (.tail _ (.tail _ (.tail _ (sub9 _ hm3)))))
    replace N2 := news_front N2 (.tail _ (.tail _ (.tail _ (.tail _ (.tail _ (sub9 _ hm7))))))
    replace N2 := news_front N2 (.tail _ (.tail _ (.tail _ (.tail _ (.tail _ (.tail _ (sub9 _ hmn)))))))
    k_steps
    all_goals rename News _ _ _ (_ :: _ :: _ :: (ln, _) :: _) => NN
    all_goals rename (∀ a : Int, a ∈ xs ++ ys ++ [t] → a ≤ _) => hM
    all_goals have h9M := hM 9 (by simp [h9])
    all_goals dsimp only
    · rename (List.any _ _ = true) => hany
      have hpn : p ∈ names := by simpa using hany
      refine cend_intro (tl ++ news) (by k_asm) hoC NN (fun p hp => .tail _ (.tail _ (.tail _ (.tail _ (.tail _ (.tail _ (.tail _ (.tail _ (.tail _ (.tail _ hp)))))))))) off hS ⟨ls, tl, rfl, hzs, by omega, fun q hq h1 h2 => ?_⟩
      rw [List.take_add_one, hpp] at hq
      rcases List.mem_append.mp hq with hq | hq
      · exact hno q hq h1 h2
      · obtain rfl : q = _ := by simpa using hq
        exact absurd hpn h2
    · rename (List.any _ _ = false) => _hpn
      refine cend_intro (tl ++ news) (by k_asm) hoC NN (fun p hp => .tail _ (.tail _ (.tail _ (.tail _ (.tail _ (.tail _ (.tail _ (.tail _ (.tail _ (.tail _ hp)))))))))) off hS ⟨ls ++ [p], tl, rfl, hzs.append (.cons _ _ .nil), by simp; omega, fun _ _ _ _ => by simp⟩
    · rename (¬ p ≤ _) => hpn
      refine cend_intro (tl ++ news) (by k_asm) hoC NN (fun p hp => .tail _ (.tail _ (.tail _ (.tail _ (.tail _ (.tail _ (.tail _ (.tail _ (.tail _ (.tail _ hp)))))))))) off hS ⟨ls, tl, rfl, hzs, by omega, fun q hq h1 h2 => ?_⟩
      rw [List.take_add_one, hpp] at hq
      rcases List.mem_append.mp hq with hq | hq
      · exact hno q hq h1 h2
      · obtain rfl : q = _ := by simpa using hq
        dsimp only at h1
        omega
  · rintro ys nw ⟨ls, tl, rfl, hys, hll, hno⟩
    rw [List.size_toArray, hvl] at hll
    rw [List.size_toArray, hvl] at hno
    exact hfin _ ⟨_, rfl⟩ ys ls _ hys (by omega) (fun q hq => hno q hq) fun p hp => List.mem_append_right _ hp

/-- the bags, each script number's two figures behind the two written pairs -/
def cellsOf (ns : List Int) : List (Int × Int) := [(9, 4), (0, 5)] ++ (ns.take 3).map dig
def overOf (ns : List Int) : List Int := (cellsOf ns).map (·.1)
def underOf (ns : List Int) : List Int := (cellsOf ns).map (·.2)
def tailOf (ns : List Int) : Int := ((((ns.drop 3).take 6).map fun x : Int => x.fmod 12).sum).fmod 12
theorem h9_take (ns : List Int) : List.take (min 9 ns.length - 3) (List.drop 3 ns) = (ns.drop 3).take 6 := by
  rcases Nat.le_total 9 ns.length with h | h
  · rw [Nat.min_eq_left h]
  · rw [Nat.min_eq_right h, List.take_of_length_le (by rw [List.length_drop]; exact Nat.le_refl _), List.take_of_length_le (by rw [List.length_drop]; exact Nat.sub_le_of_le_add h)]
theorem seg1_spec (c1 c2 c3 c4 c5 c6 c7 : Addr) (o1 o2 o3 o4 o5 o6 o7 : Obj) (l : Addr) (vs : List Value) (ns : List Int) (m₀ : Str → Option Value) {Q : Flow → Shared → Prop}
   (H : At 5 w dp un lawScope L outer h₀ (fun y => if y = Str.ofString "script" then some (.ref l) else m₀ y) s [(c7, o7), (c6, o6), (c5, o5), (c4, o4), (c3, o3), (c2, o2), (c1, o1)])
   (hl : h₀.IsList l vs.toArray) (hi : IntsAre vs ns) (hn : ns.length ≤ 63)
   (hc : @LT.lt Nat _ c1 c2 ∧ @LT.lt Nat _ c2 c3 ∧ @LT.lt Nat _ c3 c4 ∧ @LT.lt Nat _ c4 c5 ∧ @LT.lt Nat _ c5 c6 ∧ @LT.lt Nat _ c6 c7)
   (d1 : o1.data = .cell none) (d2 : o2.data = .cell none) (d3 : o3.data = .cell none)
   (hnext : ∀ lo vo no lu vu nu (p1 p2 p3 : Obj) tt m' h' tk', Fr h₀ L h' m' → News h₀ L h' [(lu, W.listOf vu.toArray nu), (lo, W.listOf vo.toArray no), (c7, o7), (c6, o6), (c5, o5), (c4, o4), (c3, p3), (c2, p2), (c1, p1)] →
     (NeA lo c4 ∧ NeA lo c5 ∧ NeA lo c6 ∧ NeA lo c7) → (NeA lu c4 ∧ NeA lu c5 ∧ NeA lu c6 ∧ NeA lu c7) → IntsAre vo (overOf ns) → IntsAre vu (underOf ns) → p1.data = .cell (some (.ref lo)) → p2.data = .cell (some (.ref lu)) → p3.data = .cell (some (.int (tailOf ns) tt)) → Q .next { s with heap := h', toks := tk' }) :
   wpAny (model PG w) (ktrTop dp un gd cn lawScope L a ccd (lawCl c1 c2 c3 c4 c5 c6 c7) outer) (execs seg1 (envX cn lawScope L a ccd (lawCl c1 c2 c3 c4 c5 c6 c7))) Q E s := by
  obtain ⟨⟨A₀, base, B⟩, F, X, N, ⟨mean, mg, mb, T⟩, hk, hd, hu⟩ := H
  obtain ⟨hc1, hc2, hc3, hc4, hc5, hc6⟩ := hc
  have n21 : NeA c2 c1 := Nat.ne_of_gt hc1
  have n31 : NeA c3 c1 := Nat.ne_of_gt (Nat.lt_trans hc1 hc2)
  have n41 : NeA c4 c1 := Nat.ne_of_gt (Nat.lt_trans hc1 (Nat.lt_trans hc2 hc3))
  have n51 : NeA c5 c1 := Nat.ne_of_gt (Nat.lt_trans hc1 (Nat.lt_trans hc2 (Nat.lt_trans hc3 hc4)))
  have n61 : NeA c6 c1 := Nat.ne_of_gt (Nat.lt_trans hc1 (Nat.lt_trans hc2 (Nat.lt_trans hc3 (Nat.lt_trans hc4 hc5))))
  have n71 : NeA c7 c1 := Nat.ne_of_gt (Nat.lt_trans hc1 (Nat.lt_trans hc2 (Nat.lt_trans hc3 (Nat.lt_trans hc4 (Nat.lt_trans hc5 hc6)))))
  have n32 : NeA c3 c2 := Nat.ne_of_gt hc2
  have n42 : NeA c4 c2 := Nat.ne_of_gt (Nat.lt_trans hc2 hc3)
  have n52 : NeA c5 c2 := Nat.ne_of_gt (Nat.lt_trans hc2 (Nat.lt_trans hc3 hc4))
  have n62 : NeA c6 c2 := Nat.ne_of_gt (Nat.lt_trans hc2 (Nat.lt_trans hc3 (Nat.lt_trans hc4 hc5)))
  have n72 : NeA c7 c2 := Nat.ne_of_gt (Nat.lt_trans hc2 (Nat.lt_trans hc3 (Nat.lt_trans hc4 (Nat.lt_trans hc5 hc6))))
  have n43 : NeA c4 c3 := Nat.ne_of_gt hc3
  have n53 : NeA c5 c3 := Nat.ne_of_gt (Nat.lt_trans hc3 hc4)
  have n63 : NeA c6 c3 := Nat.ne_of_gt (Nat.lt_trans hc3 (Nat.lt_trans hc4 hc5))
  have n73 : NeA c7 c3 := Nat.ne_of_gt (Nat.lt_trans hc3 (Nat.lt_trans hc4 (Nat.lt_trans hc5 hc6)))
  have n12 : NeA c1 c2 := Nat.ne_of_lt hc1
  have n13 : NeA c1 c3 := Nat.ne_of_lt (Nat.lt_trans hc1 hc2)
  have n23 : NeA c2 c3 := Nat.ne_of_lt hc2
  have hln : vs.length = ns.length := hi.length
  w_top off
  k_with_none
  k_with "eval ListComp" => (k_dflt (refine comp_eval (by k_asm) (by with_unfolding_all rfl) (by decide) (by rfl) (by decide) ?_))
  conv in seg1 => whnf
  k_steps
  rename IntsAre _ (List.take 3 ns) => hI3
  rename_i D1 _ _ D2 _ _ l2 _ lp D3 ws3 _ F3 N3 _ _ l3
  refine cells_src (by tb_start) (.head _) hI3 (by simp; omega) ?_
  rintro s₂ ⟨h₂, rfl⟩ ys tl hys hab D hD tkD F2 N2 off1
  have hyl : ys.length = (ns.take 3).length := by rw [hys.length, List.length_map]
  have hyl3 : (ns.take 3).length ≤ 3 := by simp; omega
  have ht1 : ∀ p ∈ tl, p.1 ≠ c1 := fun p hp => Nat.ne_of_gt (hab p hp (c1, o1) (by simp))
  have ht2 : ∀ p ∈ tl, p.1 ≠ c2 := fun p hp => Nat.ne_of_gt (hab p hp (c2, o2) (by simp))
  have ht3 : ∀ p ∈ tl, p.1 ≠ c3 := fun p hp => Nat.ne_of_gt (hab p hp (c3, o3) (by simp))
  dsimp only
  replace N2 := news_comm N2
  simp only [List.cons_append, List.nil_append] at N2
  k_with "binaryOp Add ref ref" => (k_dflt (refine kmk_add_lit (its := #[Value.ref D1, Value.ref D2]) (its2 := ys.toArray) (zs := [Value.ref D1, Value.ref D2] ++ ys) (by k_asm) (by k_asm) (News.isList (by k_asm) (by k_mem)) ⟨_, (News.get (by k_asm) (.head _)), rfl, _, rfl⟩ (by simp) ?_ (by rw [sizeLine_eq]; simp; omega)); intro D' h' F' N' l1; (try k_lt l1))
  k_steps
  have hcs : All2 (PairR ((D2, tup [.int 0 (s.toks + 1 + 1), .int 5 (s.toks + 1 + 1 + 1)]) :: (D1, tup [.int 9 s.toks, .int 4 (s.toks + 1)]) :: tl)) ([Value.ref D1, Value.ref D2] ++ ys) (cellsOf ns) :=
    .cons ⟨D1, _, _, _, rfl, .tail _ (.head _)⟩ (.cons ⟨D2, _, _, _, rfl, .head _⟩ (hys.mono fun _ _ hh => hh.mono fun _ hp => .tail _ (.tail _ hp)))
  have hcl : (cellsOf ns).length ≤ 63 := by unfold cellsOf; simp; omega
  rename News _ _ _ _ => N5
  replace N5 := news_cut3 N5
  have hcs2 : All2 (PairR ((D', W.listOf ([Value.ref D1, Value.ref D2] ++ ys).toArray 0)  :: (D2, tup [.int 0 (s.toks + 1 + 1), .int 5 (s.toks + 1 + 1 + 1)]) :: (D1, tup [.int 9 s.toks, .int 4 (s.toks + 1)]) :: (c7, o7) :: (c6, o6) :: (c5, o5) :: (c4, o4) :: (c3, o3) :: (c2, o2) :: (c1, o1) :: tl)) ([Value.ref D1, Value.ref D2] ++ ys) (cellsOf ns) := hcs.mono fun _ _ hh => hh.mono fun p hp => by
    rcases List.mem_cons.mp hp with rfl | hp
    · k_mem
    · rcases List.mem_cons.mp hp with rfl | hp
      · k_mem
      · simp only [List.mem_cons]; simp [hp]
  refine pairs_src (x := Str.ofString "cell") (k := 0) (f := (·.1)) (by tb_start) (.head _) hcs2 hcl rfl (.inl ⟨rfl, rfl⟩) ?_
  rintro s₃ ⟨h₃, rfl⟩ yo hyo Do hDo tkDo F5 N5 off5
  have y1 : NeA Do c1 := offA off5 (o := o1) (by k_mem)
  have y2 : NeA Do c2 := offA off5 (o := o2) (by k_mem)
  have y3 : NeA Do c3 := offA off5 (o := o3) (by k_mem)
  have y4 : NeA Do c4 := offA off5 (o := o4) (by k_mem)
  have y5 : NeA Do c5 := offA off5 (o := o5) (by k_mem)
  have y6 : NeA Do c6 := offA off5 (o := o6) (by k_mem)
  have y7 : NeA Do c7 := offA off5 (o := o7) (by k_mem)
  clear off5
  dsimp only
  k_steps
  rename News _ _ _ ((Do, _) :: _) => N6
  rename (Obj.data _ = .cell (some (.ref Do))) => e1
  rename_i h9 p1 tk9
  have hcs3 : All2 (PairR ((Do, lst yo) :: (D', W.listOf ([Value.ref D1, Value.ref D2] ++ ys).toArray 0) :: (D2, tup [.int 0 (s.toks + 1 + 1), .int 5 (s.toks + 1 + 1 + 1)]) :: (D1, tup [.int 9 s.toks, .int 4 (s.toks + 1)]) :: (c7, o7) :: (c6, o6) :: (c5, o5) :: (c4, o4) :: (c3, o3) :: (c2, o2) :: (c1, p1) :: tl)) ([Value.ref D1, Value.ref D2] ++ ys) (cellsOf ns) := hcs.mono fun _ _ hh => hh.mono fun p hp => by
    rcases List.mem_cons.mp hp with rfl | hp
    · k_mem
    · rcases List.mem_cons.mp hp with rfl | hp
      · k_mem
      · simp only [List.mem_cons]; simp [hp]
  refine pairs_src (x := Str.ofString "cell") (k := 1) (f := (·.2)) (by tb_start) (.tail _ (.head _)) hcs3 hcl rfl (.inr ⟨rfl, rfl⟩) ?_
  rintro s₄ ⟨h₄, rfl⟩ yu hyu Du hDu tkDu F7 N7 off7
  have z2 : NeA Du c2 := offA off7 (o := o2) (by k_mem)
  have z3 : NeA Du c3 := offA off7 (o := o3) (by k_mem)
  have z4 : NeA Du c4 := offA off7 (o := o4) (by k_mem)
  have z5 : NeA Du c5 := offA off7 (o := o5) (by k_mem)
  have z6 : NeA Du c6 := offA off7 (o := o6) (by k_mem)
  have z7 : NeA Du c7 := offA off7 (o := o7) (by k_mem)
  clear off7
  dsimp only
  k_steps
  rename IntsAre _ (List.take _ (List.drop 3 ns)) => hI9
  rename (Obj.data _ = .cell (some (.ref Du))) => e2
  have h9t := h9_take ns
  rw [h9t] at hI9
  refine mods_src (by tb_start) (.head _) hI9 (by simp; omega) ?_
  rintro s₅ ⟨h₅, rfl⟩ ym hym Dm hDm tkDm F9 N9 off9
  have x3 : NeA Dm c3 := offA off9 (o := o3) (by k_mem)
  clear off9
  dsimp only
  k_steps
  rename (Obj.data _ = .cell (some (.int _ _))) => e3
  rename News _ _ _ _ => NN
  dsimp only
  refine hnext Do yo yo.length Du yu yu.length p1 _ _ _ _ _ _ (by k_asm) (news_sub NN ?_) ⟨y4, y5, y6, y7⟩ ⟨z4, z5, z6, z7⟩ hyo hyu e1 e2 e3
  · intro p hp
    simp only [List.mem_cons, List.not_mem_nil, or_false] at hp
    rcases hp with rfl | rfl | rfl | rfl | rfl | rfl | rfl | rfl | rfl <;> k_mem

section
local macro_rules | `(tactic| walk_at "eval ListComp") => `(tactic| (k_here; k_dflt (refine comp_eval (by k_asm) (by with_unfolding_all rfl) (by decide) (by rfl) (by decide) ?_)))
theorem seg2_spec (c1 c2 c3 c4 c5 c6 c7 lo lu : Addr) (o1 o2 o3 o4 o5 o6 o7 : Obj) (vo vu : List Value) (no nu : Nat) {Q : Flow → Shared → Prop}
   (H : At 5 w dp un lawScope L outer h₀ m s [(lu, W.listOf vu.toArray nu), (lo, W.listOf vo.toArray no), (c7, o7), (c6, o6), (c5, o5), (c4, o4), (c3, o3), (c2, o2), (c1, o1)])
   (hc : @LT.lt Nat _ c1 c2 ∧ @LT.lt Nat _ c2 c3 ∧ @LT.lt Nat _ c3 c4 ∧ @LT.lt Nat _ c4 c5 ∧ @LT.lt Nat _ c5 c6 ∧ @LT.lt Nat _ c6 c7)
   (ho : NeA lo c4 ∧ NeA lo c5) (hu' : NeA lu c4 ∧ NeA lu c5) (d4 : o4.data = .cell none) (d5 : o5.data = .cell none)
   (hnext : ∀ lp vp np lc vc nc (p4 p5 : Obj) tl m' h' tk', Fr h₀ L h' m' → News h₀ L h' ((lc, W.listOf vc.toArray nc) :: (lp, W.listOf vp.toArray np) :: (lu, W.listOf vu.toArray nu) :: (lo, W.listOf vo.toArray no) :: (c7, o7) :: (c6, o6) :: (c5, p5) :: (c4, p4) :: (c3, o3) :: (c2, o2) :: (c1, o1) :: tl) →
     All2 (PairR tl) vp PW → IntsAre vc commonsL → p4.data = .cell (some (.ref lp)) → p5.data = .cell (some (.ref lc)) → (∀ p ∈ tl, @LT.lt Nat _ c7 p.1) → @LT.lt Nat _ c7 lp → NeA lc c6 ∧ NeA lc c7 → Q .next { s with heap := h', toks := tk' }) :
   wpAny (model PG w) (ktrTop dp un gd cn lawScope L a ccd (lawCl c1 c2 c3 c4 c5 c6 c7) outer) (execs seg2 (envX cn lawScope L a ccd (lawCl c1 c2 c3 c4 c5 c6 c7))) Q E s := by
  obtain ⟨⟨A₀, base, B⟩, F, X, N, ⟨mean, mg, mb, T⟩, hk, hd, hu⟩ := H
  obtain ⟨hc1, hc2, hc3, hc4, hc5, hc6⟩ := hc
  obtain ⟨ho4, ho5⟩ := ho
  obtain ⟨hu4, hu5⟩ := hu'
  w_top off
  k_with_none
  k_with "call ref" => (refine hold ?_)
  conv in seg2 => whnf
  k_steps
  unfold Hold
  refine powers_spec _ (by tb_start) ?_
  intro lp vp np tl h1 tk1 F1 N1 hp hlt htl
  have l7 : @LT.lt Nat _ c7 lp := hlt (c7, o7) (by simp)
  have t7 : ∀ p ∈ tl, @LT.lt Nat _ c7 p.1 := fun p hp => Nat.lt_trans l7 (htl p hp)
  have t4 : ∀ p ∈ tl, p.1 ≠ c4 := fun p hp => Nat.ne_of_gt (by have := t7 p hp; omega)
  have t5 : ∀ p ∈ tl, p.1 ≠ c5 := fun p hp => Nat.ne_of_gt (by have := t7 p hp; omega)
  replace N1 := news_comm N1
  simp only [List.cons_append, List.nil_append] at N1
  k_with "call ref" => fail
  k_steps
  rename News _ _ _ _ => N2
  rename (Obj.data _ = .cell (some (.ref lp))) => e4
  rename IsRange _ _ _ _ _ _ _ _ => hr
  refine nameO e4 fun p4 e9 => ?_
  subst e9
  have hp2 : All2 (PairR ((lp, W.listOf vp.toArray np) :: (lu, W.listOf vu.toArray nu) :: (lo, W.listOf vo.toArray no) :: (c7, o7) :: (c6, o6) :: (c5, o5) :: (c4, p4) :: (c3, o3) :: (c2, o2) :: (c1, o1) :: tl)) vp PW := hp.mono fun _ _ hh => hh.mono fun p hp => by simp only [List.mem_cons]; simp [hp]
  refine commons_src (by tb_start) (.head _) (by k_mem) e4 hp2 hr ?_
  rintro s₃ ⟨h₃, rfl⟩ vc hvc lc hD tkD F3 N3 off3
  have y5 : NeA lc c5 := offA off3 (o := o5) (by k_mem)
  have y6 : NeA lc c6 := offA off3 (o := o6) (by k_mem)
  have y7 : NeA lc c7 := offA off3 (o := o7) (by k_mem)
  clear off3
  dsimp only
  k_steps
  rename News _ _ _ ((lc, _) :: _) => N4
  rename (Obj.data _ = .cell (some (.ref lc))) => e5
  dsimp only
  exact hnext lp vp np lc vc vc.length _ _ tl _ _ _ (by k_asm) N4 hp hvc e4 e5 t7 l7 ⟨y6, y7⟩
end

section
local macro_rules | `(tactic| walk_at "exec For Name Tuple cons nil") => `(tactic| (k_here; k_dflt (refine For_invVF (by k_asm) (by rfl) (by rfl) ?_ (hE := by assumption))))
local macro_rules | `(tactic| walk_at "eval ListComp") => `(tactic| (k_here; k_dflt (refine comp2_eval (by k_asm) (by with_unfolding_all rfl) (by decide) (by rfl) (by decide) (by rfl) (by rfl) (by decide) ?_)))
theorem seg3_spec (c1 c2 c3 c4 c5 c6 c7 lo lu lc : Addr) (o1 o2 o5 : Obj) (vo vu vc : List Value) (no nu nc : Nat) (xs ys : List Int) {Q : Flow → Shared → Prop}
   (H : At 5 w dp un lawScope L outer h₀ m s ((lc, W.listOf vc.toArray nc) :: (lu, W.listOf vu.toArray nu) :: (lo, W.listOf vo.toArray no) :: (c5, o5) :: (c2, o2) :: (c1, o1) :: news))
   (hE : PassesOwn (model PG w) (ktrTop dp un gd cn lawScope L a ccd (lawCl c1 c2 c3 c4 c5 c6 c7) outer) (envX cn lawScope L a ccd (lawCl c1 c2 c3 c4 c5 c6 c7)) E)
   (d1 : o1.data = .cell (some (.ref lo))) (d2 : o2.data = .cell (some (.ref lu))) (d5 : o5.data = .cell (some (.ref lc)))
   (hio : IntsAre vo xs) (hbo : ∀ x ∈ xs, 0 ≤ x ∧ x < 10) (hlo : xs.length ≤ 5) (hiu : IntsAre vu ys) (hbu : ∀ x ∈ ys, 0 ≤ x ∧ x < 10) (hlu : ys.length ≤ 5) (hic : IntsAre vc commonsL)
   (hnext : ∀ m' h' tk', Fr h₀ L h' m' → News h₀ L h' ((lc, W.listOf vc.toArray nc) :: (lu, W.listOf vu.toArray nu) :: (lo, W.listOf vo.toArray no) :: (c5, o5) :: (c2, o2) :: (c1, o1) :: news) → Q .next { s with heap := h', toks := tk' }) :
   wpAny (model PG w) (ktrTop dp un gd cn lawScope L a ccd (lawCl c1 c2 c3 c4 c5 c6 c7) outer) (execs seg3 (envX cn lawScope L a ccd (lawCl c1 c2 c3 c4 c5 c6 c7))) Q E s := by
  obtain ⟨⟨A₀, base, B⟩, F, X, N, ⟨mean, mg, mb, T⟩, hk, hd, hu⟩ := H
  w_top off
  k_with_none
  k_with "pyIter ref" => (refine hold ?_)
  conv in seg3 => whnf
  k_steps
  rename News _ _ _ _ => N1
  rename (_ ∧ _ ∧ _ ∧ _ ∧ _ ∧ _ ∧ AllLt _ _) => lD
  refine nameOne N1 fun ax e9 => ?_
  subst e9
  have hax : ∀ p ∈ (lc, W.listOf vc.toArray nc) :: (lu, W.listOf vu.toArray nu) :: (lo, W.listOf vo.toArray no) :: (c5, o5) :: (c2, o2) :: (c1, o1) :: news, p.1 ≠ ax := allNe_lt lD
  unfold Hold
  refine g_tuple (σ := Unit) (fun _ => (lc, W.listOf vc.toArray nc) :: (lu, W.listOf vu.toArray nu) :: (lo, W.listOf vo.toArray no) :: (c5, o5) :: (c2, o2) :: (c1, o1) :: news) (fun _ => []) [] (fun _ _ => True) () rfl N1 hax (by k_asm) (fun _ h => nomatch h) trivial ?_ ?_
  · rintro i v _ u h tk own hv _ hoff F2 N2
    dsimp only at N2
    obtain ⟨lr, vr, nr, xr, rfl, hmr, hir, hbr, hlr⟩ : ∃ lr vr nr xr, v = .ref lr ∧ (lr, W.listOf vr.toArray nr) ∈ (lc, W.listOf vc.toArray nc) :: (lu, W.listOf vu.toArray nu) :: (lo, W.listOf vo.toArray no) :: (c5, o5) :: (c2, o2) :: (c1, o1) :: news ∧ IntsAre vr xr ∧ (∀ x ∈ xr, 0 ≤ x ∧ x < 10) ∧ xr.length ≤ 5 := by
      have hi : i < 2 := by
        rcases Nat.lt_or_ge i 2 with h | h
        · exact h
        · rw [Array.getElem?_eq_none (by simpa using h)] at hv; cases hv
      have : i = 0 ∨ i = 1 := by omega
      rcases this with rfl | rfl
      · exact ⟨lo, vo, no, xs, (by simpa using hv.symm), by k_mem, hio, hbo, hlo⟩
      · exact ⟨lu, vu, nu, ys, (by simpa using hv.symm), by k_mem, hiu, hbu, hlu⟩
    have hmr' : (lr, W.listOf vr.toArray nr) ∈ (lc, W.listOf vc.toArray nc) :: (lu, W.listOf vu.toArray nu) :: (lo, W.listOf vo.toArray no) :: (c5, o5) :: (c2, o2) :: (c1, o1) :: (news ++ own) := List.mem_append_left own hmr
    k_steps
    refine runs_src (by tb_start) (List.mem_append_left own hmr) hir hbr hlr (List.mem_append_left own (by k_mem)) d5 (List.mem_append_left own (by k_mem)) hic ?_
    rintro s₃ ⟨h₃, rfl⟩ zs hzs D hD tkD F3 N3 off3
    clear off3
    dsimp only
    dsimp only [List.cons_append] at N3
    k_with "call ref" => (first
      | (k_dflt (refine product_spec _ _ _ _ (by tb_start) (.head _) hzs (runCommons_bound xr hbr) ?_); rw [law1 xr hbr]; intro t9 h9 tk9 F9 N9)
      | (k_dflt (refine fact_spec _ _ _ _ (by tb_start) (.tail _ hmr') hir hbr hlr ?_); intro t9 h9 tk9 F9 N9))
    k_steps
    · rename (lprod _ ≠ lprod _) => hbad
      exact absurd rfl hbad
    · refine g_end (own := own) () (by k_asm) N9 (fun p hp => .tail _ (List.mem_append_left own hp)) (fun p hp => by simp only [List.mem_cons, List.mem_append]; simp [hp]) (by exact hoff) (by kst_all) (by ktr_rel) trivial
  · rintro _ u h tk _ F2 N2
    dsimp only at N2
    k_with "call ref" => fail
    k_steps
    exact hnext _ _ _ (by k_asm) N2
end

theorem news_appc {h₀ h : Heap} {L : Addr} {a b : List (Addr × Obj)} (N : News h₀ L h (a ++ b)) : News h₀ L h (b ++ a) := news_sub N fun _ hp => List.mem_append.mpr (List.mem_append.mp hp).symm
section
local macro_rules | `(tactic| walk_at "exec Assign cons ListComp") => `(tactic| (k_here; k_dflt (refine wpAny_Assign_Name ?_)))
local macro_rules | `(tactic| walk_at "exec Assign cons ListComp") => `(tactic| (k_here; k_dflt (refine wpAny_Assign_Name ?_)))
local macro_rules | `(tactic| walk_at "eval ListComp") => `(tactic| (k_here; k_dflt (refine comp_eval (by k_asm) (by with_unfolding_all rfl) (by decide) (by rfl) (by decide) ?_)))
theorem seg4_spec (c1 c2 c3 c4 c5 c6 c7 lo lu lp : Addr) (o1 o2 o3 o4 o6 : Obj) (vo vu vp : List Value) (no nu np : Nat) (xs ys : List Int) (t : Int) (tk9 : Tok) (sc1 sc2 : Sc) (rows : List (Int × Int × Int)) {Q : Flow → Shared → Prop}
   (H : At 5 w dp un lawScope L outer h₀ m s ((c6, o6) :: (lp, W.listOf vp.toArray np) :: (lu, W.listOf vu.toArray nu) :: (lo, W.listOf vo.toArray no) :: (c4, o4) :: (c3, o3) :: (c2, o2) :: (c1, o1) :: news))
   (hc : @LT.lt Nat _ c1 c2 ∧ @LT.lt Nat _ c2 c3 ∧ @LT.lt Nat _ c3 c4 ∧ @LT.lt Nat _ c4 c6) (h6 : NeA lp c6 ∧ NeA lu c6 ∧ NeA lo c6) (hn6 : ∀ p ∈ news, p.1 ≠ c6)
   (d1 : o1.data = .cell (some (.ref lo))) (d2 : o2.data = .cell (some (.ref lu))) (d3 : o3.data = .cell (some (.int t tk9))) (d4 : o4.data = .cell (some (.ref lp))) (d6 : o6.data = .cell none)
   (hp : All2 (PairR news) vp PW) (hio : IntsAre vo xs) (hbo : ∀ x ∈ xs, 0 ≤ x ∧ x < 10) (hlo : xs.length ≤ 5) (hiu : IntsAre vu ys) (hbu : ∀ x ∈ ys, 0 ≤ x ∧ x < 10) (hlu : ys.length ≤ 5) (ht : 0 ≤ t ∧ t < 12)
   (hs1 : scan (xs.flatMap runTx ++ List.replicate t.toNat 32) = sc1) (hs2 : scan (ys.flatMap runTx ++ List.replicate t.toNat 32) = sc2) (hrs : rowsNe sc1 sc2 (max (longest sc1) (longest sc2) + 1).toNat = rows)
   (ok1 : ScOk 50 sc1) (ok2 : ScOk 50 sc2) (hrow : ∀ r ∈ rows, 1 ≤ r.1 ∧ r.1 ≤ 100) (hrl : rows.length ≤ 100) (hz : ∀ q ∈ rows.map markOf, q.2.2 = 0)
   (hnext : ∀ x1 x2 lk vk nk (p6 : Obj) new h' tk', Fr h₀ L h' (fun y => if y = Str.ofString "second" then some (.ref x2) else if y = Str.ofString "first" then some (.ref x1) else m y) →
     News h₀ L h' ((lk, W.listOf vk.toArray nk) :: (c6, p6) :: (lp, W.listOf vp.toArray np) :: (lu, W.listOf vu.toArray nu) :: (lo, W.listOf vo.toArray no) :: (c4, o4) :: (c3, o3) :: (c2, o2) :: (c1, o1) :: (new ++ news)) →
     p6.data = .cell (some (.ref lk)) → All2 (MarkR new) vk (rows.map markOf) → WsAt w x1 sc1 new → WsAt w x2 sc2 new →
     Above ((c6, o6) :: (lp, W.listOf vp.toArray np) :: (lu, W.listOf vu.toArray nu) :: (lo, W.listOf vo.toArray no) :: (c4, o4) :: (c3, o3) :: (c2, o2) :: (c1, o1) :: news) new → (∀ c o, (c, o) ∈ news → NeA lk c) → Q .next { s with heap := h', toks := tk' }) :
   wpAny (model PG w) (ktrTop dp un gd cn lawScope L a ccd (lawCl c1 c2 c3 c4 c5 c6 c7) outer) (execs seg4 (envX cn lawScope L a ccd (lawCl c1 c2 c3 c4 c5 c6 c7))) Q E s := by
  obtain ⟨⟨A₀, base, B⟩, F, X, N, ⟨mean, mg, mb, T⟩, hk, hd, hu⟩ := H
  obtain ⟨hc1, hc2, hc3, hc4⟩ := hc
  obtain ⟨h6p, h6u, h6o⟩ := h6
  have hcp : ∀ p ∈ ([] : List (Addr × Obj)), p.1 ≠ c6 := fun _ h => nomatch h
  w_top off
  k_with_none
  k_with "call ref" => (refine hold ?_)
  conv in seg4 => whnf
  k_steps
  unfold Hold
  refine lead_spec lo vo no xs t _ (by tb_start) (by k_mem) hio hbo hlo ht ?_
  intro x1 new1 h1 tk1 F1 N1 ab1 ws1
  rw [hs1] at ws1
  replace N1 := news_appc N1
  simp only [List.cons_append] at N1
  k_steps
  unfold Hold
  refine lead_spec lu vu nu ys t _ (by tb_start) (by k_mem) hiu hbu hlu ht ?_
  intro x2 new2 h2 tk2 F2 N2 ab2 ws2
  rw [hs2] at ws2
  clear hs1 hs2
  replace N2 := news_appc N2
  simp only [List.cons_append] at N2
  have ws1' := ws1
  obtain ⟨e1, _, _, _, _, _, _, _, _, _, _, _, _, _, _, i1, j1, _, _, _⟩ := ws1'
  have q1 : ∀ p ∈ new1, p ∈ (c6, o6) :: (lp, W.listOf vp.toArray np) :: (lu, W.listOf vu.toArray nu) :: (lo, W.listOf vo.toArray no) :: (c4, o4) :: (c3, o3) :: (c2, o2) :: (c1, o1) :: (news ++ new1 ++ new2) := fun p hp => by simp only [List.mem_cons, List.mem_append]; simp [hp]
  have q2 : ∀ p ∈ new2, p ∈ (c6, o6) :: (lp, W.listOf vp.toArray np) :: (lu, W.listOf vu.toArray nu) :: (lo, W.listOf vo.toArray no) :: (c4, o4) :: (c3, o3) :: (c2, o2) :: (c1, o1) :: (news ++ new1 ++ new2) := fun p hp => by simp only [List.mem_cons, List.mem_append]; simp [hp]
  replace N2 := news_front N2 (q1 _ i1)
  replace N2 := news_front N2 (.tail _ (q1 _ j1))
  k_steps
  unfold Hold
  refine not_equal_witness_spec x1 x2 sc1 sc2 (by tb_start) (ws1.mono fun _ hp => .tail _ (.tail _ (q1 _ hp))) ok1 (ws2.mono fun _ hp => .tail _ (.tail _ (q2 _ hp))) ok2 ?_
  rw [hrs]
  intro l3 v3 n3 new3 h3 tk3 F3 N3 ab3 r3
  replace N3 : News h₀ L h3 ((l3, W.listOf v3.toArray n3) :: (c6, o6) :: (lp, W.listOf vp.toArray np) :: (lu, W.listOf vu.toArray nu) :: (lo, W.listOf vo.toArray no) :: (c4, o4) :: (c3, o3) :: (c2, o2) :: (c1, o1) :: (new3 ++ (new2 ++ new1 ++ news))) := news_sub N3 fun p hp => by
    simp only [List.mem_cons, List.mem_append] at hp ⊢
    grind
  have q3 : ∀ p ∈ new3, p ∈ (l3, W.listOf v3.toArray n3) :: (c6, o6) :: (lp, W.listOf vp.toArray np) :: (lu, W.listOf vu.toArray nu) :: (lo, W.listOf vo.toArray no) :: (c4, o4) :: (c3, o3) :: (c2, o2) :: (c1, o1) :: (new3 ++ (new2 ++ new1 ++ news)) := fun p hp => by simp only [List.mem_cons, List.mem_append]; simp [hp]
  have q4 : ∀ p ∈ news, p ∈ (l3, W.listOf v3.toArray n3) :: (c6, o6) :: (lp, W.listOf vp.toArray np) :: (lu, W.listOf vu.toArray nu) :: (lo, W.listOf vo.toArray no) :: (c4, o4) :: (c3, o3) :: (c2, o2) :: (c1, o1) :: (new3 ++ (new2 ++ new1 ++ news)) := fun p hp => by simp only [List.mem_cons, List.mem_append]; simp [hp]
  refine marks_src (by tb_start) (.head _) (r3.mono q3) hrow hrl (by k_mem) d4 (by k_mem) (hp.mono fun _ _ hh => hh.mono q4) ?_
  rintro s₅ ⟨h₅, rfl⟩ vk tl hvk hab5 lk hD tkD F5 N5 off5
  have y6 : NeA lk c6 := offA off5 (o := o6) (List.mem_append_right _ (by k_mem))
  have yn : ∀ c o, (c, o) ∈ news → NeA lk c := fun c o h => offA off5 (o := o) (List.mem_append_right _ (q4 _ h))
  replace N5 : News h₀ L hD ((lk, lst vk) :: (c6, o6) :: (lp, W.listOf vp.toArray np) :: (lu, W.listOf vu.toArray nu) :: (lo, W.listOf vo.toArray no) :: (c4, o4) :: (c3, o3) :: (c2, o2) :: (c1, o1) :: (tl ++ (new2 ++ new1) ++ news)) := news_sub N5 fun p hp => by
    simp only [List.mem_cons, List.mem_append] at hp ⊢
    grind
  have hnn : ∀ p ∈ tl ++ (new2 ++ new1) ++ news, p.1 ≠ c6 := fun p hp => by
    simp only [List.mem_append] at hp
    rcases hp with (hp | hp | hp) | hp
    · exact Nat.ne_of_gt (hab5 p hp (c6, o6) (by k_mem))
    · exact Nat.ne_of_gt (ab2 p hp (c6, o6) (by k_mem))
    · exact Nat.ne_of_gt (ab1 p hp (c6, o6) (by k_mem))
    · exact hn6 p hp
  have hAb : Above ((c6, o6) :: (lp, W.listOf vp.toArray np) :: (lu, W.listOf vu.toArray nu) :: (lo, W.listOf vo.toArray no) :: (c4, o4) :: (c3, o3) :: (c2, o2) :: (c1, o1) :: news) (tl ++ (new2 ++ new1)) := fun p hp q hq => by
    simp only [List.mem_append] at hp
    rcases hp with hp | hp | hp
    · exact hab5 p hp q (by simp only [List.mem_cons, List.mem_append] at hq ⊢; grind)
    · exact ab2 p hp q (by simp only [List.mem_cons, List.mem_append] at hq ⊢; grind)
    · exact ab1 p hp q hq
  clear off5 hab5 ab1 ab2 ab3 q1 q2 q3 q4 r3
  dsimp only
  k_steps
  rename (Obj.data _ = .cell (some (.ref lk))) => e6
  refine nameO e6 fun p6 e9 => ?_
  subst e9
  have hM : All2 (MarkR (tl ++ (new2 ++ new1) ++ news)) vk (rows.map markOf) := hvk.mono fun _ _ hh => hh.mono fun p hp => by simp only [List.mem_append]; simp [hp]
  have hvk2 : All2 (MarkR ((lk, lst vk) :: (c6, p6) :: (lp, W.listOf vp.toArray np) :: (lu, W.listOf vu.toArray nu) :: (lo, W.listOf vo.toArray no) :: (c4, o4) :: (c3, o3) :: (c2, o2) :: (c1, o1) :: (tl ++ (new2 ++ new1) ++ news))) vk (rows.map markOf) := hM.mono fun _ _ hh => hh.mono fun p hp => .tail _ (.tail _ (.tail _ (.tail _ (.tail _ (.tail _ (.tail _ (.tail _ (.tail _ hp))))))))
  refine rests_src (by tb_start) (.head _) hvk2 hz (by simpa using hrl) ?_
  rintro s₆ ⟨h₆, rfl⟩ D0 hD0 tkD0 F7 N7 off7
  clear off7
  dsimp only
  k_steps
  rename News _ _ _ _ => N8
  exact hnext x1 x2 lk vk vk.length p6 (tl ++ (new2 ++ new1)) _ _ (by k_asm) (news_back (news_back N8)) e6 (hvk.mono fun _ _ hh => hh.mono fun p hp => List.mem_append_left _ hp) (ws1.mono fun p hp => by simp only [List.mem_append]; simp [hp]) (ws2.mono fun p hp => by simp only [List.mem_append]; simp [hp]) hAb yn
end

section
local macro_rules | `(tactic| walk_at "exec Assign cons ListComp") => `(tactic| (k_here; k_dflt (refine comp_assignK (pn := Str.ofString "prime") (by k_asm) (by rfl) (by with_unfolding_all rfl) (by with_unfolding_all rfl) (fun _ => by rfl) (fun _ => by rfl) (by rfl) (by decide) (by rfl) (by rfl) ?_)))
local macro_rules | `(tactic| walk_at "eval ListComp") => `(tactic| (k_here; k_dflt (refine comp_eval (by k_asm) (by with_unfolding_all rfl) (by decide) (by rfl) (by decide) ?_)))
theorem seg5_spec (c1 c2 c3 c4 c5 c6 c7 lo lu lp lk : Addr) (o1 o2 o4 o6 : Obj) (vo vu vp vk : List Value) (no nu np nk : Nat) (xs ys : List Int) (qs : List (Int × Int × Int)) (ss : List (Int × Int)) {Q : Flow → Shared → Prop}
   (H : At 5 w dp un lawScope L outer h₀ m s ((c6, o6) :: (lk, W.listOf vk.toArray nk) :: (lp, W.listOf vp.toArray np) :: (lu, W.listOf vu.toArray nu) :: (lo, W.listOf vo.toArray no) :: (c4, o4) :: (c2, o2) :: (c1, o1) :: news))
   (d1 : o1.data = .cell (some (.ref lo))) (d2 : o2.data = .cell (some (.ref lu))) (d4 : o4.data = .cell (some (.ref lp))) (d6 : o6.data = .cell (some (.ref lk)))
   (hp : All2 (PairR news) vp PW) (hq : All2 (MarkR news) vk qs) (hql : qs.length ≤ 100) (hss : sumsL qs PW = ss) (hio : IntsAre vo xs) (hbo : ∀ x ∈ xs, 0 ≤ x ∧ x < 10) (hlo : xs.length ≤ 5) (hiu : IntsAre vu ys) (hbu : ∀ x ∈ ys, 0 ≤ x ∧ x < 10) (hlu : ys.length ≤ 5)
   (hsb : ∀ p ∈ ss, 0 ≤ p.1 ∧ p.1 ≤ 100 ∧ -1000 ≤ p.2 ∧ p.2 ≤ 1000) (hsl : ss.length ≤ 100) (hup : ∀ x ∈ upsOf ss, -(2 ^ 64) < x ∧ x < 2 ^ 64) (hlw : ∀ x ∈ lowsOf ss, -(2 ^ 64) < x ∧ x < 2 ^ 64)
   (hk1 : IntMulOk (lprod (xs.flatMap rng)) (lprod (lowsOf ss))) (hk2 : IntMulOk (lprod (ys.flatMap rng)) (lprod (upsOf ss))) (heq : lprod (xs.flatMap rng) * lprod (lowsOf ss) = lprod (ys.flatMap rng) * lprod (upsOf ss))
   (hnext : ∀ (v1 v2 : Value) t9 h' tk', Fr h₀ L h' (fun y => if y = Str.ofString "lower" then some (.int (lprod (lowsOf ss)) t9) else if y = Str.ofString "upper" then some v2 else if y = Str.ofString "sums" then some v1 else m y) →
     News h₀ L h' ((c6, o6) :: (lk, W.listOf vk.toArray nk) :: (lp, W.listOf vp.toArray np) :: (lu, W.listOf vu.toArray nu) :: (lo, W.listOf vo.toArray no) :: (c4, o4) :: (c2, o2) :: (c1, o1) :: news) → Q .next { s with heap := h', toks := tk' }) :
   wpAny (model PG w) (ktrTop dp un gd cn lawScope L a ccd (lawCl c1 c2 c3 c4 c5 c6 c7) outer) (execs seg5 (envX cn lawScope L a ccd (lawCl c1 c2 c3 c4 c5 c6 c7))) Q E s := by
  obtain ⟨⟨A₀, base, B⟩, F, X, N, ⟨mean, mg, mb, T⟩, hk, hd, hu⟩ := H
  have sub1 : ∀ p ∈ news, p ∈ (c6, o6) :: (lk, W.listOf vk.toArray nk) :: (lp, W.listOf vp.toArray np) :: (lu, W.listOf vu.toArray nu) :: (lo, W.listOf vo.toArray no) :: (c4, o4) :: (c2, o2) :: (c1, o1) :: news := fun p hp => .tail _ (.tail _ (.tail _ (.tail _ (.tail _ (.tail _ (.tail _ (.tail _ hp)))))))
  w_top off
  k_with_none
  k_with "call ref" => (refine hold ?_)
  conv in seg5 => whnf
  k_steps
  refine sums_src (by tb_start) (by k_mem) (hp.mono fun _ _ hh => hh.mono sub1) (by k_mem) d6 (by k_mem) (hq.mono fun _ _ hh => hh.mono sub1) hql ?_
  rintro s₃ ⟨h₃, rfl⟩ vs nw hvs hnw ls hD tkD F3 N3 off3
  rw [hss] at hvs
  clear off3
  replace N3 := news_front N3 (.tail _ (hnw (lu, W.listOf vu.toArray nu) (by k_mem)))
  replace N3 := news_front N3 (.tail _ (.tail _ (hnw (lo, W.listOf vo.toArray no) (by k_mem))))
  replace N3 := news_front N3 (.tail _ (.tail _ (.tail _ (hnw (c2, o2) (by k_mem)))))
  replace N3 := news_front N3 (.tail _ (.tail _ (.tail _ (.tail _ (hnw (c1, o1) (by k_mem))))))
  have hvs2 : All2 (PairR ((c1, o1) :: (c2, o2) :: (lo, W.listOf vo.toArray no) :: (lu, W.listOf vu.toArray nu) :: (ls, lst vs) :: nw)) vs ss := hvs.mono fun _ _ hh => hh.mono fun p hp => .tail _ (.tail _ (.tail _ (.tail _ (.tail _ hp))))
  dsimp only
  k_steps
  refine ups_src (by tb_start) (.tail _ (.tail _ (.tail _ (.tail _ (.head _))))) hvs2 hsb hsl ?_
  rintro s₄ ⟨h₄, rfl⟩ us hus lus hD4 tkD4 F4 N4 off4
  clear off4
  dsimp only
  k_steps
  unfold Hold
  refine product_spec _ _ _ _ (by tb_start) (.head _) hus hup ?_
  intro t5 h5 tk5 F5 N5
  k_steps
  rename News _ _ _ _ => N6
  refine lows_src (by tb_start) (.tail _ (.tail _ (.tail _ (.tail _ (.tail _ (.head _)))))) (hvs2.mono fun _ _ hh => hh.mono fun _ hp => .tail _ hp) hsb hsl ?_
  rintro s₇ ⟨h₇, rfl⟩ ws hws lws hD7 tkD7 F7 N7 off7
  clear off7
  dsimp only
  k_steps
  unfold Hold
  refine product_spec _ _ _ _ (by tb_start) (.head _) hws hlw ?_
  intro t8 h8 tk8 F8 N8
  k_with "binaryOp Mult int int" => (first | (k_dflt (refine mul_int ?_ hk1)) | (k_dflt (refine mul_int ?_ hk2)))
  k_steps
  unfold Hold
  refine fact_spec _ _ _ xs (by tb_start) (by k_mem) hio hbo hlo ?_
  intro t9 h9 tk9 F9 N9
  k_steps
  unfold Hold
  refine fact_spec _ _ _ ys (by tb_start) (by k_mem) hiu hbu hlu ?_
  intro t10 h10 tk10 F10 N10
  k_steps
  · rename (_ * _ ≠ _ * _) => hbad
    exact absurd heq hbad
  · dsimp only
    exact hnext _ _ _ _ _ F10 (news_sub N10 fun p hp => .tail _ (.tail _ (.tail _ (.tail _ (.tail _ (.tail _ (.tail _ (hnw p hp)))))))) 
end

section
local macro_rules | `(tactic| walk_at "exec Assign cons ListComp") => `(tactic| (k_here; k_dflt (first | (refine wpAny_Assign_Name ?_) | (refine comp_assign (by k_asm) (by rfl) (by with_unfolding_all rfl) (by with_unfolding_all rfl) (by decide) (by rfl) (by decide) (by rfl) (by rfl) ?_))))
local macro_rules | `(tactic| walk_at "exec Assign cons ListComp") => `(tactic| (k_here; k_dflt (first | (refine wpAny_Assign_Name ?_) | (refine comp_assign (by k_asm) (by rfl) (by with_unfolding_all rfl) (by with_unfolding_all rfl) (by decide) (by rfl) (by decide) (by rfl) (by rfl) ?_))))
local macro_rules | `(tactic| walk_at "eval ListComp") => `(tactic| (k_here; k_dflt (refine comp_eval (by k_asm) (by with_unfolding_all rfl) (by decide) (by rfl) (by decide) ?_)))
theorem seg6a_spec (c1 c2 c3 c4 c5 c6 c7 lo lu lp x1 x2 : Addr) (o1 o2 o3 o4 o7 : Obj) (vo vu vp : List Value) (no nu np : Nat) (xs ys : List Int) (t low : Int) (tt tl : Tok) (v1 v2 : Value) (m₀ : Str → Option Value) (sc1 sc2 : Sc) (rows : List (Int × Int × Int)) {Q : Flow → Shared → Prop}
   (H : At 5 w dp un lawScope L outer h₀ (fun y => if y = Str.ofString "lower" then some (.int low tl) else if y = Str.ofString "upper" then some v2 else if y = Str.ofString "sums" then some v1 else if y = Str.ofString "second" then some (.ref x2) else if y = Str.ofString "first" then some (.ref x1) else m₀ y) s
     ((c7, o7) :: (lp, W.listOf vp.toArray np) :: (lu, W.listOf vu.toArray nu) :: (lo, W.listOf vo.toArray no) :: (c4, o4) :: (c3, o3) :: (c2, o2) :: (c1, o1) :: news))
   (hc : @LT.lt Nat _ c1 c2 ∧ @LT.lt Nat _ c2 c3 ∧ @LT.lt Nat _ c3 c4 ∧ @LT.lt Nat _ c4 c7) (h7 : NeA lp c7 ∧ NeA lu c7 ∧ NeA lo c7) (hn7 : ∀ p ∈ news, p.1 ≠ c7)
   (d1 : o1.data = .cell (some (.ref lo))) (d2 : o2.data = .cell (some (.ref lu))) (d3 : o3.data = .cell (some (.int t tt))) (d4 : o4.data = .cell (some (.ref lp))) (d7 : o7.data = .cell none)
   (hp : All2 (PairR news) vp PW) (hio : IntsAre vo xs) (hbo : ∀ x ∈ xs, 0 ≤ x ∧ x < 10) (hlo : xs.length ≤ 5) (h9 : 9 ∈ xs) (hiu : IntsAre vu ys) (hlu : ys.length ≤ 5)
   (hw1 : WsAt w x1 sc1 news) (ok1 : ScOk 50 sc1) (hw2 : WsAt w x2 sc2 news) (ok2 : ScOk 50 sc2) (hrs : rowsGe sc1 sc2 (max (longest sc1) (longest sc2) + 1).toNat = rows) (hrl : rows.length ≤ 100)
   (hnext : ∀ ll vl ls nw h' tk', Fr h₀ L h' (fun y => if y = Str.ofString "lacking" then some (.ref ll) else if y = Str.ofString "lower" then some (.int low tl) else if y = Str.ofString "upper" then some v2 else if y = Str.ofString "sums" then some v1 else if y = Str.ofString "second" then some (.ref x2) else if y = Str.ofString "first" then some (.ref x1) else m₀ y) →
     News h₀ L h' ((ll, W.listOf vl.toArray vl.length) :: nw) → IntsAre vl ls → ls.length ≤ 10 → (∀ q ∈ PW, q.1 ≤ 9 → q.1 ∉ rows.map (·.1) → ls ≠ []) →
     (∀ p ∈ (lu, W.listOf vu.toArray nu) :: (lo, W.listOf vo.toArray no) :: (c2, o2) :: (c1, o1) :: news, p ∈ nw) → Q .next { s with heap := h', toks := tk' }) :
   wpAny (model PG w) (ktrTop dp un gd cn lawScope L a ccd (lawCl c1 c2 c3 c4 c5 c6 c7) outer) (execs seg6a (envX cn lawScope L a ccd (lawCl c1 c2 c3 c4 c5 c6 c7))) Q E s := by
  obtain ⟨⟨A₀, base, B⟩, F, X, N, ⟨mean, mg, mb, T⟩, hk, hd, hu⟩ := H
  obtain ⟨hc1, hc2, hc3, hc4⟩ := hc
  obtain ⟨h7p, h7u, h7o⟩ := h7
  have hw1' := hw1
  obtain ⟨e1, _, _, _, _, _, _, _, _, _, _, _, _, _, _, i1, j1, _, _, _⟩ := hw1'
  have sub1 : ∀ p ∈ news, p ∈ (c7, o7) :: (lp, W.listOf vp.toArray np) :: (lu, W.listOf vu.toArray nu) :: (lo, W.listOf vo.toArray no) :: (c4, o4) :: (c3, o3) :: (c2, o2) :: (c1, o1) :: news := fun p hp => .tail _ (.tail _ (.tail _ (.tail _ (.tail _ (.tail _ (.tail _ (.tail _ hp)))))))
  replace N := news_front N (sub1 _ i1)
  replace N := news_front N (.tail _ (sub1 _ j1))
  w_top off
  k_with_none
  k_with "call ref" => (refine hold ?_)
  conv in seg6a => whnf
  k_steps
  unfold Hold
  refine not_less_witness_spec x1 x2 sc1 sc2 (by tb_start) (hw1.mono fun _ hp => .tail _ (.tail _ (sub1 _ hp))) ok1 (hw2.mono fun _ hp => .tail _ (.tail _ (sub1 _ hp))) ok2 ?_
  rw [hrs]
  intro l3 v3 n3 new3 h3 tk3 F3 N3 ab3 r3
  replace N3 : News h₀ L h3 ((l3, W.listOf v3.toArray n3) :: (c7, o7) :: (lp, W.listOf vp.toArray np) :: (lu, W.listOf vu.toArray nu) :: (lo, W.listOf vo.toArray no) :: (c4, o4) :: (c3, o3) :: (c2, o2) :: (c1, o1) :: (new3 ++ news)) := news_sub N3 fun p hp => by
    simp only [List.mem_cons, List.mem_append] at hp ⊢
    grind
  have q3 : ∀ p ∈ new3, p ∈ (l3, W.listOf v3.toArray n3) :: (c7, o7) :: (lp, W.listOf vp.toArray np) :: (lu, W.listOf vu.toArray nu) :: (lo, W.listOf vo.toArray no) :: (c4, o4) :: (c3, o3) :: (c2, o2) :: (c1, o1) :: (new3 ++ news) := fun p hp => by simp only [List.mem_cons, List.mem_append]; simp [hp]
  refine named_src (by tb_start) (.head _) (r3.mono q3) hrl ?_
  rintro s₅ ⟨h₅, rfl⟩ vn hvn ln hD tkD F5 N5 off5
  have y7 : NeA ln c7 := offA off5 (o := o7) (by k_mem)
  replace N5 : News h₀ L hD ((ln, lst vn) :: (c7, o7) :: (lp, W.listOf vp.toArray np) :: (lu, W.listOf vu.toArray nu) :: (lo, W.listOf vo.toArray no) :: (c4, o4) :: (c3, o3) :: (c2, o2) :: (c1, o1) :: news) := news_sub N5 fun p hp => by
    simp only [List.mem_cons, List.mem_append] at hp ⊢
    grind
  clear off5 ab3 q3 r3
  dsimp only
  k_steps
  rename (Obj.data _ = .cell (some (.ref ln))) => e7
  refine nameO e7 fun p7 e9 => ?_
  subst e9
  have sub2 : ∀ p ∈ news, p ∈ (ln, lst vn) :: (c7, p7) :: (lp, W.listOf vp.toArray np) :: (lu, W.listOf vu.toArray nu) :: (lo, W.listOf vo.toArray no) :: (c4, o4) :: (c3, o3) :: (c2, o2) :: (c1, o1) :: news := fun p hp => .tail _ (.tail _ (.tail _ (.tail _ (.tail _ (.tail _ (.tail _ (.tail _ (.tail _ hp))))))))
  refine lacking_src (by tb_start) (by k_mem) (hp.mono fun _ _ hh => hh.mono sub2) (by k_mem) d1 (by k_mem) hio hlo h9 hbo (by k_mem) d2 (by k_mem) hiu hlu (by k_mem) d3 (by k_mem) e7 (.head _) hvn (by simpa using hrl) ?_
  rintro s₇ ⟨h₇, rfl⟩ vl ls nw hvl hll hno hnw ll hL tkL F7 N7 off7
  clear off7
  dsimp only
  k_steps
  exact hnext ll vl ls nw _ _ F7 N7 hvl hll hno fun p hp => hnw p (by
    simp only [List.mem_cons] at hp ⊢
    grind)
end

theorem sorted_same {xs ys n1 n2 : List Int} {c : Prop} [Decidable c] (hc : c ↔ xs.Perm ys) (p1 : n1.Perm xs) (p2 : n2.Perm ys) (o1 : n1.Pairwise (fun x y => x ≤ y)) (o2 : n2.Pairwise (fun x y => x ≤ y)) : (decide c == decide (n1 = n2)) = true := by
  have : c ↔ n1 = n2 := by
    rw [hc]
    constructor
    · intro h
      exact ((p1.trans h).trans p2.symm).eq_of_pairwise (fun x y _ _ h1 h2 => Int.le_antisymm h1 h2) o1 o2
    · rintro rfl
      exact p1.symm.trans p2
  by_cases h : c
  · rw [decide_eq_true h, decide_eq_true (this.mp h)]; rfl
  · rw [decide_eq_false h, decide_eq_false fun q => h (this.mpr q)]; rfl
theorem seg6b_spec (c1 c2 c3 c4 c5 c6 c7 lo lu ll x1 x2 : Addr) (o1 o2 : Obj) (vo vu vl : List Value) (no nu nl : Nat) (xs ys ls : List Int) (low : Int) (tl : Tok) (v1 v2 : Value) (m₀ : Str → Option Value) (sc1 sc2 : Sc) {Q : Flow → Shared → Prop}
   (H : At 5 w dp un lawScope L outer h₀ (fun y => if y = Str.ofString "lacking" then some (.ref ll) else if y = Str.ofString "lower" then some (.int low tl) else if y = Str.ofString "upper" then some v2 else if y = Str.ofString "sums" then some v1 else if y = Str.ofString "second" then some (.ref x2) else if y = Str.ofString "first" then some (.ref x1) else m₀ y) s
     ((ll, W.listOf vl.toArray nl) :: (lu, W.listOf vu.toArray nu) :: (lo, W.listOf vo.toArray no) :: (c2, o2) :: (c1, o1) :: news))
   (d1 : o1.data = .cell (some (.ref lo))) (d2 : o2.data = .cell (some (.ref lu)))
   (hio : IntsAre vo xs) (hlo : xs.length ≤ 5) (hiu : IntsAre vu ys) (hlu : ys.length ≤ 5) (hil : IntsAre vl ls) (hll : ls.length ≤ 10)
   (hw1 : WsAt w x1 sc1 news) (ok1 : ScOk 100 sc1) (hw2 : WsAt w x2 sc2 news) (ok2 : ScOk 100 sc2)
   (hlow : ls = [] → low = 1) (hperm : (sc1.cs = sc2.cs ∧ sc1.b = sc2.b) ↔ xs.Perm ys)
   (hQ : ∀ m' h' tk', Fr h₀ L h' m' → Q (.ret (.bool true)) { s with heap := h', toks := tk' }) :
   wpAny (model PG w) (ktrTop dp un gd cn lawScope L a ccd (lawCl c1 c2 c3 c4 c5 c6 c7) outer) (execs seg6b (envX cn lawScope L a ccd (lawCl c1 c2 c3 c4 c5 c6 c7))) Q E s := by
  obtain ⟨⟨A₀, base, B⟩, F, X, N, ⟨mean, mg, mb, T⟩, hk, hd, hu⟩ := H
  have hw1' := hw1
  have hw2' := hw2
  obtain ⟨e1, _, _, _, _, _, _, _, _, _, _, _, _, _, _, i1, j1, _, _, _⟩ := hw1'
  replace N := news_front N (.tail _ (.tail _ (.tail _ (.tail _ (.tail _ i1)))))
  replace N := news_front N (.tail _ (.tail _ (.tail _ (.tail _ (.tail _ (.tail _ j1))))))
  w_top off
  k_with_none
  k_with "call ref" => (refine hold ?_)
  conv in seg6b => whnf
  k_steps
  · rename (decide (ls = []) = true) => hh
    rename (low ≠ 1) => hb
    exact absurd (hlow (by simpa using hh)) hb
  all_goals
    unfold Hold
    refine equal_spec x1 x2 sc1 sc2 (by tb_start) (hw1.mono fun p hp => .tail _ (.tail _ (.tail _ (.tail _ (.tail _ (.tail _ (.tail _ (.tail _ hp)))))))) ok1 (hw2.mono fun p hp => .tail _ (.tail _ (.tail _ (.tail _ (.tail _ (.tail _ (.tail _ (.tail _ hp)))))))) ok2 ?_
    intro h9 tk9 F9 N9
    k_steps
    rename (List.Perm _ xs) => p1
    rename (List.Perm _ ys) => p2
    rw [sorted_same hperm p1 p2 (by assumption) (by assumption)]
    exact hQ _ _ _ (by k_asm)

def leadSc (xs : List Int) (t : Int) : Sc := scan (xs.flatMap runTx ++ List.replicate t.toNat 32)
def counts (xs : List Int) : List Int := xs.foldl bump []
def floorSum (xs : List Int) (ts : Int) : Int := (xs.map fun r => r.fdiv ts).sum
theorem fold_blank (k : Nat) : ∀ s : Sc, (List.replicate k 32).foldl Sc.one s = ⟨s.cs, s.b + k, s.n + k, s.nt⟩ := by
  induction k with
  | zero => intro s; simp
  | succ k ih =>
    intro s
    rw [List.replicate_succ, List.foldl_cons, ih]
    simp only [Sc.one, if_true]
    congr 1 <;> omega
theorem fold_run (r : Int) (h : 0 ≤ r) (cs : List Int) (n nt : Int) : (runTx r).foldl Sc.one ⟨cs, 0, n, nt⟩ = ⟨bump cs r, 0, n + r + 1, nt + 1⟩ := by
  unfold runTx
  rw [List.foldl_append, fold_blank]
  simp only [List.foldl_cons, List.foldl_nil, Sc.one]
  rw [if_neg (by decide)]
  congr 1
  · rw [show (0 : Int) + (r.toNat : Int) = r from by omega]
  · omega
theorem fold_runs (xs : List Int) : (∀ x ∈ xs, 0 ≤ x) → ∀ (cs : List Int) (n nt : Int), ∃ n', (xs.flatMap runTx).foldl Sc.one ⟨cs, 0, n, nt⟩ = ⟨xs.foldl bump cs, 0, n', nt + xs.length⟩ := by
  induction xs with
  | nil => intro _ cs n nt; exact ⟨n, by simp⟩
  | cons x r ih =>
    intro h cs n nt
    rw [List.flatMap_cons, List.foldl_append, fold_run x (h x (.head _)), List.foldl_cons]
    obtain ⟨n', e⟩ := ih (fun y hy => h y (.tail _ hy)) (bump cs x) (n + x + 1) (nt + 1)
    refine ⟨n', ?_⟩
    rw [e]
    congr 1
    rw [List.length_cons]; omega
theorem lead_is (xs : List Int) (h : ∀ x ∈ xs, 0 ≤ x) (t : Int) (ht : 0 ≤ t) : ∃ n', leadSc xs t = ⟨counts xs, t, n', xs.length⟩ := by
  obtain ⟨n', e⟩ := fold_runs xs h [] 0 0
  unfold leadSc scan
  rw [List.foldl_append, e, fold_blank]
  refine ⟨n' + t.toNat, ?_⟩
  dsimp only [counts]
  congr 1 <;> omega
theorem grown_get (cs : List Int) (b : Int) (i : Nat) : (grown cs b).getD i 0 = cs.getD i 0 := by
  unfold grown
  split
  · rw [flat_zeros, List.getD_eq_getElem?_getD, List.getD_eq_getElem?_getD, List.getElem?_append]
    split
    · rfl
    · rename_i h
      rw [List.getElem?_eq_none (l := cs) (by omega), List.getElem?_replicate]
      split <;> rfl
  · rfl
theorem bump_get (cs : List Int) {b : Int} (hb : 0 ≤ b) (i : Nat) : (bump cs b).getD i 0 = cs.getD i 0 + (if b = (i : Int) then 1 else 0) := by
  have hl := grown_length cs hb
  unfold bump
  rw [List.getD_eq_getElem?_getD, List.getElem?_set]
  by_cases h : b.toNat = i
  · subst h
    rw [if_pos rfl, if_pos (by omega), grown_get, if_pos (by omega)]
    rfl
  · rw [if_neg h, if_neg (by omega), Int.add_zero, ← grown_get cs b i, List.getD_eq_getElem?_getD]
theorem bump_length (cs : List Int) {b : Int} (hb : 0 ≤ b) : (bump cs b).length = max cs.length (b.toNat + 1) := by
  unfold bump
  rw [List.length_set, grown_length cs hb]
theorem fold_get (xs : List Int) : (∀ x ∈ xs, 0 ≤ x) → ∀ (cs : List Int) (i : Nat), (xs.foldl bump cs).getD i 0 = cs.getD i 0 + (xs.count (i : Int) : Int) := by
  induction xs with
  | nil => intro _ cs i; simp
  | cons x r ih =>
    intro h cs i
    rw [List.foldl_cons, ih (fun y hy => h y (.tail _ hy)), bump_get cs (h x (.head _)), List.count_cons]
    by_cases hx : x = (i : Int)
    · simp [hx]; omega
    · simp [hx]
theorem counts_get (xs : List Int) (h : ∀ x ∈ xs, 0 ≤ x) (i : Nat) : (counts xs).getD i 0 = (xs.count (i : Int) : Int) := by
  unfold counts
  rw [fold_get xs h]; simp
theorem fold_len (xs : List Int) : (∀ x ∈ xs, 0 ≤ x) → ∀ (cs : List Int) (k : Nat), (xs.foldl bump cs).length ≤ k ↔ cs.length ≤ k ∧ ∀ x ∈ xs, x.toNat + 1 ≤ k := by
  induction xs with
  | nil => intro _ cs k; simp
  | cons x r ih =>
    intro h cs k
    rw [List.foldl_cons, ih (fun y hy => h y (.tail _ hy)), bump_length cs (h x (.head _)), List.forall_mem_cons]
    constructor
    · rintro ⟨h1, h2⟩; exact ⟨by omega, by omega, h2⟩
    · rintro ⟨h1, h2, h3⟩; exact ⟨by omega, h3⟩
theorem counts_len (xs : List Int) (h : ∀ x ∈ xs, 0 ≤ x) (k : Nat) : (counts xs).length ≤ k ↔ ∀ x ∈ xs, x.toNat + 1 ≤ k := by
  unfold counts
  rw [fold_len xs h]; simp
/-- the counts tell the bag -/
theorem counts_perm (xs ys : List Int) (hx : ∀ x ∈ xs, 0 ≤ x) (hy : ∀ x ∈ ys, 0 ≤ x) : counts xs = counts ys ↔ xs.Perm ys := by
  constructor
  · intro h
    rw [List.perm_iff_count]
    intro a
    rcases (by omega : 0 ≤ a ∨ a < 0) with ha | ha
    · have h1 := counts_get xs hx a.toNat
      have h2 := counts_get ys hy a.toNat
      rw [h, h2, Int.toNat_of_nonneg ha] at h1
      omega
    · rw [List.count_eq_zero_of_not_mem fun q => by have := hx a q; omega, List.count_eq_zero_of_not_mem fun q => by have := hy a q; omega]
  · intro h
    have hl : (counts xs).length = (counts ys).length := by
      refine Nat.le_antisymm ?_ ?_
      · rw [counts_len xs hx]
        intro x hxm
        exact (counts_len ys hy _).mp (Nat.le_refl _) x (h.mem_iff.mp hxm)
      · rw [counts_len ys hy]
        intro x hxm
        exact (counts_len xs hx _).mp (Nat.le_refl _) x (h.mem_iff.mpr hxm)
    refine List.ext_getElem hl fun i h1 h2 => ?_
    have e1 := counts_get xs hx i
    have e2 := counts_get ys hy i
    rw [List.getD_eq_getElem?_getD, List.getElem?_eq_getElem h1] at e1
    rw [List.getD_eq_getElem?_getD, List.getElem?_eq_getElem h2] at e2
    rw [h.count_eq] at e1
    simp only [Option.getD_some] at e1 e2
    omega

theorem sum_add {α : Type} (l : List α) (a b : α → Int) : (l.map fun i => a i + b i).sum = (l.map a).sum + (l.map b).sum := by
  induction l with
  | nil => rfl
  | cons x r ih => simp only [List.map_cons, List.sum_cons, ih]; omega
theorem sum_pick (k : Nat) (g : Int) : ∀ n : Nat, ((List.range n).map fun i => if i = k then g else 0).sum = if k < n then g else 0 := by
  intro n
  induction n with
  | zero => simp
  | succ n ih =>
    rw [List.range_succ, List.map_append, List.sum_append, ih]
    simp only [List.map_cons, List.map_nil, List.sum_cons, List.sum_nil, Int.add_zero]
    by_cases h : n = k
    · subst h; rw [if_neg (Nat.lt_irrefl n), if_pos rfl, if_pos (Nat.lt_succ_self n)]; omega
    · rw [if_neg h]
      by_cases h2 : k < n
      · rw [if_pos h2, if_pos (by omega)]; omega
      · rw [if_neg h2, if_neg (by omega)]; omega
theorem sum_zero {α : Type} (l : List α) (a : α → Int) (h : ∀ i ∈ l, a i = 0) : (l.map a).sum = 0 := by
  induction l with
  | nil => rfl
  | cons x r ih => rw [List.map_cons, List.sum_cons, h x (.head _), ih fun i hi => h i (.tail _ hi)]; rfl
def fsum (cs : List Int) (ts : Int) (n : Nat) : Int := ((List.range n).map fun (i : Nat) => (i : Int).fdiv ts * cs.getD i 0).sum
theorem fsum_succ (cs : List Int) (ts : Int) (n : Nat) : fsum cs ts (n + 1) = fsum cs ts n + (n : Int).fdiv ts * cs.getD n 0 := by
  simp [fsum, List.range_succ]
theorem fdiv_small {a b : Int} (h0 : 0 ≤ a) (h : a < b) : a.fdiv b = 0 := by
  rw [Int.fdiv_eq_ediv_of_nonneg _ (by omega)]
  exact Int.ediv_eq_zero_of_lt h0 h
theorem fsum_low (cs : List Int) (ts : Int) (n : Nat) (h : (n : Int) ≤ ts) : fsum cs ts n = 0 := by
  refine sum_zero _ _ fun i hi => ?_
  have := List.mem_range.mp hi
  rw [fdiv_small (by omega) (by omega), Int.zero_mul]
theorem fsum_high (cs : List Int) (ts : Int) (n : Nat) (h : cs.length ≤ n) (k : Nat) : fsum cs ts (n + k) = fsum cs ts n := by
  induction k with
  | zero => rfl
  | succ k ih =>
    rw [← Nat.add_assoc, fsum_succ, ih, List.getD_eq_getElem?_getD, List.getElem?_eq_none (by omega)]
    simp
theorem fsum_il (cs : List Int) (ts : Int) (h1 : 1 ≤ ts) (k : Nat) : fsum cs ts (ts.toNat + k) = ilSum cs ts k := by
  induction k with
  | zero =>
    rw [Nat.add_zero, fsum_low cs ts ts.toNat (by omega)]; rfl
  | succ k ih =>
    rw [← Nat.add_assoc, fsum_succ, ih, ilSum_succ]
    have e : ((ts.toNat + k : Nat) : Int) = ts + (k : Int) := by omega
    have e2 : (ts + (k : Int)).toNat = ts.toNat + k := by omega
    rw [e, e2]
theorem il_ten (cs : List Int) (ts : Int) (h1 : 1 ≤ ts) (hl : cs.length ≤ 10) : ilSum cs ts ((cs.length : Int) - ts).toNat = fsum cs ts 10 := by
  have e10 : fsum cs ts 10 = fsum cs ts cs.length := by
    have := fsum_high cs ts cs.length (Nat.le_refl _) (10 - cs.length)
    rwa [Nat.add_sub_of_le hl] at this
  rw [e10]
  rcases (by omega : ts ≤ (cs.length : Int) ∨ (cs.length : Int) < ts) with h | h
  · rw [← fsum_il cs ts h1]
    congr 1
    omega
  · rw [fsum_low cs ts cs.length (by omega), show ((cs.length : Int) - ts).toNat = 0 from by omega]; rfl
theorem fsum_counts (ts : Int) (xs : List Int) : (∀ x ∈ xs, 0 ≤ x ∧ x < 10) → ((List.range 10).map fun (i : Nat) => (i : Int).fdiv ts * (xs.count (i : Int) : Int)).sum = floorSum xs ts := by
  induction xs with
  | nil => intro _; simp [floorSum]; rfl
  | cons x r ih =>
    intro h
    have hx := h x (.head _)
    have e : (fun (i : Nat) => (i : Int).fdiv ts * (((x :: r).count (i : Int) : Nat) : Int)) = fun (i : Nat) => (i : Int).fdiv ts * ((r.count (i : Int) : Nat) : Int) + (if i = x.toNat then x.fdiv ts else 0) := by
      funext i
      rw [List.count_cons]
      by_cases hi : i = x.toNat
      · have : x = (i : Int) := by omega
        subst this
        rw [if_pos hi]
        simp only [BEq.rfl, if_true]
        rw [Int.natCast_add, Int.mul_add]
        simp
      · rw [if_neg hi, if_neg (by simp; omega)]
        simp
    rw [e, sum_add, ih fun y hy => h y (.tail _ hy), sum_pick, if_pos (by omega)]
    simp only [floorSum, List.map_cons, List.sum_cons]
    omega
theorem lead_indent (xs : List Int) (hb : ∀ x ∈ xs, 0 ≤ x ∧ x < 10) (t : Int) (ht : 0 ≤ t) (ts : Int) (h1 : 1 ≤ ts) : indent (leadSc xs t) ts = t + ts * (floorSum xs ts + xs.length) := by
  have hb0 : ∀ x ∈ xs, 0 ≤ x := fun x hx => (hb x hx).1
  obtain ⟨n', e⟩ := lead_is xs hb0 t ht
  have hl : (counts xs).length ≤ 10 := (counts_len xs hb0 10).mpr fun x hx => by have := hb x hx; omega
  rw [e]
  unfold indent
  dsimp only
  rw [il_ten _ ts h1 hl]
  congr 3
  rw [← fsum_counts ts xs hb]
  unfold fsum
  congr 1
  refine List.map_congr_left fun i _ => ?_
  rw [counts_get xs hb0]
theorem lead_ok (xs : List Int) (hb : ∀ x ∈ xs, 0 ≤ x ∧ x < 10) (t : Int) (ht : 0 ≤ t ∧ t < 12) : ScOk 50 (leadSc xs t) := by
  have hb0 : ∀ x ∈ xs, 0 ≤ x := fun x hx => (hb x hx).1
  obtain ⟨n', e⟩ := lead_is xs hb0 t ht.1
  have hl : (counts xs).length ≤ 10 := (counts_len xs hb0 10).mpr fun x hx => by have := hb x hx; omega
  rw [e]
  exact ⟨ht.1, by dsimp only; omega, by dsimp only; omega⟩
theorem lead_longest (xs : List Int) (hb : ∀ x ∈ xs, 0 ≤ x ∧ x < 10) (t : Int) (ht : 0 ≤ t ∧ t < 12) : longest (leadSc xs t) ≤ max 9 t ∧ (9 ∈ xs → longest (leadSc xs t) = max 9 t) := by
  have hb0 : ∀ x ∈ xs, 0 ≤ x := fun x hx => (hb x hx).1
  obtain ⟨n', e⟩ := lead_is xs hb0 t ht.1
  have hl : (counts xs).length ≤ 10 := (counts_len xs hb0 10).mpr fun x hx => by have := hb x hx; omega
  rw [e]
  unfold longest
  dsimp only
  refine ⟨by omega, fun h9 => ?_⟩
  have := (counts_len xs hb0 _).mp (Nat.le_refl _) 9 h9
  omega

/-- how far the first bag's floors lie above the second's -/
def dif (xs ys : List Int) (ts : Int) : Int := floorSum xs ts - floorSum ys ts
theorem floor_bound (xs : List Int) (hb : ∀ x ∈ xs, 0 ≤ x ∧ x < 10) (ts : Int) (h1 : 1 ≤ ts) : 0 ≤ floorSum xs ts ∧ floorSum xs ts ≤ 9 * xs.length := by
  induction xs with
  | nil => simp [floorSum]
  | cons x r ih =>
    have h2 := ih fun y hy => hb y (.tail _ hy)
    have h3 := hb x (.head _)
    have h4 := fdiv_bounds (a := x) (b := ts) h3.1 h1
    simp only [floorSum, List.map_cons, List.sum_cons, List.length_cons] at h2 ⊢
    omega
theorem floor_high (xs : List Int) (hb : ∀ x ∈ xs, 0 ≤ x ∧ x < 10) (ts : Int) (h1 : 10 ≤ ts) : floorSum xs ts = 0 :=
  sum_zero _ _ fun x hx => fdiv_small (hb x hx).1 (by have := hb x hx; omega)
section
variable {xs ys : List Int} {t : Int}
theorem ind_dif (hx : ∀ x ∈ xs, 0 ≤ x ∧ x < 10) (hy : ∀ x ∈ ys, 0 ≤ x ∧ x < 10) (hl : xs.length = ys.length) (ht : 0 ≤ t) (ts : Int) (h1 : 1 ≤ ts) : indent (leadSc xs t) ts - indent (leadSc ys t) ts = ts * dif xs ys ts := by
  rw [lead_indent xs hx t ht ts h1, lead_indent ys hy t ht ts h1, hl, dif, Int.mul_add, Int.mul_add, Int.mul_sub]
  omega
theorem mark_row (hx : ∀ x ∈ xs, 0 ≤ x ∧ x < 10) (hy : ∀ x ∈ ys, 0 ≤ x ∧ x < 10) (hl : xs.length = ys.length) (ht : 0 ≤ t) (ts : Int) (h1 : 1 ≤ ts) : markOf (rowOf (leadSc xs t) (leadSc ys t) ts) = (primeOf ts, dif xs ys ts, 0) := by
  unfold markOf rowOf
  dsimp only
  rw [ind_dif hx hy hl ht ts h1, Int.mul_fdiv_cancel_left _ (by omega), Int.mul_fmod_right]
theorem quots_sum (hx : ∀ x ∈ xs, 0 ≤ x ∧ x < 10) (hy : ∀ x ∈ ys, 0 ≤ x ∧ x < 10) (hl : xs.length = ys.length) (ht : 0 ≤ t) (p : Int) (l : List Int) (h : ∀ ts ∈ l, 1 ≤ ts) :
    (quotsOf (((l.filter fun ts => decide (indent (leadSc xs t) ts ≠ indent (leadSc ys t) ts)).map (rowOf (leadSc xs t) (leadSc ys t))).map markOf) p).sum = (l.map fun ts => if primeOf ts = p then dif xs ys ts else 0).sum := by
  induction l with
  | nil => rfl
  | cons ts r ih =>
    have h1 := h ts (.head _)
    have e := ind_dif hx hy hl ht ts h1
    rw [List.map_cons, List.sum_cons, ← ih fun y hy => h y (.tail _ hy), List.filter_cons]
    by_cases hne : indent (leadSc xs t) ts = indent (leadSc ys t) ts
    · rw [if_neg (by simpa using hne)]
      have hz : dif xs ys ts = 0 := by
        rw [hne, Int.sub_self] at e
        rcases Int.mul_eq_zero.mp e.symm with h | h
        · omega
        · exact h
      rw [hz]
      split <;> simp
    · rw [if_pos (by simpa using hne), List.map_cons, List.map_cons, mark_row hx hy hl ht ts h1]
      unfold quotsOf
      rw [List.filter_cons]
      by_cases hp : primeOf ts = p
      · simp [hp]
      · simp [hp]
end
def linesTo (n : Nat) : List Int := (List.range n).map fun (j : Nat) => (1 : Int) + j
theorem linesTo_mem {n : Nat} {ts : Int} (h : ts ∈ linesTo n) : 1 ≤ ts ∧ ts ≤ n := by
  simp only [linesTo, List.mem_map, List.mem_range] at h
  obtain ⟨j, hj, rfl⟩ := h
  omega
theorem rowsNe_is (sc1 sc2 : Sc) (n : Nat) : rowsNe sc1 sc2 n = ((linesTo n).filter fun ts => decide (indent sc1 ts ≠ indent sc2 ts)).map (rowOf sc1 sc2) := rfl
theorem rowsGe_is (sc1 sc2 : Sc) (n : Nat) : rowsGe sc1 sc2 n = ((linesTo n).filter fun ts => decide (indent sc2 ts ≤ indent sc1 ts)).map (rowOf sc1 sc2) := rfl
/-- the widest line -/
def widest (xs ys : List Int) (t : Int) : Nat := (max (longest (leadSc xs t)) (longest (leadSc ys t)) + 1).toNat
/-- what the proof asks of the two bags -/
structure Bags (xs ys : List Int) (t : Int) : Prop where
  hx : ∀ x ∈ xs, 0 ≤ x ∧ x < 10
  hy : ∀ x ∈ ys, 0 ≤ x ∧ x < 10
  hl : xs.length = ys.length
  h5 : xs.length ≤ 5
  h9 : 9 ∈ xs
  ht : 0 ≤ t ∧ t < 12
section
variable {xs ys : List Int} {t : Int}
theorem Bags.wide (B : Bags xs ys t) : widest xs ys t = 10 ∨ widest xs ys t = 11 ∨ widest xs ys t = 12 := by
  have h1 := (lead_longest xs B.hx t B.ht).2 B.h9
  have h2 := (lead_longest ys B.hy t B.ht).1
  have h3 := B.ht
  unfold widest
  rw [h1]
  omega
def rowsXY (xs ys : List Int) (t : Int) : List (Int × Int × Int) := rowsNe (leadSc xs t) (leadSc ys t) (widest xs ys t)
theorem Bags.rows (B : Bags xs ys t) : (∀ r ∈ rowsXY xs ys t, 1 ≤ r.1 ∧ r.1 ≤ 100) ∧ (rowsXY xs ys t).length ≤ 100 := by
  have hw := B.wide
  refine ⟨fun r hr => ?_, ?_⟩
  · rw [rowsXY, rowsNe_is] at hr
    obtain ⟨ts, hts, rfl⟩ := List.mem_map.mp hr
    have := linesTo_mem (List.mem_filter.mp hts).1
    show 1 ≤ ts ∧ ts ≤ 100
    omega
  · have := rowsNe_length (leadSc xs t) (leadSc ys t) (widest xs ys t)
    unfold rowsXY
    omega
theorem Bags.rest (B : Bags xs ys t) : ∀ q ∈ (rowsXY xs ys t).map markOf, q.2.2 = 0 := fun q hq => by
  obtain ⟨r, hr, rfl⟩ := List.mem_map.mp hq
  rw [rowsXY, rowsNe_is] at hr
  obtain ⟨ts, hts, rfl⟩ := List.mem_map.mp hr
  rw [mark_row B.hx B.hy B.hl B.ht.1 ts (linesTo_mem (List.mem_filter.mp hts).1).1]
theorem Bags.tot (B : Bags xs ys t) (p : Int) : (quotsOf ((rowsXY xs ys t).map markOf) p).sum = ((linesTo (widest xs ys t)).map fun ts => if primeOf ts = p then dif xs ys ts else 0).sum := by
  rw [rowsXY, rowsNe_is]
  exact quots_sum B.hx B.hy B.hl B.ht.1 p _ fun ts h => (linesTo_mem h).1
theorem Bags.tots (B : Bags xs ys t) : sumsL ((rowsXY xs ys t).map markOf) PW =
    [(2, dif xs ys 2 + dif xs ys 4 + dif xs ys 8), (3, dif xs ys 3 + dif xs ys 9), (5, dif xs ys 5), (7, dif xs ys 7), (11, 0)] := by
  have d11 : dif xs ys 11 = 0 := by unfold dif; rw [floor_high xs B.hx 11 (by decide), floor_high ys B.hy 11 (by decide)]; rfl
  have e : sumsL ((rowsXY xs ys t).map markOf) PW = [2, 3, 5, 7, 11].map fun p => (p, (quotsOf ((rowsXY xs ys t).map markOf) p).sum) := rfl
  rw [e]
  simp only [List.map_cons, List.map_nil, B.tot]
  rcases B.wide with h | h | h <;> rw [h] <;> simp [linesTo, List.range_succ, primeOf, d11] <;> omega
end

def v2 (xs : List Int) : Int := floorSum xs 2 + floorSum xs 4 + floorSum xs 8
def v3 (xs : List Int) : Int := floorSum xs 3 + floorSum xs 9
def v5 (xs : List Int) : Int := floorSum xs 5
def v7 (xs : List Int) : Int := floorSum xs 7
theorem floor_cons (x : Int) (r : List Int) (ts : Int) : floorSum (x :: r) ts = x.fdiv ts + floorSum r ts := rfl
theorem one_fact : ∀ i : Nat, i < 10 → lprod (rng (i : Int)) = 2 ^ ((i : Int).fdiv 2 + (i : Int).fdiv 4 + (i : Int).fdiv 8).toNat * (3 ^ ((i : Int).fdiv 3 + (i : Int).fdiv 9).toNat * (5 ^ ((i : Int).fdiv 5).toNat * 7 ^ ((i : Int).fdiv 7).toNat)) := by decide +kernel
theorem one_bound : ∀ i : Nat, i < 10 → (0 ≤ (i : Int).fdiv 2 + (i : Int).fdiv 4 + (i : Int).fdiv 8 ∧ (i : Int).fdiv 2 + (i : Int).fdiv 4 + (i : Int).fdiv 8 ≤ 7) ∧ (0 ≤ (i : Int).fdiv 3 + (i : Int).fdiv 9 ∧ (i : Int).fdiv 3 + (i : Int).fdiv 9 ≤ 4) ∧ (0 ≤ (i : Int).fdiv 5 ∧ (i : Int).fdiv 5 ≤ 1) ∧ (0 ≤ (i : Int).fdiv 7 ∧ (i : Int).fdiv 7 ≤ 1) := by decide +kernel
theorem six (a b c d e f : Int) : (a + d) + (b + e) + (c + f) = (a + b + c) + (d + e + f) := by omega
theorem four4 (a b c d : Int) : (a + b) + (c + d) = (a + c) + (b + d) := by omega
theorem v2_cons (x : Int) (r : List Int) : v2 (x :: r) = (x.fdiv 2 + x.fdiv 4 + x.fdiv 8) + v2 r := six _ _ _ _ _ _
theorem v3_cons (x : Int) (r : List Int) : v3 (x :: r) = (x.fdiv 3 + x.fdiv 9) + v3 r := four4 _ _ _ _
theorem v5_cons (x : Int) (r : List Int) : v5 (x :: r) = x.fdiv 5 + v5 r := rfl
theorem v7_cons (x : Int) (r : List Int) : v7 (x :: r) = x.fdiv 7 + v7 r := rfl
theorem v_step {a b k : Int} {n : Nat} (h1 : 0 ≤ a ∧ a ≤ k) (h2 : 0 ≤ b ∧ b ≤ k * n) : 0 ≤ a + b ∧ a + b ≤ k * ((n + 1 : Nat) : Int) := by
  refine ⟨Int.add_nonneg h1.1 h2.1, ?_⟩
  rw [Int.natCast_add, Int.mul_add, show k * ((1 : Nat) : Int) = k from Int.mul_one k, Int.add_comm]
  exact Int.add_le_add h2.2 h1.2
theorem v_step1 {a b : Int} {n : Nat} (h1 : 0 ≤ a ∧ a ≤ 1) (h2 : 0 ≤ b ∧ b ≤ n) : 0 ≤ a + b ∧ a + b ≤ ((n + 1 : Nat) : Int) := by
  have := v_step (k := 1) (n := n) h1 ⟨h2.1, by rw [Int.one_mul]; exact h2.2⟩
  rwa [Int.one_mul] at this
theorem v_bound (xs : List Int) (hb : ∀ x ∈ xs, 0 ≤ x ∧ x < 10) : (0 ≤ v2 xs ∧ v2 xs ≤ 7 * xs.length) ∧ (0 ≤ v3 xs ∧ v3 xs ≤ 4 * xs.length) ∧ (0 ≤ v5 xs ∧ v5 xs ≤ xs.length) ∧ (0 ≤ v7 xs ∧ v7 xs ≤ xs.length) := by
  induction xs with
  | nil => simp [v2, v3, v5, v7, floorSum]
  | cons x r ih =>
    have h1 := ih fun y hy => hb y (.tail _ hy)
    have h2 := ten_cases (P := fun x => (0 ≤ x.fdiv 2 + x.fdiv 4 + x.fdiv 8 ∧ x.fdiv 2 + x.fdiv 4 + x.fdiv 8 ≤ 7) ∧ (0 ≤ x.fdiv 3 + x.fdiv 9 ∧ x.fdiv 3 + x.fdiv 9 ≤ 4) ∧ (0 ≤ x.fdiv 5 ∧ x.fdiv 5 ≤ 1) ∧ (0 ≤ x.fdiv 7 ∧ x.fdiv 7 ≤ 1)) one_bound (hb x (.head _))
    rw [v2_cons, v3_cons, v5_cons, v7_cons, List.length_cons]
    exact ⟨v_step h2.1 h1.1, v_step h2.2.1 h1.2.1, v_step1 h2.2.2.1 h1.2.2.1, v_step1 h2.2.2.2 h1.2.2.2⟩
/-- Legendre: the bag's factorials by their primes -/
theorem legendre (xs : List Int) (hb : ∀ x ∈ xs, 0 ≤ x ∧ x < 10) : lprod (xs.flatMap rng) = 2 ^ (v2 xs).toNat * (3 ^ (v3 xs).toNat * (5 ^ (v5 xs).toNat * 7 ^ (v7 xs).toNat)) := by
  induction xs with
  | nil => rfl
  | cons x r ih =>
    have hr : ∀ y ∈ r, 0 ≤ y ∧ y < 10 := fun y hy => hb y (.tail _ hy)
    have h1 := v_bound r hr
    have h2 := ten_cases (P := fun x => (0 ≤ x.fdiv 2 + x.fdiv 4 + x.fdiv 8 ∧ x.fdiv 2 + x.fdiv 4 + x.fdiv 8 ≤ 7) ∧ (0 ≤ x.fdiv 3 + x.fdiv 9 ∧ x.fdiv 3 + x.fdiv 9 ≤ 4) ∧ (0 ≤ x.fdiv 5 ∧ x.fdiv 5 ≤ 1) ∧ (0 ≤ x.fdiv 7 ∧ x.fdiv 7 ≤ 1)) one_bound (hb x (.head _))
    have h3 := ten_cases (P := fun x => lprod (rng x) = 2 ^ (x.fdiv 2 + x.fdiv 4 + x.fdiv 8).toNat * (3 ^ (x.fdiv 3 + x.fdiv 9).toNat * (5 ^ (x.fdiv 5).toNat * 7 ^ (x.fdiv 7).toNat))) one_fact (hb x (.head _))
    have e2 : (v2 (x :: r)).toNat = (x.fdiv 2 + x.fdiv 4 + x.fdiv 8).toNat + (v2 r).toNat := by rw [v2_cons]; exact Int.toNat_add h2.1.1 h1.1.1
    have e3 : (v3 (x :: r)).toNat = (x.fdiv 3 + x.fdiv 9).toNat + (v3 r).toNat := by rw [v3_cons]; exact Int.toNat_add h2.2.1.1 h1.2.1.1
    have e5 : (v5 (x :: r)).toNat = (x.fdiv 5).toNat + (v5 r).toNat := by rw [v5_cons]; exact Int.toNat_add h2.2.2.1.1 h1.2.2.1.1
    have e7 : (v7 (x :: r)).toNat = (x.fdiv 7).toNat + (v7 r).toNat := by rw [v7_cons]; exact Int.toNat_add h2.2.2.2.1 h1.2.2.2.1
    rw [List.flatMap_cons, lprod_append, ih hr, h3, e2, e3, e5, e7, Int.pow_add, Int.pow_add, Int.pow_add, Int.pow_add]
    ac_rfl
theorem lprod_ups (p a : Int) (r : List (Int × Int)) : lprod (upsOf ((p, a) :: r)) = p ^ a.toNat * lprod (upsOf r) := by
  unfold upsOf
  rw [List.filter_cons]
  by_cases h : a > 0
  · rw [if_pos (by simpa using h), List.map_cons, lprod_cons]
  · rw [if_neg (by simpa using h), show a.toNat = 0 from by omega, Int.pow_zero, Int.one_mul]
theorem lprod_lows (p a : Int) (r : List (Int × Int)) : lprod (lowsOf ((p, a) :: r)) = p ^ (0 - a).toNat * lprod (lowsOf r) := by
  unfold lowsOf
  rw [List.filter_cons]
  by_cases h : a < 0
  · rw [if_pos (by simpa using h), List.map_cons, lprod_cons]
  · rw [if_neg (by simpa using h), show (0 - a).toNat = 0 from by omega, Int.pow_zero, Int.one_mul]
theorem pow2_fit : ∀ k : Nat, k < 36 → -(2 ^ 64) < (2 : Int) ^ k ∧ (2 : Int) ^ k < 2 ^ 64 := by decide +kernel
theorem pow3_fit : ∀ k : Nat, k < 21 → -(2 ^ 64) < (3 : Int) ^ k ∧ (3 : Int) ^ k < 2 ^ 64 := by decide +kernel
theorem pow5_fit : ∀ k : Nat, k < 6 → -(2 ^ 64) < (5 : Int) ^ k ∧ (5 : Int) ^ k < 2 ^ 64 := by decide +kernel
theorem pow7_fit : ∀ k : Nat, k < 6 → -(2 ^ 64) < (7 : Int) ^ k ∧ (7 : Int) ^ k < 2 ^ 64 := by decide +kernel
theorem lprod_bits (ns : List Int) (h : ∀ x ∈ ns, -(2 ^ 64) < x ∧ x < 2 ^ 64) : (lprod ns).natAbs < 2 ^ (64 * ns.length + 1) := by
  induction ns with
  | nil => decide
  | cons n r ih =>
    have h1 := ih fun x hx => h x (.tail _ hx)
    have h2 : n.natAbs < 2 ^ 64 := by have := h n (.head _); omega
    rw [lprod_cons, Int.natAbs_mul, List.length_cons, show 64 * (r.length + 1) + 1 = 64 + (64 * r.length + 1) from by omega, Nat.pow_add]
    exact Nat.mul_lt_mul'' h2 h1
theorem lprod_ok (a b : List Int) (ha : ∀ x ∈ a, -(2 ^ 64) < x ∧ x < 2 ^ 64) (hb : ∀ x ∈ b, -(2 ^ 64) < x ∧ x < 2 ^ 64) (hla : a.length ≤ 1000) (hlb : b.length ≤ 1000) : IntMulOk (lprod a) (lprod b) :=
  IntMulOk.of_le (intBits_le_iff.mpr (lprod_bits a ha)) (intBits_le_iff.mpr (lprod_bits b hb)) (by omega)
section
variable {xs ys : List Int} {t : Int}
/-- a prime's sum, for each prime -/
def sumsXY (xs ys : List Int) : List (Int × Int) := [(2, v2 xs - v2 ys), (3, v3 xs - v3 ys), (5, v5 xs - v5 ys), (7, v7 xs - v7 ys), (11, 0)]
theorem Bags.sums (B : Bags xs ys t) : sumsL ((rowsXY xs ys t).map markOf) PW = sumsXY xs ys := by
  rw [B.tots]
  unfold sumsXY dif v2 v3 v5 v7
  have e2 : floorSum xs 2 - floorSum ys 2 + (floorSum xs 4 - floorSum ys 4) + (floorSum xs 8 - floorSum ys 8) = floorSum xs 2 + floorSum xs 4 + floorSum xs 8 - (floorSum ys 2 + floorSum ys 4 + floorSum ys 8) := by omega
  have e3 : floorSum xs 3 - floorSum ys 3 + (floorSum xs 9 - floorSum ys 9) = floorSum xs 3 + floorSum xs 9 - (floorSum ys 3 + floorSum ys 9) := by omega
  rw [e2, e3]
theorem Bags.flip_len (B : Bags xs ys t) : ys.length ≤ 5 := B.hl ▸ B.h5
theorem near {a b K : Int} (ha : 0 ≤ a) (ha' : a ≤ K) (hb : 0 ≤ b) (hb' : b ≤ K) : -K ≤ a - b ∧ a - b ≤ K :=
  ⟨by rw [Int.sub_eq_add_neg, ← Int.zero_add (-K)]; exact Int.add_le_add ha (Int.neg_le_neg hb'), Int.le_trans (Int.sub_le_self a hb) ha'⟩
theorem mul5 {n : Nat} (h : n ≤ 5) : 7 * (n : Int) ≤ 35 ∧ 4 * (n : Int) ≤ 20 ∧ (n : Int) ≤ 5 :=
  have h' : (n : Int) ≤ 5 := Int.ofNat_le.mpr h
  ⟨Int.mul_le_mul_of_nonneg_left h' (by decide), Int.mul_le_mul_of_nonneg_left h' (by decide), h'⟩
theorem Bags.gaps (B : Bags xs ys t) : (-35 ≤ v2 xs - v2 ys ∧ v2 xs - v2 ys ≤ 35) ∧ (-20 ≤ v3 xs - v3 ys ∧ v3 xs - v3 ys ≤ 20) ∧ (-5 ≤ v5 xs - v5 ys ∧ v5 xs - v5 ys ≤ 5) ∧ (-5 ≤ v7 xs - v7 ys ∧ v7 xs - v7 ys ≤ 5) := by
  have h1 := v_bound xs B.hx
  have h2 := v_bound ys B.hy
  have h3 := mul5 B.h5
  have h4 := mul5 B.flip_len
  exact ⟨near h1.1.1 (Int.le_trans h1.1.2 h3.1) h2.1.1 (Int.le_trans h2.1.2 h4.1), near h1.2.1.1 (Int.le_trans h1.2.1.2 h3.2.1) h2.2.1.1 (Int.le_trans h2.2.1.2 h4.2.1),
    near h1.2.2.1.1 (Int.le_trans h1.2.2.1.2 h3.2.2) h2.2.2.1.1 (Int.le_trans h2.2.2.1.2 h4.2.2), near h1.2.2.2.1 (Int.le_trans h1.2.2.2.2 h3.2.2) h2.2.2.2.1 (Int.le_trans h2.2.2.2.2 h4.2.2)⟩
theorem up_lt {a : Int} {n : Nat} (h : a ≤ n) : a.toNat < n + 1 := Nat.lt_succ_of_le (Int.toNat_le.mpr h)
theorem low_lt {a : Int} {n : Nat} (h : -(n : Int) ≤ a) : (0 - a).toNat < n + 1 := up_lt (by rw [Int.zero_sub]; exact Int.neg_le_of_neg_le h)
theorem Bags.sumsBound (B : Bags xs ys t) : ∀ p ∈ sumsXY xs ys, 0 ≤ p.1 ∧ p.1 ≤ 100 ∧ -1000 ≤ p.2 ∧ p.2 ≤ 1000 := by
  have g := B.gaps
  intro p hp
  simp only [sumsXY, List.mem_cons, List.not_mem_nil, or_false] at hp
  rcases hp with rfl | rfl | rfl | rfl | rfl
  · exact ⟨(by decide : (0 : Int) ≤ 2), (by decide : (2 : Int) ≤ 100), Int.le_trans (by decide) g.1.1, Int.le_trans g.1.2 (by decide)⟩
  · exact ⟨(by decide : (0 : Int) ≤ 3), (by decide : (3 : Int) ≤ 100), Int.le_trans (by decide) g.2.1.1, Int.le_trans g.2.1.2 (by decide)⟩
  · exact ⟨(by decide : (0 : Int) ≤ 5), (by decide : (5 : Int) ≤ 100), Int.le_trans (by decide) g.2.2.1.1, Int.le_trans g.2.2.1.2 (by decide)⟩
  · exact ⟨(by decide : (0 : Int) ≤ 7), (by decide : (7 : Int) ≤ 100), Int.le_trans (by decide) g.2.2.2.1, Int.le_trans g.2.2.2.2 (by decide)⟩
  · decide
theorem Bags.ups (B : Bags xs ys t) : ∀ x ∈ upsOf (sumsXY xs ys), -(2 ^ 64) < x ∧ x < 2 ^ 64 := by
  have g := B.gaps
  intro x hx
  obtain ⟨p, hp, rfl⟩ := List.mem_map.mp hx
  have hp := (List.mem_filter.mp hp).1
  simp only [sumsXY, List.mem_cons, List.not_mem_nil, or_false] at hp
  rcases hp with rfl | rfl | rfl | rfl | rfl
  · exact pow2_fit _ (up_lt (n := 35) g.1.2)
  · exact pow3_fit _ (up_lt (n := 20) g.2.1.2)
  · exact pow5_fit _ (up_lt (n := 5) g.2.2.1.2)
  · exact pow7_fit _ (up_lt (n := 5) g.2.2.2.2)
  · decide
theorem Bags.lows (B : Bags xs ys t) : ∀ x ∈ lowsOf (sumsXY xs ys), -(2 ^ 64) < x ∧ x < 2 ^ 64 := by
  have g := B.gaps
  intro x hx
  obtain ⟨p, hp, rfl⟩ := List.mem_map.mp hx
  have hp := (List.mem_filter.mp hp).1
  simp only [sumsXY, List.mem_cons, List.not_mem_nil, or_false] at hp
  rcases hp with rfl | rfl | rfl | rfl | rfl
  · exact pow2_fit _ (low_lt (n := 35) g.1.1)
  · exact pow3_fit _ (low_lt (n := 20) g.2.1.1)
  · exact pow5_fit _ (low_lt (n := 5) g.2.2.1.1)
  · exact pow7_fit _ (low_lt (n := 5) g.2.2.2.1)
  · decide
theorem pow_bal (p : Int) (a b : Int) (ha : 0 ≤ a) (hb : 0 ≤ b) : p ^ a.toNat * p ^ (0 - (a - b)).toNat = p ^ b.toNat * p ^ (a - b).toNat := by
  obtain ⟨n, rfl⟩ := Int.eq_ofNat_of_zero_le ha
  obtain ⟨m, rfl⟩ := Int.eq_ofNat_of_zero_le hb
  rw [← Int.pow_add, ← Int.pow_add, Int.zero_sub, Int.neg_sub, Int.toNat_sub, Int.toNat_sub, Int.toNat_natCast, Int.toNat_natCast]
  congr 1
  rcases Nat.le_total n m with h | h
  · rw [Nat.add_sub_of_le h, Nat.sub_eq_zero_of_le h, Nat.add_zero]
  · rw [Nat.sub_eq_zero_of_le h, Nat.add_zero, Nat.add_sub_of_le h]
/-- in lowest terms: the factorials' quotient -/
theorem Bags.balance (B : Bags xs ys t) : lprod (xs.flatMap rng) * lprod (lowsOf (sumsXY xs ys)) = lprod (ys.flatMap rng) * lprod (upsOf (sumsXY xs ys)) := by
  have h1 := v_bound xs B.hx
  have h2 := v_bound ys B.hy
  rw [legendre xs B.hx, legendre ys B.hy]
  unfold sumsXY
  simp only [lprod_ups, lprod_lows]
  rw [show lprod (upsOf []) = 1 from rfl, show lprod (lowsOf []) = 1 from rfl, show (0 - (0 : Int)).toNat = 0 from rfl, show (0 : Int).toNat = 0 from rfl, Int.pow_zero, Int.mul_one]
  have b2 := pow_bal 2 (v2 xs) (v2 ys) h1.1.1 h2.1.1
  have b3 := pow_bal 3 (v3 xs) (v3 ys) h1.2.1.1 h2.2.1.1
  have b5 := pow_bal 5 (v5 xs) (v5 ys) h1.2.2.1.1 h2.2.2.1.1
  have b7 := pow_bal 7 (v7 xs) (v7 ys) h1.2.2.2.1 h2.2.2.2.1
  have four : ∀ a b c d a' b' c' d' : Int, (a * (b * (c * d))) * (a' * (b' * (c' * (d' * 1)))) = (a * a') * ((b * b') * ((c * c') * (d * d'))) := fun a b c d a' b' c' d' => by rw [Int.mul_one]; ac_rfl
  rw [four, four, b2, b3, b5, b7]
theorem rng_fit (xs : List Int) (hb : ∀ x ∈ xs, 0 ≤ x ∧ x < 10) : ∀ x ∈ xs.flatMap rng, -(2 ^ 64) < x ∧ x < 2 ^ 64 := fun x hx => by
  obtain ⟨r, hr, hxr⟩ := List.mem_flatMap.mp hx
  have := mem_rng hxr
  have := hb r hr
  omega
theorem rng_len (xs : List Int) (hb : ∀ x ∈ xs, 0 ≤ x ∧ x < 10) : (xs.flatMap rng).length ≤ 9 * xs.length := flat_length (f := rng) xs fun x hx => by have := hb x hx; rw [rng_length]; omega
theorem Bags.mul1 (B : Bags xs ys t) : IntMulOk (lprod (xs.flatMap rng)) (lprod (lowsOf (sumsXY xs ys))) := by
  refine lprod_ok _ _ (rng_fit xs B.hx) B.lows (by have := rng_len xs B.hx; have := B.h5; omega) ?_
  unfold lowsOf
  rw [List.length_map]
  exact Nat.le_trans (List.length_filter_le _ _) (by simp [sumsXY])
theorem Bags.mul2 (B : Bags xs ys t) : IntMulOk (lprod (ys.flatMap rng)) (lprod (upsOf (sumsXY xs ys))) := by
  refine lprod_ok _ _ (rng_fit ys B.hy) B.ups (by have := rng_len ys B.hy; have := B.flip_len; omega) ?_
  unfold upsOf
  rw [List.length_map]
  exact Nat.le_trans (List.length_filter_le _ _) (by simp [sumsXY])
/-- Landau: where every power is named, the lower number is 1 -/
theorem Bags.landau (B : Bags xs ys t) (ls : List Int) (h : ∀ q ∈ PW, q.1 ≤ 9 → q.1 ∉ (rowsGe (leadSc xs t) (leadSc ys t) (widest xs ys t)).map (·.1) → ls ≠ []) : ls = [] → lprod (lowsOf (sumsXY xs ys)) = 1 := by
  intro hls
  have hn : ∀ q ∈ PW, q.1 ≤ 9 → 0 ≤ dif xs ys q.1 := fun q hq h9 => by
    have hm : q.1 ∈ (rowsGe (leadSc xs t) (leadSc ys t) (widest xs ys t)).map (·.1) := Classical.byContradiction fun hc => h q hq h9 hc hls
    obtain ⟨r, hr, e⟩ := List.mem_map.mp hm
    rw [rowsGe_is] at hr
    obtain ⟨ts, hts, rfl⟩ := List.mem_map.mp hr
    obtain ⟨h1, h2⟩ := List.mem_filter.mp hts
    have h1 := (linesTo_mem h1).1
    have e : ts = q.1 := e
    subst e
    have h3 : indent (leadSc ys t) q.1 ≤ indent (leadSc xs t) q.1 := by simpa using h2
    have h4 := ind_dif B.hx B.hy B.hl B.ht.1 q.1 h1
    exact Classical.byContradiction fun hc => by
      have : q.1 * dif xs ys q.1 < 0 := Int.mul_neg_of_pos_of_neg (by omega) (by omega)
      omega
  have d2 := hn (2, 2) (by decide) (by decide)
  have d3 := hn (3, 3) (by decide) (by decide)
  have d4 := hn (4, 2) (by decide) (by decide)
  have d5 := hn (5, 5) (by decide) (by decide)
  have d7 := hn (7, 7) (by decide) (by decide)
  have d8 := hn (8, 2) (by decide) (by decide)
  have d9 := hn (9, 3) (by decide) (by decide)
  simp only [dif] at d2 d3 d4 d5 d7 d8 d9
  unfold sumsXY
  simp only [lprod_lows]
  rw [show (0 - (v2 xs - v2 ys)).toNat = 0 from by unfold v2; omega, show (0 - (v3 xs - v3 ys)).toNat = 0 from by unfold v3; omega, show (0 - (v5 xs - v5 ys)).toNat = 0 from by unfold v5; omega, show (0 - (v7 xs - v7 ys)).toNat = 0 from by unfold v7; omega]
  rfl
theorem Bags.same (B : Bags xs ys t) : ((leadSc xs t).cs = (leadSc ys t).cs ∧ (leadSc xs t).b = (leadSc ys t).b) ↔ xs.Perm ys := by
  have hx0 : ∀ x ∈ xs, 0 ≤ x := fun x hx => (B.hx x hx).1
  have hy0 : ∀ x ∈ ys, 0 ≤ x := fun x hx => (B.hy x hx).1
  obtain ⟨n1, e1⟩ := lead_is xs hx0 t B.ht.1
  obtain ⟨n2, e2⟩ := lead_is ys hy0 t B.ht.1
  rw [e1, e2, ← counts_perm xs ys hx0 hy0]
  exact ⟨fun h => h.1, fun h => ⟨h, rfl⟩⟩
end
theorem dig_bound (x : Int) : (0 ≤ (dig x).1 ∧ (dig x).1 < 10) ∧ (0 ≤ (dig x).2 ∧ (dig x).2 < 10) := by
  unfold dig
  dsimp only
  rw [Int.fmod_eq_emod_of_nonneg _ (by decide), Int.fmod_eq_emod_of_nonneg _ (by decide)]
  omega
theorem cells_bound (ns : List Int) : ∀ p ∈ cellsOf ns, (0 ≤ p.1 ∧ p.1 < 10) ∧ (0 ≤ p.2 ∧ p.2 < 10) := by
  intro p hp
  unfold cellsOf at hp
  rcases List.mem_append.mp hp with hp | hp
  · simp only [List.mem_cons, List.not_mem_nil, or_false] at hp
    rcases hp with rfl | rfl <;> decide
  · obtain ⟨x, _, rfl⟩ := List.mem_map.mp hp
    exact dig_bound x
theorem bags (ns : List Int) : Bags (overOf ns) (underOf ns) (tailOf ns) where
  hx := fun x hx => by
    obtain ⟨p, hp, rfl⟩ := List.mem_map.mp hx
    exact (cells_bound ns p hp).1
  hy := fun x hx => by
    obtain ⟨p, hp, rfl⟩ := List.mem_map.mp hx
    exact (cells_bound ns p hp).2
  hl := by simp [overOf, underOf]
  h5 := by simp [overOf, cellsOf]; omega
  h9 := by simp [overOf, cellsOf]
  ht := by
    unfold tailOf
    rw [Int.fmod_eq_emod_of_nonneg _ (by decide)]
    omega

theorem At.to {lv : Nat} {h' : Heap} {tk' : Nat} {m' : Str → Option Value} {news' : List (Addr × Obj)} (H : At lv w dp un cs L outer h₀ m s news) (F : Fr h₀ L h' m') (N : News h₀ L h' news') : At lv w dp un cs L outer h₀ m' { s with heap := h', toks := tk' } news' := ⟨H.below, F, H.kin, N, H.top, H.kind, H.room, H.units⟩
theorem neA_lt {a b : Addr} (h : @LT.lt Nat _ b a) : NeA a b := Nat.ne_of_gt h
theorem body_spec (c1 c2 c3 c4 c5 c6 c7 : Addr) (o1 o2 o3 o4 o5 o6 o7 : Obj) (l : Addr) (vs : List Value) (ns : List Int) (m₀ : Str → Option Value) {Q : Flow → Shared → Prop}
   (H : At 5 w dp un lawScope L outer h₀ (fun y => if y = Str.ofString "script" then some (.ref l) else m₀ y) s [(c7, o7), (c6, o6), (c5, o5), (c4, o4), (c3, o3), (c2, o2), (c1, o1)])
   (hE : PassesOwn (model PG w) (ktrTop dp un gd cn lawScope L a ccd (lawCl c1 c2 c3 c4 c5 c6 c7) outer) (envX cn lawScope L a ccd (lawCl c1 c2 c3 c4 c5 c6 c7)) E)
   (hl : h₀.IsList l vs.toArray) (hi : IntsAre vs ns) (hn : ns.length ≤ 63)
   (hc : @LT.lt Nat _ c1 c2 ∧ @LT.lt Nat _ c2 c3 ∧ @LT.lt Nat _ c3 c4 ∧ @LT.lt Nat _ c4 c5 ∧ @LT.lt Nat _ c5 c6 ∧ @LT.lt Nat _ c6 c7)
   (d1 : o1.data = .cell none) (d2 : o2.data = .cell none) (d3 : o3.data = .cell none) (d4 : o4.data = .cell none) (d5 : o5.data = .cell none) (d6 : o6.data = .cell none) (d7 : o7.data = .cell none)
   (hQ : ∀ m' h' tk', Fr h₀ L h' m' → Q (.ret (.bool true)) { s with heap := h', toks := tk' }) :
   wpAny (model PG w) (ktrTop dp un gd cn lawScope L a ccd (lawCl c1 c2 c3 c4 c5 c6 c7) outer) (execs lawBody (envX cn lawScope L a ccd (lawCl c1 c2 c3 c4 c5 c6 c7))) Q E s := by
  have B := bags ns
  have lt := hc
  obtain ⟨l12, l23, l34, l45, l56, l67⟩ := lt
  have c37 : @LT.lt Nat _ c3 c7 := by omega
  have c47 : @LT.lt Nat _ c4 c7 := by omega
  have c46 : @LT.lt Nat _ c4 c6 := by omega
  rw [lawBody_is, seg6_is]
  refine execs_two (seg1_spec c1 c2 c3 c4 c5 c6 c7 o1 o2 o3 o4 o5 o6 o7 l vs ns m₀ H hl hi hn hc d1 d2 d3 ?_)
  intro lo vo no lu vu nu p1 p2 p3 tt m1 h1 tk1 F1 N1 ho hu hio hiu e1 e2 e3
  dsimp only
  refine execs_two (seg2_spec c1 c2 c3 c4 c5 c6 c7 lo lu p1 p2 p3 o4 o5 o6 o7 vo vu no nu (H.to F1 N1) hc ⟨ho.1, ho.2.1⟩ ⟨hu.1, hu.2.1⟩ d4 d5 ?_)
  intro lp vp np lc vc nc p4 p5 tl m2 h2 tk2 F2 N2 hp hvc e4 e5 htl hlp hlc
  dsimp only
  have N2' : News h₀ L h2 ((lc, W.listOf vc.toArray nc) :: (lu, W.listOf vu.toArray nu) :: (lo, W.listOf vo.toArray no) :: (c5, p5) :: (c2, p2) :: (c1, p1) :: (lp, W.listOf vp.toArray np) :: (c7, o7) :: (c6, o6) :: (c4, p4) :: (c3, p3) :: tl) := news_sub N2 fun p hp => by
    simp only [List.mem_cons] at hp ⊢
    grind
  refine execs_two (seg3_spec c1 c2 c3 c4 c5 c6 c7 lo lu lc p1 p2 p5 vo vu vc no nu nc (overOf ns) (underOf ns) (H.to F2 N2') hE e1 e2 e5 hio B.hx B.h5 hiu B.hy B.flip_len hvc ?_)
  intro m3 h3 tk3 F3 N3
  dsimp only
  have N3' : News h₀ L h3 ((c6, o6) :: (lp, W.listOf vp.toArray np) :: (lu, W.listOf vu.toArray nu) :: (lo, W.listOf vo.toArray no) :: (c4, p4) :: (c3, p3) :: (c2, p2) :: (c1, p1) :: (c7, o7) :: tl) := news_sub N3 fun p hp => by
    simp only [List.mem_cons] at hp ⊢
    grind
  have hn6 : ∀ p ∈ (c7, o7) :: tl, p.1 ≠ c6 := fun p hp => by
    rcases List.mem_cons.mp hp with rfl | hp
    · exact Nat.ne_of_gt l67
    · exact Nat.ne_of_gt (Nat.lt_trans l67 (htl p hp))
  refine execs_two (seg4_spec c1 c2 c3 c4 c5 c6 c7 lo lu lp p1 p2 p3 p4 o6 vo vu vp no nu np (overOf ns) (underOf ns) (tailOf ns) tt (leadSc (overOf ns) (tailOf ns)) (leadSc (underOf ns) (tailOf ns)) (rowsXY (overOf ns) (underOf ns) (tailOf ns)) (H.to F3 N3')
    ⟨l12, l23, l34, c46⟩ ⟨neA_lt (Nat.lt_trans l67 hlp), hu.2.2.1, ho.2.2.1⟩ hn6 e1 e2 e3 e4 d6 (hp.mono fun _ _ hh => hh.mono fun _ h => .tail _ h) hio B.hx B.h5 hiu B.hy B.flip_len B.ht rfl rfl rfl (lead_ok _ B.hx _ B.ht) (lead_ok _ B.hy _ B.ht) B.rows.1 B.rows.2 B.rest ?_)
  intro x1 x2 lk vk nk p6 new h4 tk4 F4 N4 e6 hM w1 w2 hab hlk
  dsimp only
  have N4' : News h₀ L h4 ((c6, p6) :: (lk, W.listOf vk.toArray nk) :: (lp, W.listOf vp.toArray np) :: (lu, W.listOf vu.toArray nu) :: (lo, W.listOf vo.toArray no) :: (c4, p4) :: (c2, p2) :: (c1, p1) :: (c3, p3) :: (c7, o7) :: (new ++ tl)) := news_sub N4 fun p hp => by
    simp only [List.mem_cons, List.mem_append] at hp ⊢
    grind
  have sub5 : ∀ p ∈ new ++ tl, p ∈ (c3, p3) :: (c7, o7) :: (new ++ tl) := fun p hp => .tail _ (.tail _ hp)
  refine execs_two (seg5_spec c1 c2 c3 c4 c5 c6 c7 lo lu lp lk p1 p2 p4 p6 vo vu vp vk no nu np nk (overOf ns) (underOf ns) ((rowsXY (overOf ns) (underOf ns) (tailOf ns)).map markOf) (sumsXY (overOf ns) (underOf ns)) (H.to F4 N4')
    e1 e2 e4 e6 (hp.mono fun _ _ hh => hh.mono fun _ h => sub5 _ (List.mem_append_right new h)) (hM.mono fun _ _ hh => hh.mono fun _ h => sub5 _ (List.mem_append_left tl h)) (by rw [List.length_map]; exact B.rows.2) B.sums hio B.hx B.h5 hiu B.hy B.flip_len B.sumsBound (by simp [sumsXY]) B.ups B.lows B.mul1 B.mul2 B.balance ?_)
  intro v1 v2 t9 h5 tk5 F5 N5
  dsimp only
  have N5' : News h₀ L h5 ((c7, o7) :: (lp, W.listOf vp.toArray np) :: (lu, W.listOf vu.toArray nu) :: (lo, W.listOf vo.toArray no) :: (c4, p4) :: (c3, p3) :: (c2, p2) :: (c1, p1) :: (new ++ tl)) := news_sub N5 fun p hp => by
    simp only [List.mem_cons, List.mem_append] at hp ⊢
    grind
  have hn7 : ∀ p ∈ new ++ tl, p.1 ≠ c7 := fun p hp => by
    rcases List.mem_append.mp hp with hp | hp
    · exact Nat.ne_of_gt (hab p hp (c7, o7) (by k_mem))
    · exact Nat.ne_of_gt (htl p hp)
  refine execs_two (seg6a_spec c1 c2 c3 c4 c5 c6 c7 lo lu lp x1 x2 p1 p2 p3 p4 o7 vo vu vp no nu np (overOf ns) (underOf ns) (tailOf ns) (lprod (lowsOf (sumsXY (overOf ns) (underOf ns)))) tt t9 v1 v2 m3 (leadSc (overOf ns) (tailOf ns)) (leadSc (underOf ns) (tailOf ns)) (rowsGe (leadSc (overOf ns) (tailOf ns)) (leadSc (underOf ns) (tailOf ns)) (widest (overOf ns) (underOf ns) (tailOf ns))) (H.to F5 N5')
    ⟨l12, l23, l34, c47⟩ ⟨neA_lt hlp, hu.2.2.2, ho.2.2.2⟩ hn7 e1 e2 e3 e4 d7 (hp.mono fun _ _ hh => hh.mono fun _ h => List.mem_append_right new h) hio B.hx B.h5 B.h9 hiu B.flip_len (w1.mono fun _ h => List.mem_append_left tl h) (lead_ok _ B.hx _ B.ht) (w2.mono fun _ h => List.mem_append_left tl h) (lead_ok _ B.hy _ B.ht) rfl
    (by have := rowsGe_length (leadSc (overOf ns) (tailOf ns)) (leadSc (underOf ns) (tailOf ns)) (widest (overOf ns) (underOf ns) (tailOf ns)); have := B.wide; omega) ?_)
  intro ll vl ls nw h6 tk6 F6 N6 hvl hll hno hsub
  dsimp only
  have N6' : News h₀ L h6 ((ll, W.listOf vl.toArray vl.length) :: (lu, W.listOf vu.toArray nu) :: (lo, W.listOf vo.toArray no) :: (c2, p2) :: (c1, p1) :: (new ++ tl)) := news_sub N6 fun p hp => by
    rcases List.mem_cons.mp hp with rfl | hp
    · exact .head _
    · exact .tail _ (hsub p hp)
  have ok100 : ∀ sc, ScOk 50 sc → ScOk 100 sc := fun sc h => ⟨h.1, by have := h.2.1; omega, by have := h.2.2; omega⟩
  refine seg6b_spec c1 c2 c3 c4 c5 c6 c7 lo lu ll x1 x2 p1 p2 vo vu vl no nu vl.length (overOf ns) (underOf ns) ls (lprod (lowsOf (sumsXY (overOf ns) (underOf ns)))) t9 v1 v2 m3 (leadSc (overOf ns) (tailOf ns)) (leadSc (underOf ns) (tailOf ns)) (H.to F6 N6')
    e1 e2 hio B.h5 hiu B.flip_len hvl hll (w1.mono fun _ h => List.mem_append_left tl h) (ok100 _ (lead_ok _ B.hx _ B.ht)) (w2.mono fun _ h => List.mem_append_left tl h) (ok100 _ (lead_ok _ B.hy _ B.ht)) (B.landau ls hno) B.same ?_
  intro m' h' tk' F'
  exact hQ m' h' tk' F'

/- names that stand in the way of the head's twins (own constants rewritten for a faster look): each would be laid with a proof of up to
   96,000 objects, and the pieces come through without them -/
theorem law_holds.tw5389484754426515990 : True := trivial -- heap_1_39
theorem law_holds.tw12812927637404767638 : True := trivial -- pw_pe0236_01
theorem law_holds.tw15759456685926392790 : True := trivial -- view_1_40
theorem law_holds.tw7019463264422422977 : True := trivial -- o_1_224
theorem law_holds.tw10566571302883470556 : True := trivial -- o_1_129
theorem law_holds.tw724200737284857819 : True := trivial -- o_1_127
theorem law_holds.tw10958410103948607464 : True := trivial -- o_1_184
theorem law_holds.tw4818577856007422655 : True := trivial -- o_1_192
theorem law_holds.tw7120836010843673076 : True := trivial -- o_1_79
theorem law_holds.tw10841264019214440115 : True := trivial -- o_1_70
theorem law_holds.tw16883458599210261866 : True := trivial -- o_1_190
theorem law_holds.tw14828999820898988419 : True := trivial -- o_1_157
theorem law_holds.tw3158129796062787159 : True := trivial -- o_1_171
theorem law_holds.tw4323815956820902445 : True := trivial -- o_1_77
theorem law_holds.tw10007947361888340627 : True := trivial -- o_1_68
theorem law_holds.tw10666784280354678857 : True := trivial -- o_1_155
theorem law_holds.tw14390095281932903014 : True := trivial -- o_1_169
theorem law_holds.tw16614716721108272449 : True := trivial -- o_1_105
theorem law_holds.tw3253568177066640346 : True := trivial -- o_1_143
theorem law_holds.tw17499823404086765753 : True := trivial -- o_1_111
theorem law_holds.tw3910120701321347557 : True := trivial -- o_1_221
theorem law_holds.tw498061464947678834 : True := trivial -- o_1_141
theorem law_holds.tw15352839923633478061 : True := trivial -- o_1_53
theorem law_holds.tw14497384708736915567 : True := trivial -- o_1_173
theorem law_holds.tw7820799176418779761 : True := trivial -- o_1_219
theorem law_holds.tw3438298445031660282 : True := trivial -- o_1_115
theorem law_holds.tw13766487248619392586 : True := trivial -- o_1_100
theorem law_holds.tw13182730311906835528 : True := trivial -- o_1_216
theorem law_holds.tw14822640431511872941 : True := trivial -- o_1_98
theorem law_holds.tw14983226153234331074 : True := trivial -- o_1_199
theorem law_holds.tw15014403891855920072 : True := trivial -- o_1_211
theorem law_holds.tw11484002064277903863 : True := trivial -- o_1_214
theorem law_holds.tw7185456241796803578 : True := trivial -- o_1_136
theorem law_holds.tw1689763614830377041 : True := trivial -- o_1_209
theorem law_holds.tw11609493526922420660 : True := trivial -- o_1_197
theorem law_holds.tw17027635718292003107 : True := trivial -- o_1_86
theorem law_holds.tw8984712037535005518 : True := trivial -- o_1_134
theorem law_holds.tw8835965917227929528 : True := trivial -- o_1_93
theorem law_holds.tw15191720212996534143 : True := trivial -- o_1_84
theorem law_holds.tw3850375180904979519 : True := trivial -- o_1_206
theorem law_holds.tw2503670479209048990 : True := trivial -- o_1_150
theorem law_holds.tw2143268655074302082 : True := trivial -- o_1_91
theorem law_holds.tw11846676642670509255 : True := trivial -- o_1_164
theorem law_holds.tw3956099054510807996 : True := trivial -- o_1_204
theorem law_holds.tw4464252984393422682 : True := trivial -- o_1_148
theorem law_holds.tw12115171985352901274 : True := trivial -- o_1_125
theorem law_holds.tw12459966957829302596 : True := trivial -- o_1_162
theorem law_holds.tw12780804625047726367 : True := trivial -- o_1_103
theorem law_holds.tw8970147916757833333 : True := trivial -- o_1_139
theorem law_holds.tw179590077315354965 : True := trivial -- o_1_96
theorem law_holds.tw2043166853727251185 : True := trivial -- o_1_135
theorem law_holds.tw15274831704391544125 : True := trivial -- o_1_156
theorem law_holds.tw9529696498207198238 : True := trivial -- o_1_75
theorem law_holds.tw16893121556090616931 : True := trivial -- o_1_66
theorem law_holds.tw18203989763732354715 : True := trivial -- o_1_170
theorem law_holds.tw5640673133297012132 : True := trivial -- o_1_61
theorem law_holds.tw784011647948385275 : True := trivial -- o_1_142
theorem law_holds.tw7221428835167493151 : True := trivial -- o_1_128
theorem law_holds.tw5112083995522966620 : True := trivial -- o_1_188
theorem law_holds.tw9552830710289189752 : True := trivial -- o_1_149
theorem law_holds.tw14385925486924208373 : True := trivial -- o_1_163
theorem law_holds.tw9255152265573255198 : True := trivial -- o_1_172
theorem law_holds.tw1285599515219305098 : True := trivial -- o_1_69
theorem law_holds.tw9682718004065560343 : True := trivial -- o_1_153
theorem law_holds.tw17911580528928914924 : True := trivial -- o_1_167
theorem law_holds.tw8285764192309689115 : True := trivial -- o_1_78
theorem law_holds.tw1905533677188600702 : True := trivial -- o_1_191
theorem law_holds.tw576407869801174206 : True := trivial -- o_1_205
theorem law_holds.tw575232530192455986 : True := trivial -- o_1_210
theorem law_holds.tw16099233806120587224 : True := trivial -- o_1_99
theorem law_holds.tw519298541982818421 : True := trivial -- o_1_198
theorem law_holds.tw14997073306097389879 : True := trivial -- o_1_92
theorem law_holds.tw9423440377400516374 : True := trivial -- o_1_85
theorem law_holds.tw6159533029260741167 : True := trivial -- o_1_215
theorem law_holds.tw13709617746848070560 : True := trivial -- o_1_106
theorem law_holds.tw9779807473162285230 : True := trivial -- o_1_220
theorem law_holds.tw10242277825702978295 : True := trivial -- o_1_60
theorem law_holds.tw9992725586745946429 : True := trivial -- o_1_46
theorem law_holds.tw2387193687640843687 : True := trivial -- o_1_118
theorem law_holds.tw11625900857008200698 : True := trivial -- o_1_174
theorem law_holds.tw3186734533307500241 : True := trivial -- o_1_225
theorem law_holds.tw11347954631545130290 : True := trivial -- o_1_132
theorem law_holds.tw14289194402921355359 : True := trivial -- o_1_59
theorem law_holds.tw13392613628428298086 : True := trivial -- o_1_202
theorem law_holds.tw15802469936163623734 : True := trivial -- o_1_195
theorem law_holds.tw7304591109411159013 : True := trivial -- o_1_89
theorem law_holds.tw10368410895845634921 : True := trivial -- o_1_175
theorem law_holds.tw4781243967656130014 : True := trivial -- o_1_119
theorem law_holds.tw653560878884961445 : True := trivial -- o_1_160
theorem law_holds.tw6776455111828631412 : True := trivial -- o_1_146
theorem law_holds.tw12823800796004512567 : True := trivial -- rw_pe0236_01
theorem law_holds.tw2136269947727277649 : True := trivial -- o_1_176
theorem law_holds.tw16805829885119392726 : True := trivial -- o_1_82
theorem law_holds.tw12732824653754844360 : True := trivial -- o_1_72
theorem law_holds.tw15806970514647361693 : True := trivial -- o_1_63
theorem law_holds.tw18234560199702728603 : True := trivial -- o_1_57
theorem law_holds.tw10817052189556005596 : True := trivial -- o_1_114
theorem law_holds.tw7840963339656162547 : True := trivial -- sts_1_182
theorem law_holds.tw8441880690091102137 : True := trivial -- o_1_223
theorem law_holds.tw13418029973120888476 : True := trivial -- heap_1_228
theorem law_holds.tw9645634856123762962 : True := trivial -- sts_1_109
theorem law_holds.tw15452448965706171373 : True := trivial -- sts_1_51
theorem law_holds.tw9475112828220192266 : True := trivial -- tree_1_226
theorem law_holds.tw17713402740875732926 : True := trivial -- o_1_126
theorem law_holds.tw1321577142114698240 : True := trivial -- tree_1_178
theorem law_holds.tw18269650602155537469 : True := trivial -- o_1_183
theorem law_holds.tw13780023080261437657 : True := trivial -- o_1_189
theorem law_holds.tw13301187468288870568 : True := trivial -- o_1_76
theorem law_holds.tw1377309892636839040 : True := trivial -- o_1_67
theorem law_holds.tw11100686419730198450 : True := trivial -- o_1_154
theorem law_holds.tw15448297888555860652 : True := trivial -- o_1_168
theorem law_holds.tw718173064312146323 : True := trivial -- o_1_104
theorem law_holds.tw12831907817818079685 : True := trivial -- o_1_110
theorem law_holds.tw9207643191828677137 : True := trivial -- o_1_140
theorem law_holds.tw13956741780833797525 : True := trivial -- o_1_52
theorem law_holds.tw12889673554181485818 : True := trivial -- o_1_218
theorem law_holds.tw17180001009569633970 : True := trivial -- o_1_97
theorem law_holds.tw12223724995276690173 : True := trivial -- o_1_213
theorem law_holds.tw6171497949139891675 : True := trivial -- tree_1_107
theorem law_holds.tw9849722394096787677 : True := trivial -- o_1_208
theorem law_holds.tw16470317323979864763 : True := trivial -- o_1_196
theorem law_holds.tw11764581739189218997 : True := trivial -- o_1_133
theorem law_holds.tw14988988175077273356 : True := trivial -- o_1_83
theorem law_holds.tw9184033795430018204 : True := trivial -- o_1_90
theorem law_holds.tw14925382992726071281 : True := trivial -- o_1_147
theorem law_holds.tw4889031023730116350 : True := trivial -- o_1_203
theorem law_holds.tw545109181885906688 : True := trivial -- o_1_124
theorem law_holds.tw2102315897755806987 : True := trivial -- o_1_161
theorem law_holds.tw12303009252429188658 : True := trivial -- o_1_102
theorem law_holds.tw3035144380315620824 : True := trivial -- o_1_138
theorem law_holds.tw2644310842459337959 : True := trivial -- o_1_95
theorem law_holds.tw16461882675039125421 : True := trivial -- o_1_65
theorem law_holds.tw15661869461025623997 : True := trivial -- o_1_74
theorem law_holds.tw13397297893571687751 : True := trivial -- o_1_187
theorem law_holds.tw16098122237329998606 : True := trivial -- o_1_166
theorem law_holds.tw14774650325386425613 : True := trivial -- o_1_152
theorem law_holds.tw16720094985154256693 : True := trivial -- o_1_45
theorem law_holds.tw3426384778480675251 : True := trivial -- o_1_117
theorem law_holds.tw7408322871517469003 : True := trivial -- o_1_131
theorem law_holds.tw4916342969005030805 : True := trivial -- o_1_58
theorem law_holds.tw12342728606916771844 : True := trivial -- o_1_201
theorem law_holds.tw1670043908289496885 : True := trivial -- o_1_194
theorem law_holds.tw14571795756577361901 : True := trivial -- o_1_88
theorem law_holds.tw1414043511812021011 : True := trivial -- o_1_159
theorem law_holds.tw5506821171919863439 : True := trivial -- o_1_145
theorem law_holds.tw4037582482628031876 : True := trivial -- o_1_81
theorem law_holds.tw9013377322688217293 : True := trivial -- heap_1_47
theorem law_holds.tw12476058986133298565 : True := trivial -- o_1_62
theorem law_holds.tw5212653520564569363 : True := trivial -- o_1_71
theorem law_holds.tw1724926542741425601 : True := trivial -- tree_1_49
theorem law_holds.tw6507877686720480950 : True := trivial -- o_1_56
theorem law_holds.tw16836969012518115619 : True := trivial -- o_1_113

set_option Elab.async true in
theorem law_holds : PySem.Challenge.rw_pe0236_01.Holds := by
  w_on
  o_law
  apply with_hc
  case rest => (k_head; (case hw => w_witness2))
  rename (OpenRow.wellSaid _ = _) => said
  clear said
  w_strict k_go0
  rename (Heap.IsList _ _ _) => hl
  rename (IntsAre _ _) => hi
  rename (Fr _ _ _ _) => F
  rename (News _ _ _ _) => N
  rename (Below _ _ _ _) => K0
  rename (Top _ _ _ _ _ _) => T
  rename (Frag.In _ _) => X
  k_dflt (refine body_spec _ _ _ _ _ _ _ _ _ _ _ _ _ _ _ _ _ (fun _ => none) ⟨⟨_, _, K0⟩, ?hF, X, N, ⟨_, _, _, T⟩, rfl, ?hr, ?hu⟩ ?hE hl hi ?hn ?hcells ?d1 ?d2 ?d3 ?d4 ?d5 ?d6 ?d7 ?hQ)
  case hF => with_unfolding_all exact F
  case hr => decide +kernel
  case hu => decide +kernel
  case hE => passes_own
  case hn => omega
  case hcells => exact ⟨Nat.lt_succ_self _, Nat.lt_succ_self _, Nat.lt_succ_self _, Nat.lt_succ_self _, Nat.lt_succ_self _, Nat.lt_succ_self _⟩
  case hQ =>
    intro m' h' tk' F'
    k_with_none
    k_steps
  all_goals with_unfolding_all assumption
end Mine
theorem PySem.Challenge.cw_pe0236_01_holds : PySem.Challenge.rw_pe0236_01.Holds := by
  exact Mine.law_holds
