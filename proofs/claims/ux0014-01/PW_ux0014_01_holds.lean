import PyProof.Rows.All
import Wide.All
import OpenK.AllK
import Wide.FinOn
import Lean
import PySem.Challenge.RW_ux0014_01
open PySem PySem.W PyProof.Rows PySem.Spec PySem.Calls
set_option Elab.async false
set_option maxRecDepth 100000
set_option maxHeartbeats 8000000
set_option compiler.extract_closed false
set_option linter.unusedVariables false
set_option linter.unusedSimpArgs false
namespace Mine
open_top hd for PySem.Challenge.rw_ux0014_01
section
theorem off_Base : True := by
  k_with_none
  w_top off
  trivial
abbrev cTop (dp un : Nat) (gd : Option (List Code)) (cn : Str) (nm : List (Str × NameKind)) (ig ic : Bool) (mo : List (Str × Const)) (L a : Addr) (ccd : Value) (cl : List (Str × Addr)) (outer : List Env) : Around :=
  { handled := none, depth := dp, frames := some (envX cn ⟨.function, nm, ig, ic, mo⟩ L a ccd cl :: outer), guards := gd, units := un }
theorem nCons {h₀ h : Heap} {L a : Addr} {o : Obj} {l : List (Addr × Obj)} (z : h.get? a = some o ∧ @Ne Nat a L ∧ h₀.get? a = none) (N : News h₀ L h l) : News h₀ L h ((a, o) :: l) := List.forall_mem_cons.mpr ⟨z, N⟩
theorem nKeep {h₀ h h' : Heap} {L a : Addr} {l : List (Addr × Obj)} (N : News h₀ L h l) (hs : ∀ b, b ≠ a → h'.get? b = h.get? b) (off : ∀ p ∈ l, @Ne Nat p.1 a) : News h₀ L h' l := fun p hp => ⟨(hs _ (off p hp)).trans (N p hp).1, (N p hp).2⟩
theorem ne_1 (a : Nat) : a ≠ a + 1 := by omega
theorem ne_2 (a : Nat) : a ≠ a + 1 + 1 := by omega
theorem ne_3 (a : Nat) : a ≠ a + 1 + 1 + 1 := by omega
theorem ne_4 (a : Nat) : a ≠ a + 1 + 1 + 1 + 1 := by omega
inductive WNx (h₀ : Heap) (L : Addr) (J : Nat → (Str → Option Value) → List (Addr × Obj) → Prop) (s : Shared) (n : Nat) : Shared → Prop
  | mk (n' : Nat) (h' : Heap) (tk : Nat) (m' : Str → Option Value) (news' : List (Addr × Obj)) (hn : n' < n) (F : Fr h₀ L h' m') (N : News h₀ L h' news') (hJ : J n' m' news') : WNx h₀ L J s n { s with heap := h', toks := tk }
inductive WInv (h₀ : Heap) (L : Addr) (J : Nat → (Str → Option Value) → List (Addr × Obj) → Prop) (s : Shared) (n : Nat) : Shared → Prop
  | mk (h : Heap) (tk : Nat) (m₁ : Str → Option Value) (news₁ : List (Addr × Obj)) (F : Fr h₀ L h m₁) (N : News h₀ L h news₁) (hJ : J n m₁ news₁) : WInv h₀ L J s n { s with heap := h, toks := tk }
/-- a turn's end of a loop: the word holds at a smaller measure; a break goes on behind the loop, a return leaves -/
def WEnd (h₀ : Heap) (L : Addr) (J : Nat → (Str → Option Value) → List (Addr × Obj) → Prop) (s : Shared) (n : Nat) (Q : Flow → Shared → Prop) (f : Flow) (s₂ : Shared) : Prop :=
  match f with
  | .ret v => Q (.ret v) s₂
  | .brk => Q .next s₂
  | _ => WNx h₀ L J s n s₂
theorem WEnd.intro {h₀ : Heap} {L : Addr} {J : Nat → (Str → Option Value) → List (Addr × Obj) → Prop} {s : Shared} {n n' : Nat} {Q : Flow → Shared → Prop} {h' : Heap} {tk : Nat} {m' : Str → Option Value} {news' : List (Addr × Obj)}
    (F : Fr h₀ L h' m') (N : News h₀ L h' news') (hn : n' < n) (hJ : J n' m' news') : WEnd h₀ L J s n Q .next { s with heap := h', toks := tk } :=
  .mk n' h' tk m' news' hn F N hJ
section
variable {prog : Program} {w : World} {A : Around} {E : Value → Shared → Prop} {s : Shared} {env : Env} {h₀ : Heap} {Q : Flow → Shared → Prop}
theorem my_while {test : Expr} {body : List Stmt} {pos : Pos} {m : Str → Option Value} {news : List (Addr × Obj)} (J : Nat → (Str → Option Value) → List (Addr × Obj) → Prop) (n₀ : Nat)
    (F : Fr h₀ env.locals s.heap m) (N : News h₀ env.locals s.heap news) (hJ : J n₀ m news)
    (turn : ∀ n m₁ news₁ h tk, J n m₁ news₁ → Fr h₀ env.locals h m₁ → News h₀ env.locals h news₁ →
      wpAny (model prog w) A (isTrue test env (eval test env)) (fun b s₂ => if b = true then wpAny (model prog w) A (execs body env) (WEnd h₀ env.locals J s n Q) E s₂ else Q .next s₂) E { s with heap := h, toks := tk })
    (hE : PassesOwn (model prog w) A env E) :
    wpAny (model prog w) A (exec (.While test body [] pos) env) Q E s := by
  refine wpAny_While (codeAny_whileLoop (fun n s' => WInv h₀ env.locals J s n s') ?_ n₀ (.mk s.heap s.toks m news F N hJ))
  clear F N hJ
  rintro n s' ⟨h, tk, m₁, news₁, F₁, N₁, hJ₁⟩
  refine wpAny_passesOwn hE (wpAny_mono (turn n m₁ news₁ h tk hJ₁ F₁ N₁) (fun b s₂ h₂ => ?_) fun _ _ e => e)
  cases b with
  | true =>
    simp only [if_true] at h₂ ⊢
    refine wpAny_passesOwn hE (wpAny_mono h₂ (fun f s₃ h₃ => ?_) fun _ _ e => e)
    have fin : WNx h₀ env.locals J s n s₃ → ∃ m, m < n ∧ WInv h₀ env.locals J s m s₃ := by
      rintro ⟨n', h', tk', m', news', hn, F', N', hJ'⟩
      exact ⟨n', hn, .mk h' tk' m' news' F' N' hJ'⟩
    cases f with
    | next => exact fin h₃
    | cont => exact fin h₃
    | brk => exact h₃
    | ret v => exact h₃
  | false =>
    simp only [Bool.false_eq_true, if_false] at h₂ ⊢
    exact wpAny_execs_nil h₂
end
section
variable {prog : Program} {w : World} {A : Around} {E : Value → Shared → Prop} {s : Shared} {h₀ : Heap} {L l : Addr} {news : List (Addr × Obj)} {vs : List Value} {ns : List Int} {e : Nat}
theorem len_led {Q : Value → Shared → Prop} (N : News h₀ L s.heap news) (hm : (l, listOf vs.toArray e) ∈ news) (hi : IntsAre vs ns) (hb : ns.length ≤ 1000000) (h : ∀ t tk, Q (.int ns.length t) { s with toks := tk }) :
    wpAny (model prog w) A (call (.builtin "len") [.ref l]) Q E s := by
  have hl := hi.length
  refine PyProof.Rows.len_list (News.isList N hm) (by simp; omega) ?_
  rw [show vs.toArray.size = ns.length by simpa using hl]
  exact h _ _
theorem item_led {value slice : Expr} {k : Int} {u : Tok} {Q : Value → Shared → Prop} (N : News h₀ L s.heap news) (hm : (l, listOf vs.toArray e) ∈ news) (hi : IntsAre vs ns) (h0 : 0 ≤ k) (h1 : k < ns.length) (hb : ns.length ≤ 1000000) (h : ∀ t, Q (.int (ns.getD k.toNat 0) t) s)
    (hs : subscripted slice false (.ref l) (.int k u) = operate [.ref l, .int k u] (getItem (.ref l) (.int k u)) := by with_unfolding_all rfl) (hg : ∀ r, letTemporaryGo value (.ref l) r = pure () := by intro _; with_unfolding_all rfl) :
    wpAny (model prog w) A (subscriptTail value slice (.ref l) (.int k u)) Q E s := by
  have hk : k.toNat < ns.length := by omega
  obtain ⟨t, ht⟩ := hi.get k.toNat ns[k.toNat] (by simp [hk])
  refine PyProof.Rows.item_list (News.isList N hm) h0 (by omega) (x := .int ns[k.toNat] t) (by simpa using ht) ?_ hs hg
  have := h t
  rwa [show ns.getD k.toNat 0 = ns[k.toNat] by simp [hk]] at this
end
inductive FNx (dr : Drawn) (os : OsState) (h₀ : Heap) (L I : Addr) (oI : Obj) (J : (Str → Option Value) → List (Addr × Obj) → Array GenState → Prop) : Shared → Prop
  | mk (h' : Heap) (tk' : Nat) (gs' : Array GenState) (m' : Str → Option Value) (news' : List (Addr × Obj)) (F : Fr h₀ L h' m') (N : News h₀ L h' ((I, oI) :: news')) (hn : ∀ p ∈ news', @Ne Nat p.1 I) (hJ : J m' news' gs') : FNx dr os h₀ L I oI J { heap := h', gens := gs', drawn := dr, toks := tk', os := os }
inductive ForInv (St : Nat → Heap → Prop) (h₀ : Heap) (L I : Addr) (J : Nat → (Str → Option Value) → List (Addr × Obj) → Array GenState → Prop) (n : Nat) (s : Shared) : Nat → Shared → Prop
  | mk (h : Heap) (tk : Nat) (gs : Array GenState) (m₁ : Str → Option Value) (news₁ : List (Addr × Obj)) (i : Nat) (hst : St i h) (F : Fr h₀ L h m₁) (N : News h₀ L h news₁) (hn : ∀ p ∈ news₁, @Ne Nat p.1 I) (hJ : J i m₁ news₁ gs) (hi : i ≤ n) : ForInv St h₀ L I J n s (n + 1 - i) { s with heap := h, toks := tk, gens := gs }
def FEnd (s : Shared) (h₀ : Heap) (L I : Addr) (oI : Obj) (J : (Str → Option Value) → List (Addr × Obj) → Array GenState → Prop) (R : Result → Shared → Prop) (f : Flow) (s₃ : Shared) : Prop :=
  match f with
  | .ret v => R (.ok (.ret v)) s₃
  | .brk => R (.ok .next) s₃
  | _ => FNx s.drawn s.os h₀ L I oI J s₃
theorem FEnd.intro {s : Shared} {h₀ : Heap} {L I : Addr} {oI : Obj} {J : (Str → Option Value) → List (Addr × Obj) → Array GenState → Prop} {R : Result → Shared → Prop} {h' : Heap} {tk' : Nat} {gs' : Array GenState} {m' : Str → Option Value} (led news' : List (Addr × Obj))
    (F : Fr h₀ L h' m') (N : News h₀ L h' led) (hI : (I, oI) ∈ led) (hs : ∀ p ∈ news', p ∈ led) (hn : ∀ p ∈ news', @Ne Nat p.1 I) (hJ : J m' news' gs') : FEnd s h₀ L I oI J R .next { s with heap := h', toks := tk', gens := gs' } :=
  .mk h' tk' gs' m' news' F (List.forall_mem_cons.mpr ⟨N _ hI, fun p hp => N p (hs p hp)⟩) hn hJ
section
variable {prog : Program} {w : World} {A : Around} {s : Shared} {env : Env} {h₀ : Heap}
theorem my_for {R : Result → Shared → Prop} {x : Str} {px : Pos} {body : List Stmt} {I : Addr} {fp : List Addr} {n : Nat} {P : Nat → Value → Prop} {St : Nat → Heap → Prop} {m : Str → Option Value} {news : List (Addr × Obj)}
    (J : Nat → (Str → Option Value) → List (Addr × Obj) → Array GenState → Prop)
    (W : Walks prog w A I fp [I] n P St) (hx : env.kindOf x = some .local)
    (hp : (env.scope.kind == .class || (env.scope.kind == .module && env.locals != env.globals)) = false)
    (hLf : env.locals ∉ fp) (hI₀ : h₀.get? I = none) (hIo : ∀ i h, St i h → ∃ o, h.get? I = some o)
    (hSt : ∀ i h h' o m' nw gs, St i h → h.get? I = some o → h'.get? I = some o → (∀ b o, h₀.get? b = some o → h'.get? b = some o) → News h₀ env.locals h' nw → J i m' nw gs → St i h')
    (hst : St 0 s.heap) (F : Fr h₀ env.locals s.heap m) (N : News h₀ env.locals s.heap news) (hNI : ∀ p ∈ news, @Ne Nat p.1 I) (h0 : J 0 m news s.gens)
    (turn : ∀ i v m₁ news₁ h tk gs oI, i < n → P i v → J i m₁ news₁ gs → (∀ p ∈ news₁, @Ne Nat p.1 I) → Fr h₀ env.locals h (fun y => if y = x then some v else m₁ y) → News h₀ env.locals h ((I, oI) :: news₁) →
      wpAny (model prog w) A (execs body env) (FEnd s h₀ env.locals I oI (J (i + 1)) R) (fun _ _ => False) { s with heap := h, toks := tk, gens := gs })
    (done : ∀ m₁ news₁ h tk gs, J n m₁ news₁ gs → Fr h₀ env.locals h m₁ → News h₀ env.locals h news₁ → R (.ok .next) { s with heap := h, toks := tk, gens := gs }) :
    codeAny (model prog w) A (.forLoop (.Name x px) (.ref I) body [] env) R s := by
  have hIL : env.locals ≠ I := fun e => hLf (e ▸ W.sub I (List.mem_singleton.mpr rfl))
  have I0 := ForInv.mk (St := St) (h₀ := h₀) (L := env.locals) (I := I) (J := J) (n := n) (s := s) s.heap s.toks s.gens m news 0 hst F N hNI h0 (Nat.zero_le _)
  refine codeAny_forLoop (fun k s' => ForInv St h₀ env.locals I J n s k s') ?_ (n + 1) I0
  clear I0 hst F N hNI h0
  rintro k s' ⟨h, tk, gs, m₁, news₁, i, hst₁, F₁, N₁, hN₁, hJ₁, hi⟩
  have next : ∀ h₁ : Heap, (∀ b o, b ∉ [I] → h.get? b = some o → h₁.get? b = some o) → Fr h₀ env.locals h₁ m₁ ∧ News h₀ env.locals h₁ news₁ := fun h₁ hk₁ =>
    ⟨⟨F₁.ns.at' fun o e => hk₁ _ o (by simpa using hIL) e, fun b o e => hk₁ b o (fun hb => by rw [List.mem_singleton.mp hb, hI₀] at e; cases e) (F₁.keep b o e), F₁.above⟩,
     fun p hp => ⟨hk₁ _ _ (by simpa using hN₁ p hp) (N₁ p hp).1, (N₁ p hp).2⟩⟩
  by_cases hlt : i < n
  · refine W.item i _ _ _ hlt hst₁ fun v h₁ tk₁ hP hst₂ hk₁ => ?_
    obtain ⟨F₂, N₂⟩ := next h₁ hk₁
    refine wpAny_assign_Name (wpAny_storeName_local hx F₂.ns (fun h₂ hn₂ hs₂ => ?_) hp)
    have F₃ := F₂.set hn₂ hs₂
    have N₃ := N₂.set hs₂
    have hst₃ : St (i + 1) h₂ := W.frame _ _ _ hst₂ fun b hb o e => (hs₂.2 b fun q => hLf (q ▸ hb)).trans e
    obtain ⟨oI, hoI⟩ := hIo _ _ hst₃
    have N₄ : News h₀ env.locals h₂ ((I, oI) :: news₁) := nCons ⟨hoI, Ne.symm hIL, hI₀⟩ N₃
    refine wpAny_noRaise (wpAny_mono (turn i v m₁ news₁ h₂ _ gs oI hlt hP hJ₁ hN₁ F₃ N₄) (fun f s₃ h₃ => ?_) fun _ _ e => e)
    have fin : FNx s.drawn s.os h₀ env.locals I oI (J (i + 1)) s₃ → ∃ k', k' < n + 1 - i ∧ ForInv St h₀ env.locals I J n s k' s₃ := by
      rintro ⟨h', tk', gs', m', news', F', N', hn', hJ'⟩
      have N'' : News h₀ env.locals h' news' := fun p hp => N' p (List.mem_cons_of_mem _ hp)
      exact ⟨n + 1 - (i + 1), by omega, .mk h' tk' gs' m' news' (i + 1) (hSt _ _ _ oI m' news' gs' hst₃ hoI (N' _ List.mem_cons_self).1 F'.keep N'' hJ') F' N'' hn' hJ' hlt⟩
    cases f with
    | next => exact fin h₃
    | cont => exact fin h₃
    | brk => exact h₃
    | ret v => exact h₃
  · have hin : i = n := by omega
    subst hin
    refine W.done _ _ _ hst₁ fun h₁ tk₁ hk₁ => wpAny_execs_nil ?_
    obtain ⟨F₂, N₂⟩ := next h₁ hk₁
    exact done m₁ news₁ h₁ _ gs hJ₁ F₂ N₂
theorem iter_led {R : Result → Shared → Prop} {E : Value → Shared → Prop} {x : Str} {px : Pos} {body : List Stmt} {l : Addr} {vs : List Value} {e : Nat} {m : Str → Option Value} {news : List (Addr × Obj)}
    (J : Nat → (Str → Option Value) → List (Addr × Obj) → Array GenState → Prop) (hh : A.handled = none)
    (F : Fr h₀ env.locals s.heap m) (N : News h₀ env.locals s.heap news) (hm : (l, listOf vs.toArray e) ∈ news)
    (hx : env.kindOf x = some .local) (hp : (env.scope.kind == .class || (env.scope.kind == .module && env.locals != env.globals)) = false)
    (h0 : J 0 m news s.gens) (hJ : ∀ i m nw gs, J i m nw gs → (l, listOf vs.toArray e) ∈ nw)
    (turn : ∀ I i v m₁ news₁ h tk gs oI, vs[i]? = some v → J i m₁ news₁ gs → (∀ p ∈ news₁, @Ne Nat p.1 I) → Fr h₀ env.locals h (fun y => if y = x then some v else m₁ y) → News h₀ env.locals h ((I, oI) :: news₁) →
      wpAny (model prog w) A (execs body env) (FEnd s h₀ env.locals I oI (J (i + 1)) R) (fun _ _ => False) { s with heap := h, toks := tk, gens := gs })
    (done : ∀ m₁ news₁ h tk gs, J vs.length m₁ news₁ gs → Fr h₀ env.locals h m₁ → News h₀ env.locals h news₁ → R (.ok .next) { s with heap := h, toks := tk, gens := gs }) :
    wpAny (model prog w) A (pyIter (.ref l)) (fun it s₂ => codeAny (model prog w) A (.forLoop (.Name x px) it body [] env) R s₂) E s := by
  have hl := N.isList hm
  have hls : l < s.heap.objs.size := Heap.lt_size (N _ hm).1
  have hLs : env.locals < s.heap.objs.size := F.ns.lt
  refine wpAny_pyIter_list hl ?_
  have W := Walks.list (prog := prog) (w := w) (A := A) hh s.heap.objs.size l (Nat.ne_of_lt hls) vs.toArray
  rw [show vs.toArray.size = vs.length by simp] at W
  have hI₀ : h₀.get? s.heap.objs.size = none := Heap.get?_none_of_le (Nat.le_trans F.above (Nat.le_of_lt hLs))
  refine my_for (s := { s with heap := s.heap.push { cls := .type "list_iterator", data := .fields #[.ref l, .int 0 0] } }) J W hx hp ?_ hI₀ (fun i h st => let ⟨o, ho, _⟩ := st.1; ⟨o, ho⟩) ?_ ⟨⟨_, Heap.get?_push_size _ rfl, rfl, rfl⟩, hl.at fun o e => Heap.get?_push_of_some _ e⟩ (F.push _)
    (fun p hp => ⟨Heap.get?_push_of_some _ (N p hp).1, (N p hp).2⟩) (fun p hp => Nat.ne_of_lt (Heap.lt_size (N p hp).1)) h0 ?_ done
  · intro hb
    rcases List.mem_cons.mp hb with e | hb
    · exact Nat.ne_of_lt hLs e
    · exact (N _ hm).2.1 (List.mem_singleton.mp hb).symm
  · intro i h h' o m' nw gs st e1 e2 hk N' hJ'
    obtain ⟨o', ho', r⟩ := st.1
    rw [e1] at ho'; cases ho'
    exact ⟨⟨_, e2, r⟩, N'.isList (hJ i m' nw gs hJ')⟩
  · intro i v m₁ news₁ h tk gs oI hi hP hJ' hn F' N'
    exact turn _ i v m₁ news₁ h tk gs oI (by simpa using hP) hJ' hn F' N'
end
theorem genQ {α : Type} {M : Model} {A : Around} {t : Sem α} {Q : α → Shared → Prop} {E : Value → Shared → Prop} {s : Shared} (h : ∀ Q' : α → Shared → Prop, (∀ f s', Q f s' → Q' f s') → wpAny M A t Q' E s) : wpAny M A t Q E s := h Q fun _ _ x => x
section
variable {α : Type} {P : α → Prop} {l l' : List α}
theorem alLft (h : ∀ p ∈ l ++ l', P p) : ∀ p ∈ l, P p := fun p hp => h p (List.mem_append_left _ hp)
theorem alRgt (h : ∀ p ∈ l ++ l', P p) : ∀ p ∈ l', P p := fun p hp => h p (List.mem_append_right _ hp)
theorem alCat (a : ∀ p ∈ l, P p) (b : ∀ p ∈ l', P p) : ∀ p ∈ l ++ l', P p := fun p hp => (List.mem_append.mp hp).elim (a p) (b p)
def pick1 : List α → Nat → List α
  | [], _ => []
  | a :: _, 0 => [a]
  | _ :: l, n + 1 => pick1 l n
def pickL (l : List α) : List Nat → List α
  | [] => []
  | i :: is => pick1 l i ++ pickL l is
theorem alPick1 : ∀ {l : List α} (_ : ∀ p ∈ l, P p) (i : Nat), ∀ p ∈ pick1 l i, P p
  | [], _, _, p, hp => nomatch hp
  | a :: _, h, 0, p, hp => by rw [List.mem_singleton.mp hp]; exact h a (.head _)
  | _ :: _, h, n + 1, p, hp => alPick1 (fun q hq => h q (.tail _ hq)) n p hp
theorem alPick (h : ∀ p ∈ l, P p) : ∀ is : List Nat, ∀ p ∈ pickL l is, P p
  | [], p, hp => nomatch hp
  | i :: is, p, hp => (List.mem_append.mp hp).elim (alPick1 h i p) (alPick h is p)
/-- a row of n, the rest: chosen places of the row, then the rest -/
theorem alPerm (a : List α) (is : List Nat) (h : ∀ p ∈ a ++ l, P p) : ∀ p ∈ pickL a is ++ l, P p := alCat (alPick (alLft h) is) (alRgt h)
end
theorem tlN {h₀ h : Heap} {L : Addr} {p : Addr × Obj} {news : List (Addr × Obj)} (N : News h₀ L h (p :: news)) : News h₀ L h news := fun q hq => N q (.tail _ hq)
section
variable {prog : Program} {w : World} {A : Around} {E : Value → Shared → Prop} {s : Shared} {h₀ : Heap} {L D : Addr} {news K : List (Addr × Obj)} {vs : List Value} {n : Nat} {m : Str → Option Value} {x : Value}
theorem append_led {Q : Value → Shared → Prop} (F : Fr h₀ L s.heap m) (N : News h₀ L s.heap news) (hm : (D, listOf vs.toArray n) ∈ news) (hsz : vs.length ≤ sizeLine) (hK : ∀ p ∈ K, p ∈ news ∧ @Ne Nat p.1 D)
    (h : ∀ h', Fr h₀ L h' m → News h₀ L h' ((D, listOf (vs ++ [x]).toArray (n + 1)) :: K) → Q .none { s with heap := h' }) :
    wpAny (model prog w) A (call (.builtin "list.append") [.ref D, x]) Q E s := by
  have z := N _ hm
  refine append_at (hsz := by simpa using hsz) z.1 fun h' hs ho' => h h' (F.change hs z.2.1 z.2.2) fun p hp => ?_
  rcases List.mem_cons.mp hp with rfl | hp
  · exact ⟨by rw [ho']; simp, z.2⟩
  · obtain ⟨h1, h2⟩ := hK p hp
    have y := N p h1
    exact ⟨(hs.2 _ h2).trans y.1, y.2⟩
end
theorem iter_rng {prog : Program} {w : World} {A : Around} {s : Shared} {env : Env} {h₀ : Heap} {R : Result → Shared → Prop} {E : Value → Shared → Prop} {x : Str} {px : Pos} {body : List Stmt} {r : Addr} {a b : Int} {t u v : Tok} {n : Nat} {m : Str → Option Value} {news : List (Addr × Obj)}
    (J : Nat → (Str → Option Value) → List (Addr × Obj) → Array GenState → Prop) (hh : A.handled = none)
    (F : Fr h₀ env.locals s.heap m) (N : News h₀ env.locals s.heap news) (hr : IsRange s.heap r a b 1 t u v) (hsm : Builtin.Range.small a b 1 = true) (hn : Builtin.Range.rangeSize a b 1 = ((n : Nat) : Int))
    (hx : env.kindOf x = some .local) (hp : (env.scope.kind == .class || (env.scope.kind == .module && env.locals != env.globals)) = false)
    (h0 : J 0 m news s.gens)
    (turn : ∀ I i t m₁ news₁ h tk gs oI, i < n → J i m₁ news₁ gs → (∀ p ∈ news₁, @Ne Nat p.1 I) → Fr h₀ env.locals h (fun y => if y = x then some (.int (a + (i : Int)) t) else m₁ y) → News h₀ env.locals h ((I, oI) :: news₁) →
      wpAny (model prog w) A (execs body env) (FEnd s h₀ env.locals I oI (J (i + 1)) R) (fun _ _ => False) { s with heap := h, toks := tk, gens := gs })
    (done : ∀ m₁ news₁ h tk gs, J n m₁ news₁ gs → Fr h₀ env.locals h m₁ → News h₀ env.locals h news₁ → R (.ok .next) { s with heap := h, toks := tk, gens := gs }) :
    wpAny (model prog w) A (pyIter (.ref r)) (fun it s₂ => codeAny (model prog w) A (.forLoop (.Name x px) it body [] env) R s₂) E s := by
  have hLs : env.locals < s.heap.objs.size := F.ns.lt
  refine wpAny_pyIter_range hr hsm ?_
  have hI₀ : h₀.get? s.heap.objs.size = none := Heap.get?_none_of_le (Nat.le_trans F.above (Nat.le_of_lt hLs))
  refine my_for (s := { s with heap := s.heap.push _ }) J (LCg.range_walks hh a n) hx hp ?_ hI₀ (fun i h st => ⟨_, st⟩) ?_ (by show IsRangeIter _ _ _ _ _; rw [hn]; simpa using Heap.get?_push_size _ rfl) (F.push _)
    (fun p hp => ⟨Heap.get?_push_of_some _ (N p hp).1, (N p hp).2⟩) (fun p hp => Nat.ne_of_lt (Heap.lt_size (N p hp).1)) h0 ?_ done
  · intro hb
    exact Nat.ne_of_lt hLs (List.mem_singleton.mp hb)
  · intro i h h' o m' nw gs st e1 e2 hk N' hJ'
    exact LCg.range_st (h₀ := h₀) (L := env.locals) i h h' o nw st e1 e2 hk N' trivial
  · rintro i v m₁ news₁ h tk gs oI hi ⟨t, rfl⟩ hJ' hn F' N'
    exact turn _ i t m₁ news₁ h tk gs oI hi hJ' hn F' N'
theorem compRest_of {prog : Program} {w : World} {A : Around} {s : Shared} {env : Env} {h₀ : Heap} {L : Addr} {m : Str → Option Value} {elt : Expr} {x : Str} {scope : Scope} {cl : List (Str × Addr)} {S : List (Addr × Obj) → Prop} {P : Nat → Value → Prop} {Fin : List Value → List (Addr × Obj) → Prop} {n : Nat}
    (J : Nat → List Value → List (Addr × Obj) → Prop)
    (turn : ∀ i ys news v I oI C oC D m₂ h tk (E' : Value → Shared → Prop), i < n → J i ys news → P i v → LCg.NsObj oC m₂ → m₂ x = some v → Fr h₀ L h m → News h₀ L h ((I, oI) :: (C, oC) :: (D, LCg.lst ys) :: news) → LCg.Off3 I C D news → ((@Ne Nat I C) ∧ (@Ne Nat I D) ∧ (@Ne Nat C D)) →
      wpAny (model prog w) A (eval elt (compEnvC scope cl C env)) (LCg.CompEnd h₀ L m { s with heap := h, toks := tk } I oI C oC D (LCg.lst ys) S (fun y news' => J (i + 1) (ys ++ [y]) news')) E' { s with heap := h, toks := tk })
    (fin : ∀ ys news, J n ys news → Fin ys news) : ∀ k i ys news, k + i = n → J i ys news → LCg.CompRest prog w A h₀ L m env elt x scope cl s S P Fin k i ys news
  | 0, i, ys, news, e, h => LCg.CompRest.zero (fin ys news (by rw [Nat.zero_add] at e; rw [← e]; exact h))
  | k + 1, i, ys, news, e, h => LCg.CompRest.succ fun v I oI C oC D m₂ h' tk E' hP hC hx F N off ne =>
      wpAny_mono (turn i ys news v I oI C oC D m₂ h' tk E' (by omega) h hP hC hx F N off ne)
        (fun y s₂ ⟨h₂, tk₂, news', e₂, F₂, N₂, off₂, hS, hJ⟩ => ⟨h₂, tk₂, news', e₂, F₂, N₂, off₂, hS, compRest_of J turn fin k (i + 1) (ys ++ [y]) news' (by omega) hJ⟩) fun _ _ e => e
section
variable {prog : Program} {w : World} {A : Around} {E : Value → Shared → Prop} {s : Shared} {h₀ : Heap} {L D : Addr} {news K : List (Addr × Obj)} {vs : List Value} {n : Nat} {m : Str → Option Value} {y : Value}
theorem insert_led {x : Int} {u : Tok} {Q : Value → Shared → Prop} (F : Fr h₀ L s.heap m) (N : News h₀ L s.heap news) (hm : (D, listOf vs.toArray n) ∈ news) (hK : ∀ p ∈ K, p ∈ news ∧ @Ne Nat p.1 D) (h0 : 0 ≤ x) (h1 : x ≤ vs.length) (hz : vs.length ≤ 1000)
    (h : ∀ h', Fr h₀ L h' m → News h₀ L h' ((D, listOf (vs.take x.toNat ++ y :: vs.drop x.toNat).toArray (n + 1)) :: K) → Q .none { s with heap := h' }) :
    wpAny (model prog w) A (call (.builtin "list.insert") [.ref D, .int x u, y]) Q E s := by
  have N₂ : News h₀ L s.heap ((D, listOf vs.toArray n) :: K) := fun p hp => by
    rcases List.mem_cons.mp hp with rfl | hp
    · exact N _ hm
    · exact N _ (hK p hp).1
  have e : kl_ins vs.toArray.toList x y = vs.take x.toNat ++ y :: vs.drop x.toNat := by
    unfold kl_ins
    rw [if_neg (by omega), Nat.min_eq_left (by simpa using by omega)]
  refine kl_insert F N₂ ?_ e (.head fun p hp => (hK p hp).2) (Nat.le_trans (m := 1000) (by simpa using hz) (by decide)) h
  simp only [Builtin.List.listFitsIndex]
  have : (2 : Int) ^ 62 ≤ 2 ^ 62 := Int.le_refl _
  simp
  omega
end
theorem its_ints : ∀ {vs : List Value} {ns : List Int}, IntsAre vs ns → kf_ints vs = true
  | _, _, .nil => rfl
  | _, _, .cons _ _ h (vs := vs) => show kf_ints vs = true from its_ints h
theorem its_at {k : Int} : ∀ {vs : List Value} {ns : List Int}, IntsAre vs ns → k ∈ ns → kf_at k vs = some (ns.idxOf k)
  | _, _, .nil, h => nomatch h
  | _, _, .cons n t (vs := vs) (ns := ns) hr, h => by
    rw [List.idxOf_cons]
    show cond (n == k) (some 0) (match kf_at k vs with | some j => some (j + 1) | none => none) = _
    by_cases e : n = k
    · subst e
      simp
    · have hk : k ∈ ns := (List.mem_cons.mp h).resolve_left fun q => e q.symm
      rw [its_at hr hk, beq_false_of_ne e]
      rfl
abbrev refs (hs : List Addr) : List Value := hs.map Value.ref
section
variable {prog : Program} {w : World} {A : Around} {E : Value → Shared → Prop} {s : Shared} {h₀ : Heap} {L a b l : Addr} {news : List (Addr × Obj)} {vs ws : List Value} {e e2 : Nat} {m : Str → Option Value}
theorem item_ref {value slice : Expr} {hs : List Addr} {k : Nat} {u : Tok} {Q : Value → Shared → Prop} (N : News h₀ L s.heap news) (hm : (l, listOf (refs hs).toArray e) ∈ news) (h1 : k < hs.length) (hb : hs.length ≤ 1000) (h : Q (.ref (hs.getD k 0)) s)
    (hs' : subscripted slice false (.ref l) (.int (k : Int) u) = operate [.ref l, .int (k : Int) u] (getItem (.ref l) (.int (k : Int) u)) := by with_unfolding_all rfl) (hg : ∀ r, letTemporaryGo value (.ref l) r = pure () := by intro _; with_unfolding_all rfl) :
    wpAny (model prog w) A (subscriptTail value slice (.ref l) (.int (k : Int) u)) Q E s := by
  refine PyProof.Rows.item_list (News.isList N hm) (by omega) (by omega) (x := .ref (hs.getD k 0)) ?_ h hs' hg
  simp [refs, h1]
theorem cat_led {Q : Value → Shared → Prop} (F : Fr h₀ L s.heap m) (N : News h₀ L s.heap news) (ha : (a, listOf vs.toArray e) ∈ news) (hb : (b, listOf ws.toArray e2) ∈ news) (hz : vs.length + ws.length ≤ 1000)
    (h : ∀ D h', Fr h₀ L h' m → News h₀ L h' ((D, listOf (vs ++ ws).toArray 0) :: news) → (∀ p ∈ news, p.1 < D) → Q (.ref D) { s with heap := h' }) :
    wpAny (model prog w) A (binaryOp .Add (.ref a) (.ref b)) Q E s :=
  kmk_add_lit F N (News.isList N ha) (News.isList N hb) (zs := vs ++ ws) (by simp) h (Nat.le_trans (m := 1000) (by simpa using hz) (by decide))
theorem copy_led {Q : Value → Shared → Prop} (F : Fr h₀ L s.heap m) (N : News h₀ L s.heap news) (hb : (b, listOf vs.toArray e) ∈ news) (hz : vs.length ≤ 1000)
    (h : ∀ D c h', Fr h₀ L h' m → News h₀ L h' ((D, listOf vs.toArray c) :: news) → (∀ q ∈ news, q.1 < D) → Q (.ref D) { s with heap := h' }) :
    wpAny (model prog w) A (call (.type "list") [.ref b]) Q E s :=
  kup_listOf F N hb (zs := vs) (by simp) h (Nat.le_trans (m := 1000) (by simpa using hz) (by decide))
theorem index_led {ns : List Int} {k : Int} {t : Tok} {Q : Value → Shared → Prop} (N : News h₀ L s.heap news) (hm : (l, listOf vs.toArray e) ∈ news) (hi : IntsAre vs ns) (hk : k ∈ ns) (hz : ns.length ≤ 1000)
    (h : Q (.int (ns.idxOf k : Nat) s.toks) { s with toks := s.toks + 1 }) : wpAny (model prog w) A (call (.builtin "list.index") [.ref l, .int k t]) Q E s := by
  exact kf_index N hm (its_ints (by simpa using hi)) (its_at (by simpa using hi) hk) rfl (Nat.le_trans (m := 1000) (by simpa [hi.length] using hz) (by decide)) h
end
theorem iter_rng0 {prog : Program} {w : World} {A : Around} {s : Shared} {env : Env} {h₀ : Heap} {R : Result → Shared → Prop} {E : Value → Shared → Prop} {x : Str} {px : Pos} {body : List Stmt} {r : Addr} {b : Int} {t u v : Tok} {n : Nat} {m : Str → Option Value} {news : List (Addr × Obj)}
    (J : Nat → (Str → Option Value) → List (Addr × Obj) → Array GenState → Prop) (hh : A.handled = none)
    (F : Fr h₀ env.locals s.heap m) (N : News h₀ env.locals s.heap news) (hr : IsRange s.heap r 0 b 1 t u v) (hb : b = (n : Int)) (hn : n ≤ 1000)
    (hx : env.kindOf x = some .local) (hp : (env.scope.kind == .class || (env.scope.kind == .module && env.locals != env.globals)) = false)
    (h0 : J 0 m news s.gens)
    (turn : ∀ I i t m₁ news₁ h tk gs oI, i < n → J i m₁ news₁ gs → (∀ p ∈ news₁, @Ne Nat p.1 I) → Fr h₀ env.locals h (fun y => if y = x then some (.int (i : Int) t) else m₁ y) → News h₀ env.locals h ((I, oI) :: news₁) →
      wpAny (model prog w) A (execs body env) (FEnd s h₀ env.locals I oI (J (i + 1)) R) (fun _ _ => False) { s with heap := h, toks := tk, gens := gs })
    (done : ∀ m₁ news₁ h tk gs, J n m₁ news₁ gs → Fr h₀ env.locals h m₁ → News h₀ env.locals h news₁ → R (.ok .next) { s with heap := h, toks := tk, gens := gs }) :
    wpAny (model prog w) A (pyIter (.ref r)) (fun it s₂ => codeAny (model prog w) A (.forLoop (.Name x px) it body [] env) R s₂) E s := by
  subst hb
  refine iter_rng J hh F N hr (small_one (by omega) (by omega) (by omega) (by omega)) (rangeSize_nat _ _) hx hp h0 ?_ ?_
  · intro I i t m₁ news₁ h tk gs oI hi hJ hn' F' N'
    rw [Int.zero_add] at F'
    exact turn I i t m₁ news₁ h tk gs oI (by simpa using hi) hJ hn' F' N'
  · simpa using done
theorem fillK : hd.heap_39 = hd.heap_39 ∧ PySem.Challenge.rw_ux0014_01.prog = PySem.Challenge.rw_ux0014_01.prog := by
  k_fill
  exact ⟨rfl, rfl⟩
end
local macro_rules | `(tactic| walk_at $s:str) => `(tactic| k_extra $s)
local macro_rules | `(tactic| ktn_lt) => `(tactic| ((repeat (refine (if_neg (by decide)).trans ?_)); first | assumption | exact if_pos rfl))
local macro_rules | `(tactic| k_room) => `(tactic| ktr_room)
section
local macro_rules | `(tactic| ktn_open) => `(tactic| repeat' (first
  | ((fail_if_success (with_reducible show wpAny _ _ (exec (Stmt.While _ _ _ _) _) _ _ _)); (fail_if_success (with_reducible show wpAny _ _ (exec (Stmt.For _ _ _ _ _) _) _ _ _)); (fail_if_success (with_reducible show wpAny _ _ (pyIter _) _ _ _)); first | (k_unfold; (try dsimp only)) | (k_end; wrow_close) | walk1 | (dsimp only; walk1) | (leave1; walk_say "STEP leave1"; try dsimp only))
  | fail "no step"))
section
theorem off_G1 : True := by
  k_with_none
  w_top off
  trivial
section
variable {prog : Program} {w : World} {A : Around} {R : GenEnd} {Y : Protocol} {n : Nat} {s₀ : Shared} {c : Code} {fs : List Frame} {s : Shared} {env : Env}
  {K : Flow → Sem Fin} {H : Value → Sem Fin} {gd : Bool → Bool} {lv : List Value → List Value}
theorem sg_exec {st : Stmt} (h : wpAny (model prog w) (A.over c fs) (exec st env) (fun f s' => Seg (model prog w) A R Y n s₀ c (K f) fs s') (fun _ _ => False) s) :
    Seg (model prog w) A R Y n s₀ c ((exec st env).wrap K H gd lv) fs s := seg_wrap (wpAny_noRaise h)
theorem sg_If {test : Expr} {body orelse : List Stmt} {pos : Pos}
    (h : wpAny (model prog w) (A.over c fs) (isTrue test env (eval test env)) (fun b s' =>
      if b = true then Seg (model prog w) A R Y n s₀ c ((execs body env).wrap K H gd lv) fs s' else Seg (model prog w) A R Y n s₀ c ((execs orelse env).wrap K H gd lv) fs s') (fun _ _ => False) s) :
    Seg (model prog w) A R Y n s₀ c ((exec (.If test body orelse pos) env).wrap K H gd lv) fs s := by
  rw [exec_If]
  refine seg_bind_wrap (wpAny_standAt (seg_bind_wrap (wpAny_noRaise (wpAny_mono h (fun b s' h' => ?_) fun _ _ e => e))))
  cases b with
  | true => simpa using h'
  | false => simpa using h'
abbrev retK (K : Flow → Sem Fin) (H : Value → Sem Fin) (gd : Bool → Bool) (lv : List Value → List Value) (env : Env) (r : Result) : Sem Fin :=
  ((match r with | .ok f => (.pure f : Sem Flow) | .error e => .raise e).onRaise fun (x : Value) => do
        if (← field x 1) == Value.none then unsupported "frame.own-activation:exception-without-traceback"
        setFlight x env.frame).wrap K H gd lv
theorem sg_For {target iter : Expr} {body : List Stmt} {pos : Pos}
    (h : wpAny (model prog w) (A.over c fs) (eval iter env) (fun x s₁ => wpAny (model prog w) (A.over c fs) (pyIter x) (fun it s₂ =>
      ∀ p, Seg (model prog w) A R Y n s₀ (.forLoop target it body [] env) ((model prog w).den (.forLoop target it body [] env)) (.ret (retK K H gd lv env) none (gd false) (lv []) c p [] :: fs) s₂) (fun _ _ => False) s₁) (fun _ _ => False) s)
    (hs : ∀ x, foldedSetIterable iter env x = pure x) :
    Seg (model prog w) A R Y n s₀ c ((exec (.For target iter body [] pos) env).wrap K H gd lv) fs s := by
  rw [exec_For]
  refine seg_bind_wrap (wpAny_standAt (seg_bind_wrap (wpAny_noRaise (wpAny_mono h (fun x s₁ h₁ => ?_) fun _ _ e => e))))
  refine seg_bind_wrap (wpAny_of_eq (hs x) (seg_bind_wrap (wpAny_standAt (seg_bind_wrap (wpAny_holding (wpAny_noRaise (wpAny_mono h₁ (fun it s₂ h₂ => ?_) fun _ _ e => e)))))))
  exact seg_call h₂
abbrev turnK (target : Expr) (it : Value) (body : List Stmt) (env : Env) (f : Flow) : Sem Fin := match f with
  | .next | .cont => .pure (.again (.forLoop target it body [] env))
  | .brk => .pure (.done .next)
  | .ret v => .pure (.done (.ret v))
abbrev turnH (env : Env) (e : Value) : Sem Fin := (do noteFrame e env; theTreesLotGoes e : Sem Unit).wrap (fun _ => .raise e) .raise id id
theorem sg_forTurn {target : Expr} {it : Value} {body : List Stmt}
    (h : wpAny (model prog w) (A.over (.forLoop target it body [] env) fs) (pyNext it) (fun r s₁ => match r with
      | none => Seg (model prog w) A R Y n s₀ (.block [] env) ((model prog w).den (.block [] env)) fs s₁
      | some v => wpAny (model prog w) (A.over (.forLoop target it body [] env) fs) (letOwnedTupleGo target it v) (fun _ s₂ => wpAny (model prog w) (A.over (.forLoop target it body [] env) fs) (assign target env v) (fun _ s₃ =>
          Seg (model prog w) A R Y n s₀ (.forLoop target it body [] env) ((execs body env).wrap (turnK target it body env) (turnH env) id id) fs s₃) (fun _ _ => False) s₂) (fun _ _ => False) s₁) (fun _ _ => False) s) :
    Seg (model prog w) A R Y n s₀ (.forLoop target it body [] env) ((model prog w).den (.forLoop target it body [] env)) fs s := by
  show Seg _ A R Y n s₀ _ ((forTurn target it body [] env).onRaise (fun x => do noteFrame x env; theTreesLotGoes x)) fs s
  rw [Sem.onRaise_eq_wrap]
  unfold forTurn
  refine seg_bind_wrap (wpAny_standAt (seg_bind_wrap (wpAny_onRaise (wpAny_mono h (fun r s₁ h₁ => ?_) fun _ _ e => e.elim))))
  cases r with
  | none => exact seg_again rfl h₁
  | some v =>
    refine seg_bind_wrap (wpAny_noRaise (wpAny_mono h₁ (fun _ s₂ h₂ => seg_bind_wrap (wpAny_noRaise (wpAny_mono h₂ (fun _ s₃ h₃ => ?_) fun _ _ e => e))) fun _ _ e => e))
    rw [Sem.bind_eq_wrap', Sem.wrap_wrap]
    rw [Sem.wrap_congr (execs body env) _ _ (K' := turnK target it body env) (H' := turnH env) (fun f => by cases f <;> rfl)
      (fun e => by show (do noteFrame e env; theTreesLotGoes e : Sem Unit).bind (fun _ => .raise e) = _; rw [Sem.bind_eq_wrap])]
    exact h₃
theorem sg_block {k : Result → Sem Fin} {hd : Option Value} {g : Bool} {l : List Value} {c₁ : Code} {p₁ : Pos} {kp : List Value}
    (h : Seg (model prog w) A R Y n s₀ c₁ (k (.ok .next)) fs s) :
    Seg (model prog w) A R Y n s₀ (.block [] env) ((model prog w).den (.block [] env)) (.ret k hd g l c₁ p₁ kp :: fs) s :=
  seg_leaf (.ok .next) h
theorem sg_Yield {e : Expr} {ypos pos : Pos} (hfs : splitAtGen fs = none) (hgd : gd false = false) (hfg : fs.any Frame.guarded = false)
    (h : wpAny (model prog w) (A.over c fs) (eval e env) (fun v s' => ∀ kap : Resume → Shared → Prop,
        (∀ s'', Seg (model prog w) A R Y n s'' c (K .next) fs s'' → kap (.send .none) s'') → Y n s₀ v s' kap) (fun _ _ => False) s)
    (hco : env.scope.isCoroutine = false := by rfl) (hi : interactive env = false := by rfl) :
    Seg (model prog w) A R Y (n + 1) s₀ c ((exec (.Expr (.Yield (some e) ypos) pos) env).wrap K H gd lv) fs s :=
  seg_Expr_Yield hfs hgd hfg (wpAny_noRaise (wpAny_mono h (fun v s' h' kap hk => h' kap fun s'' hs => hk .none s'' hs) fun _ _ e => e)) hco hi
end
end
section
theorem off_G2 : True := by
  k_with_none
  w_top off
  trivial
theorem rules_G21 : True := by
  k_with "eval Name" => (k_here; k_dflt (refine' ld (by k_asm) (by ktn_lt) ?_; k_whole))
  trivial
abbrev itScope : Scope := { kind := .function, names := [("addr", .local), ("pos", .local), ("escape", .local), ("ch", .local), ("enumerate", .globalImplicit)], isGenerator := true, isCoroutine := false, more := [] }
abbrev itEnv (C : Addr) : Env := envOf "_iter_escaped_chars" itScope C 21 (.ref 20)
theorem bs92 : Str.ofString "\\" = ⟨#[92]⟩ := by decide +kernel
theorem bs_eq {c : Nat} : ((⟨#[c]⟩ : Str) == Str.ofString "\\") = decide (c = 92) := by
  rw [bs92]
  by_cases h : c = 92
  · subst h; rfl
  · rw [decide_eq_false h]
    apply beq_eq_false_iff_ne.mpr
    intro e
    have := congrArg (fun s : Str => s.cps.toList) e
    simp at this
    exact h this
theorem bs_cat (c : Nat) : Str.ofString "\\" ++ (⟨#[c]⟩ : Str) = ⟨[92, c].toArray⟩ := by
  rw [bs92]; rfl
section
variable {prog : Program} {w : World} {A : Around} {s : Shared} {p1 p2 p3 p4 p5 p6 p7 p8 : Pos} {g : Heap} {C : Addr} {m : Str → Option Value} {led : List (Addr × Obj)}
theorem it_esc {Q : Bool → Shared → Prop} (X : (hd.heap_39 w.params).In g) (F : Fr g C s.heap m) (N : News g C s.heap led) (b : Bool) (hm : m "escape" = some (.bool b)) (hQ : Q b s) :
   wpAny (model prog w) A (isTrue (.Name "escape" p1) (itEnv C) (eval (.Name "escape" p1) (itEnv C))) Q (fun _ _ => False) s := by
  k_steps
  exact hQ
theorem it_eq {Q : Bool → Shared → Prop} (X : (hd.heap_39 w.params).In g) (F : Fr g C s.heap m) (N : News g C s.heap led) (c : Nat) (u : Tok) (hm : m "ch" = some (.str ⟨#[c]⟩ u)) (hQ : ∀ tk, Q (decide (c = 92)) { s with toks := tk }) :
   wpAny (model prog w) A (isTrue (.Compare (.Name "ch" p1) [.Eq] [.Constant (.str "\\") 0 p2] p3) (itEnv C) (eval (.Compare (.Name "ch" p1) [.Eq] [.Constant (.str "\\") 0 p2] p3) (itEnv C))) Q (fun _ _ => False) s := by
  k_steps
  rw [bs_eq]
  exact hQ _
abbrev tup2 (p : Int) (tp : Tok) (y : List Nat) (ty : Tok) : Obj := { cls := .type "tuple", data := .seq #[.int p tp, .str ⟨y.toArray⟩ ty] }
theorem it_tup1 {Q : Value → Shared → Prop} (X : (hd.heap_39 w.params).In g) (F : Fr g C s.heap m) (N : News g C s.heap led) (p : Int) (tp : Tok) (hm : m "pos" = some (.int p tp)) (c : Nat) (u : Tok) (hc : m "ch" = some (.str ⟨#[c]⟩ u))
   (hQ : ∀ D h' tk ty, Fr g C h' m → News g C h' ((D, tup2 p tp [92, c] ty) :: led) → Q (.ref D) { s with heap := h', toks := tk }) :
   wpAny (model prog w) A (eval (.Tuple [.Name "pos" p2, .BinOp (.Constant (.str "\\") 0 p3) .Add (.Name "ch" p4) p5] 0 p6) (itEnv C)) Q (fun _ _ => False) s := by
  k_steps
  rename_i F' N' _
  rw [bs_cat] at N'
  exact hQ _ _ _ _ F' N'
theorem it_tup2 {Q : Value → Shared → Prop} (X : (hd.heap_39 w.params).In g) (F : Fr g C s.heap m) (N : News g C s.heap led) (p : Int) (tp : Tok) (hm : m "pos" = some (.int p tp)) (c : Nat) (u : Tok) (hc : m "ch" = some (.str ⟨#[c]⟩ u))
   (hQ : ∀ D h' tk ty, Fr g C h' m → News g C h' ((D, tup2 p tp [c] ty) :: led) → Q (.ref D) { s with heap := h', toks := tk }) :
   wpAny (model prog w) A (eval (.Tuple [.Name "pos" p2, .Name "ch" p4] 0 p6) (itEnv C)) Q (fun _ _ => False) s := by
  k_steps
  rename_i F' N' _
  exact hQ _ _ _ _ F' N'
theorem it_tup3 {Q : Value → Shared → Prop} (X : (hd.heap_39 w.params).In g) (F : Fr g C s.heap m) (N : News g C s.heap led) (p : Int) (tp : Tok) (hm : m "pos" = some (.int p tp))
   (hQ : ∀ D h' tk ty, Fr g C h' m → News g C h' ((D, tup2 p tp [92] ty) :: led) → Q (.ref D) { s with heap := h', toks := tk }) :
   wpAny (model prog w) A (eval (.Tuple [.Name "pos" p2, .Constant (.str "\\") 0 p4] 0 p6) (itEnv C)) Q (fun _ _ => False) s := by
  k_steps
  rename_i F' N' _
  rw [bs92] at N'
  exact hQ _ _ _ _ F' N'
theorem it_set {Q : Flow → Shared → Prop} (b : Bool) (X : (hd.heap_39 w.params).In g) (F : Fr g C s.heap m) (N : News g C s.heap led)
   (hQ : ∀ h' tk, Fr g C h' (fun y => if y = "escape" then some (.bool b) else m y) → News g C h' led → Q .next { s with heap := h', toks := tk }) :
   wpAny (model prog w) A (exec (.Assign [.Name "escape" p2] (.Constant (.bool b) 0 p4) p6) (itEnv C)) Q (fun _ _ => False) s := by
  k_steps
  exact hQ _ _ (by assumption) (by assumption)
theorem it_set0 {Q : Flow → Shared → Prop} (X : (hd.heap_39 w.params).In g) (F : Fr g C s.heap m) (N : News g C s.heap led)
   (hQ : ∀ h' tk t, Fr g C h' (fun y => if y = "pos" then some (.int 0 t) else m y) → News g C h' led → Q .next { s with heap := h', toks := tk }) :
   wpAny (model prog w) A (exec (.Assign [.Name "pos" p2] (.Constant (.int 0) 0 p4) p6) (itEnv C)) Q (fun _ _ => False) s := by
  k_steps
  exact hQ _ _ _ (by assumption) (by assumption)
theorem rules_G22 : True := by
  k_with "call type:enumerate" => (refine call_enumerate_str ?_)
  trivial
theorem it_enum {Q : Value → Shared → Prop} {p : Program} {loose : List Str} {mean : ExcName → Option Value} {mg mb : Str → Option Value} (X : (hd.heap_39 w.params).In g) (T : Top p loose mean mg mb g) (F : Fr g C s.heap m) (N : News g C s.heap led) (x : Str) (t : Tok) (hm : m "addr" = some (.str x t))
   (hQ : ∀ h' tk, IsEnum h' (s.heap.objs.size + 1) s.heap.objs.size 0 .none → h'.IsStrIter s.heap.objs.size (strIterType x) x t 0 → h'.objs.size = s.heap.objs.size + 2 →
      (∀ b o, s.heap.get? b = some o → h'.get? b = some o) → Q (.ref (s.heap.objs.size + 1)) { s with heap := h', toks := tk }) :
   wpAny (model prog w) A (eval (.Call (.Name "enumerate" p2) [.Name "addr" p4] [] p6) (itEnv C)) Q (fun _ _ => False) s := by
  k_steps
  exact hQ _ _ (by assumption) (by assumption) (by assumption) (by assumption)
end
end
section
theorem off_G3 : True := by
  k_with_none
  w_top off
  trivial
def yl : Bool → List Nat → List (List Nat)
  | true, [] => [[92]]
  | false, [] => []
  | true, c :: r => [92, c] :: yl false r
  | false, c :: r => if c = 92 then yl true r else [c] :: yl false r
def EnSt (x : Str) (tx : Tok) (e it : Addr) (k : Nat) (h : Heap) : Prop := (∃ old, IsEnum h e it k old) ∧ h.IsStrIter it "str_ascii_iterator" x tx k
def Snc (C a : Addr) (s₀ s : Shared) : Prop :=
  ∃ h' tk, s = { s₀ with heap := h', toks := tk } ∧ ∀ b o, b ≤ a → b ≠ C → s₀.heap.get? b = some o → h'.get? b = some o
theorem Snc.refl (C a : Addr) (s : Shared) : Snc C a s s := ⟨s.heap, s.toks, rfl, fun _ _ _ _ e => e⟩
theorem Snc.step {C a : Addr} {s₀ s : Shared} (x : Snc C a s₀ s) {h' : Heap} {tk : Nat} (hk : ∀ b o, b ≤ a → b ≠ C → s.heap.get? b = some o → h'.get? b = some o) :
    Snc C a s₀ { s with heap := h', toks := tk } := by
  obtain ⟨h₁, tk₁, rfl, hk₁⟩ := x
  exact ⟨h', tk, rfl, fun b o hC hw e => hk b o hC hw (hk₁ b o hC hw e)⟩
def itY (g : Heap) (C a : Addr) (Ys : List (List Nat)) : Protocol := fun m s₀ v s kap =>
  (∃ T p tp ty y, v = .ref T ∧ s.heap.get? T = some (tup2 p tp y ty) ∧ Ys[Ys.length - 1 - m]? = some y) ∧ Snc C a s₀ s ∧
   ∀ s'' : Shared, (∀ b o, g.get? b = some o → s''.heap.get? b = some o) → (∀ b o, (b = C ∨ a < b) → s.heap.get? b = some o → s''.heap.get? b = some o) → kap (.send .none) s''
abbrev itR (C a : Addr) : GenEnd := fun n s₀ r s₁ => r = .ok (.ret .none) ∧ (n = 0 ∧ Snc C a s₀ s₁)
abbrev ledAll (g : Heap) (C : Addr) (h : Heap) : List (Addr × Obj) := ownOf g ((List.range h.objs.size).filter (fun b => !(b == C))) h
theorem led_news {g h : Heap} {C : Addr} : News g C h (ledAll g C h) := news_ownOf (by simp)
theorem led_keep {g h h' : Heap} {C : Addr} {m' : Str → Option Value} {r : List (Addr × Obj)} (F : Fr g C h' m') (N : News g C h' (r ++ ledAll g C h)) (FK : ∀ b o, g.get? b = some o → h.get? b = some o) : ∀ b o, b ≠ C → h.get? b = some o → h'.get? b = some o := by
  intro b o hb e
  cases hg : g.get? b with
  | some o' =>
    have := FK b o' hg
    rw [e] at this; cases this
    exact F.keep b _ hg
  | none => exact (N (b, o) (List.mem_append_right _ (mem_ownOf (List.mem_filter.mpr ⟨List.mem_range.mpr (Heap.lt_size e), by simp [hb]⟩) hg e))).1
theorem fr_off {g h h' : Heap} {C : Addr} {m : Str → Option Value} {wr : List Addr} (F : Fr g C h m) (k : ∀ b o, b ∉ wr → h.get? b = some o → h'.get? b = some o) (hC : C ∉ wr) (hg : ∀ b ∈ wr, g.get? b = none) : Fr g C h' m :=
  ⟨F.ns.at' (fun o e => k C o hC e), fun b o e => k b o (fun hb => by rw [hg b hb] at e; cases e) (F.keep b o e), F.above⟩
section
variable {prog : Program} {w : World} {A : Around} {g : Heap} {C e it a : Addr} {x : Str} {tx : Tok} {Ys : List (List Nat)} {c : Code} {K : Flow → Sem Fin} {H : Value → Sem Fin}
  {q0 q00 q000 q1 q2 q3 q4 q5 q6 q7 q8 q9 q10 q11 q12 q13 q14 q15 q16 q17 q18 q19 q20 q21 q22 q23 q24 : Pos}
abbrev itBody (q1 q2 q3 q4 q5 q6 q7 q8 q9 q10 q11 q12 q13 q14 q15 q16 q17 q18 q19 q20 q21 q22 q23 q24 : Pos) : List Stmt :=
  [.If (.Name "escape" q1) [.Expr (.Yield (some (.Tuple [.Name "pos" q2, .BinOp (.Constant (.str "\\") 0 q3) .Add (.Name "ch" q4) q5] 0 q6)) q7) q8, .Assign [.Name "escape" q9] (.Constant (.bool false) 0 q10) q11]
    [.If (.Compare (.Name "ch" q12) [.Eq] [.Constant (.str "\\") 0 q13] q14) [.Assign [.Name "escape" q15] (.Constant (.bool true) 0 q16) q17]
      [.Expr (.Yield (some (.Tuple [.Name "pos" q18, .Name "ch" q19] 0 q20)) q21) q22] q23] q24]
abbrev itTgt (q0 q00 q000 : Pos) : Expr := .Tuple [.Name "pos" q0, .Name "ch" q00] 0 q000
theorem itW (ha : x.cps.all (· < 128) = true) (hei : e ≠ it) (A' : Around) (hA : A'.handled = none) :
    WalksT prog w A' e [e, it] [e, it] x.cps.size (fun i vals => ∃ t v, (∃ c u, x.cps[i]? = some c ∧ v = Value.str ⟨#[c]⟩ u) ∧ vals = #[.int i t, v]) (EnSt x tx e it) (fun i T h => (∃ x', IsEnumOut h e it ((i : Int) + 1) x' T) ∧ h.IsStrIter it "str_ascii_iterator" x tx (i + 1) ∧ T ≠ e ∧ T ≠ it) :=
  WalksT.enumerateD (Draws.strAscii (A := A'.in1) hA it x tx) e hei (by simp [hei]) (by simp)
theorem yl_here {Ys pre R : List (List Nat)} {y : List Nat} (h : Ys = pre ++ y :: R) : Ys[Ys.length - 1 - R.length]? = some y := by
  subst h
  have : (pre ++ y :: R).length - 1 - R.length = pre.length := by simp
  rw [this]; simp
theorem itLoop (hh : A.handled = none) (X : (hd.heap_39 w.params).In g) (ha : x.cps.all (· < 128) = true) (hei : e ≠ it) (hCe : C ≠ e) (hCi : C ≠ it) (hge : g.get? e = none) (hgi : g.get? it = none) (hae : a < e) (hai : a < it)
    (hK : ∀ (esc : Bool) (s₀ s : Shared) (m : Str → Option Value), Fr g C s.heap m → m "escape" = some (.bool esc) → (∃ p tp, m "pos" = some (.int p tp)) → Snc C a s₀ s → (∃ pre, Ys = pre ++ yl esc []) →
      Seg (model prog w) A (itR C a) (itY g C a Ys) (yl esc []).length s₀ c (K .next) [] s) :
    ∀ (r k : Nat) (esc : Bool) (s₀ s : Shared) (m : Str → Option Value), x.cps.size - k = r → k ≤ x.cps.size → EnSt x tx e it k s.heap → Fr g C s.heap m → m "escape" = some (.bool esc) → (∃ p tp, m "pos" = some (.int p tp)) → Snc C a s₀ s →
      (∃ pre, Ys = pre ++ yl esc (x.cps.toList.drop k)) → ∀ p,
      Seg (model prog w) A (itR C a) (itY g C a Ys) (yl esc (x.cps.toList.drop k)).length s₀
        (.forLoop (itTgt q0 q00 q000) (.ref e) (itBody q1 q2 q3 q4 q5 q6 q7 q8 q9 q10 q11 q12 q13 q14 q15 q16 q17 q18 q19 q20 q21 q22 q23 q24) [] (itEnv C))
        ((model prog w).den (.forLoop (itTgt q0 q00 q000) (.ref e) (itBody q1 q2 q3 q4 q5 q6 q7 q8 q9 q10 q11 q12 q13 q14 q15 q16 q17 q18 q19 q20 q21 q22 q23 q24) [] (itEnv C)))
        [.ret (retK K H id id (itEnv C)) none (id false) (id []) c p []] s := by
  intro r
  have hgw : ∀ b ∈ [e, it], g.get? b = none := by
    intro b hb
    rcases List.mem_cons.mp hb with rfl | hb
    · exact hge
    · rw [List.mem_singleton.mp hb]; exact hgi
  have hCw : C ∉ [e, it] := by simp [hCe, hCi]
  have hab : ∀ b ∈ [e, it], a < b := by
    intro b hb
    rcases List.mem_cons.mp hb with rfl | hb
    · exact hae
    · rw [List.mem_singleton.mp hb]; exact hai
  have hnw : ∀ b, b ≤ a → b ∉ [e, it] := fun b hb hm => Nat.lt_irrefl _ (Nat.lt_of_lt_of_le (hab b hm) hb)
  induction r with
  | zero =>
    intro k esc s₀ s m hk hle hst F hesc hpos hsince hYs p
    have hk' : k = x.cps.size := by omega
    subst hk'
    have hdrop : x.cps.toList.drop x.cps.size = [] := List.drop_eq_nil_of_le (by simp)
    rw [hdrop] at hYs ⊢
    refine sg_forTurn ((itW (prog := prog) (w := w) ha hei (A.over _ _) (by exact hh)).done s _ _ hst fun h' tk hk => ?_)
    exact sg_block (hK esc s₀ _ m (fr_off F hk hCw hgw) hesc hpos (hsince.step fun b o hb _ e => hk b o (hnw b hb) e) hYs)
  | succ r ih =>
    intro k esc s₀ s m hk hle hst F hesc hpos hsince hYs p
    have hlt : k < x.cps.size := by omega
    refine sg_forTurn ((itW (prog := prog) (w := w) ha hei (A.over _ _) (by exact hh)).item k s _ _ hlt hst fun T vals h₁ tk₁ hPt hT hTup hMid hk₁ => ?_)
    obtain ⟨t, v, ⟨cc, u, hcc, rfl⟩, rfl⟩ := hPt
    have hapart := (itW (prog := prog) (w := w) ha hei A hh).apart k T h₁ hMid
    refine (itW (prog := prog) (w := w) ha hei (A.over _ _) (by exact hh)).go _ _ _ k T _ _ _ hMid fun h₂ hst₂ hk₂ => ?_
    have hdrop : x.cps.toList.drop k = cc :: x.cps.toList.drop (k + 1) := by
      rw [List.drop_eq_getElem_cons (by simpa using hlt)]
      have : x.cps[k] = cc := by rw [Array.getElem?_eq_getElem hlt] at hcc; exact Option.some.inj hcc
      simp [this]
    have F₂ : Fr g C h₂ m := fr_off F (fun b o hb e => hk₂ b o hb (hk₁ b o hb e)) hCw hgw
    have hTup₂ : h₂.IsTuple T #[.int k t, .str ⟨#[cc]⟩ u] := hTup.at fun o e => hk₂ T o hapart e
    refine wpAny_assign_Tuple (by exact hh) hTup₂ rfl rfl fun h₃ hx₃ => ?_
    have hk₃ : ∀ b o, h₂.get? b = some o → h₃.get? b = some o := fun b o e => hx₃ b o (Nat.ne_of_lt (Heap.lt_size e)) e
    have F₃ : Fr g C h₃ m := fr_off (wr := []) F₂ (fun b o _ e => hk₃ b o e) (by simp) (by simp)
    refine assignInOrder_cons (wpAny_assign_Name (wpAny_storeName_local (env := itEnv C) (name := "pos") rfl F₃.ns (fun h₄ hn₄ hs₄ => ?_) rfl))
    have F₄ := F₃.set hn₄ hs₄
    refine assignInOrder_cons (wpAny_assign_Name (wpAny_storeName_local (env := itEnv C) (name := "ch") rfl F₄.ns (fun h₅ hn₅ hs₅ => ?_) rfl))
    have F₅ := F₄.set hn₅ hs₅
    refine assignInOrder_nil ?_
    have up : ∀ b o, b ≠ C → h₂.get? b = some o → h₅.get? b = some o := fun b o hb e => hs₅.extBut b o hb (hs₄.extBut b o hb (hk₃ b o e))
    have hst₅ : EnSt x tx e it (k + 1) h₅ := (itW (prog := prog) (w := w) ha hei A hh).frame _ _ _ hst₂ fun b hb o e => up b o (fun q => hCw (q ▸ hb)) e
    have hsince₅ : Snc C a s₀ { s with heap := h₅, toks := tk₁ + 1 + 1 } := hsince.step fun b o hb hbC e => up b o hbC (hk₂ b o (hnw b hb) (hk₁ b o (hnw b hb) e))
    rw [hdrop] at hYs ⊢
    have hm_esc : (fun y => if y = Str.ofString "ch" then some (Value.str ⟨#[cc]⟩ u) else if y = Str.ofString "pos" then some (Value.int k t) else m y) (Str.ofString "escape") = some (.bool esc) := by
      refine (if_neg (by decide)).trans ((if_neg (by decide)).trans hesc)
    generalize hm5 : (fun y => if y = Str.ofString "ch" then some (Value.str ⟨#[cc]⟩ u) else if y = Str.ofString "pos" then some (Value.int k t) else m y) = m₅ at F₅ hm_esc
    have hm_ch : m₅ "ch" = some (.str ⟨#[cc]⟩ u) := by rw [← hm5]; exact if_pos rfl
    have hm_pos : m₅ "pos" = some (.int k t) := by rw [← hm5]; exact (if_neg (by decide)).trans (if_pos rfl)
    clear hm5
    obtain ⟨pre, hYs⟩ := hYs
    have back : ∀ (s'' : Shared) (h₆ : Heap), (∀ b o, b ≠ C → h₅.get? b = some o → h₆.get? b = some o) → Fr g C h₆ m₅ → (∀ b o, g.get? b = some o → s''.heap.get? b = some o) → (∀ b o, (b = C ∨ a < b) → h₆.get? b = some o → s''.heap.get? b = some o) →
        Fr g C s''.heap m₅ ∧ EnSt x tx e it (k + 1) s''.heap := by
      intro s'' h₆ k₆ F₆ hg'' hal
      refine ⟨⟨F₆.ns.at' fun o e => hal C o (.inl rfl) e, hg'', F₆.above⟩, (itW (prog := prog) (w := w) ha hei A hh).frame _ _ _ hst₅ fun b hb o e => hal b o (.inr (hab b hb)) (k₆ b o (fun q => hCw (q ▸ hb)) e)⟩
    refine seg_execs_cons (sg_If (it_esc X F₅ led_news esc hm_esc ?_))
    cases esc with
    | true =>
      rw [if_pos rfl]
      show Seg _ _ _ _ ((yl false (x.cps.toList.drop (k + 1))).length + 1) _ _ _ _ _
      refine seg_execs_cons (sg_Yield rfl rfl rfl (it_tup1 X F₅ led_news k t hm_pos cc u hm_ch fun D h₆ tk₆ ty F₆ N₆ kap hkap => ?_))
      have k₆ := led_keep (r := [_]) F₆ N₆ F₅.keep
      refine ⟨⟨D, k, t, ty, [92, cc], rfl, (N₆ _ (.head _)).1, yl_here hYs⟩, hsince₅.step fun b o _ hbC e => k₆ b o hbC e, fun s'' hg'' hal => hkap s'' ?_⟩
      obtain ⟨F'', hst''⟩ := back s'' h₆ k₆ F₆ hg'' hal
      refine seg_execs_cons (sg_exec (it_set false X F'' led_news fun h₇ tk₇ F₇ N₇ => ?_))
      have k₇ := led_keep (r := []) F₇ N₇ F''.keep
      refine seg_execs_nil (seg_execs_nil (seg_again rfl (ih (k + 1) false s'' _ _ (by omega) (by omega) ?_ F₇ (if_pos rfl) ⟨k, t, (if_neg (by decide)).trans hm_pos⟩ ((Snc.refl _ _ _).step fun b o _ hbC e => k₇ b o hbC e) ⟨pre ++ [[92, cc]], by rw [hYs]; simp [yl]⟩ p)))
      exact (itW (prog := prog) (w := w) ha hei A hh).frame _ _ _ hst'' fun b hb o e => k₇ b o (fun q => hCw (q ▸ hb)) e
    | false =>
      rw [if_neg Bool.false_ne_true]
      refine seg_execs_cons (sg_If (it_eq X F₅ led_news cc u hm_ch fun tk₆ => ?_))
      by_cases h92 : cc = 92
      · rw [if_pos (decide_eq_true h92)]
        have hy : yl false (cc :: x.cps.toList.drop (k + 1)) = yl true (x.cps.toList.drop (k + 1)) := by simp [yl, h92]
        rw [hy] at hYs ⊢
        refine seg_execs_cons (sg_exec (it_set true X (s := { s with heap := h₅, toks := tk₆ }) F₅ led_news fun h₇ tk₇ F₇ N₇ => ?_))
        have k₇ := led_keep (r := []) F₇ N₇ F₅.keep
        refine seg_execs_nil (seg_execs_nil (seg_execs_nil (seg_again rfl (ih (k + 1) true s₀ _ _ (by omega) (by omega) ?_ F₇ (if_pos rfl) ⟨k, t, (if_neg (by decide)).trans hm_pos⟩ (hsince₅.step fun b o _ hbC e => k₇ b o hbC e) ⟨pre, hYs⟩ p))))
        exact (itW (prog := prog) (w := w) ha hei A hh).frame _ _ _ hst₅ fun b hb o e => k₇ b o (fun q => hCw (q ▸ hb)) e
      · rw [if_neg (by simpa using h92)]
        have hy : yl false (cc :: x.cps.toList.drop (k + 1)) = [cc] :: yl false (x.cps.toList.drop (k + 1)) := by simp [yl, h92]
        rw [hy] at hYs ⊢
        show Seg _ _ _ _ ((yl false (x.cps.toList.drop (k + 1))).length + 1) _ _ _ _ _
        refine seg_execs_cons (sg_Yield rfl rfl rfl (it_tup2 X (s := { s with heap := h₅, toks := tk₆ }) F₅ led_news k t hm_pos cc u hm_ch fun D h₆ tk₇ ty F₆ N₆ kap hkap => ?_))
        have k₆ := led_keep (r := [_]) F₆ N₆ F₅.keep
        refine ⟨⟨D, k, t, ty, [cc], rfl, (N₆ _ (.head _)).1, yl_here hYs⟩, hsince₅.step fun b o _ hbC e => k₆ b o hbC e, fun s'' hg'' hal => hkap s'' ?_⟩
        obtain ⟨F'', hst''⟩ := back s'' h₆ k₆ F₆ hg'' hal
        exact seg_execs_nil (seg_execs_nil (seg_execs_nil (seg_again rfl (ih (k + 1) false s'' _ _ (by omega) (by omega) hst'' F'' hm_esc ⟨k, t, hm_pos⟩ (Snc.refl _ _ _) ⟨pre ++ [[cc]], by rw [hYs]; simp⟩ p))))
theorem itFunc {p : Program} {loose : List Str} {mean : ExcName → Option Value} {mg mb : Str → Option Value} {r1 r2 r3 r4 r5 r6 r7 r8 r9 r10 r11 r12 r13 r14 r15 r16 r17 : Pos}
    (hh : A.handled = none) (X : (hd.heap_39 w.params).In g) (T : Top p loose mean mg mb g) (ha : x.cps.all (· < 128) = true) (hCa : C ≠ a) {s : Shared} {m : Str → Option Value} (hsa : ∃ o, s.heap.get? a = some o) (F : Fr g C s.heap m) (hm : m "addr" = some (.str x tx)) :
    Seg (model prog w) A (itR C a) (itY g C a (yl false x.cps.toList)) (yl false x.cps.toList).length s
      (.func [.Assign [.Name "pos" r1] (.Constant (.int 0) 0 r2) r3, .Assign [.Name "escape" r4] (.Constant (.bool false) 0 r5) r6,
        .For (itTgt q0 q00 q000) (.Call (.Name "enumerate" r7) [.Name "addr" r8] [] r9) (itBody q1 q2 q3 q4 q5 q6 q7 q8 q9 q10 q11 q12 q13 q14 q15 q16 q17 q18 q19 q20 q21 q22 q23 q24) [] r10,
        .If (.Name "escape" r11) [.Expr (.Yield (some (.Tuple [.Name "pos" r12, .Constant (.str "\\") 0 r13] 0 r14)) r15) r16] [] r17] (itEnv C))
      ((model prog w).den (.func [.Assign [.Name "pos" r1] (.Constant (.int 0) 0 r2) r3, .Assign [.Name "escape" r4] (.Constant (.bool false) 0 r5) r6,
        .For (itTgt q0 q00 q000) (.Call (.Name "enumerate" r7) [.Name "addr" r8] [] r9) (itBody q1 q2 q3 q4 q5 q6 q7 q8 q9 q10 q11 q12 q13 q14 q15 q16 q17 q18 q19 q20 q21 q22 q23 q24) [] r10,
        .If (.Name "escape" r11) [.Expr (.Yield (some (.Tuple [.Name "pos" r12, .Constant (.str "\\") 0 r13] 0 r14)) r15) r16] [] r17] (itEnv C))) [] s := by
  refine seg_func (seg_execs_cons (sg_exec (it_set0 X F led_news fun h₁ tk₁ t₁ F₁ N₁ => ?_)))
  have k₁ := led_keep (r := []) F₁ N₁ F.keep
  refine seg_execs_cons (sg_exec (it_set false X (s := { s with heap := h₁, toks := tk₁ }) F₁ led_news fun h₂ tk₂ F₂ N₂ => ?_))
  have k₂ := led_keep (r := []) F₂ N₂ F₁.keep
  have up : ∀ b o, b ≠ C → s.heap.get? b = some o → h₂.get? b = some o := fun b o hb e => k₂ b o hb (k₁ b o hb e)
  obtain ⟨oa, hoa⟩ := hsa
  have has : a < h₂.objs.size := Heap.lt_size (up a oa (Ne.symm hCa) hoa)
  have hCs : C < h₂.objs.size := F₂.ns.lt
  have hgs : ∀ b, h₂.objs.size ≤ b → g.get? b = none := fun b hb => Heap.get?_none_of_le (Nat.le_trans F.above (Nat.le_trans (Nat.le_of_lt hCs) hb))
  have hm₂ : (fun y => if y = Str.ofString "escape" then some (Value.bool false) else if y = Str.ofString "pos" then some (Value.int 0 t₁) else m y) (Str.ofString "addr") = some (.str x tx) :=
    (if_neg (by decide)).trans ((if_neg (by decide)).trans hm)
  refine seg_execs_cons (sg_For (it_enum X T (s := { s with heap := h₂, toks := tk₂ }) F₂ led_news x tx hm₂ fun h₃ tk₃ he hit hsz hk₃ => wpAny_pyIter_enum he ?_) (fun _ => rfl))
  have F₃ := fr_off (wr := []) F₂ (fun b o _ e => hk₃ b o e) (by simp) (by simp)
  have hit' : h₃.IsStrIter h₂.objs.size "str_ascii_iterator" x tx 0 := by simpa [strIterType, ha] using hit
  refine itLoop hh X ha (Nat.succ_ne_self _) (Nat.ne_of_lt (Nat.lt_succ_of_lt hCs)) (Nat.ne_of_lt hCs) (hgs _ (Nat.le_succ _)) (hgs _ (Nat.le_refl _)) (Nat.lt_succ_of_lt has) has ?_
    x.cps.size 0 false s _ _ rfl (Nat.zero_le _) ⟨⟨_, he⟩, hit'⟩ F₃ (if_pos rfl) ⟨0, t₁, (if_neg (by decide)).trans (if_pos rfl)⟩ ((Snc.refl _ _ _).step fun b o _ hb e => hk₃ b o (up b o hb e)) ⟨[], by simp⟩
  intro esc s₀ s' m' F' hesc' hpos' hsince' hYs'
  obtain ⟨p', tp', hp'⟩ := hpos'
  obtain ⟨pre, hYs'⟩ := hYs'
  refine seg_execs_cons (sg_If (it_esc X F' led_news esc hesc' ?_))
  cases esc with
  | false =>
    rw [if_neg Bool.false_ne_true]
    exact seg_execs_nil (seg_execs_nil (seg_end (.ok (.ret .none)) ⟨rfl, rfl, hsince'⟩))
  | true =>
    rw [if_pos rfl]
    refine seg_execs_cons (sg_Yield rfl rfl rfl (it_tup3 X F' led_news p' tp' hp' fun D h₆ tk₆ ty F₆ N₆ kap hkap => ?_))
    have k₆ := led_keep (r := [_]) F₆ N₆ F'.keep
    refine ⟨⟨D, p', tp', ty, [92], rfl, (N₆ _ (.head _)).1, yl_here hYs'⟩, hsince'.step fun b o _ hbC e => k₆ b o hbC e, fun s'' hg'' hal => hkap s'' ?_⟩
    exact seg_execs_nil (seg_execs_nil (seg_end (.ok (.ret .none)) ⟨rfl, rfl, Snc.refl _ _ _⟩))
end
end
section
theorem off_G4 : True := by
  k_with_none
  w_top off
  trivial
section
variable {prog : Program} {w : World} {A : Around} {E : Value → Shared → Prop} {s : Shared}
theorem next_gen {a : Addr} {g n : Nat} {gs : GenState} {P : Nat → Shared → Shared → Prop} {Y : Protocol} {Q : Option Value → Shared → Prop} (hh : A.handled = none)
    (hl : s.heap.NoLimit) (hroom : A.depth < recursionLimit) (hg : s.heap.IsGen a g) (hgs : s.gens[g]? = some gs)
    (hgo : gs.Goes (model prog w) A.in1 (fun n s₀ r s₁ => r = .ok (.ret .none) ∧ P n s₀ s₁) Y n (.send .none) (s.setGen g .running))
    (hY : ∀ v s₁ gs', gs'.bare = true → Y (n - 1) (s.setGen g .running) v s₁ (fun r' s'' => match n with
        | 0 => False
        | m + 1 => gs'.Goes (model prog w) A.in1 (fun n s₀ r s₁ => r = .ok (.ret .none) ∧ P n s₀ s₁) Y m r' s'') → Q (some v) (s₁.setGen g gs'))
    (hP : ∀ s₁, P n (s.setGen g .running) s₁ → ∀ h', (∀ b o, s₁.heap.get? b = some o → h'.get? b = some o) → Q none { s₁.setGen g .finished with heap := h' }) :
    wpAny (model prog w) A (pyNext (.ref a)) Q E s := by
  have stop : ∀ s₁, P n (s.setGen g .running) s₁ → ∀ (Q' : Fin → Shared → Prop) (f : Unit → Sem Fin), wpAny (model prog w) A.in1 (newExc (.type "StopIteration") [] >>= fun e => raiseNew e >>= f) Q'
      (fun e s' => wpAny (model prog w) A (isInstance e (.type "StopIteration")) (fun b s'' => b = true ∧ Q none s'') E s') (s₁.setGen g .finished) := by
    intro s₁ hp Q' f
    simp only [newExc, newTuple]
    refine wpAny_bind (wpAny_bind (wpAny_newObj_type ?_ (by size_fits)))
    refine wpAny_bind (m := firstArgMember _ _) (wpAny_of_eq (a := Value.none) (by first | rfl | (simp only [firstArgMember]; rfl)) ?_)
    refine wpAny_newObj_type ?_ (by size_fits)
    simp only [raiseNew]
    refine wpAny_bind (wpAny_bind (wpAny_bind (wpAny_handled ?_)))
    rw [show A.in1.handled = none from hh]
    refine wpAny_pure (wpAny_throw ?_)
    exact wpAny_isInstance (T := "StopIteration") (b := true) ⟨_, Heap.get?_push_size _ rfl, rfl⟩ isSubtype_stop ⟨rfl, hP s₁ hp _ fun b o hb => Heap.get?_push_of_some _ (Heap.get?_push_of_some _ hb)⟩
  have hT := hg.typeIs
  unfold pyNext
  refine wpAny_bind (wpAny_attempt (wpAny_callSpecial?_slot (name := Str.ofString "__next__") hT slot_gen_next (wpAny_call_entry slot_gen_next hT entry_gen_next ?_ (args_gen_next _))))
  show wpAny _ A.in1 (Builtin.Generator.genWake (.ref a) (.send .none)) _ _ s
  unfold Builtin.Generator.genWake
  refine wpAny_bind (wpAny_holding (wpAny_genNumber hg (wpAny_bind (wpAny_genState hgs ?_))))
  have wake : ∀ (Q' : Fin → Shared → Prop) (E' : Value → Shared → Prop) (k : GenResult → Sem Fin),
      (∀ v s₁ gs', gs'.bare = true → Y (n - 1) (s.setGen g .running) v s₁ (fun r' s'' => match n with
        | 0 => False
        | m + 1 => gs'.Goes (model prog w) A.in1 (fun n s₀ r s₁ => r = .ok (.ret .none) ∧ P n s₀ s₁) Y m r' s'') → wpAny (model prog w) A.in1 (k (.yielded v)) Q' E' (s₁.setGen g gs')) →
      (∀ s₁, P n (s.setGen g .running) s₁ → wpAny (model prog w) A.in1 (k (.returned .none)) Q' E' (s₁.setGen g .finished)) →
      wpAny (model prog w) A.in1 (.resume g (.send .none) [] k) Q' E' s := by
    intro Q' E' k h1 h2
    refine wpAny_resumeQ hgs hgo (fun x s₁ hx => ?_) (fun v s₁ gs' hb hv => h1 v s₁ gs' hb hv)
    obtain ⟨rfl, hp⟩ := hx
    exact h2 s₁ hp
  cases gs with
  | running => exact hgo.elim
  | finished => exact hgo.elim
  | _ =>
    refine wpAny_bind (wpAny_roomToWake hl hroom ?_)
    show wpAny _ A.in1 (.resume g (.send .none) [] _) _ _ s
    refine wake _ _ _ (fun v s₁ gs' hb hv => wpAny_pure ⟨v, rfl, wpAny_pure (hY v s₁ gs' hb hv)⟩) fun s₁ hp => ?_
    refine wpAny_mono (stop s₁ hp _ _) (fun _ _ h => h) (fun e s' he => ?_)
    refine wpAny_bind (wpAny_mono he (fun b s'' hb => ?_) fun _ _ h => h)
    obtain ⟨rfl, hq⟩ := hb
    exact wpAny_pure hq
end
section
variable {prog : Program} {w : World} {A : Around} {s : Shared} {K : Frag} {g : Heap} {L f : Addr} {m : Str → Option Value} {R : Result → Shared → Prop}
  {name qual : Str} {params : Arguments} {body : List Stmt} {scope : Scope} {dV kV doc pm cdv ct oc : Value} {an od : Option Addr} {osl : Array (Option Value)} {args : Args} {binds : List (Str × Value)}
theorem code_gen (X : K.In g) (F : Fr g L s.heap m) (hlim : g.NoLimit) (ho : K.lookup f = some ⟨oc, od, .func (fnOf name qual params body scope dV kV doc pm an cdv ct), osl⟩) (hcd : codeIn K cdv qual = true) (hroom : A.depth < recursionLimit)
    (hbind : BindsTo s (fnOf name qual params body scope dV kV doc pm an cdv ct) args binds) (hloc : ∀ y ∈ binds, scope.names.lookup y.1 = some .local)
    (h : ∀ h₁ tk t1 t2, Fr g s.heap.objs.size h₁ (fun y => binds.reverse.lookup y) → (∀ b o, s.heap.get? b = some o → h₁.get? b = some o) →
      R (.ok (.ret (.ref h₁.objs.size))) { s with gens := s.gens.push (.fresh (.func body (envOf qual scope s.heap.objs.size f cdv))), toks := tk, heap := h₁.push { cls := .type "generator", data := .fields #[.int s.gens.size 0, .str name t1, .str qual t2] } })
    (hco : scope.isCoroutine = false) (hgen : scope.isGenerator = true) (hk : scope.kind = .function) (hcell : ∀ x ∈ scope.names, x.2 ≠ .cell) : codeAny (model prog w) A (.call (.ref f) args) R s := by
  refine codeAny_call_generator (body := body) hroom ((X.keeps F.keep) _ _ ho) rfl hco hgen rfl (codeRec_of (X.keeps F.keep) hcd) (hbind _ _ _ _ ?_)
  refine wpAny_newFunctionEnv hcell hloc (fun h₁ hns hsb => ?_) hk
  have hk₁ : ∀ b o, s.heap.get? b = some o → h₁.get? b = some o := fun b o e => hsb.extBut b o (Nat.ne_of_lt (Heap.lt_size e)) (Heap.get?_push_of_some _ e)
  exact ⟨(hlim.keeps F.keep).keeps hk₁, h h₁ _ _ _ ⟨hns, fun b o e => hk₁ b o (F.keep b o e), Nat.le_trans F.above (Nat.le_of_lt F.ns.lt)⟩ hk₁⟩
end
section
variable {prog : Program} {w : World} {A : Around} {E : Value → Shared → Prop} {s : Shared}
theorem go_gen {elts : List Expr} {k : Nat} {pos : Pos} {a T : Addr} {g : Nat} {Q : Unit → Shared → Prop} (hg : s.heap.IsGen a g) (hQ : Q () s) :
    wpAny (model prog w) A (letOwnedTupleGo (.Tuple elts k pos) (.ref a) (.ref T)) Q E s := by
  obtain ⟨o, nm, qn, ho, hc, hd, hsl⟩ := hg
  unfold letOwnedTupleGo
  refine wpAny_bind (wpAny_load ho ?_)
  rw [hc, hd]
  exact wpAny_pure hQ
theorem mem_setGen {s : Shared} {g : Nat} {x y : GenState} (h : y ∈ (s.setGen g x).gens) : y = x ∨ y ∈ s.gens := by
  obtain ⟨i, hi, rfl⟩ := Array.mem_iff_getElem.mp h
  simp only [Shared.setGen] at hi ⊢
  rw [Array.getElem_setIfInBounds]
  split
  · exact .inl rfl
  · right
    exact Array.getElem_mem (by simpa using hi)
inductive GEnd (s : Shared) (g : Heap) (L : Addr) (h : Heap) (gs : Array GenState) (J : (Str → Option Value) → Prop) : Shared → Prop
  | mk (h' : Heap) (tk' : Nat) (m' : Str → Option Value) (F : Fr g L h' m') (hk : ∀ b o, b ≠ L → h.get? b = some o → h'.get? b = some o) (hJ : J m') : GEnd s g L h gs J { s with heap := h', toks := tk', gens := gs }
abbrev Kept (a C L : Addr) (h h' : Heap) : Prop := ∀ b o, b ≤ a → b ≠ C → b ≠ L → h.get? b = some o → h'.get? b = some o
inductive GInv (M : Model) (A : Around) (g : Heap) (L C a : Addr) (gi : Nat) (Ys : List (List Nat)) (J : List (List Nat) → (Str → Option Value) → Prop) (s : Shared) : Nat → Shared → Prop
  | mk (h : Heap) (tk : Nat) (gs : Array GenState) (gst : GenState) (m₁ : Str → Option Value) (r pre : List (List Nat)) (F : Fr g L h m₁) (KP : Kept a C L s.heap h) (BR : ∀ y ∈ gs, y ∈ s.gens ∨ y.bare = true) (hgs : gs[gi]? = some gst)
      (hgo : ∀ s'' : Shared, (∀ b o, g.get? b = some o → s''.heap.get? b = some o) → (∀ b o, (b = C ∨ a ≤ b) → h.get? b = some o → s''.heap.get? b = some o) → gst.Goes M A.in1 (itR C a) (itY g C a Ys) r.length (.send .none) s'')
      (hYs : Ys = pre ++ r) (hJ : J r m₁) : GInv M A g L C a gi Ys J s (r.length + 1) { s with heap := h, toks := tk, gens := gs }
theorem gen_for {g : Heap} {env : Env} {C a : Addr} {gi : Nat} {gst : GenState} {Ys : List (List Nat)} {R : Result → Shared → Prop} {m : Str → Option Value} {body : List Stmt} {q0 q00 q000 : Pos} (J : List (List Nat) → (Str → Option Value) → Prop)
    (hh : A.handled = none) (hroom : A.depth < recursionLimit) (hlim : g.NoLimit) (hLC : env.locals < C) (hCa : C < a)
    (hk1 : env.kindOf "pos" = some .local) (hk2 : env.kindOf "ch" = some .local) (hp : (env.scope.kind == .class || (env.scope.kind == .module && env.locals != env.globals)) = false)
    (F : Fr g env.locals s.heap m) (hg : s.heap.IsGen a gi) (hgs : s.gens[gi]? = some gst)
    (hgo : ∀ s'' : Shared, (∀ b o, g.get? b = some o → s''.heap.get? b = some o) → (∀ b o, (b = C ∨ a ≤ b) → s.heap.get? b = some o → s''.heap.get? b = some o) → gst.Goes (model prog w) A.in1 (itR C a) (itY g C a Ys) Ys.length (.send .none) s'')
    (h0 : J Ys m)
    (turn : ∀ y r m₁ h tk gs p tp ty, J (y :: r) m₁ → Fr g env.locals h (fun z => if z = "ch" then some (.str ⟨y.toArray⟩ ty) else if z = "pos" then some (.int p tp) else m₁ z) →
      (∀ b o, b ≤ a → b ≠ C → b ≠ env.locals → s.heap.get? b = some o → h.get? b = some o) → (∀ y ∈ gs, y ∈ s.gens ∨ y.bare = true) →
      wpAny (model prog w) A (execs body env) (fun f s₃ => match f with
        | .next | .cont => GEnd s g env.locals h gs (J r) s₃
        | .brk => R (.ok .next) s₃
        | .ret v => R (.ok (.ret v)) s₃) (fun _ _ => False) { s with heap := h, toks := tk, gens := gs })
    (done : ∀ m₁ h tk gs, J [] m₁ → Fr g env.locals h m₁ → (∀ b o, b ≤ a → b ≠ C → b ≠ env.locals → s.heap.get? b = some o → h.get? b = some o) → (∀ y ∈ gs, y ∈ s.gens ∨ y.bare = true) → R (.ok .next) { s with heap := h, toks := tk, gens := gs }) :
    codeAny (model prog w) A (.forLoop (itTgt q0 q00 q000) (.ref a) body [] env) R s := by
  have hga : ∀ b, env.locals ≤ b → g.get? b = none := fun b hb => Heap.get?_none_of_le (Nat.le_trans F.above hb)
  have hLa : env.locals < a := Nat.lt_trans hLC hCa
  refine codeAny_forLoop_any (fun k s' => GInv (model prog w) A g env.locals C a gi Ys J s k s') ?_ (Ys.length + 1) (.mk s.heap s.toks s.gens gst m Ys [] F (fun _ _ _ _ _ e => e) (fun _ h => .inl h) hgs hgo rfl h0)
  rintro k s' ⟨h, tk, gs, gst, m₁, r, pre, F₁, KP, BR, hgs₁, hgo₁, hYs, hJ⟩
  obtain ⟨og, nm, qn, hog, hogc⟩ := hg
  have hog₁ : h.get? a = some og := KP a og (Nat.le_refl _) (Nat.ne_of_gt hCa) (Nat.ne_of_gt hLa) hog
  have hg₁ : h.IsGen a gi := ⟨og, nm, qn, hog₁, hogc⟩
  refine next_gen (s := { s with heap := h, toks := tk, gens := gs }) (P := fun n s₀ s₁ => n = 0 ∧ Snc C a s₀ s₁) (Y := itY g C a Ys) (n := r.length) hh (hlim.keeps F₁.keep) hroom hg₁ hgs₁ (hgo₁ _ F₁.keep fun _ _ _ e => e) (fun v s₁ gs' hb hv => ?_) (fun s₁ hp' h' hk' => ?_)
  · obtain ⟨⟨T, p, tp, ty, y, rfl, hT, hy⟩, ⟨h₁, tk₁, rfl, hk₁⟩, hkap⟩ := hv
    cases r with
    | nil =>
      refine (hkap { s with heap := h₁ } (fun b o e => ?_) (fun _ _ _ e => e)).elim
      have hba : b < env.locals := by
        rcases Nat.lt_or_ge b env.locals with h' | h'
        · exact h'
        · rw [hga b h'] at e; cases e
      exact hk₁ b o (Nat.le_of_lt (Nat.lt_trans hba hLa)) (Nat.ne_of_lt (Nat.lt_trans hba hLC)) (F₁.keep b o e)
    | cons y' r =>
      have hyy : y = y' := by
        have h1 := yl_here hYs
        have h2 : Ys[Ys.length - 1 - r.length]? = some y := hy
        rw [h1] at h2
        exact (Option.some.inj h2).symm
      subst hyy
      have hlow : ∀ b o, g.get? b = some o → b < env.locals := fun b o e => by
        rcases Nat.lt_or_ge b env.locals with h' | h'
        · exact h'
        · rw [hga b h'] at e; cases e
      have gk : ∀ b o, g.get? b = some o → h₁.get? b = some o := fun b o e =>
        hk₁ b o (Nat.le_of_lt (Nat.lt_trans (hlow b o e) hLa)) (Nat.ne_of_lt (Nat.lt_trans (hlow b o e) hLC)) (F₁.keep b o e)
      have F₂ : Fr g env.locals h₁ m₁ := ⟨F₁.ns.at' fun o e => hk₁ _ o (Nat.le_of_lt hLa) (Nat.ne_of_lt hLC) e, gk, F₁.above⟩
      have hog₂ : h₁.get? a = some og := hk₁ a og (Nat.le_refl _) (Nat.ne_of_gt hCa) hog₁
      refine go_gen (s := Shared.setGen _ gi gs') (g := gi) ⟨og, nm, qn, hog₂, hogc⟩ ?_
      refine wpAny_assign_Tuple hh (items := #[.int p tp, .str ⟨y.toArray⟩ ty]) ⟨_, hT, rfl, _, rfl⟩ rfl rfl fun h₃ hx₃ => ?_
      have hk₃ : ∀ b o, h₁.get? b = some o → h₃.get? b = some o := fun b o e => hx₃ b o (Nat.ne_of_lt (Heap.lt_size e)) e
      have F₃ : Fr g env.locals h₃ m₁ := fr_off (wr := []) F₂ (fun b o _ e => hk₃ b o e) (by simp) (by simp)
      refine assignInOrder_cons (wpAny_assign_Name (wpAny_storeName_local (name := "pos") hk1 F₃.ns (fun h₄ hn₄ hs₄ => ?_) hp))
      have F₄ := F₃.set hn₄ hs₄
      refine assignInOrder_cons (wpAny_assign_Name (wpAny_storeName_local (name := "ch") hk2 F₄.ns (fun h₅ hn₅ hs₅ => ?_) hp))
      have F₅ := F₄.set hn₅ hs₅
      refine assignInOrder_nil ?_
      have up : ∀ b o, b ≠ env.locals → h₁.get? b = some o → h₅.get? b = some o := fun b o hb e => hs₅.extBut b o hb (hs₄.extBut b o hb (hk₃ b o e))
      have BR' : ∀ y ∈ (Shared.setGen (Shared.setGen { s with heap := h, toks := tk, gens := gs } gi .running) gi gs').gens, y ∈ s.gens ∨ y.bare = true := by
        intro z hz
        rcases mem_setGen hz with rfl | hz
        · exact .inr hb
        · rcases mem_setGen hz with rfl | hz
          · exact .inr rfl
          · exact BR z hz
      have KP' : ∀ b o, b ≤ a → b ≠ C → b ≠ env.locals → s.heap.get? b = some o → h₅.get? b = some o := fun b o h1 h2 h3 e => up b o h3 (hk₁ b o h1 h2 (KP b o h1 h2 h3 e))
      refine wpAny_noRaise (wpAny_mono (turn y r m₁ h₅ _ (Shared.setGen (Shared.setGen { s with heap := h, toks := tk, gens := gs } gi .running) gi gs').gens p tp ty hJ F₅ KP' BR') (fun f s₃ h₃ => ?_) fun _ _ e => e)
      have fin : GEnd s g env.locals h₅ (Shared.setGen (Shared.setGen { s with heap := h, toks := tk, gens := gs } gi .running) gi gs').gens (J r) s₃ →
          ∃ k', k' < (y :: r).length + 1 ∧ GInv (model prog w) A g env.locals C a gi Ys J s k' s₃ := by
        rintro ⟨h', tk', m', F', kk, hJ'⟩
        refine ⟨r.length + 1, Nat.lt_succ_self _, .mk h' tk' _ gs' m' r (pre ++ [y]) F' (fun b o h1 h2 h3 e => kk b o h3 (KP' b o h1 h2 h3 e)) BR' (setGen_self (gs := .running) (setGen_self hgs₁)) (fun s'' hg'' hal => ?_) (by rw [hYs, List.append_assoc]; rfl) hJ'⟩
        refine hkap s'' hg'' fun b o hb e => hal b o (hb.imp id Nat.le_of_lt) (kk b o ?_ (up b o ?_ e))
        · rcases hb with rfl | hb
          · exact Nat.ne_of_gt hLC
          · exact Nat.ne_of_gt (Nat.lt_trans hLa hb)
        · rcases hb with rfl | hb
          · exact Nat.ne_of_gt hLC
          · exact Nat.ne_of_gt (Nat.lt_trans hLa hb)
      cases f with
      | next => exact fin h₃
      | cont => exact fin h₃
      | brk => exact h₃
      | ret v => exact h₃
  · obtain ⟨h0', h₁, tk₁, rfl, hk₁⟩ := hp'
    have hr : r = [] := List.length_eq_zero_iff.mp h0'
    subst hr
    refine wpAny_execs_nil (done m₁ h' _ _ hJ ?_ (fun b o h1 h2 h3 e => hk' b o (hk₁ b o h1 h2 (KP b o h1 h2 h3 e))) ?_)
    · refine ⟨F₁.ns.at' fun o e => hk' _ o (hk₁ _ o (Nat.le_of_lt hLa) (Nat.ne_of_lt hLC) e), fun b o e => ?_, F₁.above⟩
      have hba : b < env.locals := by
        rcases Nat.lt_or_ge b env.locals with h' | h'
        · exact h'
        · rw [hga b h'] at e; cases e
      exact hk' b o (hk₁ b o (Nat.le_of_lt (Nat.lt_trans hba hLa)) (Nat.ne_of_lt (Nat.lt_trans hba hLC)) (F₁.keep b o e))
    · intro z hz
      rcases mem_setGen (s := Shared.setGen { s with heap := h, toks := tk, gens := gs } gi .running) (x := .finished) hz with rfl | hz
      · exact .inr rfl
      · rcases mem_setGen hz with rfl | hz
        · exact .inr rfl
        · exact BR z hz
end
end
section
theorem off_C1 : True := by
  k_with_none
  w_top off
  trivial

theorem rules_C11 : True := by
  k_with "eval Name" => (k_here; k_dflt (refine' ld (by k_asm) (by ktn_lt) ?_; k_whole))
  k_with "loadName" => (k_here; k_dflt (refine' ldn (by k_asm) (by ktn_lt) ?_; k_whole))
  trivial
def chk : Int → List (List Nat) → Bool
  | o, [] => o == 0
  | o, y :: r => if y = [40] then chk (o + 1) r else if y = [41] then (if o - 1 < 0 then false else chk (o - 1) r) else chk o r
theorem strip_spec {w : World} {x : Str} {t : Tok} {p : Program} {loose : List Str} {mean : ExcName → Option Value} {mg mb : Str → Option Value} {news : List (Addr × Obj)} {dp un : Nat} {gd : Option (List Code)} {cn : Str} {cs : Scope} {a : Addr} {ccd : Value} {cl : List (Str × Addr)} {outer : List Env} {A₀ : Around} {base h₀ : Heap} {L : Addr} {m : Str → Option Value} {s : Shared} {Q E : Value → Shared → Prop}
   (B : Below A₀ base outer h₀) (F : Fr h₀ L s.heap m) (X : (hd.heap_39 w.params).In h₀) (N : News h₀ L s.heap news) (T : Top p loose mean mg mb h₀) (hk : cs.kind = .function)
   (hd' : dp + 1 < recursionLimit) (hx : x.length ≤ 1000) (hq : (Builtin.Str.occurrences x "\"" 0 x.length 1).isEmpty = true)
   (hQ : ∀ h' tk', Fr h₀ L h' m → News h₀ L h' news → Q (.str x t) { s with heap := h', toks := tk' }) :
      wpAny (model PySem.Challenge.rw_ux0014_01.row.prog w) (ktrTop dp un gd cn cs L a ccd cl outer) (call (.ref 28) [.str x t]) Q E s := by
  refine wpAny_call ?_
  k_dflt cell_enter
  ktn_open
  exact hQ _ _ (by assumption) (by assumption)
local macro_rules | `(tactic| walk_at "call ref") => `(tactic| (k_here; k_dflt (refine' strip_spec ?k1 ?k2 ?k3 ?k4 ?k5 ?kK ?kd ?kx ?kq ?_; (case k1 => k_asm); (case k2 => k_asm); (case k3 => k_asm); (case k4 => k_asm); (case k5 => k_asm); (case kK => first | exact rfl | assumption); (case kd => ktr_room); (case kx => assumption); (case kq => assumption)); intro h' tk' F' N'; (try k_sweep)))
theorem lp_eq {y : List Nat} : ((⟨y.toArray⟩ : Str) == Str.ofString "(") = decide (y = [40]) := by
  rw [show Str.ofString "(" = ⟨#[40]⟩ from by decide +kernel]
  by_cases h : y = [40]
  · subst h; rfl
  · rw [decide_eq_false h]
    apply beq_eq_false_iff_ne.mpr
    intro e
    have := congrArg (fun s : Str => s.cps.toList) e
    simp at this
    exact h this
theorem rp_eq {y : List Nat} : ((⟨y.toArray⟩ : Str) == Str.ofString ")") = decide (y = [41]) := by
  rw [show Str.ofString ")" = ⟨#[41]⟩ from by decide +kernel]
  by_cases h : y = [41]
  · subst h; rfl
  · rw [decide_eq_false h]
    apply beq_eq_false_iff_ne.mpr
    intro e
    have := congrArg (fun s : Str => s.cps.toList) e
    simp at this
    exact h this
theorem chk_lp {y : List Nat} {o : Int} {r : List (List Nat)} (h : ((⟨y.toArray⟩ : Str) == Str.ofString "(") = true) : chk o (y :: r) = chk (o + 1) r := by
  rw [lp_eq] at h
  rw [chk, if_pos (of_decide_eq_true h)]
theorem chk_rp1 {y : List Nat} {o : Int} {r : List (List Nat)} (h : ((⟨y.toArray⟩ : Str) == Str.ofString "(") = false) (h' : ((⟨y.toArray⟩ : Str) == Str.ofString ")") = true) (hn : o - 1 < 0) : chk o (y :: r) = false := by
  rw [lp_eq] at h
  rw [rp_eq] at h'
  rw [chk, if_neg (of_decide_eq_false h), if_pos (of_decide_eq_true h'), if_pos hn]
theorem chk_rp2 {y : List Nat} {o : Int} {r : List (List Nat)} (h : ((⟨y.toArray⟩ : Str) == Str.ofString "(") = false) (h' : ((⟨y.toArray⟩ : Str) == Str.ofString ")") = true) (hn : ¬ o - 1 < 0) : chk o (y :: r) = chk (o - 1) r := by
  rw [lp_eq] at h
  rw [rp_eq] at h'
  rw [chk, if_neg (of_decide_eq_false h), if_pos (of_decide_eq_true h'), if_neg hn]
theorem chk_no {y : List Nat} {o : Int} {r : List (List Nat)} (h : ((⟨y.toArray⟩ : Str) == Str.ofString "(") = false) (h' : ((⟨y.toArray⟩ : Str) == Str.ofString ")") = false) : chk o (y :: r) = chk o r := by
  rw [lp_eq] at h
  rw [rp_eq] at h'
  rw [chk, if_neg (of_decide_eq_false h), if_neg (of_decide_eq_false h')]
theorem check_spec {w : World} {x : Str} {t : Tok} {p : Program} {loose : List Str} {mean : ExcName → Option Value} {mg mb : Str → Option Value} {news : List (Addr × Obj)} {dp un : Nat} {gd : Option (List Code)} {cn : Str} {cs : Scope} {a : Addr} {ccd : Value} {cl : List (Str × Addr)} {outer : List Env} {A₀ : Around} {base h₀ : Heap} {L : Addr} {m : Str → Option Value} {s : Shared} {Q E : Value → Shared → Prop}
   (B : Below A₀ base outer h₀) (F : Fr h₀ L s.heap m) (X : (hd.heap_39 w.params).In h₀) (N : News h₀ L s.heap news) (T : Top p loose mean mg mb h₀) (hk : cs.kind = .function)
   (hd' : dp + 2 < recursionLimit) (hx : x.length ≤ 1000) (ha : x.cps.all (· < 128) = true) (hq : (Builtin.Str.occurrences x "\"" 0 x.length 1).isEmpty = true)
   (hQ : ∀ h' tk' gs', (∀ y ∈ gs', y ∈ s.gens ∨ y.bare = true) → Fr h₀ L h' m → News h₀ L h' news → Q (.bool (chk 0 (yl false x.cps.toList))) { s with heap := h', toks := tk', gens := gs' }) :
      wpAny (model PySem.Challenge.rw_ux0014_01.row.prog w) (ktrTop dp un gd cn cs L a ccd cl outer) (call (.ref 35) [.str x t]) Q E s := by
  refine wpAny_call ?_
  k_dflt cell_enter
  rename_i g' L' h0 FG' F' N' B' X' T'
  ktn_open
  refine wpAny_For ?_ (fun _ => rfl)
  ktn_open
  rename_i hc F₁ N₁
  have hlim := T'.nolimit
  refine wpAny_call ?_
  k_dflt (refine' code_gen (K := hd.heap_39 w.params) (g := _) ?kX F₁ ?kl ?ko ?kc ?kr ?kb ?kloc ?_ ?c1 ?c2 ?c3 ?c4; (case kX => assumption); (case kl => exact hlim); (case ko => k_is); (case kc => k_is); (case kr => ktr_room); (case kb => exact BindsTo.of_eq rfl); (case kloc => exact locs rfl); (case c1 => exact rfl); (case c2 => exact rfl); (case c3 => exact rfl); (case c4 => decide))
  intro h₁ tk₁ t1 t2 F₂ hk₁
  dsimp only at F₂ hk₁ ⊢
  have hLC : L' < hc.objs.size := F₁.ns.lt
  have hCa : hc.objs.size < h₁.objs.size := F₂.ns.lt
  refine wpAny_pyIter_gen (g := s.gens.size) ⟨_, _, _, Heap.get?_push_size _ rfl, rfl, rfl, rfl⟩ ?_
  have low : ∀ p ∈ news, p.1 ≤ h₁.objs.size ∧ p.1 ≠ hc.objs.size ∧ p.1 ≠ L' := fun p hp =>
    have h1 := Heap.lt_size (N₁ p hp).1
    ⟨Nat.le_of_lt (Nat.lt_trans h1 hCa), Nat.ne_of_lt h1, (N₁ p hp).2.1⟩
  refine gen_for (Ys := yl false x.cps.toList) (C := hc.objs.size) (a := h₁.objs.size) (gi := s.gens.size) (env := envOf _ _ L' _ _) (g := g') (fun r m => ∃ o to, m "opens" = some (.int o to) ∧ chk o r = chk 0 (yl false x.cps.toList)) rfl ?kr hlim hLC hCa rfl rfl rfl
    (fr_off (wr := []) (fr_off (wr := []) F₁ (fun b o _ e => hk₁ b o e) (by simp) (by simp)) (fun b o _ e => Heap.get?_push_of_some _ e) (by simp) (by simp)) ⟨_, _, _, Heap.get?_push_size _ rfl, rfl, rfl, rfl⟩ (Array.getElem?_push_size ..) ?kgo ⟨0, _, by ktn_lt, rfl⟩ ?kturn ?kdone
  case kr => ktr_room
  case kgo =>
    intro s'' hg'' hal
    refine ⟨rfl, itFunc (m := fun y => List.lookup y [("addr", Value.str x t)]) rfl X' T' ha (Nat.ne_of_lt hCa) ⟨_, hal _ _ (.inr (Nat.le_refl _)) (Heap.get?_push_size _ rfl)⟩ ⟨?_, hg'', F₂.above⟩ rfl⟩
    exact F₂.ns.at' fun o e => hal _ o (.inl rfl) (Heap.get?_push_of_some _ e)
  case kturn =>
    rintro y r m₁ h tk gs p' tp ty ⟨o, to, ho, hchk⟩ F₃ KP BR
    have N₃ : News g' L' h (ledAll g' L' h) := led_news
    have hsub : ∀ q ∈ news, q ∈ ledAll g' L' h := fun q hq => by
      have e : h.get? q.1 = some q.2 := KP _ _ (low q hq).1 (low q hq).2.1 (low q hq).2.2 (Heap.get?_push_of_some _ (hk₁ _ _ (N₁ q hq).1))
      exact mem_ownOf (List.mem_filter.mpr ⟨List.mem_range.mpr (Heap.lt_size e), by simpa using (low q hq).2.2⟩) (N₁ q hq).2.2 e
    have F₃k := F₃.keep
    replace BR : ∀ y ∈ gs, y ∈ s.gens ∨ y.bare = true := fun y hy => (BR y hy).elim (fun h => (Array.mem_push.mp h).elim .inl (fun e => .inr (e ▸ rfl))) .inr
    clear F₁ N₁ F₂
    refine genQ fun Q₁ hQ₁ => ?_
    ktn_open
    · exact hQ₁ _ _ (GEnd.mk _ _ _ (by assumption) (led_keep (r := []) (by assumption) (by assumption) F₃k) ⟨o + 1, _, by ktn_lt, (chk_lp (by assumption)).symm.trans hchk⟩)
    · have e : false = chk 0 (yl false x.cps.toList) := (chk_rp1 (by assumption) (by assumption) (by assumption)).symm.trans hchk
      refine hQ₁ _ _ ?_
      dsimp only
      ktn_open
      rw [e]
      exact hQ _ _ _ BR (by assumption) (fun q hq => (by assumption : News h₀ L _ (ledAll g' L' h)) q (hsub q hq))
    · exact hQ₁ _ _ (GEnd.mk _ _ _ (by assumption) (led_keep (r := []) (by assumption) (by assumption) F₃k) ⟨o - 1, _, by ktn_lt, (chk_rp2 (by assumption) (by assumption) (by assumption)).symm.trans hchk⟩)
    · exact hQ₁ _ _ (GEnd.mk _ _ _ (by assumption) (led_keep (r := []) (by assumption) (by assumption) F₃k) ⟨o, _, by ktn_lt, (chk_no (by assumption) (by assumption)).symm.trans hchk⟩)
  case kdone =>
    rintro m₁ h tk gs ⟨o, to, ho, hchk⟩ F₃ KP BR
    have N₃ : News g' L' h news := fun q hq => ⟨KP _ _ (low q hq).1 (low q hq).2.1 (low q hq).2.2 (Heap.get?_push_of_some _ (hk₁ _ _ (N₁ q hq).1)), (N₁ q hq).2⟩
    replace BR : ∀ y ∈ gs, y ∈ s.gens ∨ y.bare = true := fun y hy => (BR y hy).elim (fun h => (Array.mem_push.mp h).elim .inl (fun e => .inr (e ▸ rfl))) .inr
    clear F₁ N₁ F₂
    dsimp only
    ktn_open
    rw [show (o == 0) = chk 0 (yl false x.cps.toList) from hchk]
    exact hQ _ _ _ BR (by assumption) (by assumption)
end
section
theorem off_P1 : True := by
  k_with_none
  w_top off
  trivial

theorem rules_P11 : True := by
  k_with "eval Name" => (k_here; k_dflt (refine' ld (by k_asm) (by ktn_lt) ?_; k_whole))
  trivial
def prs : List Nat → List Nat
  | [] => []
  | c :: r => if c = 34 then (match r with | [] => [] | e :: r' => if e = 34 then 34 :: prs r' else []) else c :: prs r
inductive parseJ (x : Str) (tx : Tok) (nws : List (Addr × Obj)) (k : Nat) (m : Str → Option Value) : List (Addr × Obj) → Prop
  | mk (i : Nat) (d : Str) (ti tn td : Tok) (h1 : m "resp" = some (.str x tx)) (h2 : m "i" = some (.int i ti)) (h3 : m "n" = some (.int x.length tn)) (h4 : m "dirname" = some (.str d td)) (h5 : 5 ≤ i) (h6 : i + k = x.length)
    (h7 : d.cps.toList ++ prs (x.cps.toList.drop i) = prs (x.cps.toList.drop 5)) (h8 : d.length ≤ i) : parseJ x tx nws k m nws
theorem item_at {x : Str} {i : Nat} (h : (i : Int) < x.length) : ∃ c, x.cps.toList.drop i = c :: x.cps.toList.drop (i + 1) ∧ Txt.item x i = ⟨#[c]⟩ := by
  have h' : i < x.cps.size := by have : (i : Int) < (x.cps.size : Int) := h; omega
  refine ⟨x.cps[i], ?_, item_meets (by omega) (by simp [h'])⟩
  rw [List.drop_eq_getElem_cons (by simpa using h')]
  simp
theorem q34 : Str.ofString "\"" = ⟨#[34]⟩ := by decide +kernel
theorem one_eq {c : Nat} : ((⟨#[c]⟩ : Str) == Str.ofString "\"") = decide (c = 34) := by
  rw [q34]
  by_cases h : c = 34
  · subst h; rfl
  · rw [decide_eq_false h]
    apply beq_eq_false_iff_ne.mpr
    intro e
    have := congrArg (fun s : Str => s.cps.toList) e
    simp at this
    exact h this
theorem one_ne {c : Nat} : ((⟨#[c]⟩ : Str) != Str.ofString "\"") = !decide (c = 34) := by
  show (!((⟨#[c]⟩ : Str) == Str.ofString "\"")) = _
  rw [one_eq]
theorem cps_snoc (d : Str) (c : Nat) : (d ++ (⟨#[c]⟩ : Str)).cps.toList = d.cps.toList ++ [c] := by
  show (d.cps ++ #[c]).toList = _
  simp
theorem way_end {x : Str} {i : Nat} {d R : List Nat} (h : ¬ (i : Int) < x.length) (e : d ++ prs (x.cps.toList.drop i) = R) : d = R := by
  have h' : x.cps.size ≤ i := by have : ¬ (i : Int) < (x.cps.size : Int) := h; omega
  rw [List.drop_eq_nil_of_le (by simpa using h')] at e
  simpa [prs] using e
theorem way_brk1 {x : Str} {i : Nat} {d R : List Nat} (h : (i : Int) < x.length) (hq : (Txt.item x i == Str.ofString "\"") = true) (hl : (x.length : Int) ≤ i + 1) (e : d ++ prs (x.cps.toList.drop i) = R) : d = R := by
  obtain ⟨c, e1, e2⟩ := item_at h
  rw [e2, one_eq] at hq
  have hc : c = 34 := of_decide_eq_true hq
  have h' : x.cps.size ≤ i + 1 := by have : (x.cps.size : Int) ≤ i + 1 := hl; omega
  rw [e1, hc, List.drop_eq_nil_of_le (by simpa using h')] at e
  simpa [prs] using e
theorem way_brk2 {x : Str} {i : Nat} {d R : List Nat} (h : (i : Int) < x.length) (hq : (Txt.item x i == Str.ofString "\"") = true) (hl : ¬ (x.length : Int) ≤ i + 1) (hn : (Txt.item x (i + 1) != Str.ofString "\"") = true) (e : d ++ prs (x.cps.toList.drop i) = R) : d = R := by
  obtain ⟨c, e1, e2⟩ := item_at h
  obtain ⟨c', e3, e4⟩ := item_at (x := x) (i := i + 1) (by push_cast; omega)
  rw [e2, one_eq] at hq
  have hc : c = 34 := of_decide_eq_true hq
  have e4' : Txt.item x ((i : Int) + 1) = ⟨#[c']⟩ := e4
  rw [e4', one_ne] at hn
  have hc' : c' ≠ 34 := by simpa using hn
  rw [e1, hc, e3] at e
  simpa [prs, hc'] using e
theorem way_two {x : Str} {i : Nat} {d : Str} {R : List Nat} (h : (i : Int) < x.length) (hq : (Txt.item x i == Str.ofString "\"") = true) (hl : ¬ (x.length : Int) ≤ i + 1) (hn : (Txt.item x (i + 1) != Str.ofString "\"") = false) (e : d.cps.toList ++ prs (x.cps.toList.drop i) = R) :
    (d ++ Txt.item x i).cps.toList ++ prs (x.cps.toList.drop (i + 2)) = R := by
  obtain ⟨c, e1, e2⟩ := item_at h
  obtain ⟨c', e3, e4⟩ := item_at (x := x) (i := i + 1) (by push_cast; omega)
  rw [e2, one_eq] at hq
  have hc : c = 34 := of_decide_eq_true hq
  have e4' : Txt.item x ((i : Int) + 1) = ⟨#[c']⟩ := e4
  rw [e4', one_ne] at hn
  have hc' : c' = 34 := by simpa using hn
  rw [e1, hc, e3, hc'] at e
  rw [e2, cps_snoc, hc, ← e]
  simp [prs]
theorem way_one {x : Str} {i : Nat} {d : Str} {R : List Nat} (h : (i : Int) < x.length) (hq : (Txt.item x i == Str.ofString "\"") = false) (e : d.cps.toList ++ prs (x.cps.toList.drop i) = R) :
    (d ++ Txt.item x i).cps.toList ++ prs (x.cps.toList.drop (i + 1)) = R := by
  obtain ⟨c, e1, e2⟩ := item_at h
  rw [e2, one_eq] at hq
  have hc : c ≠ 34 := of_decide_eq_false hq
  rw [e1] at e
  rw [e2, cps_snoc, ← e]
  conv => rhs; unfold prs
  simp [hc]
theorem len_snoc (x d : Str) (i : Int) : (d ++ Txt.item x i).length = d.length + 1 := by
  show (d.cps ++ (Txt.item x i).cps).size = d.cps.size + 1
  rw [Array.size_append]
  rfl
theorem parse_spec (w : World) (x : Str) (t : Tok) (p : Program) (loose : List Str) (mean : ExcName → Option Value) (mg mb : Str → Option Value) (news : List (Addr × Obj)) (dp un : Nat) (gd : Option (List Code)) (cn : Str) (cs : Scope) (a : Addr) (ccd : Value) (cl : List (Str × Addr)) (outer : List Env) (A₀ : Around) (base h₀ : Heap) (L : Addr) (m : Str → Option Value) (s : Shared) (Q E : Value → Shared → Prop)
   (B : Below A₀ base outer h₀) (F : Fr h₀ L s.heap m) (X : (hd.heap_39 w.params).In h₀) (N : News h₀ L s.heap news) (T : Top p loose mean mg mb h₀) (hk : cs.kind = .function)
   (hd' : dp + 1 < recursionLimit) (hu : un + 8 < cLine) (hx : x.length ≤ 1000) (hx5 : 5 ≤ x.length) (h3 : Txt.slice x none (some 3) = "257") (h5 : Txt.slice x (some 3) (some 5) = " \"")
   (hQ : ∀ (r : Str) t' h' tk', r.cps.toList = prs (x.cps.toList.drop 5) → Fr h₀ L h' m → News h₀ L h' news → Q (.str r t') { s with heap := h', toks := tk' }) :
      wpAny (model PySem.Challenge.rw_ux0014_01.row.prog w) (ktrTop dp un gd cn cs L a ccd cl outer) (call (.ref 94) [.str x t]) Q E s := by
  refine wpAny_call ?_
  k_dflt cell_enter
  ktn_open
  · exfalso; simp_all
  · exfalso; simp_all
  · rename_i F₁ N₁
    refine my_while (h₀ := _) (parseJ x t news) (x.length - 5) (env := envOf _ _ _ _ _) F₁ N₁ ?_ ?_ ?_
    · exact ⟨5, Str.ofString "", _, _, _, rfl, rfl, rfl, rfl, Nat.le_refl _, by omega, rfl, by decide⟩
    · clear F₁ N₁
      rintro k m₁ _ h tk ⟨i, d, ti, tn, td, hresp, hi, hn, hd, h5i, hik, heq, hdl⟩ F' N'
      dsimp only [envOf] at F' N'
      refine genQ fun Q₁ hQ₁ => ?_
      ktn_open
      refine hQ₁ _ _ ?_
      by_cases hlt : (i : Int) < x.length
      · rw [decide_eq_true hlt, if_pos rfl]
        clear hQ₁
        refine genQ fun Q₂ hQ₂ => ?_
        ktn_open
        · refine hQ₂ _ _ ?_
          dsimp only [WEnd]
          ktn_open
          exact hQ _ _ _ _ (way_brk1 (by assumption) (by assumption) (by assumption) heq) (by assumption) (by assumption)
        · refine hQ₂ _ _ ?_
          dsimp only [WEnd]
          ktn_open
          exact hQ _ _ _ _ (way_brk2 (by assumption) (by assumption) (by assumption) (by assumption) heq) (by assumption) (by assumption)
        · refine hQ₂ _ _ (WEnd.intro (n' := k - 2) (by assumption) (by assumption) (by omega) ⟨i + 2, d ++ Txt.item x i, _, _, _, by ktn_lt, by ktn_lt, by ktn_lt, by ktn_lt, by omega, by omega, way_two (by assumption) (by assumption) (by assumption) (by assumption) heq, by rw [len_snoc]; omega⟩)
        · refine hQ₂ _ _ (WEnd.intro (n' := k - 1) (by assumption) (by assumption) (by omega) ⟨i + 1, d ++ Txt.item x i, _, _, _, by ktn_lt, by ktn_lt, by ktn_lt, by ktn_lt, by omega, by omega, way_one (by assumption) (by assumption) heq, by rw [len_snoc]; omega⟩)
      · rw [decide_eq_false hlt, if_neg Bool.false_ne_true]
        ktn_open
        exact hQ _ _ _ _ (way_end (by assumption) heq) (by assumption) (by assumption)
    · with_unfolding_all passes_own
end
section
theorem off_B1 : True := by
  k_with_none
  w_top off
  trivial

theorem rules_B11 : True := by
  k_with "eval Name" => (k_here; k_dflt (refine' ld (by k_asm) (by ktn_lt) ?_; k_whole))
  k_with "loadName" => (k_here; k_dflt (refine' ldn (by k_asm) (by ktn_lt) ?_; k_whole))
  k_with "call builtin:len" => (k_here; (with_reducible show wpAny _ _ (call (Value.builtin "len") [Value.ref _]) _ _ _); k_dflt (refine' len_led (by k_asm) (by assumption) (by assumption) (by omega) ?_); intro _ _)
  k_with "subscriptTail" => (k_here; (with_reducible show wpAny _ _ (subscriptTail _ _ (Value.ref _) (Value.int _ _)) _ _ _); k_dflt (refine' item_led (by k_asm) (by assumption) (by assumption) (by omega) (by omega) (by omega) ?_ (by with_unfolding_all rfl) (by intro _; with_unfolding_all rfl)); intro _)
  trivial
inductive blJ (l : Addr) (ns : List Int) (x : Int) (tx : Tok) (nws : List (Addr × Obj)) (k : Nat) (m : Str → Option Value) : List (Addr × Obj) → Prop
  | mk (lo hi : Int) (t1 t2 : Tok) (ma : m "a" = some (.ref l)) (mx : m "x" = some (.int x tx)) (ml : m "lo" = some (.int lo t1)) (mh : m "hi" = some (.int hi t2)) (h0 : 0 ≤ lo) (h1 : lo ≤ hi) (h2 : hi ≤ ns.length) (hk : k = (hi - lo).toNat)
    (hb : ∀ i : Nat, (i : Int) < lo → ns.getD i 0 < x) (ha : ∀ i : Nat, hi ≤ (i : Int) → i < ns.length → ¬ ns.getD i 0 < x) : blJ l ns x tx nws k m nws
theorem bl_spec {w : World} {l : Addr} {vs : List Value} {ns : List Int} {e : Nat} {x : Int} {t : Tok} {p : Program} {loose : List Str} {mean : ExcName → Option Value} {mg mb : Str → Option Value} {news : List (Addr × Obj)} {dp un : Nat} {gd : Option (List Code)} {cn : Str} {nm : List (Str × NameKind)} {ig ic : Bool} {mo : List (Str × Const)} {a : Addr} {ccd : Value} {cl : List (Str × Addr)} {outer : List Env} {A₀ : Around} {base h₀ : Heap} {L : Addr} {m : Str → Option Value} {s : Shared} {Q E : Value → Shared → Prop}
   (B : Below A₀ base outer h₀) (F : Fr h₀ L s.heap m) (X : (hd.heap_39 w.params).In h₀) (N : News h₀ L s.heap news) (T : Top p loose mean mg mb h₀)
   (hd' : dp + 2 < recursionLimit) (hl : (l, listOf vs.toArray e) ∈ news) (hi : IntsAre vs ns) (hlen : ns.length ≤ 1000) (hsort : ∀ i j, i ≤ j → j < ns.length → ns.getD i 0 ≤ ns.getD j 0)
  (hQ : ∀ (r : Int) t' h' tk', 0 ≤ r → r ≤ ns.length → (∀ i : Nat, (i : Int) < r → ns.getD i 0 < x) → (∀ i : Nat, r ≤ (i : Int) → i < ns.length → ¬ ns.getD i 0 < x) → Fr h₀ L h' m → News h₀ L h' news → Q (.int r t') { s with heap := h', toks := tk' }) :
      wpAny (model PySem.Challenge.rw_ux0014_01.row.prog w) (cTop dp un gd cn nm ig ic mo L a ccd cl outer) (call (.ref 62) [.ref l, .int x t]) Q E s := by
  refine wpAny_call ?_
  k_dflt k_enter
  rename_i g' L' h' FG' F' N' B' X' T'
  ktn_open
  refine my_while (h₀ := _) (blJ l ns x t news) ns.length (env := envOf _ _ L' _ _) (by assumption) (by assumption) ?_ ?_ ?_
  · exact ⟨0, ns.length, _, _, rfl, rfl, rfl, rfl, by omega, by omega, by omega, by omega, fun i hi => by omega, fun i h1 h2 => by omega⟩
  · rintro k m₁ _ h tk ⟨lo, hh, t1, t2, ma, mx, mlo, mhi, h0, hle, hhl, hk, hbelow, habove⟩ F' N'
    dsimp only [envOf] at F' N'
    have hfd : (lo + hh).fdiv 2 = (lo + hh) / 2 := Int.fdiv_eq_ediv_of_nonneg _ (by omega)
    refine genQ fun Q₁ hQ₁ => ?_
    ktn_open
    refine hQ₁ _ _ ?_
    by_cases hlt : lo < hh
    · rw [decide_eq_true hlt, if_pos rfl]
      clear hQ₁
      refine genQ fun Q₂ hQ₂ => ?_
      ktn_open
      · refine hQ₂ _ _ (WEnd.intro (n' := (hh - ((lo + hh).fdiv 2 + 1)).toNat) (by assumption) (by assumption) (by omega) ⟨(lo + hh).fdiv 2 + 1, hh, _, _, by ktn_lt, by ktn_lt, by ktn_lt, by ktn_lt, by omega, by omega, by omega, rfl, fun i hi => ?_, habove⟩)
        have h1 := hsort i ((lo + hh).fdiv 2).toNat (by omega) (by omega)
        have h2 : ns.getD ((lo + hh).fdiv 2).toNat 0 < x := by assumption
        omega
      · refine hQ₂ _ _ (WEnd.intro (n' := ((lo + hh).fdiv 2 - lo).toNat) (by assumption) (by assumption) (by omega) ⟨lo, (lo + hh).fdiv 2, _, _, by ktn_lt, by ktn_lt, by ktn_lt, by ktn_lt, by omega, by omega, by omega, rfl, hbelow, fun i hi hil => ?_⟩)
        have h1 := hsort ((lo + hh).fdiv 2).toNat i (by omega) (by omega)
        have h2 : ¬ ns.getD ((lo + hh).fdiv 2).toNat 0 < x := by assumption
        omega
    · rw [decide_eq_false hlt, if_neg Bool.false_ne_true]
      ktn_open
      exact hQ _ _ _ _ h0 (Int.le_trans hle hhl) hbelow (fun i h1 h2 => habove i (Int.le_trans (Int.not_lt.mp hlt) h1) h2) (by assumption) (by assumption)
  · with_unfolding_all passes_own
end
section
theorem off_B2 : True := by
  k_with_none
  w_top off
  trivial

theorem rules_B21 : True := by
  k_with "eval Name" => (k_here; k_dflt (refine' ld (by k_asm) (by ktn_lt) ?_; k_whole))
  k_with "loadName" => (k_here; k_dflt (refine' ldn (by k_asm) (by ktn_lt) ?_; k_whole))
  k_with "call builtin:len" => (k_here; (with_reducible show wpAny _ _ (call (Value.builtin "len") [Value.ref _]) _ _ _); k_dflt (refine' len_led (by k_asm) (by first | assumption | k_mem) (by assumption) (by omega) ?_); intro _ _)
  k_with "subscriptTail" => (k_here; (with_reducible show wpAny _ _ (subscriptTail _ _ (Value.ref _) (Value.int _ _)) _ _ _); k_dflt (refine' item_led (by k_asm) (by assumption) (by assumption) (by omega) (by omega) (by omega) ?_ (by with_unfolding_all rfl) (by intro _; with_unfolding_all rfl)); intro _)
  trivial
def KeyOk (w : World) (f : Addr) (ns : List Int) (led : List (Addr × Obj)) : Prop :=
  ∀ {p : Program} {loose : List Str} {mean : ExcName → Option Value} {mg mb : Str → Option Value} {news : List (Addr × Obj)} {dp un : Nat} {gd : Option (List Code)} {cn : Str} {nm : List (Str × NameKind)} {ig ic : Bool} {mo : List (Str × Const)} {a : Addr} {ccd : Value} {cl : List (Str × Addr)} {outer : List Env} {A₀ : Around} {base h₀ : Heap} {L : Addr} {m : Str → Option Value} {s : Shared} {Q E : Value → Shared → Prop} {j : Int} {t : Tok},
    Below A₀ base outer h₀ → Fr h₀ L s.heap m → (hd.heap_39 w.params).In h₀ → News h₀ L s.heap news → Top p loose mean mg mb h₀ → dp + 1 < recursionLimit → (∀ q ∈ led, q ∈ news) → 0 ≤ j → j < ns.length →
    (∀ t' h' tk', Fr h₀ L h' m → News h₀ L h' news → Q (.int (ns.getD j.toNat 0) t') { s with heap := h', toks := tk' }) →
    wpAny (model PySem.Challenge.rw_ux0014_01.row.prog w) (cTop dp un gd cn nm ig ic mo L a ccd cl outer) (call (.ref f) [.int j t]) Q E s
inductive brJ (l f : Addr) (ns js : List Int) (x : Int) (tx : Tok) (nws : List (Addr × Obj)) (k : Nat) (m : Str → Option Value) : List (Addr × Obj) → Prop
  | mk (lo hi : Int) (t1 t2 : Tok) (ma : m "a" = some (.ref l)) (mk : m "key" = some (.ref f)) (mx : m "x" = some (.int x tx)) (ml : m "lo" = some (.int lo t1)) (mh : m "hi" = some (.int hi t2)) (h0 : 0 ≤ lo) (h1 : lo ≤ hi) (h2 : hi ≤ js.length) (hk : k = (hi - lo).toNat)
    (hb : ∀ i : Nat, (i : Int) < lo → ¬ x < ns.getD (js.getD i 0).toNat 0) (ha : ∀ i : Nat, hi ≤ (i : Int) → i < js.length → x < ns.getD (js.getD i 0).toNat 0) : brJ l f ns js x tx nws k m nws
local macro_rules | `(tactic| walk_at "call ref") => `(tactic| (k_here; (with_reducible show wpAny _ _ (call (Value.ref _) [Value.int _ _]) _ _ _); k_dflt (refine' (by assumption : KeyOk _ _ _ _) ?B ?F ?X ?N ?T ?hd ?hs ?h0 ?h1 ?_; (case B => k_asm); (case F => k_asm); (case X => k_asm); (case N => k_asm); (case T => k_asm); (case hd => (simp only [depth_deeper]; omega)); (case hs => first | assumption | exact fun _ q => q); (case h0 => first | assumption | (refine (‹∀ i : Nat, i < List.length _ → (0 : Int) ≤ List.getD _ i (0 : Int) ∧ List.getD _ i (0 : Int) < (List.length _ : Int)› _ ?_).1; omega)); (case h1 => first | assumption | (refine (‹∀ i : Nat, i < List.length _ → (0 : Int) ≤ List.getD _ i (0 : Int) ∧ List.getD _ i (0 : Int) < (List.length _ : Int)› _ ?_).2; omega))); intro t' h' tk' F' N'; (try k_sweep)))
local macro_rules | `(tactic| walk_at "callWith ref") => `(tactic| (k_here; k_dflt (refine' callWith_F ?k1 ?_; (case k1 => exact FnAt.of (by k_asm) (by k_mem)); k_whole)))
theorem br_spec {w : World} {l f : Addr} {vs : List Value} {ns js : List Int} {e : Nat} {x : Int} {t tlo : Tok} {p : Program} {loose : List Str} {mean : ExcName → Option Value} {mg mb : Str → Option Value} {news : List (Addr × Obj)} {dp un : Nat} {gd : Option (List Code)} {cn : Str} {nm : List (Str × NameKind)} {ig ic : Bool} {mo : List (Str × Const)} {a : Addr} {ccd : Value} {cl : List (Str × Addr)} {outer : List Env} {A₀ : Around} {base h₀ : Heap} {L : Addr} {m : Str → Option Value} {s : Shared} {Q E : Value → Shared → Prop}
   (B : Below A₀ base outer h₀) (F : Fr h₀ L s.heap m) (X : (hd.heap_39 w.params).In h₀) (N : News h₀ L s.heap news) (T : Top p loose mean mg mb h₀)
   (hd' : dp + 3 < recursionLimit) (hl : (l, listOf vs.toArray e) ∈ news) (hi : IntsAre vs js) (hlen : js.length ≤ 1000) (hjs : ∀ i, i < js.length → 0 ≤ js.getD i 0 ∧ js.getD i 0 < ns.length)
   (hsort : ∀ i j, i ≤ j → j < js.length → ns.getD (js.getD i 0).toNat 0 ≤ ns.getD (js.getD j 0).toNat 0) {oc : Value} {od : Option Addr} {fd : FuncData} {sl : Array (Option Value)} (hfm : (f, (⟨oc, od, .func fd, sl⟩ : Obj)) ∈ news) (hkey : KeyOk w f ns news)
  (hQ : ∀ (r : Int) t' h' tk', 0 ≤ r → r ≤ js.length → (∀ i : Nat, (i : Int) < r → ¬ x < ns.getD (js.getD i 0).toNat 0) → (∀ i : Nat, r ≤ (i : Int) → i < js.length → x < ns.getD (js.getD i 0).toNat 0) → Fr h₀ L h' m → News h₀ L h' news → Q (.int r t') { s with heap := h', toks := tk' }) :
      wpAny (model PySem.Challenge.rw_ux0014_01.row.prog w) (cTop dp un gd cn nm ig ic mo L a ccd cl outer) (call (.ref 53) [.ref l, .int x t, .int 0 tlo, .none] [("key", .ref f)]) Q E s := by
  refine wpAny_call ?_
  k_dflt k_enter
  rename_i g' L' h' FG' F' N' B' X' T'
  ktn_open
  refine my_while (h₀ := _) (brJ l f ns js x t news) js.length (env := envOf _ _ L' _ _) (by assumption) (by assumption) ?_ ?_ ?_
  · exact ⟨0, js.length, _, _, rfl, rfl, rfl, rfl, rfl, by omega, by omega, by omega, by omega, fun i hi => by omega, fun i h1 h2 => by omega⟩
  · rintro k m₁ _ h tk ⟨lo, hh, t1, t2, ma, mk, mx, mlo, mhi, h0, hle, hhl, hk, hbelow, habove⟩ F' N'
    dsimp only [envOf] at F' N'
    have hfd : (lo + hh).fdiv 2 = (lo + hh) / 2 := Int.fdiv_eq_ediv_of_nonneg _ (by omega)
    refine genQ fun Q₁ hQ₁ => ?_
    ktn_open
    refine hQ₁ _ _ ?_
    by_cases hlt : lo < hh
    · rw [decide_eq_true hlt, if_pos rfl]
      clear hQ₁
      refine genQ fun Q₂ hQ₂ => ?_
      ktn_open
      · refine hQ₂ _ _ (WEnd.intro (n' := ((lo + hh).fdiv 2 - lo).toNat) (by assumption) (by assumption) (by omega) ⟨lo, (lo + hh).fdiv 2, _, _, by ktn_lt, by ktn_lt, by ktn_lt, by ktn_lt, by ktn_lt, by omega, by omega, by omega, rfl, hbelow, fun i hi hil => ?_⟩)
        have h1 := hsort ((lo + hh).fdiv 2).toNat i (by omega) (by omega)
        have h2 : x < ns.getD (js.getD ((lo + hh).fdiv 2).toNat 0).toNat 0 := by assumption
        omega
      · refine hQ₂ _ _ (WEnd.intro (n' := (hh - ((lo + hh).fdiv 2 + 1)).toNat) (by assumption) (by assumption) (by omega) ⟨(lo + hh).fdiv 2 + 1, hh, _, _, by ktn_lt, by ktn_lt, by ktn_lt, by ktn_lt, by ktn_lt, by omega, by omega, by omega, rfl, fun i hi => ?_, habove⟩)
        have h1 := hsort i ((lo + hh).fdiv 2).toNat (by omega) (by omega)
        have h2 : ¬ x < ns.getD (js.getD ((lo + hh).fdiv 2).toNat 0).toNat 0 := by assumption
        omega
    · rw [decide_eq_false hlt, if_neg Bool.false_ne_true]
      ktn_open
      exact hQ _ _ _ _ h0 (Int.le_trans hle hhl) hbelow (fun i h1 h2 => habove i (Int.le_trans (Int.not_lt.mp hlt) h1) h2) (by assumption) (by assumption)
  · with_unfolding_all passes_own
local macro_rules | `(tactic| walk_at "call ref") => `(tactic| (k_here; (with_reducible show wpAny _ _ (call (Value.ref _) [Value.ref _, _, _, _] _) _ _ _); k_dflt (refine' br_spec ?B ?F ?X ?N ?T ?hd ?hl ?hi ?hlen ?hjs ?hsort ?hfm ?hkey ?_; (case B => k_asm); (case F => k_asm); (case X => k_asm); (case N => k_asm); (case T => k_asm); (case hd => (simp only [depth_deeper]; omega)); (case hl => assumption); (case hi => assumption); (case hlen => assumption); (case hjs => assumption); (case hsort => assumption); (case hfm => assumption); (case hkey => assumption)); intro r' t' h' tk' r0' r1' r2' r3' F' N'; (try k_sweep)))
theorem ins_spec {w : World} {l f : Addr} {vs : List Value} {ns js : List Int} {e : Nat} {x : Int} {t : Tok} {p : Program} {loose : List Str} {mean : ExcName → Option Value} {mg mb : Str → Option Value} {news K : List (Addr × Obj)} {dp un : Nat} {gd : Option (List Code)} {cn : Str} {nm : List (Str × NameKind)} {ig ic : Bool} {mo : List (Str × Const)} {a : Addr} {ccd : Value} {cl : List (Str × Addr)} {outer : List Env} {A₀ : Around} {base h₀ : Heap} {L : Addr} {m : Str → Option Value} {s : Shared} {Q E : Value → Shared → Prop}
   (B : Below A₀ base outer h₀) (F : Fr h₀ L s.heap m) (X : (hd.heap_39 w.params).In h₀) (N : News h₀ L s.heap news) (T : Top p loose mean mg mb h₀)
   (hd' : dp + 4 < recursionLimit) (hl : (l, listOf vs.toArray e) ∈ news) (hi : IntsAre vs js) (hlen : js.length ≤ 1000) (hjs : ∀ i, i < js.length → 0 ≤ js.getD i 0 ∧ js.getD i 0 < ns.length)
   (hsort : ∀ i j, i ≤ j → j < js.length → ns.getD (js.getD i 0).toNat 0 ≤ ns.getD (js.getD j 0).toNat 0) {oc : Value} {od : Option Addr} {fd : FuncData} {sl : Array (Option Value)} (hfm : (f, (⟨oc, od, .func fd, sl⟩ : Obj)) ∈ news) (hkey : KeyOk w f ns news)
   (hx0 : 0 ≤ x) (hx1 : x < ns.length) (hK : ∀ p ∈ K, p ∈ news ∧ @Ne Nat p.1 l)
  (hQ : ∀ (r : Nat) h' tk', r ≤ js.length → (∀ i : Nat, i < r → ¬ ns.getD x.toNat 0 < ns.getD (js.getD i 0).toNat 0) → (∀ i : Nat, r ≤ i → i < js.length → ns.getD x.toNat 0 < ns.getD (js.getD i 0).toNat 0) → Fr h₀ L h' m →
    News h₀ L h' ((l, listOf (vs.take r ++ .int x t :: vs.drop r).toArray (e + 1)) :: K) → Q .none { s with heap := h', toks := tk' }) :
      wpAny (model PySem.Challenge.rw_ux0014_01.row.prog w) (cTop dp un gd cn nm ig ic mo L a ccd cl outer) (call (.ref 44) [.ref l, .int x t] [("key", .ref f)]) Q E s := by
  refine wpAny_call ?_
  k_dflt k_enter
  rename_i g' L' h' FG' F' N' B' X' T'
  have hvl : vs.length = js.length := hi.length
  ktn_open
  rename_i r' t' q₁ tk₁ hr0 hr1 hr2 hr3 h₁ F₁ N₁
  refine insert_led (K := K) F₁ N₁ hl hK hr0 (by omega) (by omega) fun h₂ F₂ N₂ => ?_
  ktn_open
  exact hQ r'.toNat _ _ (by omega) (fun i hi => hr2 i (by omega)) (fun i h1 h2 => hr3 i (by omega) h2) (by assumption) (by assumption)
theorem ins_specU {w : World} {l f : Addr} {vs : List Value} {ns js : List Int} {e : Nat} {x : Int} {t : Tok} {p : Program} {loose : List Str} {mean : ExcName → Option Value} {mg mb : Str → Option Value} {news : List (Addr × Obj)} {g : Obj → List (Addr × Obj)} {dp un : Nat} {gd : Option (List Code)} {cn : Str} {nm : List (Str × NameKind)} {ig ic : Bool} {mo : List (Str × Const)} {a : Addr} {ccd : Value} {cl : List (Str × Addr)} {outer : List Env} {A₀ : Around} {base h₀ : Heap} {L : Addr} {m : Str → Option Value} {s : Shared} {Q E : Value → Shared → Prop}
   (B : Below A₀ base outer h₀) (F : Fr h₀ L s.heap m) (X : (hd.heap_39 w.params).In h₀) (N : News h₀ L s.heap news) (T : Top p loose mean mg mb h₀)
   (hd' : dp + 4 < recursionLimit) (U : UpdF l (listOf vs.toArray e) news g) (hi : IntsAre vs js) (hlen : js.length ≤ 1000) (hjs : ∀ i, i < js.length → 0 ≤ js.getD i 0 ∧ js.getD i 0 < ns.length)
   (hsort : ∀ i j, i ≤ j → j < js.length → ns.getD (js.getD i 0).toNat 0 ≤ ns.getD (js.getD j 0).toNat 0) {oc : Value} {od : Option Addr} {fd : FuncData} {sl : Array (Option Value)} (hfm : (f, (⟨oc, od, .func fd, sl⟩ : Obj)) ∈ news) (hkey : KeyOk w f ns news)
   (hx0 : 0 ≤ x) (hx1 : x < ns.length)
  (hQ : ∀ (r : Nat) h' tk', r ≤ js.length → (∀ i : Nat, i < r → ¬ ns.getD x.toNat 0 < ns.getD (js.getD i 0).toNat 0) → (∀ i : Nat, r ≤ i → i < js.length → ns.getD x.toNat 0 < ns.getD (js.getD i 0).toNat 0) → Fr h₀ L h' m →
    News h₀ L h' (g (listOf (vs.take r ++ .int x t :: vs.drop r).toArray (e + 1))) → Q .none { s with heap := h', toks := tk' }) :
      wpAny (model PySem.Challenge.rw_ux0014_01.row.prog w) (cTop dp un gd cn nm ig ic mo L a ccd cl outer) (call (.ref 44) [.ref l, .int x t] [("key", .ref f)]) Q E s := by
  obtain ⟨pre, post, rfl, hg, h1, h2⟩ := U.split
  refine ins_spec (K := pre ++ post) B F X N T hd' (List.mem_append_right _ (.head _)) hi hlen hjs hsort hfm hkey hx0 hx1 (fun q hq => ?_) fun r h' tk' hr a b F' N' => hQ r h' tk' hr a b F' ?_
  · rcases List.mem_append.mp hq with hq | hq
    · exact ⟨List.mem_append_left _ hq, h1 q hq⟩
    · exact ⟨List.mem_append_right _ (.tail _ hq), h2 q hq⟩
  · rw [hg]
    intro q hq
    rcases List.mem_append.mp hq with hq | hq
    · exact N' q (.tail _ (List.mem_append_left _ hq))
    · rcases List.mem_cons.mp hq with rfl | hq
      · exact N' _ (.head _)
      · exact N' q (.tail _ (List.mem_append_right _ hq))
end
section
theorem off_R1 : True := by
  k_with_none
  w_top off
  trivial

theorem rules_R11 : True := by
  k_with "eval Name" => (k_here; k_dflt (refine' ld (by k_asm) (by ktn_lt) ?_; k_whole))
  k_with "loadName" => (k_here; k_dflt (refine' ldn (by k_asm) (by ktn_lt) ?_; k_whole))
  k_with "call builtin:len" => (k_here; (with_reducible show wpAny _ _ (call (Value.builtin "len") [Value.ref _]) _ _ _); k_dflt (refine' len_led (by k_asm) (by first | assumption | k_mem) (by assumption) (by omega) ?_); intro _ _)
  trivial
def red (line : Int) (kept : List Int) : Int := kept.foldl (fun l one => min l (Builtin.bitXor l one)) line
def rks (kept : List Int) (line : Int) : List Int := if 0 < red line kept then kept ++ [red line kept] else kept
inductive rkJ (ns : List Int) (news : List (Addr × Obj)) (gs₀ : Array GenState) (i : Nat) (m : Str → Option Value) : List (Addr × Obj) → Array GenState → Prop
  | mk (lk : Addr) (e : Nat) (kvs : List Value) (kns : List Int) (hm : m "kept" = some (.ref lk)) (hki : IntsAre kvs kns) (hkn : kns = (ns.take i).foldl rks []) (hkl : kns.length ≤ i) (hin : i ≤ ns.length) (hap : ∀ p ∈ news, @Ne Nat p.1 lk) : rkJ ns news gs₀ i m ((lk, listOf kvs.toArray e) :: news) gs₀
inductive rkJ2 (gs₀ : Array GenState) (nw : List (Addr × Obj)) (lk : Addr) (r : Int) (m : Str → Option Value) : List (Addr × Obj) → Array GenState → Prop
  | mk (tl : Tok) (hm : m "kept" = some (.ref lk)) (hl : m "line" = some (.int r tl)) : rkJ2 gs₀ nw lk r m nw gs₀
theorem rank_spec {w : World} {l : Addr} {vs : List Value} {ns : List Int} {e : Nat} {p : Program} {loose : List Str} {mean : ExcName → Option Value} {mg mb : Str → Option Value} {news : List (Addr × Obj)} {dp un : Nat} {gd : Option (List Code)} {cn : Str} {nm : List (Str × NameKind)} {ig ic : Bool} {mo : List (Str × Const)} {a : Addr} {ccd : Value} {cl : List (Str × Addr)} {outer : List Env} {A₀ : Around} {base h₀ : Heap} {L : Addr} {m : Str → Option Value} {s : Shared} {Q E : Value → Shared → Prop}
   (B : Below A₀ base outer h₀) (F : Fr h₀ L s.heap m) (X : (hd.heap_39 w.params).In h₀) (N : News h₀ L s.heap news) (T : Top p loose mean mg mb h₀)
   (hd' : dp + 2 < recursionLimit) (hl : (l, listOf vs.toArray e) ∈ news) (hi : IntsAre vs ns) (hlen : ns.length ≤ 1000)
  (hQ : ∀ t' h' tk', Fr h₀ L h' m → News h₀ L h' news → Q (.int (ns.foldl rks []).length t') { s with heap := h', toks := tk' }) :
      wpAny (model PySem.Challenge.rw_ux0014_01.row.prog w) (cTop dp un gd cn nm ig ic mo L a ccd cl outer) (call (.ref 111) [.ref l]) Q E s := by
  refine wpAny_call ?_
  k_dflt k_enter
  rename_i g' L' h' FG' F' N' B' X' T'
  ktn_open
  refine wpAny_For ?_ (fun _ => rfl)
  ktn_open
  rename_i F₁ N₁
  have l1 := ‹∀ p ∈ news, p.1 < _›
  refine iter_led (env := envOf _ _ L' _ _) (rkJ ns news s.gens) rfl F₁ N₁ (.tail _ hl) rfl rfl ⟨_, 0, [], [], by ktn_lt, .nil, rfl, by simp, Nat.zero_le _, fun p hp => Nat.ne_of_lt (l1 p hp)⟩ ?_ ?_ ?_
  · rintro i m _ _ ⟨lk, e', kvs, kns, _, _⟩
    exact .tail _ hl
  · rintro I i v m₁ _ h tk _ oI hv ⟨lk, e', kvs, kns, mk, hki, hkn, hkl, hin, hap⟩ hn F₂ N₂
    refine genQ fun Q₁ hQ₁ => ?_
    clear F₁ N₁
    dsimp only [envOf] at F₂ N₂
    have hil : i < ns.length := by
      rw [← hi.length]
      exact (List.getElem?_eq_some_iff.mp hv).1
    obtain ⟨t, ht⟩ := hi.get i ns[i] (by simp [hil])
    rw [hv] at ht
    cases ht
    ktn_open
    refine wpAny_For ?_ (fun _ => rfl)
    ktn_open
    refine iter_led (env := envOf _ _ L' _ _) (fun j m' nw' gs' => rkJ2 s.gens ((I, oI) :: (lk, listOf kvs.toArray e') :: news) lk (red ns[i] (kns.take j)) m' nw' gs') rfl F₂ N₂ (.tail _ (.head _)) rfl rfl ⟨_, by ktn_lt, by ktn_lt⟩ ?_ ?_ ?_
    · rintro i m _ _ ⟨_, _, _⟩
      exact .tail _ (.head _)
    · rintro I₂ j v m₂ _ h₂ tk₂ _ oI₂ hv₂ ⟨tl, mk₂, ml₂⟩ hn₂ F₃ N₃
      refine genQ fun Q₂ hQ₂ => ?_
      dsimp only [envOf] at F₃ N₃
      have hjl : j < kns.length := by
        rw [← hki.length]
        exact (List.getElem?_eq_some_iff.mp hv₂).1
      obtain ⟨t₂, ht₂⟩ := hki.get j kns[j] (by simp [hjl])
      rw [hv₂] at ht₂
      cases ht₂
      have hr : red ns[i] (kns.take (j + 1)) = if Builtin.bitXor (red ns[i] (kns.take j)) kns[j] < red ns[i] (kns.take j) then Builtin.bitXor (red ns[i] (kns.take j)) kns[j] else red ns[i] (kns.take j) := by
        rw [List.take_add_one, List.getElem?_eq_getElem hjl, Option.toList_some, red, List.foldl_append]
        show min (red ns[i] (kns.take j)) (Builtin.bitXor (red ns[i] (kns.take j)) kns[j]) = _
        rw [Int.min_def]
        split <;> split <;> omega
      ktn_open
      refine hQ₂ _ _ (FEnd.intro _ _ (by assumption) (by assumption) (.head _) (fun p hp => .tail _ hp) hn₂ ⟨_, by ktn_lt, by rw [hr]; ktn_lt⟩)
    · rintro m₂ _ h₂ tk₂ _ ⟨tl, mk₂, ml₂⟩ F₃ N₃
      dsimp only [envOf] at F₃ N₃
      dsimp only
      have hkl2 : kvs.length = kns.length := hki.length
      have hks : (ns.take (i + 1)).foldl rks [] = rks kns ns[i] := by
        rw [List.take_add_one, List.getElem?_eq_getElem hil, Option.toList_some, List.foldl_append, ← hkn]
        rfl
      rw [show kns.take kvs.length = kns by rw [hkl2]; exact List.take_length] at ml₂
      ktn_open
      · refine append_led (K := (I, oI) :: news) F₃ N₃ (.tail _ (.head _)) (Nat.le_trans (m := 1000) (by omega) (by decide)) (fun p hp => ?_) fun h₅ F₅ N₅ => ?_
        · rcases List.mem_cons.mp hp with rfl | hp
          · exact ⟨.head _, fun e => hn _ (.head _) e.symm⟩
          · exact ⟨.tail _ (.tail _ hp), hap p hp⟩
        · ktn_open
          refine hQ₁ _ _ (FEnd.intro _ ((lk, listOf (kvs ++ [Value.int (red ns[i] kns) tl]).toArray (e' + 1)) :: news) F₅ N₅ (.tail _ (.head _)) (List.forall_mem_cons.mpr ⟨.head _, fun p hp => .tail _ (.tail _ hp)⟩) (List.forall_mem_cons.mpr ⟨hn (lk, listOf kvs.toArray e') (.head _), fun p hp => hn _ (.tail _ hp)⟩) ⟨lk, e' + 1, kvs ++ [Value.int (red ns[i] kns) tl], kns ++ [red ns[i] kns], by ktn_lt, ?_, ?_, ?_, hil, hap⟩)
          · exact hki.append (IntsAre.cons _ _ .nil)
          · rw [hks, rks, if_pos (by assumption)]
          · rw [List.length_append]
            exact Nat.succ_le_succ hkl
      · refine hQ₁ _ _ (FEnd.intro _ _ F₃ N₃ (.head _) (fun p hp => .tail _ hp) hn ⟨lk, e', kvs, kns, mk₂, hki, ?_, Nat.le_succ_of_le hkl, hil, hap⟩)
        rw [hks, rks, if_neg (by assumption)]
  · rintro m₁ _ h tk _ ⟨lk, e', kvs, kns, mk, hki, hkn, hkl, hin, hap⟩ F₂ N₂
    clear F₁ N₁
    have hkl2 : kvs.length = kns.length := hki.length
    have hvl : vs.length = ns.length := hi.length
    have hmem : (lk, listOf kvs.toArray e') ∈ (lk, listOf kvs.toArray e') :: news := .head _
    rw [show ns.take vs.length = ns by rw [hvl]; exact List.take_length] at hkn
    dsimp only [envOf] at F₂ N₂
    dsimp only
    ktn_open
    subst hkn
    exact hQ _ _ _ (by assumption) (tlN (by assumption))
end
section
theorem off_L1 : True := by
  k_with_none
  w_top off
  trivial
theorem updF_split {d : Addr} {o : Obj} {post : List (Addr × Obj)} (h2 : ∀ p ∈ post, p.1 ≠ d) : ∀ (pre : List (Addr × Obj)), (∀ p ∈ pre, p.1 ≠ d) → UpdF d o (pre ++ (d, o) :: post) (fun o' => pre ++ (d, o') :: post)
  | [], _ => .head h2
  | q :: r, h => .tail (h q (.head _)) (updF_split h2 r fun p hp => h p (.tail _ hp))
def TabIs (pos : Pos) (qual : Str) (ps : Array Value) (G : List (Addr × Obj)) : Prop :=
  ps = #[] ∨ ∃ c' oc vs t, ps = #[rawInt pos.line, rawInt pos.col, .ref c'] ∧ (c', oc) ∈ G ∧ oc.data = .fields vs ∧ vs[1]? = some (.str qual t)
theorem TabIs.mono {pos : Pos} {qual : Str} {ps : Array Value} {G G' : List (Addr × Obj)} (h : TabIs pos qual ps G) (s : ∀ p ∈ G, p ∈ G') : TabIs pos qual ps G' :=
  h.imp id fun ⟨c', oc, vs, t, a, b, c⟩ => ⟨c', oc, vs, t, a, s _ b, c⟩
section
variable {M : Model} {A : Around} {E : Value → Shared → Prop} {s : Shared} {h₀ : Heap} {L a c P : Addr} {m mg mb : Str → Option Value} {cn : Str} {cs : Scope} {ccd : Value} {cl : List (Str × Addr)} {G : List (Addr × Obj)}
  {p : Program} {loose : List Str} {mean : ExcName → Option Value} {name qual : Str} {params : Arguments} {body : Expr} {scope : Scope} {ps : Array Value} {pos : Pos} {firstLine : Nat} {clos : List (Str × Addr)}
theorem lam_any {Q : Value → Shared → Prop} (E1 : List (Addr × Obj)) (F : Fr h₀ L s.heap m) (N : News h₀ L s.heap (E1 ++ (P, tabObj ps) :: G)) (T : Top p loose mean mg mb h₀) (C : CodeHd h₀ c P) (hcd : ccd = .ref c)
    (hE : ∀ q ∈ E1, @Ne Nat q.1 P) (hG : ∀ q ∈ G, @Ne Nat q.1 P) (hp : TabIs pos qual ps G) (hcl : closureFor scope (envX cn cs L a ccd cl) = pure clos)
    (h : ∀ f c' oc vs t ctv h' tk G', (∃ X, G' = X ++ G ∧ ∀ q ∈ X, ∀ r ∈ E1 ++ (P, tabObj ps) :: G, @LT.lt Nat _ r.1 q.1) → (c', oc) ∈ G' → oc.data = .fields vs → vs[1]? = some (.str qual t) → TabIs pos qual #[rawInt pos.line, rawInt pos.col, .ref c'] G' →
      (∀ d : Nat, (∃ o, (d, o) ∈ E1 ++ (P, tabObj ps) :: G) → (∀ q ∈ G, @Ne Nat q.1 d) → ∀ q ∈ G', @Ne Nat q.1 d) → (∀ q ∈ G', @LT.lt Nat _ q.1 f) → (∀ q ∈ E1 ++ (P, tabObj ps) :: G, @LT.lt Nat _ q.1 f) →
      Fr h₀ L h' m → News h₀ L h' ((f, kla_obj name qual params body scope clos ((mg "__name__").getD .none) c' ctv) :: (E1 ++ (P, tabObj #[rawInt pos.line, rawInt pos.col, .ref c']) :: G')) → Q (.ref f) { s with heap := h', toks := tk }) :
    wpAny M A (makeFunction name qual params (.expr body) scope (envX cn cs L a ccd cl) [] [] [] pos firstLine) Q E s := by
  rcases hp with rfl | ⟨c', oc, vs, t, rfl, hm, hd, hv⟩
  · refine kla_nest F N T C hcd (updF_split hG E1 hE) trivial rfl hcl fun f c' oc vs t ctv h' tk F' N' hd hv l1 l2 => ?_
    refine h f c' oc vs t ctv h' tk ((c', oc) :: G) ⟨[(c', oc)], rfl, fun q hq r hr => by rw [List.mem_singleton.mp hq]; exact l1 r hr⟩ (.head _) hd hv (.inr ⟨c', oc, vs, t, rfl, .head _, hd, hv⟩) (fun d ⟨o, ho⟩ hd q hq => ?_) (fun q hq => ?_) (fun q hq => Nat.lt_trans (l1 q hq) l2) F' fun q hq => ?_
    · rcases List.mem_cons.mp hq with rfl | hq
      · exact Nat.ne_of_gt (l1 _ ho)
      · exact hd q hq
    · rcases List.mem_cons.mp hq with rfl | hq
      · exact l2
      · exact Nat.lt_trans (l1 q (List.mem_append_right _ (.tail _ hq))) l2
    · rcases List.mem_cons.mp hq with rfl | hq
      · exact N' _ (.head _)
      · rcases List.mem_append.mp hq with hq | hq
        · exact N' q (.tail _ (.tail _ (List.mem_append_left _ hq)))
        · rcases List.mem_cons.mp hq with rfl | hq
          · exact N' _ (.tail _ (.tail _ (List.mem_append_right _ (.head _))))
          · rcases List.mem_cons.mp hq with rfl | hq
            · exact N' _ (.tail _ (.head _))
            · exact N' q (.tail _ (.tail _ (List.mem_append_right _ (.tail _ hq))))
  · refine kla_hit (c' := c') F N T C hcd (List.mem_append_right _ (.head _)) trivial (by simp [codeAmong, rawInt]) hcl fun f ctv h' tk F' N' l1 => ?_
    exact h f c' oc vs t ctv h' tk G ⟨[], rfl, fun q hq => nomatch hq⟩ hm hd hv (.inr ⟨c', oc, vs, t, rfl, hm, hd, hv⟩) (fun d _ hd => hd) (fun q hq => l1 q (List.mem_append_right _ (.tail _ hq))) l1 F' N'
end
end
section
theorem off_S1 : True := by
  k_with_none
  w_top off
  trivial
def keyN (ns : List Int) (j : Int) : Int := ns.getD j.toNat 0
def insK (ns l : List Int) (x : Int) : List Int := l.takeWhile (fun j => !decide (keyN ns x < keyN ns j)) ++ x :: l.dropWhile (fun j => !decide (keyN ns x < keyN ns j))
theorem insK_mem (ns l : List Int) (x y : Int) : y ∈ insK ns l x ↔ y = x ∨ y ∈ l := by
  unfold insK
  have h := List.takeWhile_append_dropWhile (p := fun j => !decide (keyN ns x < keyN ns j)) (l := l)
  constructor
  · intro hy
    rcases List.mem_append.mp hy with hy | hy
    · exact .inr (h ▸ List.mem_append_left _ hy)
    · rcases List.mem_cons.mp hy with hy | hy
      · exact .inl hy
      · exact .inr (h ▸ List.mem_append_right _ hy)
  · rintro (rfl | hy)
    · exact List.mem_append_right _ (.head _)
    · rw [← h] at hy
      rcases List.mem_append.mp hy with hy | hy
      · exact List.mem_append_left _ hy
      · exact List.mem_append_right _ (.tail _ hy)
theorem insK_len (ns l : List Int) (x : Int) : (insK ns l x).length = l.length + 1 := by
  unfold insK
  have h := congrArg List.length (List.takeWhile_append_dropWhile (p := fun j => !decide (keyN ns x < keyN ns j)) (l := l))
  simp only [List.length_append, List.length_cons] at h ⊢
  omega
theorem insK_sort (ns : List Int) (x : Int) : ∀ (l : List Int), l.Pairwise (fun a b => keyN ns a ≤ keyN ns b) → (insK ns l x).Pairwise (fun a b => keyN ns a ≤ keyN ns b) := by
  intro l
  induction l with
  | nil => intro _; simp [insK]
  | cons j r ih =>
    intro h
    rw [List.pairwise_cons] at h
    by_cases hj : keyN ns x < keyN ns j
    · have e : insK ns (j :: r) x = x :: j :: r := by simp [insK, hj]
      rw [e, List.pairwise_cons, List.pairwise_cons]
      refine ⟨fun b hb => ?_, h⟩
      rcases List.mem_cons.mp hb with rfl | hb
      · omega
      · have := h.1 b hb; omega
    · have e : insK ns (j :: r) x = j :: insK ns r x := by simp [insK, hj]
      rw [e, List.pairwise_cons]
      refine ⟨fun b hb => ?_, ih h.2⟩
      rcases (insK_mem ns r x b).mp hb with rfl | hb
      · omega
      · exact h.1 b hb
def handN (m : Nat) : List Int := ((List.range 5).filter fun i => m.testBit i).map Int.ofNat
def standN (ns : List Int) (m : Nat) : List Int := (handN m).foldl (insK ns) []
theorem fold_mem (ns : List Int) (y : Int) : ∀ (hs acc : List Int), y ∈ hs.foldl (insK ns) acc ↔ y ∈ acc ∨ y ∈ hs := by
  intro hs
  induction hs with
  | nil => intro acc; simp
  | cons x r ih =>
    intro acc
    rw [List.foldl_cons, ih, insK_mem, List.mem_cons]
    constructor
    · rintro ((h | h) | h)
      · exact .inr (.inl h)
      · exact .inl h
      · exact .inr (.inr h)
    · rintro (h | h | h)
      · exact .inl (.inr h)
      · exact .inl (.inl h)
      · exact .inr h
theorem fold_len (ns : List Int) : ∀ (hs acc : List Int), (hs.foldl (insK ns) acc).length = acc.length + hs.length := by
  intro hs
  induction hs with
  | nil => intro acc; simp
  | cons x r ih => intro acc; rw [List.foldl_cons, ih, insK_len, List.length_cons]; omega
theorem fold_sort (ns : List Int) : ∀ (hs acc : List Int), acc.Pairwise (fun a b => keyN ns a ≤ keyN ns b) → (hs.foldl (insK ns) acc).Pairwise (fun a b => keyN ns a ≤ keyN ns b) := by
  intro hs
  induction hs with
  | nil => intro acc h; exact h
  | cons x r ih => intro acc h; exact ih _ (insK_sort ns x acc h)
theorem hand_rng (m : Nat) : ∀ x ∈ handN m, 0 ≤ x ∧ x < 5 := by
  intro x hx
  obtain ⟨i, hi, rfl⟩ := List.mem_map.mp hx
  have h := List.mem_range.mp (List.mem_filter.mp hi).1
  exact ⟨Int.natCast_nonneg i, Int.ofNat_lt.mpr h⟩
theorem hand_len (m : Nat) : (handN m).length ≤ 5 := Nat.le_trans (by rw [handN, List.length_map]; exact List.length_filter_le _ _) (by simp)
theorem stand_len (ns : List Int) (m : Nat) : (standN ns m).length ≤ 5 := by
  rw [standN, fold_len]
  simpa using hand_len m
theorem stand_perm (ns : List Int) (m : Nat) : ∀ x ∈ handN m, x ∈ standN ns m := fun x hx => (fold_mem ns x _ _).mpr (.inr hx)
theorem stand_rng (ns : List Int) (m i : Nat) (hi : i < (standN ns m).length) : 0 ≤ (standN ns m).getD i 0 ∧ (standN ns m).getD i 0 < 5 := by
  have h : (standN ns m).getD i 0 ∈ standN ns m := by
    rw [List.getD_eq_getElem?_getD, List.getElem?_eq_getElem hi]
    exact List.getElem_mem hi
  exact hand_rng m _ (((fold_mem ns _ _ _).mp h).resolve_left (fun q => nomatch q))
theorem stand_sort (ns : List Int) (m i j : Nat) (hij : i ≤ j) (hj : j < (standN ns m).length) : ns.getD ((standN ns m).getD i 0).toNat 0 ≤ ns.getD ((standN ns m).getD j 0).toNat 0 := by
  have h : (standN ns m).Pairwise (fun a b => keyN ns a ≤ keyN ns b) := fold_sort ns (handN m) [] .nil
  rcases Nat.lt_or_eq_of_le hij with e | rfl
  · have q := (List.pairwise_iff_getElem.mp h) i j (by omega) hj e
    rw [List.getD_eq_getElem?_getD (l := standN ns m), List.getD_eq_getElem?_getD (l := standN ns m), List.getElem?_eq_getElem (by omega), List.getElem?_eq_getElem hj]
    exact q
  · exact Int.le_refl _
theorem take_while (p : Int → Bool) : ∀ (l : List Int) (r : Nat), r ≤ l.length → (∀ k : Nat, k < r → p (l.getD k 0) = true) → (∀ k : Nat, r ≤ k → k < l.length → p (l.getD k 0) = false) → l.takeWhile p = l.take r ∧ l.dropWhile p = l.drop r := by
  intro l
  induction l with
  | nil => intro r _ _ _; simp
  | cons x t ih =>
    intro r hr h1 h2
    cases r with
    | zero =>
      have e : p x = false := h2 0 (Nat.le_refl _) (by simp)
      simp [e]
    | succ r =>
      have e : p x = true := h1 0 (by omega)
      have q := ih r (by simpa using hr) (fun k hk => by simpa using h1 (k + 1) (by omega)) (fun k hk hl => by simpa using h2 (k + 1) (by omega) (by simpa using hl))
      simp [e, q.1, q.2]
theorem hand_succ {i j : Nat} (hi : i < 5) (hj : j < 2 ^ i) : handN (2 ^ i + j) = handN j ++ [(i : Int)] := by
  have h : ∀ i : Nat, i < 5 → ∀ j : Nat, j < 2 ^ i → handN (2 ^ i + j) = handN j ++ [(i : Int)] := by decide
  exact h i hi j hj
theorem stand_succ {ns : List Int} {i j r : Nat} (hi : i < 5) (hj : j < 2 ^ i) (hr : r ≤ (standN ns j).length) (h1 : ∀ k : Nat, k < r → ¬ ns.getD (i : Int).toNat 0 < ns.getD ((standN ns j).getD k 0).toNat 0)
    (h2 : ∀ k : Nat, r ≤ k → k < (standN ns j).length → ns.getD (i : Int).toNat 0 < ns.getD ((standN ns j).getD k 0).toNat 0) : standN ns (2 ^ i + j) = (standN ns j).take r ++ (i : Int) :: (standN ns j).drop r := by
  have e : standN ns (2 ^ i + j) = insK ns (standN ns j) (i : Int) := by rw [standN, hand_succ hi hj, List.foldl_append]; rfl
  have q := take_while (fun y => !decide (keyN ns (i : Int) < keyN ns y)) (standN ns j) r hr (fun k hk => by simpa [keyN] using h1 k hk) (fun k hk hl => by simpa [keyN] using h2 k hk hl)
  rw [e, insK, q.1, q.2]
end
end
section
theorem memMk {p : Addr × Obj} {G : List (Addr × Obj)} (h : p ∈ G) : List.Mem p G := h
theorem allNe {K : List (Addr × Obj)} {B d : Nat} (h : ∀ p ∈ K, @LT.lt Nat _ p.1 B) (hd : B ≤ d) : ∀ p ∈ K, @Ne Nat p.1 d := fun p hp => by have := h p hp; omega
local macro_rules | `(tactic| k_ne) => `(tactic| (refine neN ?_; (try dsimp only); first | assumption | (refine Ne.symm ?_; assumption) | (refine Nat.ne_of_lt ?_; (apply And.left; (iterate 14 (first | done | assumption | apply And.right)); done)) | (refine Nat.ne_of_gt ?_; (apply And.left; (iterate 14 (first | done | assumption | apply And.right)); done)) | omega))
local macro_rules | `(tactic| k_mem) => `(tactic| first | with_reducible assumption | (with_reducible refine memMk ?_; assumption))
local macro_rules | `(tactic| k_all) => `(tactic| first | with_reducible assumption | (refine List.forall_mem_cons.mpr ⟨by k_ne, ?_⟩; k_all) | exact List.forall_mem_nil _ | (with_reducible refine allNe (by with_reducible assumption) ?_; omega))
local macro_rules | `(tactic| walk_at "binaryOp Add ref ref") => `(tactic| (k_here; (with_reducible show wpAny _ _ (binaryOp _ (Value.ref _) (Value.ref _)) _ _ _); k_dflt (refine' cat_led ?F ?N ?a ?b ?z ?_; (case F => k_asm); (case N => k_asm); (case a => k_mem); (case b => k_mem); (case z => (simp only [List.length_cons, List.length_nil]; omega))); intro D' h' F' N' l1; (try k_lt l1); (try k_sweep)))
local macro_rules | `(tactic| walk_at "call type:list") => `(tactic| (k_here; (with_reducible show wpAny _ _ (call (Value.type _) [Value.ref _]) _ _ _); k_dflt (refine' copy_led ?F ?N ?b ?z ?_; (case F => k_asm); (case N => k_asm); (case b => k_mem); (case z => omega)); intro D' c' h' F' N' l1; (try k_lt l1); (try k_sweep)))
local macro_rules | `(tactic| ktn_open) => `(tactic| repeat' (first
  | ((fail_if_success (with_reducible show wpAny _ _ (exec (Stmt.While _ _ _ _) _) _ _ _)); (fail_if_success (with_reducible show wpAny _ _ (exec (Stmt.For _ _ _ _ _) _) _ _ _)); (fail_if_success (with_reducible show wpAny _ _ (pyIter _) _ _ _)); (fail_if_success (with_reducible show wpAny _ _ (call (Value.ref _) _ _) _ _ _)); (fail_if_success (with_reducible show wpAny _ _ (eval (Expr.Lambda _ _ _ _) _) _ _ _)); (fail_if_success (with_reducible show wpAny _ _ (eval (Expr.ListComp _ _ _ _) _) _ _ _)); (fail_if_success (with_reducible show LCp.SrcLP _ _ _ _ _ _ _ _ _ _ _ _ _ _ _)); (fail_if_success (with_reducible show LCg.CompSrc _ _ _ _ _ _ _ _ _ _ _ _ _ _)); (fail_if_success (with_reducible show LCt.CompSrcT _ _ _ _ _ _ _ _ _ _ _ _ _ _ _)); (fail_if_success (with_reducible show LCg.CompEnd _ _ _ _ _ _ _ _ _ _ _ _ _ _)); first | (k_unfold; (try dsimp only)) | (k_end; wrow_close) | walk1 | (dsimp only; walk1) | (leave1; walk_say "STEP leave1"; try dsimp only))
  | fail "no step"))
section
theorem off_D1 : True := by
  k_with_none
  w_top off
  trivial

theorem rules_D11 : True := by
  k_with "eval Name" => (k_here; k_dflt (refine' nameX_L (by k_asm) (by ktn_lt) ?_ (by rfl) (by rfl); k_whole))
  k_with "loadName" => (k_here; k_dflt (refine' ldn (by k_asm) (by ktn_lt) ?_; k_whole))
  k_with "call builtin:len" => (k_here; (with_reducible show wpAny _ _ (call (Value.builtin "len") [Value.ref _]) _ _ _); k_dflt (refine' len_led (by k_asm) (by first | assumption | k_mem) (by assumption) (by omega) ?_); intro _ _)
  k_with "subscriptTail" => (k_here; (with_reducible show wpAny _ _ (subscriptTail _ _ (Value.ref _) (Value.int _ _)) _ _ _); k_dflt (refine' item_led (by k_asm) (by k_mem) (by assumption) (by omega) (by omega) (by omega) ?_ (by with_unfolding_all rfl) (by intro _; with_unfolding_all rfl)); intro _)
  k_with "subscriptTail" => (k_here; (with_reducible show wpAny _ _ (subscriptTail _ _ (Value.ref _) (Value.int (Nat.cast _) _)) _ _ _); k_dflt (refine' item_ref (by k_asm) (by k_mem) (by omega) (by omega) ?_ (by with_unfolding_all rfl) (by intro _; with_unfolding_all rfl)))
  k_with "call builtin:list.index" => (k_here; (with_reducible show wpAny _ _ (call (Value.builtin _) [Value.ref _, Value.int _ _]) _ _ _); k_dflt (refine' index_led (by k_asm) (by k_mem) (by assumption) (by assumption) (by omega) ?_))
  trivial
theorem allLt_mem {d : Addr} {l : List (Addr × Obj)} (h : AllLt d l) : ∀ p ∈ l, @LT.lt Nat _ p.1 d := by
  induction l with
  | nil => intro p hp; cases hp
  | cons q r ih =>
    intro p hp
    rcases List.mem_cons.mp hp with e | hp
    · rw [e]; exact h.1
    · exact ih h.2 p hp
theorem permD {h₀ h : Heap} {L : Addr} {a a' b b' c c' : Addr × Obj} {K : List (Addr × Obj)} {x y z t : Addr × Obj} (N : News h₀ L h (a :: a' :: b :: b' :: c :: c' :: x :: y :: z :: t :: K)) : News h₀ L h (a :: b :: c :: x :: y :: z :: t :: a' :: b' :: c' :: K) :=
  alPerm (l := K) [a, a', b, b', c, c', x, y, z, t] [0, 2, 4, 6, 7, 8, 9, 1, 3, 5] N
def stepN (ns : List Int) (m : Nat) (i : Int) (k : Nat) : Int := if (((standN ns m).idxOf i : Nat) : Int) - k < 0 then -((((standN ns m).idxOf i : Nat) : Int) - k) else (((standN ns m).idxOf i : Nat) : Int) - k
def pairN (ns : List Int) (m : Nat) : List (Int × Int) := (List.range (handN m).length).map fun k => ((handN m).getD k 0, stepN ns m ((handN m).getD k 0) k)
theorem refs_push (hs : List Addr) (d : Addr) : (refs hs).toArray.push (.ref d) = (refs (hs ++ [d])).toArray := by simp [refs]
theorem getD_snoc {hs : List Addr} {d : Addr} {k M : Nat} (h : hs.length = M) (hk : k < M + 1) : (k < M ∧ (hs ++ [d]).getD k 0 = hs.getD k 0) ∨ (k = M ∧ (hs ++ [d]).getD k 0 = d) := by
  subst h
  by_cases e : k < hs.length
  · exact .inl ⟨e, by simp [List.getElem?_append_left e]⟩
  · obtain rfl : k = hs.length := by omega
    exact .inr ⟨rfl, by simp⟩
theorem genN {h₀ h : Heap} {L : Addr} {l : List (Addr × Obj)} {P : Prop} (N : News h₀ L h l) (k : ∀ bs, bs = l → News h₀ L h bs → P) : P := k l rfl N
abbrev tupOb (vs : List Value) : Obj := { cls := .type "tuple", data := .seq vs.toArray }
inductive LInts (G : List (Addr × Obj)) (a : Addr) (ns : List Int) : Prop
  | intro (vs : List Value) (e : Nat) (m : (a, listOf vs.toArray e) ∈ G) (i : IntsAre vs ns)
inductive LPairs (G : List (Addr × Obj)) (a : Addr) (ps : List (Int × Int)) : Prop
  | intro (ts : List Addr) (e : Nat) (m : (a, listOf (refs ts).toArray e) ∈ G) (hl : ts.length = ps.length) (h : ∀ k, k < ps.length → ∃ t1 t2, (ts.getD k 0, tupOb [.int (ps.getD k (0, 0)).1 t1, .int (ps.getD k (0, 0)).2 t2]) ∈ G)
theorem LInts.mono {G G' : List (Addr × Obj)} {a : Addr} {ns : List Int} (h : LInts G a ns) (s : ∀ p ∈ G, p ∈ G') : LInts G' a ns := let ⟨vs, e, m, i⟩ := h; ⟨vs, e, s _ m, i⟩
theorem LPairs.mono {G G' : List (Addr × Obj)} {a : Addr} {ns : List (Int × Int)} (h : LPairs G a ns) (s : ∀ p ∈ G, p ∈ G') : LPairs G' a ns :=
  let ⟨ts, e, m, l, i⟩ := h; ⟨ts, e, s _ m, l, fun k hk => let ⟨t1, t2, q⟩ := i k hk; ⟨t1, t2, s _ q⟩⟩
abbrev lamQ : Str := ((("_law_dealt" : Str) ++ (".<locals>." : Str)) ++ ("<lambda>" : Str))
theorem pair_get (ns : List Int) (m : Nat) {k : Nat} (hk : k < (handN m).length) : (pairN ns m).getD k (0, 0) = ((handN m).getD k 0, stepN ns m ((handN m).getD k 0) k) := by
  simp [pairN, hk]
theorem pair_len (ns : List Int) (m : Nat) : (pairN ns m).length = (handN m).length := by simp [pairN]
theorem off1_mem {D : Addr} : ∀ (l : List (Addr × Obj)), LCg.Off1 D l → ∀ p ∈ l, @Ne Nat p.1 D := by
  intro l
  induction l with
  | nil => intro _ p hp; cases hp
  | cons q r ih =>
    intro h p hp
    rcases List.mem_cons.mp hp with e | hp
    · rw [e]; exact h.1
    · exact ih h.2 p hp
theorem compEnd_tup {h₀ : Heap} {L I C D d : Addr} {m : Str → Option Value} {s₁ : Shared} {oI oC oD o : Obj} {rest : Value → List (Addr × Obj) → Prop} {y : Value} {h' : Heap} {tk : Nat} {a b c e : Addr × Obj} {T bs : List (Addr × Obj)}
    (F : Fr h₀ L h' m) (N : News h₀ L h' ((d, o) :: (I, oI) :: (C, oC) :: (D, oD) :: a :: b :: c :: e :: (T ++ bs))) (off : LCg.Off3 I C D (a :: b :: c :: e :: (T ++ bs))) (l : @LT.lt Nat _ I d ∧ @LT.lt Nat _ C d ∧ @LT.lt Nat _ D d)
    (r : rest y (a :: b :: c :: e :: ((d, o) :: T ++ bs))) : LCg.CompEnd h₀ L m s₁ I oI C oC D oD (fun _ => True) rest y { s₁ with heap := h', toks := tk } := by
  have hoff := LCg.Off3.mem off
  refine LCg.CompEnd.intro F N (a :: b :: c :: e :: ((d, o) :: T ++ bs)) (fun p hp => ?_) (LCg.Off3.of fun p hp => ?_) trivial r
  · exact (alCat (l := [(I, oI), (C, oC), (D, oD), a, b, c, e]) (alPick (P := (· ∈ [(d, o), (I, oI), (C, oC), (D, oD), a, b, c, e] ++ (T ++ bs))) (fun p hp => List.mem_append_left _ hp) [1, 2, 3, 4, 5, 6, 7])
      (List.forall_mem_cons.mpr ⟨.head _, fun p hp => List.mem_append_right [(d, o), (I, oI), (C, oC), (D, oD), a, b, c, e] hp⟩) : ∀ p ∈ (I, oI) :: (C, oC) :: (D, oD) :: a :: b :: c :: e :: ((d, o) :: T ++ bs), p ∈ (d, o) :: (I, oI) :: (C, oC) :: (D, oD) :: a :: b :: c :: e :: (T ++ bs)) p hp
  · exact alCat (l := [a, b, c, e]) (alLft (l := [a, b, c, e]) hoff) (List.forall_mem_cons.mpr ⟨⟨Nat.ne_of_gt l.1, Nat.ne_of_gt l.2.1, Nat.ne_of_gt l.2.2⟩, alRgt (l := [a, b, c, e]) hoff⟩) p hp
theorem arrange {h₀ h : Heap} {L : Addr} {dd c3 c2 d2 d1 f d2' d1' l1 i2 i1 ld ll lh c3' c2' c1 t : Addr × Obj} {T G : List (Addr × Obj)} {P : Prop}
    (N : News h₀ L h (dd :: c3 :: c2 :: d2 :: d1 :: (T ++ (f :: d2' :: d1' :: l1 :: i2 :: i1 :: ld :: ll :: lh :: c3' :: c2' :: c1 :: t :: G))))
    (k : ∀ G₂, G₂ = dd :: d2 :: d1 :: (T ++ G) → News h₀ L h (i2 :: i1 :: ld :: ll :: lh :: c3' :: c2' :: c1 :: t :: G₂) → P) : P := by
  have B := alRgt (l := [dd, c3, c2, d2, d1]) N
  have D := alRgt (l := T) B
  have A : ∀ p ∈ [i2, i1, ld, ll, lh, c3', c2', c1, t], _ := alPick (alLft (l := [f, d2', d1', l1, i2, i1, ld, ll, lh, c3', c2', c1, t]) D) [4, 5, 6, 7, 8, 9, 10, 11, 12]
  have C : ∀ p ∈ [dd, d2, d1], _ := alPick (alLft (l := [dd, c3, c2, d2, d1]) N) [0, 3, 4]
  exact k _ rfl (alCat A (alCat C (alCat (alLft (l := T) B) (alRgt (l := [f, d2', d1', l1, i2, i1, ld, ll, lh, c3', c2', c1, t]) D))))
theorem offG2 {d Dd D₁ D₂ : Nat} {o od o1 o2 : Obj} {a b c e : Addr × Obj} {T bs G : List (Addr × Obj)} (hm : ((d : Addr), o) ∈ bs) (ho : ∀ p ∈ a :: b :: c :: e :: (T ++ bs), @Ne Nat p.1 Dd) (h2 : D₂ ≠ d) (h1 : D₁ ≠ d)
    (hT : ∀ q ∈ T, ∀ p ∈ bs, @LT.lt Nat _ p.1 q.1) (hG : ∀ q ∈ G, @Ne Nat q.1 d) : ∀ q ∈ ((Dd : Addr), od) :: ((D₂ : Addr), o2) :: ((D₁ : Addr), o1) :: (T ++ G), @Ne Nat q.1 d := by
  intro q hq
  rcases List.mem_cons.mp hq with e | hq
  · rw [e]
    exact (ho _ (.tail _ (.tail _ (.tail _ (.tail _ (List.mem_append_right _ hm)))))).symm
  · rcases List.mem_cons.mp hq with e | hq
    · rw [e]; exact h2
    · rcases List.mem_cons.mp hq with e | hq
      · rw [e]; exact h1
      · rcases List.mem_append.mp hq with hq | hq
        · exact Nat.ne_of_gt (hT q hq _ hm)
        · exact hG q hq
structure DL (ns : List Int) (l : Addr) (K : List (Addr × Obj)) (c : Addr) (M : Nat) (lh ll ld : Addr) (hs ls ds : List Addr) (o1 o2 o3 : Obj) (ps : Array Value) (G Gn : List (Addr × Obj)) : Prop where
  d1 : o1.data = .cell (some (.ref l))
  d2 : ∃ v, o2.data = .cell v
  d3 : ∃ v, o3.data = .cell v
  lt : @LT.lt Nat _ 96 c ∧ @LT.lt Nat _ (c + 1 + 1 + 1) lh ∧ @LT.lt Nat _ lh ll ∧ @LT.lt Nat _ ll ld
  gd : ∀ p ∈ G, @Ne Nat p.1 ld
  gl : ∀ p ∈ G, @Ne Nat p.1 ll
  gh : ∀ p ∈ G, @Ne Nat p.1 lh
  g3 : ∀ p ∈ G, @Ne Nat p.1 (c + 1 + 1 + 1)
  g2 : ∀ p ∈ G, @Ne Nat p.1 (c + 1 + 1)
  g1 : ∀ p ∈ G, @Ne Nat p.1 (c + 1)
  gt : ∀ p ∈ G, @Ne Nat p.1 96
  kg : G = Gn ++ K
  kf : ∀ q ∈ Gn, ∀ p ∈ K, @Ne Nat q.1 p.1
  hl : hs.length = M
  hl' : ls.length = M
  hl'' : ds.length = M
  hh : ∀ k, k < M → LInts G (hs.getD k 0) (handN k)
  hs : ∀ k, k < M → LInts G (ls.getD k 0) (standN ns k)
  hd : ∀ k, k < M → LPairs Gn (ds.getD k 0) (pairN ns k)
  tab : TabIs ⟨122, 43, 122, 59⟩ lamQ ps G
inductive dlJ (g₀ : Array GenState) (ns : List Int) (l : Addr) (K : List (Addr × Obj)) (c : Addr) (M : Nat) (m : Str → Option Value) : List (Addr × Obj) → Array GenState → Prop
  | mk (lh ll ld : Addr) (hs ls ds : List Addr) (eh el ed : Nat) (o1 o2 o3 : Obj) (ps : Array Value) (G Gn : List (Addr × Obj)) (mh : m "hands" = some (.ref lh)) (ml : m "laid" = some (.ref ll)) (md : m "dealt" = some (.ref ld))
      (D : DL ns l K c M lh ll ld hs ls ds o1 o2 o3 ps G Gn) : dlJ g₀ ns l K c M m ((ld, listOf (refs ds).toArray ed) :: (ll, listOf (refs ls).toArray el) :: (lh, listOf (refs hs).toArray eh) :: (c + 1 + 1 + 1, o3) :: (c + 1 + 1, o2) :: (c + 1, o1) :: (96, tabObj ps) :: G) g₀
inductive dlJ2 (g₀ : Array GenState) (ns : List Int) (l : Addr) (K : List (Addr × Obj)) (c : Addr) (I : Addr) (oI : Obj) (i : Nat) (t : Tok) (M : Nat) (m : Str → Option Value) : List (Addr × Obj) → Array GenState → Prop
  | mk (lh ll ld : Addr) (hs ls ds : List Addr) (eh el ed : Nat) (o1 o2 o3 : Obj) (ps : Array Value) (G Gn : List (Addr × Obj)) (mh : m "hands" = some (.ref lh)) (ml : m "laid" = some (.ref ll)) (md : m "dealt" = some (.ref ld))
      (D : DL ns l K c M lh ll ld hs ls ds o1 o2 o3 ps G Gn)
      (hn : ∀ p ∈ (ld, listOf (refs ds).toArray ed) :: (ll, listOf (refs ls).toArray el) :: (lh, listOf (refs hs).toArray eh) :: (c + 1 + 1 + 1, o3) :: (c + 1 + 1, o2) :: (c + 1, o1) :: (96, tabObj ps) :: G, @Ne Nat p.1 I)
      (mi : m "i" = some (.int (i : Int) t)) : dlJ2 g₀ ns l K c I oI i t M m ((I, oI) :: (ld, listOf (refs ds).toArray ed) :: (ll, listOf (refs ls).toArray el) :: (lh, listOf (refs hs).toArray eh) :: (c + 1 + 1 + 1, o3) :: (c + 1 + 1, o2) :: (c + 1, o1) :: (96, tabObj ps) :: G) g₀
theorem ne8 {I : Nat} {a b c d e f g : Addr × Obj} {G : List (Addr × Obj)} {P : Prop} (h : ∀ p ∈ a :: b :: c :: d :: e :: f :: g :: G, @Ne Nat p.1 I)
    (k : @Ne Nat a.1 I → @Ne Nat b.1 I → @Ne Nat c.1 I → @Ne Nat d.1 I → @Ne Nat e.1 I → @Ne Nat f.1 I → @Ne Nat g.1 I → (∀ p ∈ G, @Ne Nat p.1 I) → P) : P := by
  simp only [List.forall_mem_cons] at h
  exact k h.1 h.2.1 h.2.2.1 h.2.2.2.1 h.2.2.2.2.1 h.2.2.2.2.2.1 h.2.2.2.2.2.2.1 h.2.2.2.2.2.2.2
theorem ne9 {I : Nat} {z a b c d e f g : Addr × Obj} {G : List (Addr × Obj)} {P : Prop} (h : ∀ p ∈ z :: a :: b :: c :: d :: e :: f :: g :: G, @Ne Nat p.1 I)
    (k : @Ne Nat z.1 I → @Ne Nat a.1 I → @Ne Nat b.1 I → @Ne Nat c.1 I → @Ne Nat d.1 I → @Ne Nat e.1 I → @Ne Nat f.1 I → @Ne Nat g.1 I → (∀ p ∈ G, @Ne Nat p.1 I) → P) : P :=
  ne8 (fun p hp => h p (.tail _ hp)) (k (h z (.head _)))
theorem dealt_spec {w : World} {l : Addr} {vs : List Value} {ns : List Int} {e : Nat} {p : Program} {loose : List Str} {mean : ExcName → Option Value} {mg mb : Str → Option Value} {K : List (Addr × Obj)} {dp un : Nat} {gd : Option (List Code)} {cn : Str} {nm : List (Str × NameKind)} {ig ic : Bool} {mo : List (Str × Const)} {a : Addr} {ccd : Value} {cl : List (Str × Addr)} {outer : List Env} {A₀ : Around} {base h₀ : Heap} {L : Addr} {m : Str → Option Value} {s : Shared} {Q E : Value → Shared → Prop}
   (B : Below A₀ base outer h₀) (F : Fr h₀ L s.heap m) (X : (hd.heap_39 w.params).In h₀) (N : News h₀ L s.heap ((96, tabObj #[]) :: K)) (hK : ∀ p ∈ K, @Ne Nat p.1 96) (T : Top p loose mean mg mb h₀)
   (CH : CodeHd base 98 96) (hd' : dp + 6 < recursionLimit) (hl : (l, listOf vs.toArray e) ∈ K) (hi : IntsAre vs ns) (hlen : ns.length = 5)
   (hQ : ∀ ld ds ed ps Gn h' tk', Fr h₀ L h' m → News h₀ L h' ((ld, listOf (refs ds).toArray ed) :: (96, tabObj ps) :: (Gn ++ K)) → (∀ q ∈ Gn ++ K, @Ne Nat q.1 96) → (∀ q ∈ Gn ++ K, @Ne Nat q.1 ld) → @LT.lt Nat _ 96 ld → (∀ q ∈ Gn, ∀ p ∈ K, @Ne Nat q.1 p.1) →
     ds.length = 32 → (∀ k, k < 32 → LPairs Gn (ds.getD k 0) (pairN ns k)) → Q (.ref ld) { s with heap := h', toks := tk' }) :
      wpAny (model PySem.Challenge.rw_ux0014_01.row.prog w) (cTop dp un gd cn nm ig ic mo L a ccd cl outer) (call (.ref 99) [.ref l]) Q E s := by
  refine wpAny_call ?_
  k_dflt k_enter
  rename_i g' L' h' tk₁ FG' F' B' X' T' l1 o₃ o₂ o₁ dd3 dd2 dd1 N'
  have hKc := allLt_mem l1.2
  have d1 : o₁.data = .cell (some (.ref l)) := dd1
  have d2 : o₂.data = .cell none := dd2
  have d3 : o₃.data = .cell none := dd3
  clear dd1 dd2 dd3
  ktn_open
  refine wpAny_For ?_ (fun _ => rfl)
  ktn_open
  refine iter_rng0 (env := envOfC _ _ L' _ _) (n := 5) (fun i m nw gs => dlJ s.gens ns l K L' (2 ^ i) m nw gs) rfl (by assumption) (permD (by assumption)) (by assumption) rfl (by decide) rfl rfl ?_ ?_ ?_
  · refine ⟨_, _, _, [_], [_], [_], 0, 0, 0, _, _, _, _, _, _ :: _ :: _ :: [], by ktn_lt, by ktn_lt, by ktn_lt, { d1 := d1, d2 := ⟨_, d2⟩, d3 := ⟨_, d3⟩, lt := by omega, gd := by k_all, gl := by k_all, gh := by k_all, g3 := by k_all, g2 := by k_all, g1 := by k_all, gt := ?_, kg := rfl, kf := ?kf, hl := rfl, hl' := rfl, hl'' := rfl, hh := ?_, hs := ?_, hd := ?_, tab := .inl rfl }⟩
    case kf =>
      intro q hq p hp
      have hpc := hKc p hp
      simp only [List.mem_cons, List.not_mem_nil, or_false] at hq
      rcases hq with rfl | rfl | rfl <;> (refine neN ?_; dsimp only; omega)
    · refine List.forall_mem_cons.mpr ⟨by k_ne, List.forall_mem_cons.mpr ⟨by k_ne, List.forall_mem_cons.mpr ⟨by k_ne, hK⟩⟩⟩
    · intro k hk
      obtain rfl : k = 0 := by omega
      exact ⟨[], 0, .tail _ (.tail _ (.head _)), .nil⟩
    · intro k hk
      obtain rfl : k = 0 := by omega
      exact ⟨[], 0, .tail _ (.head _), .nil⟩
    · intro k hk
      obtain rfl : k = 0 := by omega
      exact ⟨[], 0, .head _, rfl, fun k hk => nomatch hk⟩
  · rintro I i t m _ h tk _ oI hi5 ⟨lh, ll, ld, hs, ls, ds, eh, el, ed, o1, o2, o3, ps, G, Gn, mh, ml, md, D⟩ hn F₂ N₂
    refine genQ fun Q₁ hQ₁ => ?_
    dsimp only [envOfC] at F₂ N₂
    ktn_open
    refine wpAny_For ?_ (fun _ => rfl)
    ktn_open
    have h2i : 2 ^ i ≤ 16 := Nat.pow_le_pow_right (by decide) (show i ≤ 4 by omega)
    refine iter_rng0 (env := envOfC _ _ L' _ _) (n := 2 ^ i) (fun j m' nw' gs' => dlJ2 s.gens ns l K L' I oI i t (2 ^ i + j) m' nw' gs') rfl (by assumption) (by assumption) (by assumption) (by simp) (by omega) rfl rfl ?_ ?_ ?_
    · exact ⟨lh, ll, ld, hs, ls, ds, eh, el, ed, o1, o2, o3, ps, G, Gn, by ktn_lt, by ktn_lt, by ktn_lt, D, hn, by ktn_lt⟩
    · clear D mh ml md
      rintro I₂ j t₂ m₂ _ h tk _ oI₂ hj ⟨lh, ll, ld, hs, ls, ds, eh, el, ed, o1, o2, o3, ps, G, Gn, mh, ml, md, D, hnI, mi⟩ hnI₂ F₂ N₂
      refine genQ fun Q₂ hQ₂ => ?_
      dsimp only [envOfC] at F₂ N₂
      have hhl := D.hl
      have hll := D.hl'
      have hdl := D.hl''
      obtain ⟨hv, he, hvm, hvi⟩ := D.hh j (by omega)
      obtain ⟨sv, se, svm, svi⟩ := D.hs j (by omega)
      obtain ⟨v2, d2⟩ := D.d2
      obtain ⟨v3, d3⟩ := D.d3
      have hvl : hv.length ≤ 5 := by
        rw [hvi.length]
        exact Nat.le_trans (by rw [handN, List.length_map]; exact List.length_filter_le _ _) (by simp)
      have svl : sv.length ≤ 5 := by rw [svi.length]; exact stand_len ns j
      have gd := D.gd
      have gl := D.gl
      have gh := D.gh
      have g1 := D.g1
      have g2 := D.g2
      have g3 := D.g3
      have gt := D.gt
      have glt := D.lt
      refine ne8 hnI fun i1 i2 i3 i4 i5 i6 i7 gI => ?_
      refine ne9 hnI₂ fun i0 k1 k2 k3 k4 k5 k6 k7 gI₂ => ?_
      clear hnI hnI₂
      ktn_open
      rename_i l₁ h₁ la D₁ h₂ lb h₃ o₄ dd₄ tk₁ D₂ c₂ h₄ lc h₅ o₅ F₃ N₃ dd₅
      refine kla_eval (by rfl) ?_
      refine' lam_any (P := 96) (c := 98) (G := G) (ps := ps) [_, _, _, _, _, _, _, _, _, _, _] ?F ?N ?T ?C ?hcd ?hE ?hG ?hp ?hcl ?h
      case F => exact F₃
      case N => exact N₃
      case T => assumption
      case C => exact CodeHd.keeps CH (Below.stays (by assumption))
      case hcd => exact rfl
      case hE => k_all
      case hG => exact gt
      case hp => exact D.tab
      case hcl => exact rfl
      intro f c' oc vc tc ctv h₆ tk₂ G' hX hcm hcd hcv htab hoff hltG hltA F₄ N₄
      dsimp only [List.cons_append, List.nil_append] at N₄
      have hGG : ∀ q ∈ G, q ∈ G' := fun q hq => by obtain ⟨X, hX, _⟩ := hX; rw [hX]; exact List.mem_append_right _ hq
      have gd' := hoff ld ⟨_, by k_mem⟩ gd
      have gl' := hoff ll ⟨_, by k_mem⟩ gl
      have gh' := hoff lh ⟨_, by k_mem⟩ gh
      have g1' := hoff (L' + 1) ⟨_, by k_mem⟩ g1
      have g2' := hoff (L' + 1 + 1) ⟨_, by k_mem⟩ g2
      have g3' := hoff (L' + 1 + 1 + 1) ⟨_, by k_mem⟩ g3
      have gt' := hoff 96 ⟨_, by k_mem⟩ gt
      have gI' := hoff I ⟨_, by k_mem⟩ gI
      have gI₂' := hoff I₂ ⟨_, by k_mem⟩ gI₂
      have gl₁ := hoff l₁ ⟨_, by k_mem⟩ fun q hq => Nat.ne_of_lt (allLt_mem la.2.2.2.2.2.2.2.2.2 q hq)
      have gD₁ := hoff D₁ ⟨_, by k_mem⟩ fun q hq => Nat.ne_of_lt (allLt_mem lb.2.2.2.2.2.2.2.2.2.2 q hq)
      have gD₂ := hoff D₂ ⟨_, by k_mem⟩ fun q hq => Nat.ne_of_lt (allLt_mem lc.2.2.2.2.2.2.2.2.2.2.2 q hq)
      simp only [List.forall_mem_cons, List.cons_append, List.nil_append] at hltA
      ktn_open
      have d1o := D.d1
      k_dflt (refine' ins_specU (ns := ns) (js := standN ns j) (vs := sv) ?B ?F ?X ?N ?T ?hd ?U svi ?hlen ?hjs ?hsort ?hfm ?hkey ?hx0 ?hx1 ?hQ)
      case B => k_asm
      case F => k_asm
      case X => k_asm
      case N => k_asm
      case T => k_asm
      case hd => simp only [depth_deeper]; omega
      case U => k_updF
      case hlen => exact Nat.le_trans (stand_len ns j) (by decide)
      case hjs => exact fun i hi => ⟨(stand_rng ns j i hi).1, by rw [hlen]; exact (stand_rng ns j i hi).2⟩
      case hsort => exact fun a b => stand_sort ns j a b
      case hfm => k_mem
      case hx0 => exact Int.natCast_nonneg i
      case hx1 => rw [hlen]; exact Int.ofNat_lt.mpr hi5
      case hkey =>
        intro p₁ loose₁ mean₁ mg₁ mb₁ nw₁ dp₁ un₁ gd₁ cn₁ nm₁ ig₁ ic₁ mo₁ a₁ ccd₁ cl₁ outer₁ A₁ base₁ hh₁ L₁ m₁ s₁ Q₁ E₁ jx tx B₁ F₁ X₁ N₁ T₁ hd₁ hs₁ hj0 hj1 hq₁
        have e1 := hs₁ _ (.head _)
        have e2 : (c', oc) ∈ nw₁ := hs₁ _ (by k_mem)
        have e3 : (L' + 1, o1) ∈ nw₁ := hs₁ _ (by k_mem)
        have e4 : (l, listOf vs.toArray e) ∈ nw₁ := by
          have e5 := hGG _ (by rw [D.kg]; exact List.mem_append_right _ hl)
          exact hs₁ _ (by k_mem)
        refine wpAny_call ?_
        k_dflt kla_enter
        ktn_open
        exact hq₁ _ _ _ (by assumption) (by assumption)
      case hQ =>
        intro r h₇ tk₃ hr hr1 hr2 F₅ N₅
        (try dsimp only at N₅)
        ktn_open
        have hvi' : IntsAre (hv ++ [Value.int i t]) (handN (2 ^ i + j)) := by rw [hand_succ hi5 hj]; exact hvi.append (.cons _ _ .nil)
        have svi' : IntsAre (sv.take r ++ Value.int i t :: sv.drop r) (standN ns (2 ^ i + j)) := by rw [stand_succ hi5 hj hr hr1 hr2]; exact (IntsAre.take svi r).append (.cons _ _ (IntsAre.drop svi r))
        have hlen₁ := hand_len (2 ^ i + j)
        have slen₁ := stand_len ns (2 ^ i + j)
        refine LCg.ListComp_U (F₀ := (by k_asm)) (by with_unfolding_all rfl) (by decide) (by rfl) (by decide) (by rfl) ?_
        ktn_open
        refine genN ‹News g' L' _ _› fun bs hbs N₆ => ?_
        have b3 : (L' + 1 + 1 + 1, o₅) ∈ bs := by rw [hbs]; k_mem
        have b2 : (L' + 1 + 1, o₄) ∈ bs := by rw [hbs]; k_mem
        have bD₂ : (D₂, listOf (sv.take r ++ Value.int i t :: sv.drop r).toArray (c₂ + 1)) ∈ bs := by rw [hbs]; k_mem
        have bD₁ : (D₁, listOf (hv ++ [Value.int i t]).toArray 0) ∈ bs := by rw [hbs]; k_mem
        refine LCg.CompSrc.range (n := (handN (2 ^ i + j)).length) rfl (by k_asm) (news := (L' + 1 + 1 + 1, o₅) :: (L' + 1 + 1, o₄) :: (D₂, listOf (sv.take r ++ Value.int i t :: sv.drop r).toArray (c₂ + 1)) :: (D₁, listOf (hv ++ [Value.int i t]).toArray 0) :: ([] ++ bs)) ?hN (by assumption) (small_one (by omega) (by omega) (by omega) (by omega)) (by rw [rangeSize_nat]; simp) (Nat.le_trans hlen₁ (by decide)) ?_
        case hN =>
          intro p hp
          simp only [List.mem_cons, List.nil_append] at hp
          rcases hp with rfl | rfl | rfl | rfl | hp
          · exact N₆ _ b3
          · exact N₆ _ b2
          · exact N₆ _ bD₂
          · exact N₆ _ bD₁
          · exact N₆ _ hp
        intro gg
        refine compRest_of (fun k ys nw => ∃ (ts : List Addr) (T : List (Addr × Obj)), ys = refs ts ∧ ts.length = k ∧ nw = (L' + 1 + 1 + 1, o₅) :: (L' + 1 + 1, o₄) :: (D₂, listOf (sv.take r ++ Value.int i t :: sv.drop r).toArray (c₂ + 1)) :: (D₁, listOf (hv ++ [Value.int i t]).toArray 0) :: (T ++ bs) ∧ (∀ q ∈ T, ∀ p ∈ bs, @LT.lt Nat _ p.1 q.1) ∧
          ∀ k', k' < k → ∃ t1 t2, (ts.getD k' 0, tupOb [.int ((pairN ns (2 ^ i + j)).getD k' (0, 0)).1 t1, .int ((pairN ns (2 ^ i + j)).getD k' (0, 0)).2 t2]) ∈ T) ?_ ?_ _ 0 [] _ rfl ⟨[], [], rfl, rfl, rfl, (fun q hq => nomatch hq), (fun k hk => nomatch hk)⟩
        · clear N₆
          rintro k ys nw v I₃ oI₃ C oC Dd mC h₈ tk₈ E' hk ⟨ts, T, rfl, hts, rfl, hTB, hT⟩ ⟨tv, rfl⟩ hC hx F₇ N₇ off ne
          simp only [Int.zero_add] at hx
          have hkm : (handN (2 ^ i + j)).getD ((k : Nat) : Int).toNat 0 ∈ standN ns (2 ^ i + j) := stand_perm ns _ _ (by rw [Int.toNat_natCast, List.getD_eq_getElem?_getD, List.getElem?_eq_getElem hk]; exact List.getElem_mem hk)
          ktn_open
          rename_i D₃ h₉ F₈ N₈ l₃
          refine compEnd_tup F₈ N₈ off ⟨l₃.1, l₃.2.1, l₃.2.2.1⟩ ⟨ts ++ [D₃], _ :: T, by simp [refs], by simp [hts], rfl, ?_, ?_⟩
          · intro q hq p hp
            rcases List.mem_cons.mp hq with e | hq
            · rw [e]
              exact allLt_mem l₃.2.2.2.2.2.2.2 p (List.mem_append_right _ hp)
            · exact hTB q hq p hp
          · intro k' hk'
            rcases getD_snoc hts hk' with ⟨h1, h2⟩ | ⟨h1, h2⟩
            · obtain ⟨t1, t2, h3⟩ := hT k' h1
              exact ⟨t1, t2, by rw [h2]; exact .tail _ h3⟩
            · subst h1
              rw [h2, pair_get ns _ hk]
              exact ⟨_, _, .head _⟩
        · rintro ys nw ⟨ts, T, rfl, hts, rfl, hTB, hT⟩
          unfold LCg.FinE
          intro Dd h₉ tk₉ F₉ N₉ o1'
          have ho := off1_mem _ o1'
          rw [hbs] at N₉
          refine arrange N₉ fun G₂ hG₂ N₁₀ => ?_
          clear N₉
          have gd₂ : ∀ q ∈ G₂, @Ne Nat q.1 ld := by rw [hG₂]; exact offG2 (o := _) (by rw [hbs]; k_mem) ho (by k_ne) (by k_ne) hTB gd'
          have gl₂ : ∀ q ∈ G₂, @Ne Nat q.1 ll := by rw [hG₂]; exact offG2 (o := _) (by rw [hbs]; k_mem) ho (by k_ne) (by k_ne) hTB gl'
          have gh₂ : ∀ q ∈ G₂, @Ne Nat q.1 lh := by rw [hG₂]; exact offG2 (o := _) (by rw [hbs]; k_mem) ho (by k_ne) (by k_ne) hTB gh'
          have g1₂ : ∀ q ∈ G₂, @Ne Nat q.1 (L' + 1) := by rw [hG₂]; exact offG2 (o := _) (by rw [hbs]; k_mem) ho (by k_ne) (by k_ne) hTB g1'
          have g2₂ : ∀ q ∈ G₂, @Ne Nat q.1 (L' + 1 + 1) := by rw [hG₂]; exact offG2 (o := _) (by rw [hbs]; k_mem) ho (by k_ne) (by k_ne) hTB g2'
          have g3₂ : ∀ q ∈ G₂, @Ne Nat q.1 (L' + 1 + 1 + 1) := by rw [hG₂]; exact offG2 (o := _) (by rw [hbs]; k_mem) ho (by k_ne) (by k_ne) hTB g3'
          have gt₂ : ∀ q ∈ G₂, @Ne Nat q.1 96 := by rw [hG₂]; exact offG2 (o := _) (by rw [hbs]; k_mem) ho (by k_ne) (by k_ne) hTB gt'
          have gI₂₁ : ∀ q ∈ G₂, @Ne Nat q.1 I := by rw [hG₂]; exact offG2 (o := _) (by rw [hbs]; k_mem) ho (by k_ne) (by k_ne) hTB gI'
          have gI₂₂ : ∀ q ∈ G₂, @Ne Nat q.1 I₂ := by rw [hG₂]; exact offG2 (o := _) (by rw [hbs]; k_mem) ho (by k_ne) (by k_ne) hTB gI₂'
          have sG' : ∀ q ∈ G', q ∈ G₂ := fun q hq => by rw [hG₂]; exact .tail _ (.tail _ (.tail _ (List.mem_append_right _ hq)))
          have sG : ∀ q ∈ G, q ∈ G₂ := fun q hq => sG' q (hGG q hq)
          have mD₁ : (D₁, listOf (hv ++ [Value.int i t]).toArray 0) ∈ G₂ := by rw [hG₂]; exact .tail _ (.tail _ (.head _))
          have mD₂ : (D₂, listOf (sv.take r ++ Value.int i t :: sv.drop r).toArray (c₂ + 1)) ∈ G₂ := by rw [hG₂]; exact .tail _ (.head _)
          obtain ⟨X, rfl, hXf⟩ := hX
          have hkg : G₂ = ((Dd, listOf (refs ts).toArray (refs ts).length) :: (D₂, listOf (sv.take r ++ Value.int i t :: sv.drop r).toArray (c₂ + 1)) :: (D₁, listOf (hv ++ [Value.int i t]).toArray 0) :: (T ++ (X ++ Gn))) ++ K := by
            rw [hG₂, D.kg]
            simp only [List.cons_append, List.append_assoc]
          have hkf : ∀ q ∈ ((Dd, listOf (refs ts).toArray (refs ts).length) :: (D₂, listOf (sv.take r ++ Value.int i t :: sv.drop r).toArray (c₂ + 1)) :: (D₁, listOf (hv ++ [Value.int i t]).toArray 0) :: (T ++ (X ++ Gn))), ∀ p ∈ K, @Ne Nat q.1 p.1 := by
            intro q hq p hp
            have hpG : p ∈ G := by rw [D.kg]; exact List.mem_append_right _ hp
            have hpb : p ∈ bs := by
              rw [hbs]
              iterate 13 (refine .tail _ ?_)
              exact List.mem_append_right _ hpG
            rcases List.mem_cons.mp hq with e | hq
            · rw [e]
              exact (ho p (.tail _ (.tail _ (.tail _ (.tail _ (List.mem_append_right _ hpb)))))).symm
            · rcases List.mem_cons.mp hq with e | hq
              · rw [e]
                exact Nat.ne_of_gt (allLt_mem lc.2.2.2.2.2.2.2.2.2.2.2 p hpG)
              · rcases List.mem_cons.mp hq with e | hq
                · rw [e]
                  exact Nat.ne_of_gt (allLt_mem lb.2.2.2.2.2.2.2.2.2.2 p hpG)
                · rcases List.mem_append.mp hq with hq | hq
                  · exact Nat.ne_of_gt (hTB q hq p hpb)
                  · rcases List.mem_append.mp hq with hq | hq
                    · exact Nat.ne_of_gt (hXf q hq p (List.mem_append_right _ (.tail _ hpG)))
                    · exact D.kf q hq p hp
          clear hTB ho o1' hbs b3 b2 bD₂ bD₁
          ktn_open
          have F₁₁ := ‹Fr g' L' _ _›
          have N₁₁ := ‹News g' L' _ _›
          simp only [refs_push] at N₁₁
          refine hQ₂ _ _ (FEnd.intro _ _ F₁₁ N₁₁ (.head _) (fun p hp => List.Mem.tail _ hp) (by k_all) ⟨lh, ll, ld, hs ++ [D₁], ls ++ [D₂], ds ++ [Dd], eh + 1, el + 1, ed + 1, o1, o₄, o₅, _, G₂, _, by ktn_lt, by ktn_lt, by ktn_lt, { d1 := d1o, d2 := ⟨_, dd₄⟩, d3 := ⟨_, dd₅⟩, lt := glt, gd := gd₂, gl := gl₂, gh := gh₂, g3 := g3₂, g2 := g2₂, g1 := g1₂, gt := gt₂, kg := hkg, kf := hkf, hl := by simp [hhl, Nat.add_assoc], hl' := by simp [hll, Nat.add_assoc], hl'' := by simp [hdl, Nat.add_assoc], hh := ?_, hs := ?_, hd := ?_, tab := TabIs.mono htab sG' }, by k_all, by ktn_lt⟩)
          · intro k hk
            rcases getD_snoc hhl hk with ⟨h1, h2⟩ | ⟨h1, h2⟩
            · rw [h2]; exact (D.hh k h1).mono sG
            · subst h1
              rw [h2]; exact ⟨_, _, mD₁, hvi'⟩
          · intro k hk
            rcases getD_snoc hll hk with ⟨h1, h2⟩ | ⟨h1, h2⟩
            · rw [h2]; exact (D.hs k h1).mono sG
            · subst h1
              rw [h2]; exact ⟨_, _, mD₂, svi'⟩
          · intro k hk
            rcases getD_snoc hdl hk with ⟨h1, h2⟩ | ⟨h1, h2⟩
            · rw [h2]
              exact (D.hd k h1).mono fun q hq => .tail _ (.tail _ (.tail _ (List.mem_append_right _ (List.mem_append_right _ hq))))
            · subst h1
              rw [h2]
              refine ⟨ts, _, .head _, by rw [pair_len]; exact hts, fun k hk => ?_⟩
              obtain ⟨t1, t2, h3⟩ := hT k (by rw [pair_len] at hk; exact hk)
              exact ⟨t1, t2, .tail _ (.tail _ (.tail _ (List.mem_append_left _ h3)))⟩
    · clear D mh ml md
      rintro m₂ _ h tk _ ⟨lh, ll, ld, hs, ls, ds, eh, el, ed, o1, o2, o3, ps, G, Gn, mh, ml, md, D, hnI, mi⟩ F₂ N₂
      dsimp only
      ktn_open
      refine hQ₁ _ _ (FEnd.intro _ _ F₂ N₂ (.head _) (fun p hp => List.Mem.tail _ hp) hnI ⟨lh, ll, ld, hs, ls, ds, eh, el, ed, o1, o2, o3, ps, G, Gn, mh, ml, md, ?_⟩)
      rw [show 2 ^ (i + 1) = 2 ^ i + 2 ^ i by rw [Nat.pow_succ]; omega]
      exact D
  · rintro m _ h tk _ ⟨lh, ll, ld, hs, ls, ds, eh, el, ed, o1, o2, o3, ps, G, Gn, mh, ml, md, D⟩ F₂ N₂
    dsimp only
    ktn_open
    have hN := ‹News h₀ L _ _›
    obtain rfl := D.kg
    refine hQ ld ds ed ps Gn _ _ (by assumption) (fun p hp => hN p ?_) D.gt D.gd (by have := D.lt; omega) D.kf D.hl'' D.hd
    rcases List.mem_cons.mp hp with rfl | hp
    · exact .head _
    · iterate 6 (refine .tail _ ?_)
      exact hp
end
section
theorem off_J1 : True := by
  k_with_none
  w_top off
  trivial
theorem cat_cps (a b : Str) : (a ++ b).cps.toList = a.cps.toList ++ b.cps.toList := Array.toList_append
theorem cps_inj {a b : Str} (h : a.cps.toList = b.cps.toList) : a = b := by
  obtain ⟨⟨a⟩⟩ := a; obtain ⟨⟨b⟩⟩ := b
  simp only at h
  rw [h]
theorem sjoin_cps : ∀ (ys : List Str), (Str.join (Str.ofString "") ys).cps.toList = (ys.map fun x => x.cps.toList).flatten
  | [] => by rfl
  | [a] => by
    show a.cps.toList = _
    simp
  | a :: b :: r => by
    have ih := sjoin_cps (b :: r)
    have e : Str.join (Str.ofString "") (a :: b :: r) = a ++ Str.ofString "" ++ Str.join (Str.ofString "") (b :: r) := by rfl
    rw [e, cat_cps, cat_cps, ih]
    have : (Str.ofString "").cps.toList = [] := by decide +kernel
    rw [this]
    simp
theorem join_cps (ys : List Str) : (Txt.join (Str.ofString "") ys).cps.toList = (ys.map fun x => x.cps.toList).flatten := by
  show (Builtin.Str.glued (Str.ofString "") ys).cps.toList = _
  rw [StrLaws.glued_eq_join]
  exact sjoin_cps ys
end
section
theorem off_T1 : True := by
  k_with_none
  w_top off
  trivial
theorem rules_T11 : True := by
  k_with "eval Name" => (k_here; k_dflt (refine' ld (by k_asm) (by ktn_lt) ?_; k_whole))
  k_with "loadName" => (k_here; k_dflt (refine' ldn (by k_asm) (by ktn_lt) ?_; k_whole))
  k_with "call builtin:len" => (k_here; (with_reducible show wpAny _ _ (call (Value.builtin "len") [Value.ref _]) _ _ _); k_dflt (refine' len_led (by k_asm) (by first | assumption | k_mem) (by assumption) (by omega) ?_); intro _ _)
  trivial
theorem compRestP_of {prog : Program} {w : World} {A : Around} {s : Shared} {env : Env} {h₀ : Heap} {L : Addr} {m : Str → Option Value} {elt : Expr} {x x₂ : Str} {scope : Scope} {cl : List (Str × Addr)} {S : List (Addr × Obj) → Prop} {P : Nat → Value → Prop} {Fin : List Value → List (Addr × Obj) → Prop} {n : Nat}
    (J : Nat → List Value → List (Addr × Obj) → Prop)
    (turn : ∀ i ys news v, i < n → J i ys news → P i v → ∃ (t : Addr) (ot : Obj) (v₁ v₂ : Value) (nt : Nat), v = .ref t ∧ (t, ot) ∈ news ∧ ot.cls = .type "tuple" ∧ ot.data = .seq #[v₁, v₂] nt ∧
      ∀ I oI C oC D m₂ h tk (E' : Value → Shared → Prop), LCg.NsObj oC m₂ → m₂ x = some v₁ → m₂ x₂ = some v₂ → Fr h₀ L h m → News h₀ L h ((I, oI) :: (C, oC) :: (D, LCg.lst ys) :: news) → LCg.Off3 I C D news → ((@Ne Nat I C) ∧ (@Ne Nat I D) ∧ (@Ne Nat C D)) →
      wpAny (model prog w) A (eval elt (compEnvC scope cl C env)) (LCg.CompEnd h₀ L m { s with heap := h, toks := tk } I oI C oC D (LCg.lst ys) S (fun y news' => J (i + 1) (ys ++ [y]) news')) E' { s with heap := h, toks := tk })
    (fin : ∀ ys news, J n ys news → Fin ys news) : ∀ k i ys news, k + i = n → J i ys news → LCp.CompRestP prog w A h₀ L m env elt x x₂ scope cl s S P Fin k i ys news
  | 0, i, ys, news, e, h => LCp.CompRestP.zero (fin ys news (by rw [Nat.zero_add] at e; rw [← e]; exact h))
  | k + 1, i, ys, news, e, h => LCp.CompRestP.succ fun v hP =>
      let ⟨t, ot, v₁, v₂, nt, a, b, c, d, g⟩ := turn i ys news v (by omega) h hP
      ⟨t, ot, v₁, v₂, nt, a, b, c, d, fun I oI C oC D m₂ h' tk E' hC h1 h2 F N off ne => wpAny_mono (g I oI C oC D m₂ h' tk E' hC h1 h2 F N off ne)
        (fun y s₂ ⟨h₂, tk₂, news', e₂, F₂, N₂, off₂, hS, hJ⟩ => ⟨h₂, tk₂, news', e₂, F₂, N₂, off₂, hS, compRestP_of J turn fin k (i + 1) (ys ++ [y]) news' (by omega) hJ⟩) fun _ _ e => e⟩
theorem compEnd_same {h₀ : Heap} {L I C D : Addr} {m : Str → Option Value} {s₁ : Shared} {oI oC oD : Obj} {S : List (Addr × Obj) → Prop} {rest : Value → List (Addr × Obj) → Prop} {y : Value} {h' : Heap} {tk : Nat} {nw : List (Addr × Obj)}
    (F : Fr h₀ L h' m) (N : News h₀ L h' ((I, oI) :: (C, oC) :: (D, oD) :: nw)) (off : LCg.Off3 I C D nw) (hS : S nw) (r : rest y nw) : LCg.CompEnd h₀ L m s₁ I oI C oC D oD S rest y { s₁ with heap := h', toks := tk } :=
  LCg.CompEnd.intro F N nw (fun p hp => hp) off hS r
theorem app_cps (a b : Str) : (a ++ b).cps.toList = a.cps.toList ++ b.cps.toList := Array.toList_append
theorem bs_cps : (PySem.Str.ofString "\\") = ⟨#[92]⟩ := by rfl
def textP (q : Int × Int) : List Nat := if q.1 < 3 then List.replicate q.2.toNat 92 ++ [40, 41] else [40, 40] ++ List.replicate q.2.toNat 92 ++ [41, 41]
theorem sum_len : ∀ (ps : List (Int × Int)), (∀ k, k < ps.length → 0 ≤ (ps.getD k (0, 0)).2 ∧ (ps.getD k (0, 0)).2 ≤ 5) → (((ps.map textP).map List.length).sum ≤ 9 * ps.length)
  | [], _ => by simp
  | q :: r, h => by
    have h0 := h 0 (by simp)
    have ih := sum_len r fun k hk => by simpa using h (k + 1) (by simpa using hk)
    have e : (textP q).length ≤ 9 := by
      have h1 : q.2 ≤ 5 := h0.2
      unfold textP
      split <;> simp <;> omega
    simp only [List.map_cons, List.sum_cons, List.length_cons]
    omega
theorem len_map (ss : List Str) : ss.map (·.length) = (ss.map fun x => x.cps.toList).map List.length := by
  rw [List.map_map]
  apply List.map_congr_left
  intro a _
  exact (Array.length_toList (xs := a.cps)).symm
theorem text_spec {w : World} {l : Addr} {ps : List (Int × Int)} {p : Program} {loose : List Str} {mean : ExcName → Option Value} {mg mb : Str → Option Value} {news : List (Addr × Obj)} {dp un : Nat} {gd : Option (List Code)} {cn : Str} {nm : List (Str × NameKind)} {ig ic : Bool} {mo : List (Str × Const)} {a : Addr} {ccd : Value} {cl : List (Str × Addr)} {outer : List Env} {A₀ : Around} {base h₀ : Heap} {L : Addr} {m : Str → Option Value} {s : Shared} {Q E : Value → Shared → Prop}
   (B : Below A₀ base outer h₀) (F : Fr h₀ L s.heap m) (X : (hd.heap_39 w.params).In h₀) (N : News h₀ L s.heap news) (T : Top p loose mean mg mb h₀)
   (hd' : dp + 3 < recursionLimit) (hl : LPairs news l ps) (hlen5 : ps.length ≤ 5) (hps : ∀ k, k < ps.length → 0 ≤ (ps.getD k (0, 0)).2 ∧ (ps.getD k (0, 0)).2 ≤ 5)
   (hQ : ∀ (r : Str) t' h' tk', r.cps.toList = (ps.map textP).flatten → Fr h₀ L h' m → News h₀ L h' news → Q (.str r t') { s with heap := h', toks := tk' }) :
      wpAny (model PySem.Challenge.rw_ux0014_01.row.prog w) (cTop dp un gd cn nm ig ic mo L a ccd cl outer) (call (.ref 104) [.ref l]) Q E s := by
  refine wpAny_call ?_
  k_dflt k_enter
  rename_i g' L' h' FG' F' N' B' X' T'
  ktn_open
  refine LCp.ListComp_P (F₀ := (by k_asm)) (by with_unfolding_all rfl) (by decide) (by rfl) (by decide) (by rfl) (by rfl) (by decide) ?_
  ktn_open
  obtain ⟨ts, e, hm, hlen, hts⟩ := hl
  refine LCp.SrcLP.ledger rfl (by k_asm) (by k_asm) hm ?hsz ?_
  case hsz => exact Nat.le_trans (m := 1000) (by simp [hlen]; omega) (by decide)
  intro gg
  refine compRestP_of (fun i ys nw => nw = news ∧ ∃ ss : List Str, StrsAre ys ss ∧ ss.map (fun x => x.cps.toList) = (ps.take i).map textP) ?_ ?_ _ 0 [] _ rfl ⟨rfl, [], .nil, rfl⟩
  · rintro i ys nw v hi ⟨rfl, ss, hss, htx⟩ hv
    have hik : i < ps.length := by simpa [hlen] using hi
    have hit : i < ts.length := by omega
    have hst := hps i hik
    obtain ⟨t1, t2, htm⟩ := hts i hik
    have e0 : v = .ref (ts.getD i 0) := by
      have : (refs ts)[i]? = some (.ref (ts.getD i 0)) := by simp [refs, hit]
      rw [show (refs ts).toArray[i]? = (refs ts)[i]? by simp, this] at hv
      exact (Option.some.inj hv).symm
    refine ⟨_, _, _, _, _, e0, htm, rfl, rfl, ?_⟩
    intro I oI C oC D m₂ h tk E' hC hx1 hx2 F₁ N₁ off ne
    refine genQ fun Q₂ hQ₂ => ?_
    have hpi : ps.getD i (0, 0) = ps[i] := by rw [List.getD_eq_getElem?_getD, List.getElem?_eq_getElem hik]; rfl
    have htk : (ps.take (i + 1)).map textP = (ps.take i).map textP ++ [textP (ps.getD i (0, 0))] := by
      rw [List.take_add_one, List.getElem?_eq_getElem hik, List.map_append, hpi]
      rfl
    ktn_open
    · refine hQ₂ _ _ (compEnd_same F₁ N₁ off (.inr ⟨_, hm, rfl, _, rfl⟩) ⟨rfl, ss ++ [_], StrsAre.append' hss (.cons _ _ .nil), ?_⟩)
      rw [htk, List.map_append, htx]
      have e1 : (ps.getD i (0, 0)).1 < 3 := by assumption
      have e2 := mul_one_list 92 (ps.getD i (0, 0)).2
      simp only [List.map_cons, List.map_nil, textP, if_pos e1]
      rw [← e2, app_cps]
      rfl
    · refine hQ₂ _ _ (compEnd_same F₁ N₁ off (.inr ⟨_, hm, rfl, _, rfl⟩) ⟨rfl, ss ++ [_], StrsAre.append' hss (.cons _ _ .nil), ?_⟩)
      rw [htk, List.map_append, htx]
      have e1 : ¬ (ps.getD i (0, 0)).1 < 3 := by assumption
      have e2 := mul_one_list 92 (ps.getD i (0, 0)).2
      simp only [List.map_cons, List.map_nil, textP, if_neg e1]
      rw [← e2, app_cps, app_cps]
      rfl
  · rintro ys nw ⟨rfl, ss, hss, htx⟩
    rw [List.size_toArray, List.length_map, hlen, Nat.add_zero, List.take_length] at htx
    unfold LCg.FinE
    intro Dd h₂ tk₂ F₂ N₂ o1
    have hsl : ss.length = ps.length := by
      have := congrArg List.length htx
      simpa using this
    have hw : (ss.map (·.length)).sum + ss.length ≤ 1048576 := by
      have h1 := sum_len ps hps
      rw [len_map, htx]
      omega
    have hlj : (Dd, listOf ys.toArray ys.length) ∈ (Dd, LCg.lst ys) :: nw := .head _
    ktn_open
    k_dflt (refine' join_listW (News.isList (by k_asm) (by k_mem)) (by simpa using hss) (by decide) hw ?_)
    intro t' k
    ktn_open
    exact hQ _ _ _ _ (by rw [join_cps, htx]) (by k_asm) (tlN (by k_asm))
end
section
theorem off_W0 : True := by
  k_with_none
  w_top off
  trivial
/-- law's own body and scope, by reference to the program -/
def lawSB : List Stmt × Scope := match PySem.Challenge.pw_ux0014_01.main.body.getLast? with
  | some (.FunctionDef _ _ b _ _ _ sc _ _ _) => (b, sc)
  | _ => ([], ⟨.module, [], false, false, []⟩)
def lawSt (k : Nat) : Stmt := lawSB.1.getD k (.Pass ⟨0, 0, 0, 0⟩)
abbrev lawEnv (L fa : Addr) (cd : Value) : Env := envOfC "law" lawSB.2 L fa cd
structure LR (rw : List Int) (odd : Int) (L ld : Nat) (R : List (Addr × Obj)) : Prop where
  ld : ∃ ds ed, (ld, listOf (refs ds).toArray ed) ∈ R ∧ ds.length = 32 ∧ ∀ k, k < 32 → LPairs R (ds.getD k 0) (pairN rw k)
  row : ∃ o D vs e, (L + 1, o) ∈ R ∧ o.data = .cell (some (.ref D)) ∧ (D, listOf vs.toArray e) ∈ R ∧ IntsAre vs rw
  odd : ∃ o t, (L + 1 + 1, o) ∈ R ∧ o.data = .cell (some (.int odd t))
  tab : ∃ ps, (96, tabObj ps) ∈ R
section
variable {prog : Program} {w : World} {A : Around} {E : Value → Shared → Prop} {s : Shared} {n a : Int} {t u : Tok} {Q : Value → Shared → Prop}
theorem pow2_k (h0 : 0 ≤ n) (h1 : n < 5) (h : Q (.int ((2 : Int) ^ n.toNat) s.toks) { s with toks := s.toks + 1 }) : wpAny (model prog w) A (binaryOp .Pow (.int 2 t) (.int n u)) Q E s :=
  pow_int_small h0 (by omega) (by decide) h
theorem fdiv2_k (h1 : n < 5) (h : Q (.int (a.fdiv ((2 : Int) ^ n.toNat)) s.toks) { s with toks := s.toks + 1 }) : wpAny (model prog w) A (binaryOp .FloorDiv (.int a t) (.int ((2 : Int) ^ n.toNat) u)) Q E s :=
  floordiv_int (Int.ne_of_gt (Int.pow_pos (by decide))) h (Or.inl (PyProof.noPylong_of_log2 (kbt_py (by omega))))
end
theorem pair_bounds (ns : List Int) (m : Nat) {k : Nat} (hk : k < (pairN ns m).length) : 0 ≤ ((pairN ns m).getD k (0, 0)).1 ∧ ((pairN ns m).getD k (0, 0)).1 < 5 ∧ 0 ≤ ((pairN ns m).getD k (0, 0)).2 ∧ ((pairN ns m).getD k (0, 0)).2 ≤ 5 := by
  rw [pair_len] at hk
  rw [pair_get ns m hk]
  have h1 : (handN m).getD k 0 ∈ handN m := by
    rw [List.getD_eq_getElem?_getD, List.getElem?_eq_getElem hk]
    exact List.getElem_mem hk
  have h2 := hand_rng m _ h1
  have h3 := stand_len ns m
  have h4 : (standN ns m).idxOf ((handN m).getD k 0) ≤ (standN ns m).length := List.idxOf_le_length
  have h5 := hand_len m
  refine ⟨h2.1, h2.2, ?_, ?_⟩ <;> (show _; dsimp only; unfold stepN; split <;> omega)
end
section
theorem off_X1 : True := by
  k_with_none
  w_top off
  trivial
def segN (odd : Int) (q : Int × Int) : List Nat := List.replicate (q.2 + odd).toNat 34 ++ [97 + q.1.toNat]
def bodyN (odd : Int) (ps : List (Int × Int)) (m : Nat) : List Nat := (ps.map (segN odd)).flatten ++ ([122, 34] ++ if m % 2 = 1 then [32, 34, 34] else [])
/-- the pairs that a hand's reply can hold -/
def POk (odd : Int) (ps : List (Int × Int)) : Prop := ∀ q ∈ ps, 0 ≤ q.1 ∧ q.1 < 5 ∧ 0 ≤ q.2 + odd ∧ q.2 ≤ 5
theorem prs_two : ∀ (k : Nat) (l : List Nat), prs (List.replicate (2 * k) 34 ++ l) = List.replicate k 34 ++ prs l
  | 0, l => by simp
  | k + 1, l => by
    have ih := prs_two k l
    rw [show 2 * (k + 1) = 2 * k + 1 + 1 by omega, List.replicate_succ, List.replicate_succ, List.replicate_succ]
    simp only [List.cons_append]
    rw [prs]
    simp only [if_true]
    rw [ih]
theorem prs_odd (k c : Nat) (l : List Nat) (hc : c ≠ 34) : prs (List.replicate (2 * k + 1) 34 ++ c :: l) = List.replicate k 34 := by
  rw [List.replicate_succ', List.append_assoc, prs_two]
  simp [prs, hc]
theorem prs_even (k c : Nat) (l : List Nat) (hc : c ≠ 34) : prs (List.replicate (2 * k) 34 ++ c :: l) = List.replicate k 34 ++ c :: prs l := by
  rw [prs_two]
  congr 1
  conv => lhs; unfold prs
  simp [hc]
theorem prs_len : ∀ (n : Nat) (l : List Nat), l.length ≤ n → (prs l).length ≤ l.length
  | _, [], _ => by simp [prs]
  | 0, _ :: _, h => by simp at h
  | n + 1, c :: r, h => by
    have h' : r.length ≤ n := by simpa using h
    unfold prs
    split
    · cases r with
      | nil => simp
      | cons e r' =>
        have ih := prs_len n r' (by simp at h'; omega)
        dsimp only
        split
        · simp only [List.length_cons]; omega
        · simp
    · have ih := prs_len n r h'
      simp only [List.length_cons]; omega
theorem dbl_rep : ∀ (k : Nat), StrLaws.dbl 34 (List.replicate k 34) = List.replicate (2 * k) 34
  | 0 => rfl
  | k + 1 => by
    rw [show 2 * (k + 1) = 2 * k + 1 + 1 by omega, List.replicate_succ, List.replicate_succ, List.replicate_succ, StrLaws.dbl, if_pos rfl, dbl_rep k]
theorem dbl_cons {c : Nat} (l : List Nat) (hc : c ≠ 34) : StrLaws.dbl 34 (c :: l) = c :: StrLaws.dbl 34 l := by
  rw [StrLaws.dbl, if_neg hc]
def evenP (odd : Int) (ps : List (Int × Int)) : Bool := ps.all fun q => (q.2 + odd) % 2 == 0
theorem getLast_rep {l : List Nat} (h : ∀ x ∈ l, x ≠ 122) : (l.getLast? == some 122) = false := by
  apply beq_eq_false_iff_ne.mpr
  intro e
  exact h _ (List.mem_of_getLast? e) rfl
/-- what parse257's reading is of a reply: its marks doubled are the reply's beginning, up to a mark that has no second one; it reads on to the z just where every number has even marks -/
theorem reply_read (odd : Int) (t : List Nat) (ht : t.head? ≠ some 34) : ∀ (ps : List (Int × Int)), POk odd ps →
    (∃ rest, (ps.map (segN odd)).flatten ++ ([122, 34] ++ t) = StrLaws.dbl 34 (prs ((ps.map (segN odd)).flatten ++ ([122, 34] ++ t))) ++ 34 :: rest ∧ rest.head? ≠ some 34) ∧
    ((prs ((ps.map (segN odd)).flatten ++ ([122, 34] ++ t))).getLast? == some 122) = evenP odd ps
  | [], _ => by
    have e : prs ([122, 34] ++ t) = [122] := by
      show prs (122 :: 34 :: t) = _
      cases t with
      | nil => rfl
      | cons a r =>
        have ha : a ≠ 34 := fun e => ht (by rw [e]; rfl)
        simp [prs, ha]
    simp only [List.map_nil, List.flatten_nil, List.nil_append, e]
    exact ⟨⟨t, rfl, ht⟩, rfl⟩
  | q :: r, h => by
    have h0 := h q (.head _)
    have ih := reply_read odd t ht r fun p hp => h p (.tail _ hp)
    have hc : 97 + q.1.toNat ≠ 34 := by omega
    generalize hB : (r.map (segN odd)).flatten ++ ([122, 34] ++ t) = B at ih
    have eB : ((q :: r).map (segN odd)).flatten ++ ([122, 34] ++ t) = List.replicate (q.2 + odd).toNat 34 ++ (97 + q.1.toNat) :: B := by
      rw [← hB]
      simp [segN]
    rw [eB]
    generalize hk : (q.2 + odd).toNat = n
    rcases Nat.mod_two_eq_zero_or_one n with e | e
    · obtain ⟨k, rfl⟩ : ∃ k, n = 2 * k := ⟨n / 2, by omega⟩
      obtain ⟨⟨rest, e1, e2⟩, e3⟩ := ih
      rw [prs_even k _ _ hc]
      refine ⟨⟨rest, ?_, e2⟩, ?_⟩
      · rw [StrLaws.dbl_append, dbl_rep, dbl_cons _ hc, List.append_assoc, List.cons_append]
        rw [← e1]
      · have ev : evenP odd (q :: r) = evenP odd r := by
          have : (q.2 + odd) % 2 = 0 := by omega
          simp [evenP, this]
        rw [ev, ← e3]
        cases hp : prs B with
        | nil =>
          rw [List.getLast?_append]
          have : 97 + q.1.toNat ≠ 122 := by omega
          simp [this]
        | cons a s =>
          rw [List.getLast?_append, List.getLast?_cons_cons, List.getLast?_eq_some_getLast (List.cons_ne_nil a s)]
          simp
    · obtain ⟨k, rfl⟩ : ∃ k, n = 2 * k + 1 := ⟨n / 2, by omega⟩
      rw [prs_odd k _ _ hc]
      refine ⟨⟨(97 + q.1.toNat) :: B, ?_, by simpa using hc⟩, ?_⟩
      · rw [dbl_rep, List.replicate_succ', List.append_assoc]
        rfl
      · have ev : evenP odd (q :: r) = false := by
          have : (q.2 + odd) % 2 = 1 := by omega
          simp [evenP, this]
        rw [ev]
        refine getLast_rep fun x hx => ?_
        rw [List.eq_of_mem_replicate hx]
        decide
theorem tail_head (m : Nat) : (if m % 2 = 1 then [32, 34, 34] else ([] : List Nat)).head? ≠ some 34 := by
  split <;> simp
theorem body_read (odd : Int) (ps : List (Int × Int)) (m : Nat) (h : POk odd ps) :
    (∃ rest, bodyN odd ps m = StrLaws.dbl 34 (prs (bodyN odd ps m)) ++ 34 :: rest ∧ rest.head? ≠ some 34) ∧ ((prs (bodyN odd ps m)).getLast? == some 122) = evenP odd ps :=
  reply_read odd _ (tail_head m) ps h
theorem starts_of {x y : Str} {r : List Nat} (h : x.cps.toList = y.cps.toList ++ r) : Txt.startswith x y = true := by
  have e : x = y ++ ⟨r.toArray⟩ := cps_inj (by rw [cat_cps]; exact h)
  rw [e]
  have la : y.cps.toList.length = y.length := Array.length_toList
  have s : Builtin.Str.subAt (y ++ ⟨r.toArray⟩) y 0 = true := by
    rw [StrLaws.subAt_eq, cat_cps, List.drop_zero, ← la, List.take_left]
    exact beq_self_eq_true _
  unfold Txt.startswith
  rw [s, Bool.and_true]
  exact decide_eq_true (by rw [PySem.Str.length_append]; omega)
theorem starts_not {x y : Str} {a r : List Nat} (h : x.cps.toList = a ++ r) (hy : y.cps.toList = a ++ [34]) (hr : r.head? ≠ some 34) : Txt.startswith x y = false := by
  have s : Builtin.Str.subAt x y 0 = false := by
    rw [StrLaws.subAt_eq, List.drop_zero]
    apply beq_eq_false_iff_ne.mpr
    intro e
    have la : y.cps.toList.length = y.length := Array.length_toList
    rw [← la, hy, h] at e
    apply hr
    cases r with
    | nil =>
      have := congrArg List.length e
      simp at this
    | cons b r =>
      rw [show a ++ b :: r = (a ++ [b]) ++ r by simp, List.length_append, show a.length + [34].length = (a ++ [b]).length by simp, List.take_left] at e
      simpa using e
  unfold Txt.startswith
  rw [s, Bool.and_false]
theorem last_z {x : Str} : (Txt.slice x (some (-1)) none == Str.ofString "z") = (x.cps.toList.getLast? == some 122) := by
  have hz : Str.ofString "z" = ⟨#[122]⟩ := by decide +kernel
  rw [hz]
  by_cases hx : x.length = 0
  · have e : x = ⟨#[]⟩ := by
      obtain ⟨c⟩ := x
      have : c.size = 0 := hx
      rw [Array.eq_empty_of_size_eq_zero this]
    subst e
    decide +kernel
  · have e : Txt.slice x (some (-1)) none = StrLaws.sliceText x (some (-1)) none := rfl
    have hl : x.cps.toList.length = x.length := Array.length_toList
    rw [e, StrLaws.sliceText_from_neg (by decide) (by omega), hl]
    obtain ⟨l, a, hla⟩ : ∃ l a, x.cps.toList = l ++ [a] := ⟨x.cps.toList.dropLast, x.cps.toList.getLast (by intro e; rw [e] at hl; simp at hl; omega), (List.dropLast_concat_getLast _).symm⟩
    have hll : l.length + 1 = x.length := by rw [← hl, hla]; simp
    rw [hla, show (-1 + (x.length : Int)).toNat = l.length by omega, List.drop_left, show ((x.length : Int) - (-1 + x.length)).toNat = 1 by omega]
    simp only [List.take_one, List.head?_cons, Option.toList_some, List.getLast?_append, List.getLast?_singleton, Option.some_or]
    by_cases ha : a = 122
    · subst ha; rfl
    · rw [show (some a == some 122) = false from beq_eq_false_iff_ne.mpr (by simpa using ha)]
      apply beq_eq_false_iff_ne.mpr
      intro e
      have := congrArg (fun s : Str => s.cps.toList) e
      simp at this
      exact ha this
theorem item_abc {j : Int} (h0 : 0 ≤ j) (h1 : j < 5) : (Txt.item (Str.ofString "abcde") j).cps.toList = [97 + j.toNat] := by
  obtain rfl | rfl | rfl | rfl | rfl : j = 0 ∨ j = 1 ∨ j = 2 ∨ j = 3 ∨ j = 4 := by omega
  all_goals decide +kernel
theorem seg_sum (odd : Int) (ho : odd ≤ 1) : ∀ (ps : List (Int × Int)), POk odd ps → (((ps.map (segN odd)).map List.length).sum ≤ 7 * ps.length)
  | [], _ => by simp
  | q :: r, h => by
    have h0 := h q (.head _)
    have ih := seg_sum odd ho r fun p hp => h p (.tail _ hp)
    have e : (segN odd q).length ≤ 7 := by
      unfold segN
      simp only [List.length_append, List.length_replicate, List.length_cons, List.length_nil]
      omega
    simp only [List.map_cons, List.sum_cons, List.length_cons]
    omega
theorem pair_ok (rw : List Int) (odd : Int) (m : Nat) (ho : 0 ≤ odd) : POk odd (pairN rw m) := by
  intro q hq
  obtain ⟨k, hk, rfl⟩ := List.getElem_of_mem hq
  have h := pair_bounds rw m hk
  rw [List.getD_eq_getElem?_getD, List.getElem?_eq_getElem hk] at h
  simp only [Option.getD_some] at h
  exact ⟨h.1, h.2.1, by omega, h.2.2.2⟩
theorem pair_len5 (rw : List Int) (m : Nat) : (pairN rw m).length ≤ 5 := by rw [pair_len]; exact hand_len m
theorem reply_cps {jn : Str} {odd : Int} {ps : List (Int × Int)} {i : Nat} (h : jn.cps.toList = (ps.map (segN odd)).flatten) :
    (Str.ofString "257 \"" ++ jn ++ Str.ofString "z\"" ++ Txt.mul (Str.ofString " \"\"") ((i : Int).fmod 2)).cps.toList = [50, 53, 55, 32, 34] ++ bodyN odd ps i := by
  have hfm : (i : Int).fmod 2 = ((i % 2 : Nat) : Int) := by rw [Int.fmod_eq_emod_of_nonneg _ (by decide)]; rfl
  rw [cat_cps, cat_cps, cat_cps, h, hfm, bodyN]
  have e1 : (Str.ofString "257 \"").cps.toList = [50, 53, 55, 32, 34] := by decide +kernel
  have e2 : (Str.ofString "z\"").cps.toList = [122, 34] := by decide +kernel
  have e3 : (Txt.mul (Str.ofString " \"\"") ((i % 2 : Nat) : Int)).cps.toList = if i % 2 = 1 then [32, 34, 34] else [] := by
    rcases Nat.mod_two_eq_zero_or_one i with e | e
    · rw [e]; decide +kernel
    · rw [e]; decide +kernel
  rw [e1, e2, e3]
  simp only [List.append_assoc]
theorem slice3 {x : Str} {r : List Nat} (h : x.cps.toList = [50, 53, 55, 32, 34] ++ r) : Txt.slice x none (some 3) = Str.ofString "257" := by
  show StrLaws.sliceText x none (some 3) = _
  rw [StrLaws.sliceText_to ⟨by decide, by rw [h]; simp; omega⟩, h]
  apply cps_inj
  show _ = [50, 53, 55]
  rfl
theorem slice5 {x : Str} {r : List Nat} (h : x.cps.toList = [50, 53, 55, 32, 34] ++ r) : Txt.slice x (some 3) (some 5) = Str.ofString " \"" := by
  show StrLaws.sliceText x (some 3) (some 5) = _
  rw [StrLaws.sliceText_plain ⟨by decide, by decide, by rw [h]; simp; omega⟩, h]
  apply cps_inj
  show _ = [32, 34]
  rfl
theorem body_len (odd : Int) (ps : List (Int × Int)) (m : Nat) (h : (((ps.map (segN odd)).map List.length).sum ≤ 35)) : (bodyN odd ps m).length ≤ 40 := by
  unfold bodyN
  have e : (if m % 2 = 1 then [32, 34, 34] else ([] : List Nat)).length ≤ 3 := by split <;> simp
  simp only [List.length_append, List.length_flatten, List.length_cons, List.length_nil]
  omega
theorem repl_cps (x : Str) : (Txt.replace x (Str.ofString "\"") (Str.ofString "\"\"")).cps.toList = StrLaws.dbl 34 x.cps.toList := by
  rw [show Str.ofString "\"" = ⟨#[34]⟩ from by decide +kernel, show Str.ofString "\"\"" = ⟨#[34, 34]⟩ from by decide +kernel]
  exact StrLaws.replace_double x 34
theorem starts_yes {x d : Str} {b rest : List Nat} (hx : x.cps.toList = [50, 53, 55, 32, 34] ++ b) (hb : b = d.cps.toList ++ 34 :: rest) : Txt.startswith x (Str.ofString "257 \"" ++ d ++ Str.ofString "\"") = true := by
  refine starts_of (r := rest) ?_
  rw [hx, hb, cat_cps, cat_cps]
  have e1 : (Str.ofString "257 \"").cps.toList = [50, 53, 55, 32, 34] := by decide +kernel
  have e2 : (Str.ofString "\"").cps.toList = [34] := by decide +kernel
  rw [e1, e2]
  simp
theorem starts_no {x d : Str} {b rest : List Nat} (hx : x.cps.toList = [50, 53, 55, 32, 34] ++ b) (hb : b = d.cps.toList ++ 34 :: rest) (hr : rest.head? ≠ some 34) : Txt.startswith x (Str.ofString "257 \"" ++ d ++ Str.ofString "\"" ++ Str.ofString "\"") = false := by
  have e1 : (Str.ofString "257 \"").cps.toList = [50, 53, 55, 32, 34] := by decide +kernel
  have e2 : (Str.ofString "\"").cps.toList = [34] := by decide +kernel
  refine starts_not (a := [50, 53, 55, 32, 34] ++ d.cps.toList ++ [34]) (r := rest) ?_ ?_ hr
  · rw [hx, hb]; simp
  · rw [cat_cps, cat_cps, cat_cps, e1, e2]
theorem len_cps (x : Str) : x.length = x.cps.toList.length := Array.length_toList.symm
end
section
theorem off_X2 : True := by
  k_with_none
  w_top off
  trivial
theorem yl_two : ∀ (k : Nat) (l : List Nat), yl false (List.replicate (2 * k) 92 ++ l) = List.replicate k [92, 92] ++ yl false l
  | 0, l => by simp
  | k + 1, l => by
    have ih := yl_two k l
    rw [show 2 * (k + 1) = 2 * k + 1 + 1 by omega, List.replicate_succ, List.replicate_succ, List.replicate_succ]
    simp only [List.cons_append, yl, if_true]
    rw [ih]
theorem yl_cons (c : Nat) (l : List Nat) (hc : c ≠ 92) : yl false (c :: l) = [c] :: yl false l := by
  rw [yl, if_neg hc]
theorem yl_odd (k c : Nat) (l : List Nat) : yl false (List.replicate (2 * k + 1) 92 ++ c :: l) = List.replicate k [92, 92] ++ [92, c] :: yl false l := by
  rw [List.replicate_succ', List.append_assoc, yl_two]
  rfl
theorem chk_skip {y : List Nat} {o : Int} {r : List (List Nat)} (h1 : y ≠ [40]) (h2 : y ≠ [41]) : chk o (y :: r) = chk o r := by
  rw [chk, if_neg h1, if_neg h2]
theorem chk_open {o : Int} {r : List (List Nat)} : chk o ([40] :: r) = chk (o + 1) r := by rw [chk, if_pos rfl]
theorem chk_shut {o : Int} {r : List (List Nat)} (h : 1 ≤ o) : chk o ([41] :: r) = chk (o - 1) r := by
  rw [chk, if_neg (by decide), if_pos rfl, if_neg (by omega)]
theorem chk_rep (o : Int) (r : List (List Nat)) : ∀ k : Nat, chk o (List.replicate k [92, 92] ++ r) = chk o r
  | 0 => by simp
  | k + 1 => by
    rw [List.replicate_succ, List.cons_append, chk_skip (by decide) (by decide), chk_rep o r k]
theorem evenP_cons (odd : Int) (q : Int × Int) (r : List (Int × Int)) : evenP odd (q :: r) = (((q.2 + odd) % 2 == 0) && evenP odd r) := rfl
theorem chk_high : ∀ (ps : List (Int × Int)), (∀ q ∈ ps, 3 ≤ q.1 ∧ 0 ≤ q.2) → ∀ o : Int, 0 ≤ o → chk o (yl false (ps.map textP).flatten) = (o == 0 && evenP 0 ps)
  | [], _, o, _ => by
    show (o == 0) = (o == 0 && true)
    simp
  | q :: r, h, o, ho => by
    have h0 := h q (.head _)
    have ih := chk_high r fun p hp => h p (.tail _ hp)
    rw [List.map_cons, List.flatten_cons, textP, if_neg (by omega)]
    generalize (r.map textP).flatten = B at ih ⊢
    generalize hn : q.2.toNat = n
    rw [show [40, 40] ++ List.replicate n 92 ++ [41, 41] ++ B = 40 :: 40 :: (List.replicate n 92 ++ 41 :: 41 :: B) by simp]
    rw [yl_cons _ _ (by decide), yl_cons _ _ (by decide), chk_open, chk_open, evenP_cons]
    rcases Nat.mod_two_eq_zero_or_one n with e | e
    · obtain ⟨k, rfl⟩ : ∃ k, n = 2 * k := ⟨n / 2, by omega⟩
      have h2 : (q.2 + 0) % 2 = 0 := by omega
      rw [yl_two, chk_rep, yl_cons _ _ (by decide), yl_cons _ _ (by decide), chk_shut (by omega), chk_shut (by omega), ih _ (by omega), h2, show o + 1 + 1 - 1 - 1 = o by omega]
      simp
    · obtain ⟨k, rfl⟩ : ∃ k, n = 2 * k + 1 := ⟨n / 2, by omega⟩
      have h2 : (q.2 + 0) % 2 = 1 := by omega
      rw [yl_odd, chk_rep, chk_skip (by decide) (by decide), yl_cons _ _ (by decide), chk_shut (by omega), ih _ (by omega), h2]
      have h3 : (o + 1 + 1 - 1 == 0) = false := beq_eq_false_iff_ne.mpr (by omega)
      rw [h3]
      simp
theorem chk_text : ∀ (ps : List (Int × Int)), (∀ q ∈ ps, 0 ≤ q.2) → (ps.map Prod.fst).Pairwise (· < ·) → chk 0 (yl false (ps.map textP).flatten) = evenP 0 ps
  | [], _, _ => rfl
  | q :: r, h, hp => by
    have h0 := h q (.head _)
    rw [List.map_cons, List.pairwise_cons] at hp
    have ih := chk_text r (fun p hp => h p (.tail _ hp)) hp.2
    by_cases hq : q.1 < 3
    · rw [List.map_cons, List.flatten_cons, textP, if_pos hq]
      generalize (r.map textP).flatten = B at ih ⊢
      generalize hn : q.2.toNat = n
      rw [show List.replicate n 92 ++ [40, 41] ++ B = List.replicate n 92 ++ 40 :: 41 :: B by simp, evenP_cons]
      rcases Nat.mod_two_eq_zero_or_one n with e | e
      · obtain ⟨k, rfl⟩ : ∃ k, n = 2 * k := ⟨n / 2, by omega⟩
        have h2 : (q.2 + 0) % 2 = 0 := by omega
        rw [yl_two, chk_rep, yl_cons _ _ (by decide), yl_cons _ _ (by decide), chk_open, chk_shut (by omega), show (0 : Int) + 1 - 1 = 0 from rfl, ih, h2]
        simp
      · obtain ⟨k, rfl⟩ : ∃ k, n = 2 * k + 1 := ⟨n / 2, by omega⟩
        have h2 : (q.2 + 0) % 2 = 1 := by omega
        rw [yl_odd, chk_rep, chk_skip (by decide) (by decide), yl_cons _ _ (by decide), chk, if_neg (by decide), if_pos rfl, if_pos (by decide), h2]
        simp
    · rw [chk_high (q :: r) (fun p hpm => ⟨?_, h p hpm⟩) 0 (Int.le_refl _)]
      · simp
      · rcases List.mem_cons.mp hpm with rfl | hpm
        · omega
        · have := hp.1 p.1 (List.mem_map_of_mem hpm)
          omega
theorem hand_up {m : Nat} (hm : m < 32) : (handN m).Pairwise (· < ·) := by
  have h : ∀ m : Nat, m < 32 → (handN m).Pairwise (· < ·) := by decide
  exact h m hm
theorem pair_fst (ns : List Int) (m : Nat) : (pairN ns m).map Prod.fst = handN m := by
  apply List.ext_getElem
  · simp [pairN]
  · intro i h1 h2
    simp [pairN]
    rw [List.getElem?_eq_getElem h2]
    rfl
theorem check_pairs (rw : List Int) {m : Nat} (hm : m < 32) : chk 0 (yl false ((pairN rw m).map textP).flatten) = evenP 0 (pairN rw m) :=
  chk_text _ (fun q hq => by have := (pair_ok rw 0 m (Int.le_refl _) q hq).2.2.1; omega) (by rw [pair_fst]; exact hand_up hm)
theorem textP_mem {q : Int × Int} {c : Nat} (h : c ∈ textP q) : c = 92 ∨ c = 40 ∨ c = 41 := by
  unfold textP at h
  split at h
  · simp only [List.mem_append, List.mem_replicate, List.mem_cons, List.not_mem_nil, or_false] at h
    omega
  · simp only [List.mem_append, List.mem_replicate, List.mem_cons, List.not_mem_nil, or_false] at h
    omega
theorem text_mem {x : Str} {ps : List (Int × Int)} (hx : x.cps.toList = (ps.map textP).flatten) : ∀ c ∈ x.cps.toList, c = 92 ∨ c = 40 ∨ c = 41 := by
  intro c hc
  rw [hx] at hc
  obtain ⟨l, hl, hcl⟩ := List.mem_flatten.mp hc
  obtain ⟨q, _, rfl⟩ := List.mem_map.mp hl
  exact textP_mem hcl
theorem text_ascii {x : Str} {ps : List (Int × Int)} (hx : x.cps.toList = (ps.map textP).flatten) : x.cps.all (· < 128) = true := by
  rw [← Array.all_toList, List.all_eq_true]
  intro c hc
  have := text_mem hx c hc
  exact decide_eq_true (by omega)
theorem text_noq {x : Str} {ps : List (Int × Int)} (hx : x.cps.toList = (ps.map textP).flatten) : (Builtin.Str.occurrences x "\"" 0 x.length 1).isEmpty = true := by
  have h := StrLaws.found_one x 34
  have hn : ¬ 34 ∈ x.cps.toList := fun hc => by
    have := text_mem hx 34 hc
    omega
  rw [decide_eq_false hn] at h
  have e : (("\"" : Str)) = ⟨#[34]⟩ := by decide +kernel
  rw [e]
  simpa using h
theorem text_len {x : Str} {ps : List (Int × Int)} (hx : x.cps.toList = (ps.map textP).flatten) (h : ∀ k, k < ps.length → 0 ≤ (ps.getD k (0, 0)).2 ∧ (ps.getD k (0, 0)).2 ≤ 5) (h5 : ps.length ≤ 5) : x.length ≤ 45 := by
  have h1 := sum_len ps h
  rw [len_cps, hx, List.length_flatten]
  omega
theorem item_refI {prog : Program} {w : World} {A : Around} {E : Value → Shared → Prop} {s : Shared} {h₀ : Heap} {L l : Addr} {news : List (Addr × Obj)} {e : Nat} {value slice : Expr} {hs : List Addr} {k : Int} {u : Tok} {Q : Value → Shared → Prop} (N : News h₀ L s.heap news) (hm : (l, listOf (refs hs).toArray e) ∈ news) (h0 : 0 ≤ k) (h1 : k < hs.length) (hb : hs.length ≤ 1000) (h : Q (.ref (hs.getD k.toNat 0)) s)
    (hs' : subscripted slice false (.ref l) (.int k u) = operate [.ref l, .int k u] (getItem (.ref l) (.int k u)) := by with_unfolding_all rfl) (hg : ∀ r, letTemporaryGo value (.ref l) r = pure () := by intro _; with_unfolding_all rfl) :
    wpAny (model prog w) A (subscriptTail value slice (.ref l) (.int k u)) Q E s := by
  obtain ⟨n, rfl⟩ := Int.eq_ofNat_of_zero_le h0
  exact item_ref N hm (by omega) hb (by simpa using h) hs' hg
end
section
theorem off_FC : True := by
  k_with_none
  w_top off
  trivial
/-- a turn's end of a for whose name is a cell -/
inductive CNx (dr : Drawn) (os : OsState) (h₀ : Heap) (L I c : Addr) (oI : Obj) (J : (Str → Option Value) → List (Addr × Obj) → Array GenState → Prop) : Shared → Prop
  | mk (h' : Heap) (tk' : Nat) (gs' : Array GenState) (m' : Str → Option Value) (news' : List (Addr × Obj)) (oc : Obj) (v : Option Value) (F : Fr h₀ L h' m') (N : News h₀ L h' ((I, oI) :: (c, oc) :: news')) (hd : oc.data = .cell v) (hn : ∀ p ∈ news', @Ne Nat p.1 I) (hn2 : ∀ p ∈ news', @Ne Nat p.1 c) (hJ : J m' news' gs') :
      CNx dr os h₀ L I c oI J { heap := h', gens := gs', drawn := dr, toks := tk', os := os }
inductive CInv (St : Nat → Heap → Prop) (h₀ : Heap) (L I c : Addr) (J : Nat → (Str → Option Value) → List (Addr × Obj) → Array GenState → Prop) (n : Nat) (s : Shared) : Nat → Shared → Prop
  | mk (h : Heap) (tk : Nat) (gs : Array GenState) (m₁ : Str → Option Value) (news₁ : List (Addr × Obj)) (i : Nat) (oc : Obj) (v : Option Value) (hst : St i h) (F : Fr h₀ L h m₁) (N : News h₀ L h ((c, oc) :: news₁)) (hd : oc.data = .cell v) (hn : ∀ p ∈ news₁, @Ne Nat p.1 I) (hm : ∀ p ∈ news₁, @Ne Nat p.1 c) (hJ : J i m₁ news₁ gs) (hi : i ≤ n) :
      CInv St h₀ L I c J n s (n + 1 - i) { s with heap := h, toks := tk, gens := gs }
def CEnd (s : Shared) (h₀ : Heap) (L I c : Addr) (oI : Obj) (J : (Str → Option Value) → List (Addr × Obj) → Array GenState → Prop) (R : Result → Shared → Prop) (f : Flow) (s₃ : Shared) : Prop :=
  match f with
  | .ret v => R (.ok (.ret v)) s₃
  | .brk => R (.ok .next) s₃
  | _ => CNx s.drawn s.os h₀ L I c oI J s₃
theorem CEnd.intro {s : Shared} {h₀ : Heap} {L I c : Addr} {oI oc : Obj} {v : Option Value} {J : (Str → Option Value) → List (Addr × Obj) → Array GenState → Prop} {R : Result → Shared → Prop} {h' : Heap} {tk' : Nat} {gs' : Array GenState} {m' : Str → Option Value} (led news' : List (Addr × Obj))
    (F : Fr h₀ L h' m') (N : News h₀ L h' led) (hI : (I, oI) ∈ led) (hc : (c, oc) ∈ led) (hs : ∀ p ∈ news', p ∈ led) (hd : oc.data = .cell v) (hn : ∀ p ∈ news', @Ne Nat p.1 I) (hn2 : ∀ p ∈ news', @Ne Nat p.1 c) (hJ : J m' news' gs') : CEnd s h₀ L I c oI J R .next { s with heap := h', toks := tk', gens := gs' } :=
  .mk h' tk' gs' m' news' oc v F (List.forall_mem_cons.mpr ⟨N _ hI, List.forall_mem_cons.mpr ⟨N _ hc, fun p hp => N p (hs p hp)⟩⟩) hd hn hn2 hJ
section
variable {prog : Program} {w : World} {A : Around} {s : Shared} {env : Env} {h₀ : Heap}
theorem my_forC {R : Result → Shared → Prop} {x : Str} {px : Pos} {body : List Stmt} {I c : Addr} {fp : List Addr} {n : Nat} {P : Nat → Value → Prop} {St : Nat → Heap → Prop} {m : Str → Option Value} {news : List (Addr × Obj)} {oc₀ : Obj} {v₀ : Option Value}
    (J : Nat → (Str → Option Value) → List (Addr × Obj) → Array GenState → Prop)
    (W : Walks prog w A I fp [I] n P St) (hk : env.scope.kind = .function) (hx : env.kindOf x = some .cell) (hc : env.cells.lookup x = some c)
    (hLf : env.locals ∉ fp) (hcf : c ∉ fp) (hI₀ : h₀.get? I = none) (hIo : ∀ i h, St i h → ∃ o, h.get? I = some o)
    (hSt : ∀ i h h' o m' nw gs, St i h → h.get? I = some o → h'.get? I = some o → (∀ b o, h₀.get? b = some o → h'.get? b = some o) → News h₀ env.locals h' nw → J i m' nw gs → St i h')
    (hst : St 0 s.heap) (F : Fr h₀ env.locals s.heap m) (N : News h₀ env.locals s.heap ((c, oc₀) :: news)) (hd₀ : oc₀.data = .cell v₀) (hNI : ∀ p ∈ news, @Ne Nat p.1 I) (hNc : ∀ p ∈ news, @Ne Nat p.1 c) (h0 : J 0 m news s.gens)
    (turn : ∀ i v m₁ news₁ h tk gs oI oc, i < n → P i v → J i m₁ news₁ gs → oc.data = .cell (some v) → (∀ p ∈ news₁, @Ne Nat p.1 I) → (∀ p ∈ news₁, @Ne Nat p.1 c) → @Ne Nat c I → Fr h₀ env.locals h m₁ → News h₀ env.locals h ((I, oI) :: (c, oc) :: news₁) →
      wpAny (model prog w) A (execs body env) (CEnd s h₀ env.locals I c oI (J (i + 1)) R) (fun _ _ => False) { s with heap := h, toks := tk, gens := gs })
    (done : ∀ m₁ news₁ h tk gs oc v, J n m₁ news₁ gs → oc.data = .cell v → (∀ p ∈ news₁, @Ne Nat p.1 c) → Fr h₀ env.locals h m₁ → News h₀ env.locals h ((c, oc) :: news₁) → R (.ok .next) { s with heap := h, toks := tk, gens := gs }) :
    codeAny (model prog w) A (.forLoop (.Name x px) (.ref I) body [] env) R s := by
  have hIf : I ∈ fp := W.sub I (List.mem_singleton.mpr rfl)
  have hIL : env.locals ≠ I := fun e => hLf (e ▸ hIf)
  have hcI : c ≠ I := fun e => hcf (e ▸ hIf)
  have I0 := CInv.mk (St := St) (h₀ := h₀) (L := env.locals) (I := I) (c := c) (J := J) (n := n) (s := s) s.heap s.toks s.gens m news 0 oc₀ v₀ hst F N hd₀ hNI hNc h0 (Nat.zero_le _)
  refine codeAny_forLoop (fun k s' => CInv St h₀ env.locals I c J n s k s') ?_ (n + 1) I0
  clear I0 hst F N hd₀ hNI hNc h0
  rintro k s' ⟨h, tk, gs, m₁, news₁, i, oc, v', hst₁, F₁, N₁, hd₁, hN₁, hM₁, hJ₁, hi⟩
  have hall : ∀ p ∈ (c, oc) :: news₁, @Ne Nat p.1 I := List.forall_mem_cons.mpr ⟨hcI, hN₁⟩
  have next : ∀ h₁ : Heap, (∀ b o, b ∉ [I] → h.get? b = some o → h₁.get? b = some o) → Fr h₀ env.locals h₁ m₁ ∧ News h₀ env.locals h₁ ((c, oc) :: news₁) := fun h₁ hk₁ =>
    ⟨⟨F₁.ns.at' fun o e => hk₁ _ o (by simpa using hIL) e, fun b o e => hk₁ b o (fun hb => by rw [List.mem_singleton.mp hb, hI₀] at e; cases e) (F₁.keep b o e), F₁.above⟩,
     fun p hp => ⟨hk₁ _ _ (by simpa using hall p hp) (N₁ p hp).1, (N₁ p hp).2⟩⟩
  by_cases hlt : i < n
  · refine W.item i _ _ _ hlt hst₁ fun v h₁ tk₁ hP hst₂ hk₁ => ?_
    obtain ⟨F₂, N₂⟩ := next h₁ hk₁
    have hmem := N₂ (c, oc) (.head _)
    refine wpAny_assign_Name (wpAny_storeName_cell hk hx hc ⟨oc, hmem.1, hd₁⟩ fun h₂ hv hs₂ => ?_)
    obtain ⟨o', ho', hd'⟩ := hv
    have F₃ : Fr h₀ env.locals h₂ m₁ := F₂.change hs₂ hmem.2.1 hmem.2.2
    have hst₃ : St (i + 1) h₂ := W.frame _ _ _ hst₂ fun b hb o e => (hs₂.2 b fun q => hcf (q ▸ hb)).trans e
    obtain ⟨oI, hoI⟩ := hIo _ _ hst₃
    have N₄ : News h₀ env.locals h₂ ((I, oI) :: (c, o') :: news₁) := nCons ⟨hoI, Ne.symm hIL, hI₀⟩ (nCons ⟨ho', hmem.2⟩ (nKeep (alRgt (l := [_]) N₂) hs₂.2 hM₁))
    refine wpAny_noRaise (wpAny_mono (turn i v m₁ news₁ h₂ _ gs oI o' hlt hP hJ₁ hd' hN₁ hM₁ hcI F₃ N₄) (fun f s₃ h₃ => ?_) fun _ _ e => e)
    have fin : CNx s.drawn s.os h₀ env.locals I c oI (J (i + 1)) s₃ → ∃ k', k' < n + 1 - i ∧ CInv St h₀ env.locals I c J n s k' s₃ := by
      rintro ⟨h', tk', gs', m', news', oc', v', F', N', hd', hn', hm', hJ'⟩
      have N'' : News h₀ env.locals h' ((c, oc') :: news') := fun p hp => N' p (List.mem_cons_of_mem _ hp)
      have N3 : News h₀ env.locals h' news' := fun p hp => N'' p (List.mem_cons_of_mem _ hp)
      exact ⟨n + 1 - (i + 1), by omega, .mk h' tk' gs' m' news' (i + 1) oc' v' (hSt _ _ _ oI m' news' gs' hst₃ hoI (N' _ List.mem_cons_self).1 F'.keep N3 hJ') F' N'' hd' hn' hm' hJ' hlt⟩
    cases f with
    | next => exact fin h₃
    | cont => exact fin h₃
    | brk => exact h₃
    | ret v => exact h₃
  · have hin : i = n := by omega
    subst hin
    refine W.done _ _ _ hst₁ fun h₁ tk₁ hk₁ => wpAny_execs_nil ?_
    obtain ⟨F₂, N₂⟩ := next h₁ hk₁
    exact done m₁ news₁ h₁ _ gs oc v' hJ₁ hd₁ hM₁ F₂ N₂
theorem iter_ledC {R : Result → Shared → Prop} {E : Value → Shared → Prop} {x : Str} {px : Pos} {body : List Stmt} {l c : Addr} {vs : List Value} {e : Nat} {m : Str → Option Value} {news : List (Addr × Obj)} {oc₀ : Obj} {v₀ : Option Value}
    (J : Nat → (Str → Option Value) → List (Addr × Obj) → Array GenState → Prop) (hh : A.handled = none)
    (F : Fr h₀ env.locals s.heap m) (N : News h₀ env.locals s.heap ((c, oc₀) :: news)) (hd₀ : oc₀.data = .cell v₀) (hNc : ∀ p ∈ news, @Ne Nat p.1 c) (hm : (l, listOf vs.toArray e) ∈ news)
    (hk : env.scope.kind = .function) (hx : env.kindOf x = some .cell) (hc : env.cells.lookup x = some c)
    (h0 : J 0 m news s.gens) (hJ : ∀ i m nw gs, J i m nw gs → (l, listOf vs.toArray e) ∈ nw)
    (turn : ∀ I i v m₁ news₁ h tk gs oI oc, vs[i]? = some v → J i m₁ news₁ gs → oc.data = .cell (some v) → (∀ p ∈ news₁, @Ne Nat p.1 I) → (∀ p ∈ news₁, @Ne Nat p.1 c) → @Ne Nat c I → Fr h₀ env.locals h m₁ → News h₀ env.locals h ((I, oI) :: (c, oc) :: news₁) →
      wpAny (model prog w) A (execs body env) (CEnd s h₀ env.locals I c oI (J (i + 1)) R) (fun _ _ => False) { s with heap := h, toks := tk, gens := gs })
    (done : ∀ m₁ news₁ h tk gs oc v, J vs.length m₁ news₁ gs → oc.data = .cell v → (∀ p ∈ news₁, @Ne Nat p.1 c) → Fr h₀ env.locals h m₁ → News h₀ env.locals h ((c, oc) :: news₁) → R (.ok .next) { s with heap := h, toks := tk, gens := gs }) :
    wpAny (model prog w) A (pyIter (.ref l)) (fun it s₂ => codeAny (model prog w) A (.forLoop (.Name x px) it body [] env) R s₂) E s := by
  have hl := N.isList (.tail _ hm)
  have hls : l < s.heap.objs.size := Heap.lt_size (N _ (.tail _ hm)).1
  have hcs : c < s.heap.objs.size := Heap.lt_size (N _ (.head _)).1
  have hLs : env.locals < s.heap.objs.size := F.ns.lt
  refine wpAny_pyIter_list hl ?_
  have W := Walks.list (prog := prog) (w := w) (A := A) hh s.heap.objs.size l (Nat.ne_of_lt hls) vs.toArray
  rw [show vs.toArray.size = vs.length by simp] at W
  have hI₀ : h₀.get? s.heap.objs.size = none := Heap.get?_none_of_le (Nat.le_trans F.above (Nat.le_of_lt hLs))
  refine my_forC (s := { s with heap := s.heap.push { cls := .type "list_iterator", data := .fields #[.ref l, .int 0 0] } }) (oc₀ := oc₀) (v₀ := v₀) J W hk hx hc ?_ ?_ hI₀ (fun i h st => let ⟨o, ho, _⟩ := st.1; ⟨o, ho⟩) ?_ ⟨⟨_, Heap.get?_push_size _ rfl, rfl, rfl⟩, hl.at fun o e => Heap.get?_push_of_some _ e⟩ (F.push _)
    (fun p hp => ⟨Heap.get?_push_of_some _ (N p hp).1, (N p hp).2⟩) hd₀ (fun p hp => Nat.ne_of_lt (Heap.lt_size (N p (.tail _ hp)).1)) hNc h0 ?_ done
  · intro hb
    rcases List.mem_cons.mp hb with e | hb
    · exact Nat.ne_of_lt hLs e
    · exact (N _ (.tail _ hm)).2.1 (List.mem_singleton.mp hb).symm
  · intro hb
    rcases List.mem_cons.mp hb with e | hb
    · exact Nat.ne_of_lt hcs e
    · exact hNc _ hm (List.mem_singleton.mp hb).symm
  · intro i h h' o m' nw gs st e1 e2 hk N' hJ'
    obtain ⟨o', ho', r⟩ := st.1
    rw [e1] at ho'; cases ho'
    exact ⟨⟨_, e2, r⟩, N'.isList (hJ i m' nw gs hJ')⟩
  · intro i v m₁ news₁ h tk gs oI oc hi hP hJ' hd hn hm' hcI F' N'
    exact turn _ i v m₁ news₁ h tk gs oI oc (by simpa using hP) hJ' hd hn hm' hcI F' N'
theorem iter_rngC {R : Result → Shared → Prop} {E : Value → Shared → Prop} {x : Str} {px : Pos} {body : List Stmt} {r c : Addr} {b : Int} {t u v : Tok} {n : Nat} {m : Str → Option Value} {news : List (Addr × Obj)} {oc₀ : Obj} {v₀ : Option Value}
    (J : Nat → (Str → Option Value) → List (Addr × Obj) → Array GenState → Prop) (hh : A.handled = none)
    (F : Fr h₀ env.locals s.heap m) (N : News h₀ env.locals s.heap ((c, oc₀) :: news)) (hd₀ : oc₀.data = .cell v₀) (hNc : ∀ p ∈ news, @Ne Nat p.1 c) (hr : IsRange s.heap r 0 b 1 t u v) (hb : b = (n : Int)) (hn : n ≤ 1000)
    (hk : env.scope.kind = .function) (hx : env.kindOf x = some .cell) (hc : env.cells.lookup x = some c)
    (h0 : J 0 m news s.gens)
    (turn : ∀ I i t m₁ news₁ h tk gs oI oc, i < n → J i m₁ news₁ gs → oc.data = .cell (some (.int (i : Int) t)) → (∀ p ∈ news₁, @Ne Nat p.1 I) → (∀ p ∈ news₁, @Ne Nat p.1 c) → @Ne Nat c I → Fr h₀ env.locals h m₁ → News h₀ env.locals h ((I, oI) :: (c, oc) :: news₁) →
      wpAny (model prog w) A (execs body env) (CEnd s h₀ env.locals I c oI (J (i + 1)) R) (fun _ _ => False) { s with heap := h, toks := tk, gens := gs })
    (done : ∀ m₁ news₁ h tk gs oc v, J n m₁ news₁ gs → oc.data = .cell v → (∀ p ∈ news₁, @Ne Nat p.1 c) → Fr h₀ env.locals h m₁ → News h₀ env.locals h ((c, oc) :: news₁) → R (.ok .next) { s with heap := h, toks := tk, gens := gs }) :
    wpAny (model prog w) A (pyIter (.ref r)) (fun it s₂ => codeAny (model prog w) A (.forLoop (.Name x px) it body [] env) R s₂) E s := by
  subst hb
  have hLs : env.locals < s.heap.objs.size := F.ns.lt
  have hcs : c < s.heap.objs.size := Heap.lt_size (N _ (.head _)).1
  have hsm : Builtin.Range.small 0 (n : Int) 1 = true := small_one (by omega) (by omega) (by omega) (by omega)
  have hrs : Builtin.Range.rangeSize 0 (n : Int) 1 = ((n : Nat) : Int) := by rw [rangeSize_nat]; simp
  refine wpAny_pyIter_range hr hsm ?_
  have hI₀ : h₀.get? s.heap.objs.size = none := Heap.get?_none_of_le (Nat.le_trans F.above (Nat.le_of_lt hLs))
  refine my_forC (s := { s with heap := s.heap.push _ }) (oc₀ := oc₀) (v₀ := v₀) J (LCg.range_walks hh 0 n) hk hx hc ?_ ?_ hI₀ (fun i h st => ⟨_, st⟩) ?_ (by show IsRangeIter _ _ _ _ _; rw [hrs]; simpa using Heap.get?_push_size _ rfl) (F.push _)
    (fun p hp => ⟨Heap.get?_push_of_some _ (N p hp).1, (N p hp).2⟩) hd₀ (fun p hp => Nat.ne_of_lt (Heap.lt_size (N p (.tail _ hp)).1)) hNc h0 ?_ done
  · intro hb
    exact Nat.ne_of_lt hLs (List.mem_singleton.mp hb)
  · intro hb
    exact Nat.ne_of_lt hcs (List.mem_singleton.mp hb)
  · intro i h h' o m' nw gs st e1 e2 hk N' hJ'
    exact LCg.range_st (h₀ := h₀) (L := env.locals) i h h' o nw st e1 e2 hk N' trivial
  · rintro i v m₁ news₁ h tk gs oI oc hi ⟨t, rfl⟩ hJ' hd hn' hm' hcI F' N'
    rw [Int.zero_add] at hd
    exact turn _ i t m₁ news₁ h tk gs oI oc hi hJ' hd hn' hm' hcI F' N'
end
end
section
theorem off_LC : True := by
  k_with_none
  w_top off
  trivial
section
variable {M : Model} {A : Around} {E : Value → Shared → Prop} {s : Shared}
/-- a comprehension's block with one cell of its own -/
theorem newEnv_one {scope : Scope} {globals : Addr} {cl : List (Str × Addr)} {qual x : Str} {env : Env} {Q : Env → Shared → Prop} (hcf : ∀ k, cellsFrom k scope.names cl = (x, k) :: cl) (hpc : ∀ h : Heap, pushCells h scope.names = h.push { cls := .type "cell", data := .cell none })
    (h : Q { scope := scope, locals := s.heap.objs.size, globals := globals, cells := (x, s.heap.objs.size + 1) :: cl, qual := qual, func := none, code := env.code, frame := env.frame, builtins := env.builtins } { s with heap := (s.heap.push { cls := .type "dict", data := .dict #[] }).push { cls := .type "cell", data := .cell none } }) :
    wpAny M A (newFunctionEnv scope globals cl [] qual none .none (some env)) Q E s := by
  simp only [newFunctionEnv, Option.isSome_some, if_true]
  refine wpAny_bind (wpAny_alloc ?_)
  refine wpAny_bind (wpAny_layCells _ (fun name kind cells => by cases kind == NameKind.cell <;> simp) _ _ _ _ ?_)
  rw [hcf, hpc, show ({ s with heap := s.heap.push { cls := .type "dict", data := .dict #[] } } : Shared).heap.objs.size = s.heap.objs.size + 1 from Heap.size_push ..]
  refine wpAny_bind ?_
  rw [List.forIn_nil]
  exact wpAny_pure (wpAny_pure h)
end
theorem lookup_relabel_cell {env : Env} : ∀ {names : List (Str × NameKind)} {x : Str}, names.lookup x = some .cell →
    (names.map fun (n, k) => if (k == NameKind.free && env.scope.kind == .function && env.kindOf n == some .cell) then (n, NameKind.cell) else (n, k)).lookup x = some .cell
  | [], _, h => by simp at h
  | (n, k) :: r, x, h => by
    have ih := @lookup_relabel_cell env r x
    show List.lookup x ((if (k == NameKind.free && env.scope.kind == .function && env.kindOf n == some .cell) = true then (n, NameKind.cell) else (n, k)) :: _) = _
    rw [List.lookup_cons] at h
    cases hx : x == n with
    | true =>
      rw [hx] at h
      cases h
      simp [List.lookup_cons, hx]
    | false =>
      rw [hx] at h
      split
      · rw [List.lookup_cons, hx]; exact ih h
      · rw [List.lookup_cons, hx]; exact ih h
section
variable {prog : Program} {w : World} {A : Around} {E : Value → Shared → Prop} {s : Shared} {h₀ : Heap} {L : Addr} {m : Str → Option Value} {env : Env}
inductive SrcC (prog : Program) (w : World) (A : Around) (h₀ : Heap) (L : Addr) (m : Str → Option Value) (env : Env) (elt : Expr) (x : Str) (scope : Scope) (cl : List (Str × Addr)) (Fin : Shared → List Value → List (Addr × Obj) → Prop) (s₁ : Shared) : Value → Prop
  | mk (r : Addr) (t u v : Tok) (n : Nat) (news : List (Addr × Obj)) (J : Nat → List Value → List (Addr × Obj) → Prop) (hh : A.handled = none) (F : Fr h₀ L s₁.heap m) (N : News h₀ L s₁.heap news) (hr : IsRange s₁.heap r 0 (n : Int) 1 t u v) (hn : n ≤ 1000) (hJ : J 0 [] news)
    (turn : ∀ (s₂ : Shared) (h : Heap), s₂ = { s₁ with heap := h } →
      ∀ i ys nw t I oI C oC D c oc h tk (E' : Value → Shared → Prop), i < n → J i ys nw → oc.data = .cell (some (.int (i : Int) t)) → Fr h₀ L h m → News h₀ L h ((I, oI) :: (C, oC) :: (D, LCg.lst ys) :: (c, oc) :: nw) → LCg.Off3 I C D ((c, oc) :: nw) → (∀ p ∈ nw, @Ne Nat p.1 c) → ((@Ne Nat I C) ∧ (@Ne Nat I D) ∧ (@Ne Nat C D)) →
        wpAny (model prog w) A (eval elt (compEnvC scope ((x, c) :: cl) C env)) (LCg.CompEnd h₀ L m { s₂ with heap := h, toks := tk } I oI C oC D (LCg.lst ys) (fun _ => True) (fun y news' => ∃ nw', news' = (c, oc) :: nw' ∧ (∀ p ∈ nw', @Ne Nat p.1 c) ∧ J (i + 1) (ys ++ [y]) nw')) E' { s₂ with heap := h, toks := tk })
    (fin : ∀ (s₂ : Shared) (h : Heap), s₂ = { s₁ with heap := h } → ∀ ys nw, J n ys nw → Fin s₂ ys nw) : SrcC prog w A h₀ L m env elt x scope cl Fin s₁ (.ref r)
def Off4 (I : Nat) (nw : List (Addr × Obj)) : Prop := ∀ p ∈ nw, @Ne Nat p.1 I ∧ @Ne Nat p.1 (I + 1) ∧ @Ne Nat p.1 (I + 1 + 1) ∧ @Ne Nat p.1 (I + 1 + 1 + 1)
inductive LcInv (h₀ : Heap) (L : Addr) (m : Str → Option Value) (J : Nat → List Value → List (Addr × Obj) → Prop) (n : Nat) (I : Addr) (oC : Obj) (s₁ : Shared) : Nat → Shared → Prop
  | mk (h' : Heap) (tk i : Nat) (ys : List Value) (oI oc : Obj) (v : Option Value) (nw : List (Addr × Obj)) (hi : i ≤ n) (hyl : ys.length = i) (hst : IsRangeIter h' I (0 + (i : Nat) * 1) ((n : Int) - (i : Nat)) 1) (F : Fr h₀ L h' m)
      (N : News h₀ L h' ((I, oI) :: (I + 1 + 1, oC) :: (I + 1, LCg.lst ys) :: (I + 1 + 1 + 1, oc) :: nw)) (hd : oc.data = .cell v) (off : Off4 I nw) (hJ : J i ys nw) : LcInv h₀ L m J n I oC s₁ (n + 1 - i) { s₁ with heap := h', toks := tk }
theorem ListComp_C {elt iter : Expr} {x : Str} {px : Pos} {scope : Scope} {cl : List (Str × Addr)} {pos : Pos} {Q : Value → Shared → Prop} (F₀ : Fr h₀ L s.heap m)
    (hclos : closureFor scope env = pure cl) (hcf : ∀ k, cellsFrom k scope.names cl = (x, k) :: cl) (hpc : ∀ h : Heap, pushCells h scope.names = h.push { cls := .type "cell", data := .cell none }) (hkind : scope.kind = .function)
    (hnames : ∀ y ∈ scope.names, y.2 = .local → scope.names.lookup y.1 = some .local) (hx : scope.names.lookup x = some .cell)
    (h : wpAny (model prog w) A (eval iter env) (fun xv s₁ => SrcC prog w A h₀ L m env elt x scope cl (fun s₂ => LCg.FinE h₀ L m s₂ Q) s₁ xv) E s)
    (hs : ∀ x, foldedSetIterable iter env x = pure x := by intro _; rfl) :
    wpAny (model prog w) A (eval (.ListComp elt [⟨.Name x px, iter, [], 0⟩] scope pos) env) Q E s := by
  rw [eval_ListComp]
  refine wpAny_comprehension_free (use := none) rfl hs hclos hkind hnames (wpAny_mono h (fun xv s₁ h₁ => ?_) fun _ _ e => e)
  obtain ⟨r, t, u, v, n, news, J, hh, F, N, hr, hn, hJ, turn', fin'⟩ := h₁
  have hsm : Builtin.Range.small 0 (n : Int) 1 = true := small_one (by omega) (by omega) (by omega) (by omega)
  have hrs : Builtin.Range.rangeSize 0 (n : Int) 1 = ((n : Nat) : Int) := by rw [rangeSize_nat]; simp
  refine wpAny_pyIter_range hr hsm ?_
  have W := LCg.range_walks (prog := prog) (w := w) (A := A) (I := s₁.heap.objs.size) hh 0 n
  rw [hrs]
  have turn := turn' { s₁ with heap := s₁.heap.push { cls := .type "range_iterator", data := .fields #[rawInt 0, rawInt (n : Int), rawInt 1] } } _ rfl
  have fin := fin' { s₁ with heap := s₁.heap.push { cls := .type "range_iterator", data := .fields #[rawInt 0, rawInt (n : Int), rawInt 1] } } _ rfl
  clear turn' fin'
  generalize hHi : s₁.heap.push { cls := .type "range_iterator", data := .fields #[rawInt 0, rawInt (n : Int), rawInt 1] } = Hi at turn fin ⊢
  have hI : Hi.get? s₁.heap.objs.size = some { cls := .type "range_iterator", data := .fields #[rawInt 0, rawInt (n : Int), rawInt 1] } := by rw [← hHi]; exact Heap.get?_push_size _ rfl
  have hIs : Hi.objs.size = s₁.heap.objs.size + 1 := by rw [← hHi, Heap.size_push]
  have up₁ : ∀ b o, s₁.heap.get? b = some o → Hi.get? b = some o := fun b o e => by rw [← hHi]; exact Heap.get?_push_of_some _ e
  refine wpAny_newObj_type (newEnv_one hcf hpc ?_)
  dsimp only
  generalize hHd : Hi.push { cls := .type "list", dict := none, data := .seq ([] : List Value).toArray } = Hd
  have hDs : Hd.objs.size = s₁.heap.objs.size + 1 + 1 := by rw [← hHd, Heap.size_push, hIs]
  have hD : Hd.get? Hi.objs.size = some (LCg.lst []) := by rw [← hHd]; exact Heap.get?_push_size _ rfl
  have up₂ : ∀ b o, Hi.get? b = some o → Hd.get? b = some o := fun b o e => by rw [← hHd]; exact Heap.get?_push_of_some _ e
  obtain ⟨oC, heC, hoC⟩ := LCg.ns_obj (Heap.Ns.new Hd (.type "dict"))
  generalize hHc : Hd.push { cls := .type "dict", data := .dict #[] } = Hc at heC
  have hCs : Hc.objs.size = s₁.heap.objs.size + 1 + 1 + 1 := by rw [← hHc, Heap.size_push, hDs]
  have up₃ : ∀ b o, Hd.get? b = some o → Hc.get? b = some o := fun b o e => by rw [← hHc]; exact Heap.get?_push_of_some _ e
  generalize hHe : Hc.push { cls := .type "cell", data := .cell none } = He
  have hc : He.get? Hc.objs.size = some { cls := .type "cell", data := .cell none } := by rw [← hHe]; exact Heap.get?_push_size _ rfl
  have up₄ : ∀ b o, Hc.get? b = some o → He.get? b = some o := fun b o e => by rw [← hHe]; exact Heap.get?_push_of_some _ e
  have up : ∀ b o, s₁.heap.get? b = some o → He.get? b = some o := fun b o e => up₄ _ _ (up₃ _ _ (up₂ _ _ (up₁ _ _ e)))
  rw [show Hi.objs.size = s₁.heap.objs.size + 1 from hIs] at hD ⊢
  rw [show Hd.objs.size = s₁.heap.objs.size + 1 + 1 from hDs] at heC ⊢
  rw [show Hc.objs.size = s₁.heap.objs.size + 1 + 1 + 1 from hCs] at hc
  have hLlt : L < s₁.heap.objs.size := F.ns.lt
  have hNlt : ∀ p ∈ news, @LT.lt Nat _ p.1 s₁.heap.objs.size := fun p hp => Heap.lt_size (N p hp).1
  have new₀ : ∀ a : Nat, s₁.heap.objs.size ≤ a → h₀.get? a = none := fun a ha => Heap.get?_none_of_le (Nat.le_trans F.above (Nat.le_trans (Nat.le_of_lt hLlt) ha))
  have new : ∀ a : Nat, s₁.heap.objs.size ≤ a → a ≠ L ∧ h₀.get? a = none := fun a ha => ⟨by have := hLlt; intro e; subst e; exact absurd hLlt (Nat.not_lt.mpr ha), new₀ a ha⟩
  generalize s₁.heap.objs.size = Ia at *
  have hN₀ : News h₀ L He ((Ia, { cls := .type "range_iterator", data := .fields #[rawInt 0, rawInt (n : Int), rawInt 1] }) :: (Ia + 1 + 1, oC) :: (Ia + 1, LCg.lst []) :: (Ia + 1 + 1 + 1, { cls := .type "cell", data := .cell none }) :: news) :=
    nCons ⟨up₄ _ _ (up₃ _ _ (up₂ _ _ hI)), new _ (Nat.le_refl _)⟩ (nCons ⟨up₄ _ _ heC, new _ (Nat.le_add_right Ia 2)⟩ (nCons ⟨up₄ _ _ (up₃ _ _ hD), new _ (Nat.le_add_right Ia 1)⟩ (nCons ⟨hc, new _ (Nat.le_add_right Ia 3)⟩ fun p hp => ⟨up _ _ (N p hp).1, (N p hp).2⟩)))
  have hoff₀ : Off4 Ia news := fun p hp =>
    ⟨Nat.ne_of_lt (hNlt p hp), Nat.ne_of_lt (Nat.lt_add_right 1 (hNlt p hp)), Nat.ne_of_lt (Nat.lt_add_right 2 (hNlt p hp)), Nat.ne_of_lt (Nat.lt_add_right 3 (hNlt p hp))⟩
  have hI0 : IsRangeIter He Ia (0 + ((0 : Nat) : Int) * 1) ((n : Int) - ((0 : Nat) : Int)) 1 := by simpa using (hN₀ _ (.head _)).1
  have loop : ∀ tk, codeAny (model prog w) A (.compLoop (.ListComp elt [⟨.Name x px, iter, [], 0⟩] scope pos) 0 (.ref Ia) (.ref (Ia + 1)) (compEnvC scope ((x, Ia + 1 + 1 + 1) :: cl) (Ia + 1 + 1) env))
        (compPost (model prog w) A E none Q (.ref (Ia + 1)) (Ia + 1 + 1)) { s₁ with heap := He, toks := tk } := by
    intro tk₀
    have I0 := LcInv.mk (s₁ := s₁) (n := n) (I := Ia) (m := m) (J := J) He tk₀ 0 [] _ _ none news (Nat.zero_le _) rfl hI0 (F.keeps up) hN₀ rfl hoff₀ hJ
    refine codeAny_compLoop_tests (fun k s' => LcInv h₀ L m J n Ia oC s₁ k s') ?_ (n + 1) I0
    clear I0 up hNlt new₀ up₄ up₃ up₂ up₁ hIs hDs hCs hI hD hc hsm hrs heC hN₀ hoff₀ hI0 new
    rintro k s' ⟨h', tk, i, ys, oI, oc, v, nw, hi, hyl, hst', F', N', hd', hoff, hJ'⟩
    have zI := (N' _ (.head _)).2
    have offI : ∀ p ∈ (Ia + 1 + 1, oC) :: (Ia + 1, LCg.lst ys) :: (Ia + 1 + 1 + 1, oc) :: nw, @Ne Nat p.1 Ia :=
      List.forall_mem_cons.mpr ⟨(ne_2 Ia).symm, List.forall_mem_cons.mpr ⟨(ne_1 Ia).symm, List.forall_mem_cons.mpr ⟨(ne_3 Ia).symm, fun p hp => (hoff p hp).1⟩⟩⟩
    have fr₂ : ∀ h₂ : Heap, (∀ b o, b ∉ [Ia] → h'.get? b = some o → h₂.get? b = some o) → News h₀ L h₂ ((Ia + 1 + 1, oC) :: (Ia + 1, LCg.lst ys) :: (Ia + 1 + 1 + 1, oc) :: nw) := fun h₂ hk₂ p hp =>
      ⟨hk₂ _ _ (by simpa using offI p hp) (N' p (.tail _ hp)).1, (N' p (.tail _ hp)).2⟩
    by_cases hlt : i < n
    · refine W.item i _ _ _ hlt hst' fun v h₂ tk₂ hPv hst₂ hk₂ => ?_
      obtain ⟨tv, rfl⟩ := hPv
      rw [Int.zero_add]
      have get₂ := fr₂ h₂ hk₂
      have zc := get₂ _ (.tail _ (.tail _ (.head _)))
      have F₂ : Fr h₀ L h₂ m := LCg.fr_but F' hk₂ (Ne.symm zI.1) zI.2
      refine wpAny_assign_Name (wpAny_storeName_cell (by simp [compEnvC, relabel, hkind]) (lookup_relabel_cell hx) (by simp [compEnvC]) ⟨oc, zc.1, hd'⟩ (fun h₃ hv hs₃ => ?_))
      obtain ⟨oc', hoc', hd₃⟩ := hv
      refine wpAny_tests_nil ?_
      simp only [if_true]
      have F₃ : Fr h₀ L h₃ m := F₂.change hs₃ zc.2.1 zc.2.2
      have hst₃ : IsRangeIter h₃ Ia (0 + ((i + 1 : Nat) : Int) * 1) ((n : Int) - ((i + 1 : Nat) : Int)) 1 := (hs₃.2 Ia (ne_3 Ia)).trans hst₂
      have N₃ : News h₀ L h₃ ((Ia, _) :: (Ia + 1 + 1, oC) :: (Ia + 1, LCg.lst ys) :: (Ia + 1 + 1 + 1, oc') :: nw) :=
        nCons ⟨hst₃, zI⟩ (alCat (l := [_, _]) (nKeep (alLft (l := [_, _]) get₂) hs₃.2 (List.forall_mem_cons.mpr ⟨ne_1 (Ia + 1 + 1), List.forall_mem_cons.mpr ⟨ne_2 (Ia + 1), fun _ h => nomatch h⟩⟩))
          (nCons ⟨hoc', zc.2⟩ (nKeep (alRgt (l := [_, _, _]) get₂) hs₃.2 fun p hp => (hoff p hp).2.2.2)))
      have off : LCg.Off3 Ia (Ia + 1 + 1) (Ia + 1) ((Ia + 1 + 1 + 1, oc') :: nw) := LCg.Off3.of (List.forall_mem_cons.mpr ⟨⟨(ne_3 Ia).symm, (ne_1 (Ia + 1 + 1)).symm, (ne_2 (Ia + 1)).symm⟩, fun p hp => ⟨(hoff p hp).1, (hoff p hp).2.2.1, (hoff p hp).2.1⟩⟩)
      refine wpAny_mono (turn i ys nw tv Ia _ (Ia + 1 + 1) oC (Ia + 1) (Ia + 1 + 1 + 1) oc' h₃ _ _ hlt hJ' hd₃ F₃ N₃ off (fun p hp => (hoff p hp).2.2.2) ⟨ne_2 Ia, ne_1 Ia, (ne_1 (Ia + 1)).symm⟩) (fun y s₄ h₄ => ?_) fun _ _ e => e
      clear turn fin W hst' N' F' hoff hst₂ hk₂ zc F₂ hs₃ F₃ N₃ hst₃ off get₂ fr₂ offI
      obtain ⟨h₄, tk₄, news₄, rfl, F₄, N₄, off₄, _, nw', rfl, hoff', hJ₄⟩ := h₄
      have zD := N₄ _ (.tail _ (.tail _ (.head _)))
      refine append_at (hsz := by show ys.toArray.size ≤ sizeLine; rw [List.size_toArray, hyl]; exact Nat.le_trans (m := 1000) (Nat.le_trans hi hn) (by decide)) zD.1 fun h₅ hs₅ hD₅ => ?_
      have off4 := off₄.mem
      have zI := (N₄ _ (.head _)).2
      exact ⟨n + 1 - (i + 1), by omega, LcInv.mk h₅ tk₄ (i + 1) (ys ++ [y]) _ oc' _ nw' hlt (by rw [List.length_append, List.length_singleton, hyl]) ((hs₅.2 Ia (ne_1 Ia)).trans (N₄ _ (.head _)).1) (F₄.change hs₅ zD.2.1 zD.2.2)
        (nCons ⟨(hs₅.2 Ia (ne_1 Ia)).trans (N₄ _ (.head _)).1, zI⟩ (nCons ⟨(hs₅.2 _ (ne_1 (Ia + 1)).symm).trans (N₄ _ (.tail _ (.head _))).1, (N₄ _ (.tail _ (.head _))).2⟩ (nCons ⟨hD₅.trans (congrArg some (LCg.lst_snoc ys y)), zD.2⟩
          (nKeep (alRgt (l := [_, _, _]) N₄) hs₅.2 fun p hp => (off4 p hp).2.2)))) hd₃ (fun p hp => have z := off4 p (.tail _ hp); ⟨z.1, z.2.2, z.2.1, hoff' p hp⟩) hJ₄⟩
    · obtain rfl : i = n := by omega
      refine W.done _ _ _ hst' fun h₂ tk₂ hk₂ => ?_
      have F₂ : Fr h₀ L h₂ m := LCg.fr_but F' hk₂ (Ne.symm zI.1) zI.2
      have get₂ := fr₂ h₂ hk₂
      have zC := get₂ _ (.head _)
      have zD := get₂ _ (.tail _ (.head _))
      refine ⟨_, hoC.ns zC.1, fun h'' hs'' => ?_⟩
      exact fin ys nw hJ' _ _ _ (F₂.change hs'' zC.2.1 zC.2.2) (nCons ⟨(hs''.2 _ (ne_1 (Ia + 1))).trans zD.1, zD.2⟩ (nKeep (alRgt (l := [_, _, _]) get₂) hs''.2 fun p hp => (hoff p hp).2.2.1))
        (LCg.Off3.of (I := Ia + 1) (C := Ia + 1) fun p hp => ⟨(hoff p hp).2.1, (hoff p hp).2.1, (hoff p hp).2.1⟩).one
  refine codeAny_compStart_list (loop _) (W.self 0 _ _ _ hI0 (loop _))
end
end
section
theorem off_ML : True := by
  k_with_none
  w_top off
  trivial
theorem rules_ML1 : True := by
  k_with "eval Name" => (k_here; k_dflt (refine' nameX_L (by k_asm) (by ktn_lt) ?_ (by rfl) (by rfl); k_whole))
  k_with "loadName" => (k_here; k_dflt (refine' ldn (by k_asm) (by ktn_lt) ?_; k_whole))
  k_with "call builtin:len" => (k_here; (with_reducible show wpAny _ _ (call (Value.builtin "len") [Value.ref _]) _ _ _); k_dflt (refine' len_led (by k_asm) (by first | assumption | k_mem) (by assumption) (by omega) ?_); intro _ _)
  k_with "subscriptTail" => (k_here; (with_reducible show wpAny _ _ (subscriptTail _ _ (Value.ref _) (Value.int _ _)) _ _ _); k_dflt (refine' item_led (by k_asm) (by k_mem) (by assumption) (by omega) (by omega) (by omega) ?_ (by with_unfolding_all rfl) (by intro _; with_unfolding_all rfl)); intro _)
  k_with "subscriptTail" => (k_here; (with_reducible show wpAny _ _ (subscriptTail _ _ (Value.ref _) (Value.int (Nat.cast _) _)) _ _ _); k_dflt (refine' item_ref (by k_asm) (by k_mem) (by omega) (by omega) ?_ (by with_unfolding_all rfl) (by intro _; with_unfolding_all rfl)))
  trivial
def goodN (rw : List Int) (odd : Int) (m : Nat) : Bool := evenP odd (pairN rw m) && evenP 0 (pairN rw (31 - m))
def foundN (rw : List Int) (odd : Int) (n : Nat) : List Int := ((List.range n).filter (goodN rw odd)).map Int.ofNat
theorem found_succ (rw : List Int) (odd : Int) (n : Nat) : foundN rw odd (n + 1) = if goodN rw odd n then foundN rw odd n ++ [(n : Int)] else foundN rw odd n := by
  unfold foundN
  rw [List.range_succ, List.filter_append, List.map_append]
  by_cases h : goodN rw odd n
  · simp [h]
  · simp [h]
theorem found_len (rw : List Int) (odd : Int) (n : Nat) : (foundN rw odd n).length ≤ n := by
  rw [foundN, List.length_map]
  exact Nat.le_trans (List.length_filter_le _ _) (by simp)
inductive MJ (rw : List Int) (odd : Int) (L ld lf : Nat) (sl : Addr) (R : List (Addr × Obj)) (i : Nat) (m : Str → Option Value) : List (Addr × Obj) → Array GenState → Prop
  | mk (e : Nat) (fvs : List Value) (gs : Array GenState) (gens : ∀ y ∈ gs, y.bare = true) (script : m "script" = some (.ref sl)) (dealt : m "dealt" = some (.ref ld)) (found : m "found" = some (.ref lf)) (h : IntsAre fvs (foundN rw odd i)) :
      MJ rw odd L ld lf sl R i m ((lf, listOf fvs.toArray e) :: R) gs
theorem mask_loop {w : World} {L : Nat} {fa : Addr} {cd : Value} {base : Heap} {rw : List Int} {odd : Int} {ld lf : Nat} {sl : Addr} {R : List (Addr × Obj)} {p : Program} {loose : List Str} {mean : ExcName → Option Value} {mg mb m : Str → Option Value} {s : Shared} {Q : Flow → Shared → Prop} {E : Value → Shared → Prop} {c3 : Obj} {v3 : Option Value} {e : Nat}
   (B : Below callerA base [] base) (F : Fr base L s.heap m) (X : (hd.heap_39 w.params).In base) (T : Top p loose mean mg mb base) (N : News base L s.heap ((L + 1 + 1 + 1, c3) :: (lf, listOf #[] e) :: R)) (hc3 : c3.data = .cell v3)
   (D : LR rw odd L ld R) (hodd : odd = 0 ∨ odd = 1) (hR3 : ∀ q ∈ R, @Ne Nat q.1 (L + 1 + 1 + 1)) (hRf : ∀ q ∈ R, @Ne Nat q.1 lf) (hf3 : @Ne Nat lf (L + 1 + 1 + 1))
   (m1 : m "script" = some (.ref sl)) (m2 : m "dealt" = some (.ref ld)) (m3 : m "found" = some (.ref lf)) (hg : ∀ y ∈ s.gens, y.bare = true)
   (hQ : ∀ h' tk' gs' m' o3 v3 fvs e', (∀ y ∈ gs', y.bare = true) → m' "script" = some (.ref sl) → m' "found" = some (.ref lf) → IntsAre fvs (foundN rw odd 32) → o3.data = .cell v3 → Fr base L h' m' →
     News base L h' ((L + 1 + 1 + 1, o3) :: (lf, listOf fvs.toArray e') :: R) → Q .next { s with heap := h', toks := tk', gens := gs' }) :
   wpAny (model PySem.Challenge.rw_ux0014_01.row.prog w) (callerA.deeper (lawEnv L fa cd)) (exec (lawSt 5) (lawEnv L fa cd)) Q E s := by
  show wpAny _ (callerA.deeper (envOfC "law" (Scope.mk _ _ _ _ _) L fa cd)) (exec (Stmt.For _ _ _ _ _) (envOfC "law" (Scope.mk _ _ _ _ _) L fa cd)) _ _ _
  refine wpAny_For ?_ (fun _ => rfl)
  ktn_open
  refine iter_rngC (env := envOfC _ _ L _ _) (n := 32) (c := L + 1 + 1 + 1) (fun i m nw gs => MJ rw odd L ld lf sl R i m nw gs) rfl (by assumption) (by assumption) hc3 (List.forall_mem_cons.mpr ⟨hf3, hR3⟩) (by assumption) rfl (by decide) rfl rfl (by rfl) ⟨_, [], _, hg, m1, m2, m3, .nil⟩ ?turn ?done
  case turn =>
    clear hQ hg m1 m2 m3 hc3
    rintro I i t m _ h tk _ oI oc hi32 ⟨e, fvs, gs, hg, m1, m2, m3, hfv⟩ hoc hnI hn3 h3I F N
    refine genQ fun Q₁ hQ₁ => ?_
    dsimp only [envOfC] at F N
    obtain ⟨ds, ed, hld, hdl, hdp⟩ := D.ld
    obtain ⟨oo, to, hoo, hood⟩ := D.odd
    ktn_open
    refine LCp.ListComp_P (F₀ := (by k_asm)) (by with_unfolding_all rfl) (by decide) (by rfl) (by decide) (by rfl) (by rfl) (by decide) ?_
    ktn_open
    obtain ⟨ts, e5, hm, hlen, hts⟩ := hdp i hi32
    refine LCp.SrcLP.ledger rfl (by k_asm) (by k_asm) (show List.Mem _ _ from .tail _ (.tail _ (.tail _ hm))) ?hsz ?_
    case hsz => exact Nat.le_trans (m := 1000) (by simp [hlen, pair_len]; exact Nat.le_trans (hand_len i) (by decide)) (by decide)
    intro gg
    refine compRestP_of (fun k ys nw => nw = (I, oI) :: (L + 1 + 1 + 1, oc) :: (lf, listOf fvs.toArray e) :: R ∧ ∃ ss : List Str, StrsAre ys ss ∧ ss.map (fun x => x.cps.toList) = ((pairN rw i).take k).map (segN odd)) ?_ ?_ _ 0 [] _ rfl ⟨rfl, [], .nil, rfl⟩
    · rintro k ys nw v hk ⟨rfl, ss, hss, htx⟩ hv
      have hkk : k < (pairN rw i).length := by simpa [hlen] using hk
      have hit : k < ts.length := by omega
      obtain ⟨t1, t2, htm⟩ := hts k hkk
      have e0 : v = .ref (ts.getD k 0) := by
        have : (refs ts)[k]? = some (.ref (ts.getD k 0)) := by simp [refs, hit]
        rw [show (refs ts).toArray[k]? = (refs ts)[k]? by simp, this] at hv
        exact (Option.some.inj hv).symm
      refine ⟨_, _, _, _, _, e0, .tail _ (.tail _ (.tail _ htm)), rfl, rfl, ?_⟩
      intro I oI C oC D m₂ h tk E' hC hx1 hx2 F₁ N₁ off ne
      refine genQ fun Q₂ hQ₂ => ?_
      obtain ⟨b1, b2, b3, b4⟩ := pair_bounds rw i hkk
      have hpi : (pairN rw i).getD k (0, 0) = (pairN rw i)[k] := by rw [List.getD_eq_getElem?_getD, List.getElem?_eq_getElem hkk]; rfl
      have htk : ((pairN rw i).take (k + 1)).map (segN odd) = ((pairN rw i).take k).map (segN odd) ++ [segN odd ((pairN rw i).getD k (0, 0))] := by
        rw [List.take_add_one, List.getElem?_eq_getElem hkk, List.map_append, hpi]
        rfl
      ktn_open
      refine hQ₂ _ _ (compEnd_same F₁ N₁ off (.inr ⟨_, .tail _ (.tail _ (.tail _ hm)), rfl, _, rfl⟩) ⟨rfl, ss ++ [_], StrsAre.append' hss (.cons _ _ .nil), ?_⟩)
      rw [htk, List.map_append, htx]
      have e2 := mul_one_list 34 (((pairN rw i).getD k (0, 0)).2 + odd)
      simp only [List.map_cons, List.map_nil, segN]
      rw [← e2, app_cps, item_abc b1 b2]
      rfl
    · rintro ys nw ⟨rfl, ss, hss, htx⟩
      rw [List.size_toArray, List.length_map, hlen, Nat.add_zero, List.take_length] at htx
      unfold LCg.FinE
      intro Dd h₂ tk₂ F₂ N₂ o1
      have hsl : ss.length = (pairN rw i).length := by
        have := congrArg List.length htx
        simpa using this
      have hss7 : (((pairN rw i).map (segN odd)).map List.length).sum ≤ 35 := by
        have h1 := seg_sum odd (by omega) (pairN rw i) (pair_ok rw odd i (by omega))
        have h2 := pair_len5 rw i
        omega
      have hw : (ss.map (·.length)).sum + ss.length ≤ 1048576 := by
        have h2 := pair_len5 rw i
        rw [len_map, htx, hsl]
        omega
      ktn_open
      k_dflt (refine' join_listW (News.isList (by k_asm) (.head _)) (by simpa using hss) (by decide) hw ?_)
      intro t' k
      have hjn : (Txt.join (Str.ofString "") ss).cps.toList = ((pairN rw i).map (segN odd)).flatten := by rw [join_cps, htx]
      generalize Txt.join (Str.ofString "") ss = jn at hjn ⊢
      have hjl : jn.length ≤ 35 := by rw [len_cps, hjn, List.length_flatten]; exact hss7
      clear hw hss htx hts hm hlen
      have hfm : (i : Int).fmod 2 = ((i % 2 : Nat) : Int) := by rw [Int.fmod_eq_emod_of_nonneg _ (by decide)]; rfl
      have hfb : 0 ≤ (i : Int).fmod 2 ∧ (i : Int).fmod 2 ≤ 1 := by omega
      obtain ⟨hf0, hf1⟩ := hfb
      ktn_open
      have hx := reply_cps (i := i) hjn
      have hbl := body_len odd (pairN rw i) i hss7
      generalize Str.ofString "257 \"" ++ jn ++ Str.ofString "z\"" ++ Txt.mul (Str.ofString " \"\"") ((i : Int).fmod 2) = x at *
      have hxl : x.length ≤ 45 := by rw [len_cps, hx, List.length_append]; simp only [List.length_cons, List.length_nil]; omega
      have hx5 : 5 ≤ x.length := by rw [len_cps, hx, List.length_append]; simp only [List.length_cons, List.length_nil]; omega
      k_dflt (refine' parse_spec _ _ _ _ _ _ _ _ _ _ _ _ _ _ _ _ _ _ _ _ _ _ _ _ _ _ ?pB ?pF ?pX ?pN ?pT ?pk ?pd ?pu ?px hx5 (slice3 hx) (slice5 hx) ?pQ)
      case pB => k_asm
      case pF => k_asm
      case pX => k_asm
      case pN => k_asm
      case pT => k_asm
      case pk => exact rfl
      case pd => decide
      case pu => decide
      case px => omega
      case pQ =>
        intro told t' h' tk' htold F₃ N₃
        rw [hx, show List.drop 5 (([50, 53, 55, 32, 34] : List Nat) ++ bodyN odd (pairN rw i) i) = bodyN odd (pairN rw i) i from rfl] at htold
        obtain ⟨⟨rest, hr1, hr2⟩, hr3⟩ := body_read odd (pairN rw i) i (pair_ok rw odd i (by omega))
        rw [← htold] at hr1 hr3
        have htl : told.length ≤ 40 := by rw [len_cps, htold]; exact Nat.le_trans (prs_len _ _ (Nat.le_refl _)) hbl
        ktn_open
        have hrd := repl_cps told
        generalize Txt.replace told (Str.ofString "\"") (Str.ofString "\"\"") = dd at hrd ⊢
        rw [← hrd] at hr1
        have hddl : dd.length ≤ 40 := by
          have := congrArg List.length hr1
          rw [List.length_append] at this
          rw [len_cps]
          omega
        have hs1 := starts_yes hx hr1
        have hs2 := starts_no hx hr1 hr2
        ktn_open
        · have hz : evenP odd (pairN rw i) = true := by rw [← hr3, ← last_z]; assumption
          have F₄ := ‹Fr base L _ _›
          have N₄ := ‹News base L _ _›
          clear hx hxl hx5 htold hr3 hr1 hr2 hrd hddl hs1 hs2 hbl hjn hjl hss7 hsl
          have hp31 : (31 - (i : Int)).toNat = 31 - i := by omega
          k_dflt (refine' item_refI N₄ (show List.Mem _ _ from .tail _ (.tail _ (.tail _ (.tail _ hld)))) (by omega) (by omega) (by omega) ?_)
          rw [hp31]
          ktn_open
          have hbd := fun k hk => (pair_bounds rw (31 - i) (k := k) hk).2.2
          k_dflt (refine' text_spec (ps := pairN rw (31 - i)) ?B ?F ?X ?N ?T ?hd ?hl ?hlen5 hbd ?hQ)
          case B => k_asm
          case F => k_asm
          case X => k_asm
          case N => k_asm
          case T => k_asm
          case hd => decide
          case hl => exact (hdp (31 - i) (by omega)).mono fun q hq => .tail _ (.tail _ (.tail _ (.tail _ hq)))
          case hlen5 => exact pair_len5 rw (31 - i)
          case hQ =>
            intro tx t₆ h₆ tk₆ htx F₆ N₆
            have hchk := check_pairs rw (m := 31 - i) (by omega)
            rw [← htx] at hchk
            have hxl := text_len htx hbd (pair_len5 rw (31 - i))
            ktn_open
            k_dflt (refine' check_spec ?B ?F ?X ?N ?T ?hk ?hd (by omega) (text_ascii htx) (text_noq htx) ?hQ)
            case B => k_asm
            case F => k_asm
            case X => k_asm
            case N => k_asm
            case T => k_asm
            case hk => exact rfl
            case hd => decide
            case hQ =>
              intro h₇ tk₇ gs₇ hg₇ F₇ N₇
              rw [hchk]
              replace hg₇ : ∀ y ∈ gs₇, y.bare = true := fun y hy => (hg₇ y hy).elim (hg y) id
              clear F₆ N₆ F₄ N₄
              have hgd : goodN rw odd i = evenP 0 (pairN rw (31 - i)) := by rw [goodN, hz, Bool.true_and]
              cases hb : evenP 0 (pairN rw (31 - i)) with
              | true =>
                rw [hb] at hgd
                ktn_open
                have F₈ := ‹Fr base L _ _›
                have N₈ := ‹News base L _ _›
                have hfl : fvs.length ≤ 1000 := by rw [hfv.length]; exact Nat.le_trans (found_len rw odd i) (by omega)
                refine append_led (K := (I, oI) :: (L + 1 + 1 + 1, oc) :: R) F₈ N₈ (.tail _ (.tail _ (.tail _ (.head _)))) (Nat.le_trans (m := 1000) hfl (by decide)) (fun p hp => ?_) fun h₅ F₅ N₅ => ?_
                · rcases List.mem_cons.mp hp with rfl | hp
                  · exact ⟨.tail _ (.head _), fun e => hnI _ (.head _) e.symm⟩
                  · rcases List.mem_cons.mp hp with rfl | hp
                    · exact ⟨.tail _ (.tail _ (.head _)), fun e => hf3 e.symm⟩
                    · exact ⟨.tail _ (.tail _ (.tail _ (.tail _ hp))), hRf p hp⟩
                · ktn_open
                  refine hQ₁ _ _ (CEnd.intro _ ((lf, listOf (fvs ++ [Value.int i t]).toArray (e + 1)) :: R) F₅ N₅ (.tail _ (.head _)) (.tail _ (.tail _ (.head _))) (List.forall_mem_cons.mpr ⟨.head _, fun p hp => .tail _ (.tail _ (.tail _ hp))⟩) hoc (List.forall_mem_cons.mpr ⟨hnI (lf, listOf fvs.toArray e) (.head _), fun p hp => hnI p (.tail _ hp)⟩) (List.forall_mem_cons.mpr ⟨hf3, hR3⟩) ⟨e + 1, _, _, hg₇, by ktn_lt, by ktn_lt, by ktn_lt, ?_⟩)
                  · rw [found_succ, hgd]
                    exact hfv.append (IntsAre.cons _ _ .nil)
              | false =>
                rw [hb] at hgd
                ktn_open
                refine hQ₁ _ _ (CEnd.intro _ ((lf, listOf fvs.toArray e) :: R) (by assumption) (by assumption) (.tail _ (.head _)) (.tail _ (.tail _ (.head _))) (fun p hp => .tail _ (.tail _ (.tail _ hp))) hoc hnI hn3 ⟨e, fvs, _, hg₇, by ktn_lt, by ktn_lt, by ktn_lt, ?_⟩)
                rw [found_succ, hgd]
                exact hfv
        · have hz : evenP odd (pairN rw i) = false := by rw [← hr3, ← last_z]; assumption
          have hgd : goodN rw odd i = false := by rw [goodN, hz, Bool.false_and]
          refine hQ₁ _ _ (CEnd.intro _ ((lf, listOf fvs.toArray e) :: R) (by assumption) (by assumption) (.tail _ (.head _)) (.tail _ (.tail _ (.head _))) (fun p hp => .tail _ (.tail _ (.tail _ hp))) hoc hnI hn3 ⟨e, fvs, _, hg, by ktn_lt, by ktn_lt, by ktn_lt, ?_⟩)
          rw [found_succ, hgd]
          exact hfv
  case done =>
    rintro m _ h tk _ oc v ⟨e, fvs, gs, hg, m1, m2, m3, hfv⟩ hoc hn3 F N
    dsimp only
    exact hQ _ _ _ _ _ _ _ _ hg m1 m3 hfv hoc F N
end
section
theorem off_JL : True := by
  k_with_none
  w_top off
  trivial
theorem rules_JL1 : True := by
  k_with "eval Name" => (k_here; k_dflt (refine' nameX_L (by k_asm) (by ktn_lt) ?_ (by rfl) (by rfl); k_whole))
  k_with "loadName" => (k_here; k_dflt (refine' ldn (by k_asm) (by ktn_lt) ?_; k_whole))
  k_with "call builtin:len" => (k_here; (with_reducible show wpAny _ _ (call (Value.builtin "len") [Value.ref _]) _ _ _); k_dflt (refine' len_led (by k_asm) (by first | assumption | k_mem) (by assumption) (by omega) ?_); intro _ _)
  k_with "subscriptTail" => (k_here; (with_reducible show wpAny _ _ (subscriptTail _ _ (Value.ref _) (Value.int _ _)) _ _ _); k_dflt (refine' item_led (by k_asm) (by k_mem) (by assumption) (by omega) (by omega) (by omega) ?_ (by with_unfolding_all rfl) (by intro _; with_unfolding_all rfl)); intro _)
  k_with "subscriptTail" => (k_here; (with_reducible show wpAny _ _ (subscriptTail _ _ (Value.ref _) (Value.int (Nat.cast _) _)) _ _ _); k_dflt (refine' item_ref (by k_asm) (by k_mem) (by omega) (by omega) ?_ (by with_unfolding_all rfl) (by intro _; with_unfolding_all rfl)))
  trivial
theorem compRestT_of {prog : Program} {w : World} {A : Around} {s : Shared} {env : Env} {h₀ : Heap} {L : Addr} {m : Str → Option Value} {ct elt : Expr} {x : Str} {scope : Scope} {cl : List (Str × Addr)} {S : List (Addr × Obj) → Prop} {P : Nat → Value → Prop} {Fin : List Value → List (Addr × Obj) → Prop} {n : Nat}
    (J : Nat → List Value → List (Addr × Obj) → Prop)
    (turn : ∀ i ys news v I oI C oC D m₂ h tk (E' : Value → Shared → Prop), i < n → J i ys news → P i v → LCg.NsObj oC m₂ → m₂ x = some v → Fr h₀ L h m → News h₀ L h ((I, oI) :: (C, oC) :: (D, LCg.lst ys) :: news) → LCg.Off3 I C D news → ((@Ne Nat I C) ∧ (@Ne Nat I D) ∧ (@Ne Nat C D)) →
      wpAny (model prog w) A (isTrue ct (compEnvC scope cl C env) (eval ct (compEnvC scope cl C env))) (fun ok s' => if ok = true then
        wpAny (model prog w) A (eval elt (compEnvC scope cl C env)) (LCg.CompEnd h₀ L m { s with heap := h, toks := tk } I oI C oC D (LCg.lst ys) S (fun y news' => J (i + 1) (ys ++ [y]) news')) E' s'
        else LCg.CompEnd h₀ L m { s with heap := h, toks := tk } I oI C oC D (LCg.lst ys) S (fun _ news' => J (i + 1) ys news') Value.none s') E' { s with heap := h, toks := tk })
    (fin : ∀ ys news, J n ys news → Fin ys news) : ∀ k i ys news, k + i = n → J i ys news → LCt.CompRestT prog w A h₀ L m env ct elt x scope cl s S P Fin k i ys news
  | 0, i, ys, news, e, h => LCt.CompRestT.zero (fin ys news (by rw [Nat.zero_add] at e; rw [← e]; exact h))
  | k + 1, i, ys, news, e, h => LCt.CompRestT.succ fun v I oI C oC D m₂ h' tk E' hP hC hx F N off ne =>
      wpAny_mono (turn i ys news v I oI C oC D m₂ h' tk E' (by omega) h hP hC hx F N off ne)
        (fun ok s₁ h₁ => by
          cases ok with
          | true =>
            simp only [if_true] at h₁ ⊢
            exact wpAny_mono h₁ (fun y s₂ ⟨h₂, tk₂, news', e₂, F₂, N₂, off₂, hS, hJ⟩ => ⟨h₂, tk₂, news', e₂, F₂, N₂, off₂, hS, compRestT_of J turn fin k (i + 1) (ys ++ [y]) news' (by omega) hJ⟩) fun _ _ e => e
          | false =>
            simp only [Bool.false_eq_true, if_false] at h₁ ⊢
            obtain ⟨h₂, tk₂, news', e₂, F₂, N₂, off₂, hS, hJ⟩ := h₁
            exact ⟨h₂, tk₂, news', e₂, F₂, N₂, off₂, hS, compRestT_of J turn fin k (i + 1) ys news' (by omega) hJ⟩) fun _ _ e => e
def invB (rw : List Int) (i j : Nat) : Bool := (decide (j < i) && decide (rw.getD i 0 < rw.getD j 0)) || (decide (i < j) && decide (rw.getD j 0 < rw.getD i 0))
def joinN (rw : List Int) (i n : Nat) : List Int := ((List.range n).filter (invB rw i)).map Int.ofNat
theorem join_succ (rw : List Int) (i n : Nat) : joinN rw i (n + 1) = if invB rw i n then joinN rw i n ++ [(n : Int)] else joinN rw i n := by
  unfold joinN
  rw [List.range_succ, List.filter_append, List.map_append]
  by_cases h : invB rw i n
  · simp [h]
  · simp [h]
theorem inv_a {rw : List Int} {i k : Nat} (h1 : (k : Int) < i) (h2 : rw.getD (i : Int).toNat 0 < rw.getD (k : Int).toNat 0) : invB rw i k = true := by
  have h1' : k < i := by omega
  simp only [Int.toNat_natCast] at h2
  simp [invB, h1', h2, -List.getD_eq_getElem?_getD]
theorem inv_b {rw : List Int} {i k : Nat} (h1 : (k : Int) < i) (h2 : ¬ rw.getD (i : Int).toNat 0 < rw.getD (k : Int).toNat 0) : invB rw i k = false := by
  have h1' : ¬ i < k := by omega
  simp only [Int.toNat_natCast] at h2
  simp [invB, h1', h2, -List.getD_eq_getElem?_getD]
theorem inv_c {rw : List Int} {i k : Nat} (h0 : ¬ (k : Int) < i) (h1 : (i : Int) < k) (h2 : rw.getD (k : Int).toNat 0 < rw.getD (i : Int).toNat 0) : invB rw i k = true := by
  have h1' : i < k := by omega
  simp only [Int.toNat_natCast] at h2
  simp [invB, h1', h2, -List.getD_eq_getElem?_getD]
theorem inv_d {rw : List Int} {i k : Nat} (h0 : ¬ (k : Int) < i) (h1 : (i : Int) < k) (h2 : ¬ rw.getD (k : Int).toNat 0 < rw.getD (i : Int).toNat 0) : invB rw i k = false := by
  have h1' : ¬ k < i := by omega
  simp only [Int.toNat_natCast] at h2
  simp [invB, h1', h2, -List.getD_eq_getElem?_getD]
theorem inv_e {rw : List Int} {i k : Nat} (h0 : ¬ (k : Int) < i) (h1 : ¬ (i : Int) < k) : invB rw i k = false := by
  have h1' : ¬ k < i := by omega
  have h2' : ¬ i < k := by omega
  simp [invB, h1', h2', -List.getD_eq_getElem?_getD]
theorem join_yes {rw : List Int} {i k : Nat} {ys : List Value} {t : Tok} (h : IntsAre ys (joinN rw i k)) (hi : invB rw i k = true) : IntsAre (ys ++ [.int (k : Int) t]) (joinN rw i (k + 1)) := by
  rw [join_succ, hi]
  exact h.append (.cons _ _ .nil)
theorem join_no {rw : List Int} {i k : Nat} {ys : List Value} (h : IntsAre ys (joinN rw i k)) (hi : invB rw i k = false) : IntsAre ys (joinN rw i (k + 1)) := by
  rw [join_succ, hi]
  exact h
theorem permJ {d : Obj} {oc : Obj} {oI oC oD : Obj} (D c I C Dd : Addr) {G : List (Addr × Obj)} : ∀ p ∈ (I, oI) :: (C, oC) :: (Dd, oD) :: (c, oc) :: (D, d) :: G, p ∈ (D, d) :: (I, oI) :: (C, oC) :: (Dd, oD) :: (c, oc) :: G :=
  alPerm (P := (· ∈ [(D, d), (I, oI), (C, oC), (Dd, oD), (c, oc)] ++ G)) (l := G) [(D, d), (I, oI), (C, oC), (Dd, oD), (c, oc)] [1, 2, 3, 4, 0] fun _ h => h
theorem permJ2 {h₀ h : Heap} {L : Addr} {d c : Addr × Obj} {T K : List (Addr × Obj)} (N : News h₀ L h (d :: (T ++ (c :: K)))) : News h₀ L h (c :: ((d :: T) ++ K)) :=
  have Z := alRgt (l := d :: T) N
  alCat (l := [c]) (alLft (l := [c]) Z) (alCat (l := d :: T) (alLft (l := d :: T) N) (alRgt (l := [c]) Z))
inductive JLi (rw : List Int) (c5 : Obj) (K : List (Addr × Obj)) (L : Nat) (i : Nat) : List Value → List (Addr × Obj) → Prop
  | mk (js : List Addr) (T : List (Addr × Obj)) (hl : js.length = i) (hT : ∀ q ∈ T, ∀ p ∈ (L + 1 + 1 + 1 + 1 + 1, c5) :: K, @Ne Nat q.1 p.1) (h : ∀ k, k < i → LInts T (js.getD k 0) (joinN rw k 5)) : JLi rw c5 K L i (refs js) (T ++ ((L + 1 + 1 + 1 + 1 + 1, c5) :: K))
theorem joined_st {w : World} {L : Nat} {fa : Addr} {cd : Value} {base : Heap} {rw : List Int} {odd : Int} {ld : Nat} {K : List (Addr × Obj)} {p : Program} {loose : List Str} {mean : ExcName → Option Value} {mg mb m : Str → Option Value} {s : Shared} {Q : Flow → Shared → Prop} {E : Value → Shared → Prop} {c5 : Obj} {v5 : Option Value}
   (B : Below callerA base [] base) (F : Fr base L s.heap m) (X : (hd.heap_39 w.params).In base) (T : Top p loose mean mg mb base) (N : News base L s.heap ((L + 1 + 1 + 1 + 1 + 1, c5) :: K)) (hc5 : c5.data = .cell v5)
   (D : LR rw odd L ld K) (hrw : rw.length = 5) (hK5 : ∀ q ∈ K, @Ne Nat q.1 (L + 1 + 1 + 1 + 1 + 1))
   (hQ : ∀ h' tk' Dj o5 T js e, o5.data = .cell (some (.ref Dj)) → Fr base L h' m → News base L h' ((L + 1 + 1 + 1 + 1 + 1, o5) :: (T ++ K)) → (∀ q ∈ T, ∀ p ∈ K, @Ne Nat q.1 p.1) → (∀ q ∈ T, @Ne Nat q.1 (L + 1 + 1 + 1 + 1 + 1)) →
     (Dj, listOf (refs js).toArray e) ∈ T → js.length = 5 → (∀ k, k < 5 → LInts T (js.getD k 0) (joinN rw k 5)) → Q .next { s with heap := h', toks := tk' }) :
   wpAny (model PySem.Challenge.rw_ux0014_01.row.prog w) (callerA.deeper (lawEnv L fa cd)) (exec (lawSt 6) (lawEnv L fa cd)) Q E s := by
  show wpAny _ (callerA.deeper (envOfC "law" (Scope.mk _ _ _ _ _) L fa cd)) (exec (Stmt.Assign _ _ _) (envOfC "law" (Scope.mk _ _ _ _ _) L fa cd)) _ _ _
  ktn_open
  refine ListComp_C (F₀ := (by k_asm)) (by with_unfolding_all rfl) (fun k => rfl) (fun h => rfl) rfl (by decide) (by rfl) ?_
  ktn_open
  have F₀ := ‹Fr base L _ m›
  have N₀ := ‹News base L _ _›
  refine SrcC.mk _ _ _ _ 5 _ (JLi rw c5 K L) rfl F₀ N₀ ‹IsRange _ _ _ _ _ _ _ _› (by decide) (JLi.mk [] [] rfl (fun q hq => nomatch hq) fun k hk => nomatch hk) ?turn ?fin
  case turn =>
    clear F₀ N₀
    rintro s₂ g rfl
    obtain ⟨orow, Dr, rvs, er, hr1, hr2, hr3, hr4⟩ := D.row
    rintro i _ _ t I oI C oC Dd c oc h tk E' hi ⟨js, Tj, hjs, hT, hL⟩ hoc F N off hnc ne
    refine genQ fun Q₁ hQ₁ => ?_
    have g1 : (L + 1, orow) ∈ Tj ++ ((L + 1 + 1 + 1 + 1 + 1, c5) :: K) := List.mem_append_right _ (.tail _ hr1)
    have g3 : (Dr, listOf rvs.toArray er) ∈ Tj ++ ((L + 1 + 1 + 1 + 1 + 1, c5) :: K) := List.mem_append_right _ (.tail _ hr3)
    generalize hG : Tj ++ ((L + 1 + 1 + 1 + 1 + 1, c5) :: K) = G at *
    refine LCt.ListComp_T (F₀ := (by k_asm)) (by with_unfolding_all rfl) (by decide) (by rfl) (by decide) (by rfl) ?_
    ktn_open
    refine LCt.CompSrcT.range (n := 5) rfl (by k_asm) (by k_asm) (by assumption) (by decide) (by rfl) (by decide) ?_
    intro gg
    refine compRestT_of (fun k ys nw => nw = (I, oI) :: (C, oC) :: (Dd, LCg.lst (refs js)) :: (c, oc) :: G ∧ IntsAre ys (joinN rw i k)) ?_ ?_ _ 0 [] _ rfl ⟨rfl, .nil⟩
    · rintro k ys nw v I₃ oI₃ C₃ oC₃ D₃ m₂ h₈ tk₈ E₈ hk ⟨rfl, hys⟩ ⟨tv, rfl⟩ hC hx F N off₃ ne₃
      rw [Int.zero_add] at hx
      ktn_open
      · exact compEnd_same F N off₃ trivial ⟨rfl, join_yes hys (inv_a (by assumption) (by assumption))⟩
      · exact compEnd_same F N off₃ trivial ⟨rfl, join_no hys (inv_b (by assumption) (by assumption))⟩
      · exact compEnd_same F N off₃ trivial ⟨rfl, join_yes hys (inv_c (by assumption) (by assumption) (by assumption))⟩
      · exact compEnd_same F N off₃ trivial ⟨rfl, join_no hys (inv_d (by assumption) (by assumption) (by assumption))⟩
      · exact compEnd_same F N off₃ trivial ⟨rfl, join_no hys (inv_e (by assumption) (by assumption))⟩
    · rintro ys nw ⟨rfl, hys⟩
      unfold LCg.FinE
      intro D₂ h₉ tk₉ F₉ N₉ o1'
      have o1 := off1_mem _ o1'
      have hoff := LCg.Off3.mem off
      have hG' : (D₂, LCg.lst ys) :: G = ((D₂, LCg.lst ys) :: Tj) ++ ((L + 1 + 1 + 1 + 1 + 1, c5) :: K) := by rw [← hG]; rfl
      refine hQ₁ _ _ (LCg.CompEnd.intro F₉ N₉ ((c, oc) :: ((D₂, LCg.lst ys) :: G)) (permJ D₂ c I C Dd) (LCg.Off3.of (List.forall_mem_cons.mpr ⟨hoff _ (.head _), List.forall_mem_cons.mpr ⟨⟨(o1 _ (.head _)).symm, (o1 _ (.tail _ (.head _))).symm, (o1 _ (.tail _ (.tail _ (.head _)))).symm⟩, fun p hp => hoff p (.tail _ hp)⟩⟩)) trivial ⟨(D₂, LCg.lst ys) :: G, rfl, List.forall_mem_cons.mpr ⟨(o1 _ (.tail _ (.tail _ (.tail _ (.head _))))).symm, hnc⟩, ?_⟩)
      rw [hG', show refs js ++ [Value.ref D₂] = refs (js ++ [D₂]) by simp [refs]]
      refine JLi.mk (js ++ [D₂]) ((D₂, LCg.lst ys) :: Tj) (by rw [List.length_append, hjs]; rfl) (List.forall_mem_cons.mpr ⟨fun p hp => (o1 p (.tail _ (.tail _ (.tail _ (.tail _ (hG ▸ List.mem_append_right _ hp)))))).symm, hT⟩) fun k hk => ?_
      · rcases getD_snoc hjs hk with ⟨h1, h2⟩ | ⟨h1, h2⟩
        · rw [h2]
          exact (hL k h1).mono fun q hq => .tail _ hq
        · subst h1
          rw [h2]
          exact ⟨ys, _, .head _, by simpa using hys⟩
  case fin =>
    rintro s₂ g rfl _ _ ⟨js, Tj, hjs, hT, hL⟩
    unfold LCg.FinE
    intro Dd h₉ tk₉ F₉ N₉ o1'
    have o1 := off1_mem _ o1'
    ktn_open
    have N₁₀ : News base L h₉ ([] ++ (L + 1 + 1 + 1 + 1 + 1, c5) :: (((Dd, LCg.lst (refs js)) :: Tj) ++ K)) := permJ2 N₉
    refine stCN F₉ N₁₀ rfl hc5 (fun q hq => nomatch hq) (fun q hq => ?_) fun h' o' F' N' hd' => ?_
    · rcases List.mem_append.mp hq with hq | hq
      · rcases List.mem_cons.mp hq with rfl | hq
        · exact fun e => o1 _ (List.mem_append_right _ (.head _)) e.symm
        · exact hT q hq _ (.head _)
      · exact hK5 q hq
    · ktn_open
      refine hQ _ _ Dd o' ((Dd, LCg.lst (refs js)) :: Tj) js _ hd' F' N' (fun q hq p hp => ?_) (fun q hq => ?_) (.head _) hjs (fun k hk => (hL k hk).mono fun q hq => .tail _ hq)
      · rcases List.mem_cons.mp hq with rfl | hq
        · exact fun e => o1 p (List.mem_append_right _ (.tail _ hp)) e.symm
        · exact hT q hq p (.tail _ hp)
      · rcases List.mem_cons.mp hq with rfl | hq
        · exact fun e => o1 _ (List.mem_append_right _ (.head _)) e.symm
        · exact hT q hq _ (.head _)
end
section
theorem off_LI : True := by
  k_with_none
  w_top off
  trivial
theorem rules_LI1 : True := by
  k_with "eval Name" => (k_here; k_dflt (refine' nameX_L (by k_asm) (by ktn_lt) ?_ (by rfl) (by rfl); k_whole))
  k_with "loadName" => (k_here; k_dflt (refine' ldn (by k_asm) (by ktn_lt) ?_; k_whole))
  k_with "call builtin:len" => (k_here; (with_reducible show wpAny _ _ (call (Value.builtin "len") [Value.ref _]) _ _ _); k_dflt (refine' len_led (by k_asm) (by first | assumption | k_mem) (by assumption) (by omega) ?_); intro _ _)
  k_with "subscriptTail" => (k_here; (with_reducible show wpAny _ _ (subscriptTail _ _ (Value.ref _) (Value.int _ _)) _ _ _); k_dflt (refine' item_led (by k_asm) (by k_mem) (by assumption) (by omega) (by omega) (by omega) ?_ (by with_unfolding_all rfl) (by intro _; with_unfolding_all rfl)); intro _)
  k_with "subscriptTail" => (k_here; (with_reducible show wpAny _ _ (subscriptTail _ _ (Value.ref _) (Value.int (Nat.cast _) _)) _ _ _); k_dflt (refine' item_ref (by k_asm) (by k_mem) (by omega) (by omega) ?_ (by with_unfolding_all rfl) (by intro _; with_unfolding_all rfl)))
  trivial
structure LJ (rw : List Int) (L : Nat) (K : List (Addr × Obj)) : Prop where
  j : ∃ o Dj js e, (L + 1 + 1 + 1 + 1 + 1, o) ∈ K ∧ o.data = .cell (some (.ref Dj)) ∧ (Dj, listOf (refs js).toArray e) ∈ K ∧ js.length = 5 ∧ ∀ k, k < 5 → LInts K (js.getD k 0) (joinN rw k 5)
theorem join_len (rw : List Int) (i n : Nat) : (joinN rw i n).length ≤ n := by
  rw [joinN, List.length_map]
  exact Nat.le_trans (List.length_filter_le _ _) (by simp)
theorem join_rng (rw : List Int) (i n : Nat) : ∀ x ∈ joinN rw i n, 0 ≤ x ∧ x < n := by
  intro x hx
  obtain ⟨k, hk, rfl⟩ := List.mem_map.mp hx
  have := List.mem_range.mp (List.mem_filter.mp hk).1
  exact ⟨Int.natCast_nonneg k, Int.ofNat_lt.mpr this⟩
def lineN (rw : List Int) (odd : Int) (i : Nat) : Int := ((joinN rw i 5).map fun j => (2 : Int) ^ j.toNat).sum + (((joinN rw i 5).length : Int) + odd) % 2 * 2 ^ i
theorem lines_st {w : World} {L : Nat} {fa : Addr} {cd : Value} {base : Heap} {rw : List Int} {odd : Int} {ld : Nat} {K : List (Addr × Obj)} {p : Program} {loose : List Str} {mean : ExcName → Option Value} {mg mb m : Str → Option Value} {s : Shared} {Q : Flow → Shared → Prop} {E : Value → Shared → Prop}
   (B : Below callerA base [] base) (F : Fr base L s.heap m) (X : (hd.heap_39 w.params).In base) (T : Top p loose mean mg mb base) (N : News base L s.heap K)
   (D : LR rw odd L ld K) (J : LJ rw L K) (hodd : odd = 0 ∨ odd = 1)
   (hQ : ∀ h' tk' Dl lvs e, IntsAre lvs ((List.range 5).map (lineN rw odd)) → Fr base L h' (fun y => if y = "lines" then some (.ref Dl) else m y) → News base L h' ((Dl, listOf lvs.toArray e) :: K) → (∀ p ∈ K, @Ne Nat p.1 Dl) → Q .next { s with heap := h', toks := tk' }) :
   wpAny (model PySem.Challenge.rw_ux0014_01.row.prog w) (callerA.deeper (lawEnv L fa cd)) (exec (lawSt 7) (lawEnv L fa cd)) Q E s := by
  show wpAny _ (callerA.deeper (envOfC "law" (Scope.mk _ _ _ _ _) L fa cd)) (exec (Stmt.Assign _ _ _) (envOfC "law" (Scope.mk _ _ _ _ _) L fa cd)) _ _ _
  refine LCg.Assign_ListComp_U (F₀ := F) (by rfl) (by with_unfolding_all rfl) (by with_unfolding_all rfl) (by decide) (by rfl) (by decide) (by rfl) (by rfl) (by rfl) ?_
  ktn_open
  refine LCg.CompSrc.range (n := 5) rfl (by k_asm) (by k_asm) (by assumption) (by decide) (by rfl) (by decide) ?_
  intro g
  obtain ⟨oo, to, ho1, ho2⟩ := D.odd
  obtain ⟨oj, Dj, js, ej, hj1, hj2, hj3, hj4, hj5⟩ := J.j
  refine compRest_of (fun i ys nw => nw = K ∧ IntsAre ys ((List.range i).map (lineN rw odd))) ?_ ?_ _ 0 [] _ rfl ⟨rfl, .nil⟩
  · rintro i ys nw v I oI C oC Dd m₂ h tk E' hi ⟨rfl, hys⟩ ⟨tv, rfl⟩ hC hx F N off ne
    refine genQ fun Q₁ hQ₁ => ?_
    rw [Int.zero_add] at hx
    obtain ⟨jvs, je, hm, hjv⟩ := hj5 i (by omega)
    have hjl := join_len rw i 5
    have hjr := join_rng rw i 5
    ktn_open
    refine LCg.ListComp_U (F₀ := (by k_asm)) (by with_unfolding_all rfl) (by decide) (by rfl) (by decide) (by rfl) ?_
    ktn_open
    have hjvl : jvs.length ≤ 5 := by rw [hjv.length]; exact hjl
    refine LCg.CompSrc.ledger rfl (by k_asm) (by k_asm) (show List.Mem _ _ from .tail _ (.tail _ (.tail _ hm))) (Nat.le_trans (m := 1000) (by rw [List.size_toArray]; omega) (by decide)) ?_
    intro g2
    refine compRest_of (fun k zs nw' => nw' = (I, oI) :: (C, oC) :: (Dd, LCg.lst ys) :: nw ∧ IntsAre zs (((joinN rw i 5).take k).map fun j => (2 : Int) ^ j.toNat)) ?_ ?_ _ 0 [] _ rfl ⟨rfl, .nil⟩
    · rintro k zs nw' v I₃ oI₃ C₃ oC₃ D₃ m₃ h₃ tk₃ E₃ hk ⟨rfl, hzs⟩ hv hC₃ hx₃ F₃ N₃ off₃ ne₃
      refine genQ fun Q₂ hQ₂ => ?_
      have hkl : k < (joinN rw i 5).length := by rw [← hjv.length]; simpa using hk
      obtain ⟨t, ht⟩ := hjv.get k (joinN rw i 5)[k] (by simp [hkl])
      have e0 : v = .int (joinN rw i 5)[k] t := by
        rw [List.getElem?_toArray, ht] at hv
        exact (Option.some.inj hv).symm
      subst e0
      have hb := hjr (joinN rw i 5)[k] (List.getElem_mem hkl)
      have htk : ((joinN rw i 5).take (k + 1)).map (fun j => (2 : Int) ^ j.toNat) = ((joinN rw i 5).take k).map (fun j => (2 : Int) ^ j.toNat) ++ [(2 : Int) ^ (joinN rw i 5)[k].toNat] := by
        rw [List.take_add_one, List.getElem?_eq_getElem hkl, List.map_append]
        rfl
      generalize (joinN rw i 5)[k] = j at hb htk hx₃
      obtain ⟨hb0, hb1⟩ := hb
      ktn_open
      refine hQ₂ _ _ (compEnd_same F₃ N₃ off₃ (.inr ⟨_, .tail _ (.tail _ (.tail _ hm)), rfl, _, rfl⟩) ⟨rfl, ?_⟩)
      rw [htk]
      exact hzs.append (.cons _ _ .nil)
    · rintro zs nw' ⟨rfl, hzs⟩
      rw [List.size_toArray, hjv.length, Nat.add_zero, List.take_length] at hzs
      unfold LCg.FinE
      intro D₂ h₉ tk₉ F₉ N₉ o1'
      have hof : (((joinN rw i 5).length : Int) + odd).fmod 2 = (((joinN rw i 5).length : Int) + odd) % 2 := Int.fmod_eq_emod_of_nonneg _ (by decide)
      ktn_open
      refine hQ₁ _ _ (LCg.CompEnd.intro (by assumption) (by assumption) nw (fun p hp => .tail _ hp) off trivial ⟨rfl, ?_⟩)
      rw [List.range_succ, List.map_append]
      refine hys.append ?_
      rw [hof]
      exact .cons _ _ .nil
  · rintro ys nw ⟨rfl, hys⟩
    unfold LCg.FinA
    intro Dl h' tk' F' N' o1
    exact hQ _ _ Dl ys _ hys F' N' (off1_mem _ o1)
def rankN (rw : List Int) (odd : Int) : Nat := (((List.range 5).map (lineN rw odd)).foldl rks []).length
theorem rks_len : ∀ (ls kept : List Int), (ls.foldl rks kept).length ≤ kept.length + ls.length
  | [], _ => by simp
  | l :: r, kept => by
    have h := rks_len r (rks kept l)
    have h2 : (rks kept l).length ≤ kept.length + 1 := by
      unfold rks
      split <;> simp
    simp only [List.foldl_cons, List.length_cons]
    omega
theorem rank_st {w : World} {L : Nat} {fa : Addr} {cd : Value} {base : Heap} {rw : List Int} {odd : Int} {ld lf Dl : Nat} {K : List (Addr × Obj)} {fvs lvs : List Value} {e e2 : Nat} {p : Program} {loose : List Str} {mean : ExcName → Option Value} {mg mb m : Str → Option Value} {s : Shared} {Q : Flow → Shared → Prop} {E : Value → Shared → Prop}
   (B : Below callerA base [] base) (F : Fr base L s.heap m) (X : (hd.heap_39 w.params).In base) (T : Top p loose mean mg mb base) (N : News base L s.heap K)
   (hl : (Dl, listOf lvs.toArray e) ∈ K) (hli : IntsAre lvs ((List.range 5).map (lineN rw odd))) (hf : (lf, listOf fvs.toArray e2) ∈ K) (hfi : IntsAre fvs (foundN rw odd 32)) (ml : m "lines" = some (.ref Dl)) (mf : m "found" = some (.ref lf))
   (hrk : (foundN rw odd 32).length = 2 ^ (5 - rankN rw odd))
   (hQ : ∀ h' tk', Fr base L h' m → News base L h' K → Q .next { s with heap := h', toks := tk' }) :
   wpAny (model PySem.Challenge.rw_ux0014_01.row.prog w) (callerA.deeper (lawEnv L fa cd)) (exec (lawSt 8) (lawEnv L fa cd)) Q E s := by
  show wpAny _ (callerA.deeper (envOfC "law" (Scope.mk _ _ _ _ _) L fa cd)) (exec (Stmt.If _ _ _ _) (envOfC "law" (Scope.mk _ _ _ _ _) L fa cd)) _ _ _
  have hfl := found_len rw odd 32
  ktn_open
  k_dflt (refine' rank_spec ?B ?F ?X ?N ?T ?hd hl hli ?hn ?hQ)
  case B => k_asm
  case F => k_asm
  case X => k_asm
  case N => k_asm
  case T => k_asm
  case hd => decide
  case hn => simp
  case hQ =>
    intro t' h' tk' F' N'
    have hr5 : rankN rw odd ≤ 5 := Nat.le_trans (rks_len _ []) (by simp)
    have e0 : (((List.range 5).map (lineN rw odd)).foldl rks []).length = rankN rw odd := rfl
    rw [e0]
    generalize rankN rw odd = rk at *
    have hpw : (2 : Int) ^ (5 - (rk : Int)).toNat = ((foundN rw odd 32).length : Int) := by
      rw [hrk, show (5 - (rk : Int)).toNat = 5 - rk by omega]
      simp
    ktn_open
    · exact absurd hpw.symm (by assumption)
    · exact hQ _ _ (by assumption) (by assumption)
end
section
theorem off_CK : True := by
  k_with_none
  w_top off
  trivial
theorem rules_CK1 : True := by
  k_with "eval Name" => (k_here; k_dflt (refine' nameX_L (by k_asm) (by ktn_lt) ?_ (by rfl) (by rfl); k_whole))
  k_with "loadName" => (k_here; k_dflt (refine' ldn (by k_asm) (by ktn_lt) ?_; k_whole))
  k_with "call builtin:len" => (k_here; (with_reducible show wpAny _ _ (call (Value.builtin "len") [Value.ref _]) _ _ _); k_dflt (refine' len_led (by k_asm) (by first | assumption | k_mem) (by assumption) (by omega) ?_); intro _ _)
  k_with "subscriptTail" => (k_here; (with_reducible show wpAny _ _ (subscriptTail _ _ (Value.ref _) (Value.int _ _)) _ _ _); k_dflt (refine' item_led (by k_asm) (by k_mem) (by assumption) (by omega) (by omega) (by omega) ?_ (by with_unfolding_all rfl) (by intro _; with_unfolding_all rfl)); intro _)
  k_with "subscriptTail" => (k_here; (with_reducible show wpAny _ _ (subscriptTail _ _ (Value.ref _) (Value.int (Nat.cast _) _)) _ _ _); k_dflt (refine' item_ref (by k_asm) (by k_mem) (by omega) (by omega) ?_ (by with_unfolding_all rfl) (by intro _; with_unfolding_all rfl)))
  k_with "binaryOp Pow int int" => (k_here; (with_reducible refine' pow2_k (by with_reducible assumption) (by with_reducible assumption) ?_))
  k_with "binaryOp FloorDiv int int" => (k_here; (with_reducible refine' fdiv2_k (by with_reducible assumption) ?_))
  trivial
theorem found_rng (rw : List Int) (odd : Int) (n : Nat) : ∀ x ∈ foundN rw odd n, 0 ≤ x ∧ x < n := by
  intro x hx
  obtain ⟨k, hk, rfl⟩ := List.mem_map.mp hx
  have := List.mem_range.mp (List.mem_filter.mp hk).1
  exact ⟨Int.natCast_nonneg k, Int.ofNat_lt.mpr this⟩
def ownN (rw : List Int) (mask : Int) (i : Nat) : List Int := (joinN rw i 5).filter fun j => mask / 2 ^ j.toNat % 2 == mask / 2 ^ i % 2
theorem fd_of (x : Int) (n : Nat) : (x.fdiv (2 ^ n)).fmod 2 = x / 2 ^ n % 2 := by
  rw [Int.fdiv_eq_ediv_of_nonneg _ (Int.pow_nonneg (by decide)), Int.fmod_eq_emod_of_nonneg _ (by decide)]
theorem own_len (rw : List Int) (x : Int) (i : Nat) : (ownN rw x i).length ≤ 5 := Nat.le_trans (List.length_filter_le _ _) (join_len rw i 5)
theorem check_st {w : World} {L : Nat} {fa : Addr} {cd : Value} {base : Heap} {rw : List Int} {odd : Int} {ld lf : Nat} {sl : Addr} {K : List (Addr × Obj)} {fvs : List Value} {e2 : Nat} {p : Program} {loose : List Str} {mean : ExcName → Option Value} {mg mb m : Str → Option Value} {s : Shared} {Q : Flow → Shared → Prop} {E : Value → Shared → Prop} {c3 c4 : Obj} {v3 v4 : Option Value}
   (B : Below callerA base [] base) (F : Fr base L s.heap m) (X : (hd.heap_39 w.params).In base) (T : Top p loose mean mg mb base) (N : News base L s.heap ((L + 1 + 1 + 1, c3) :: (L + 1 + 1 + 1 + 1, c4) :: K)) (hc3 : c3.data = .cell v3) (hc4 : c4.data = .cell v4)
   (D : LR rw odd L ld K) (J : LJ rw L K) (hodd : odd = 0 ∨ odd = 1) (hK3 : ∀ q ∈ K, @Ne Nat q.1 (L + 1 + 1 + 1)) (hK4 : ∀ q ∈ K, @Ne Nat q.1 (L + 1 + 1 + 1 + 1))
   (hf : (lf, listOf fvs.toArray e2) ∈ K) (hfi : IntsAre fvs (foundN rw odd 32)) (mf : m "found" = some (.ref lf)) (ms : m "script" = some (.ref sl))
   (hck : ∀ x ∈ foundN rw odd 32, ∀ i : Nat, i < 5 → ((ownN rw x i).length : Int) % 2 = odd * (x / 2 ^ i % 2))
   (hQ : ∀ h' tk' m' o3 o4 w3 w4, m' "found" = some (.ref lf) → m' "script" = some (.ref sl) → Fr base L h' m' → News base L h' ((L + 1 + 1 + 1, o3) :: (L + 1 + 1 + 1 + 1, o4) :: K) → o3.data = .cell w3 → o4.data = .cell w4 → Q .next { s with heap := h', toks := tk' }) :
   wpAny (model PySem.Challenge.rw_ux0014_01.row.prog w) (callerA.deeper (lawEnv L fa cd)) (exec (lawSt 9) (lawEnv L fa cd)) Q E s := by
  show wpAny _ (callerA.deeper (envOfC "law" (Scope.mk _ _ _ _ _) L fa cd)) (exec (Stmt.For _ _ _ _ _) (envOfC "law" (Scope.mk _ _ _ _ _) L fa cd)) _ _ _
  refine wpAny_For ?_ (fun _ => rfl)
  ktn_open
  have h43 : @Ne Nat (L + 1 + 1 + 1 + 1) (L + 1 + 1 + 1) := by refine neN ?_; omega
  refine iter_ledC (env := envOfC _ _ L _ _) (c := L + 1 + 1 + 1) (fun i m nw gs => gs = s.gens ∧ m "found" = some (.ref lf) ∧ m "script" = some (.ref sl) ∧ ∃ o4 w4, nw = (L + 1 + 1 + 1 + 1, o4) :: K ∧ o4.data = .cell w4) rfl (by assumption) (by assumption) hc3 (List.forall_mem_cons.mpr ⟨h43, hK3⟩) (.tail _ hf) rfl rfl (by rfl) ⟨rfl, mf, ms, _, _, rfl, hc4⟩ ?hJ ?turn ?done
  case hJ =>
    rintro i m nw gs ⟨_, _, _, o4, w4, rfl, _⟩
    exact .tail _ hf
  case turn =>
    clear hQ hc3 hc4 mf ms
    rintro I i v m nw h tk gs oI oc hv ⟨rfl, mf, ms, o4, w4, rfl, hc4⟩ hoc hnI hn3 h3I F N
    refine genQ fun Q₁ hQ₁ => ?_
    dsimp only [envOfC] at F N
    have hil : i < (foundN rw odd 32).length := by rw [← hfi.length]; exact (List.getElem?_eq_some_iff.mp hv).1
    obtain ⟨t, ht⟩ := hfi.get i (foundN rw odd 32)[i] (by simp [hil])
    rw [hv] at ht
    cases ht
    have hxm := List.getElem_mem hil
    have hxr := found_rng rw odd 32 _ hxm
    have hxk := hck _ hxm
    generalize (foundN rw odd 32)[i] = x at *
    obtain ⟨hx0, hx1⟩ := hxr
    ktn_open
    refine wpAny_For ?_ (fun _ => rfl)
    ktn_open
    have F₁ := ‹Fr base L _ m›
    have N₁ := ‹News base L _ ((I, oI) :: _)›
    have N₂ : News base L _ ((L + 1 + 1 + 1 + 1, o4) :: (I, oI) :: (L + 1 + 1 + 1, oc) :: K) := alPerm (l := K) [_, _, _] [2, 0, 1] N₁
    have hI4 : @Ne Nat I (L + 1 + 1 + 1 + 1) := fun e => hnI _ (.head _) e.symm
    refine iter_rngC (env := envOfC _ _ L _ _) (n := 5) (c := L + 1 + 1 + 1 + 1) (fun j m' nw gs' => gs' = s.gens ∧ m' "found" = some (.ref lf) ∧ m' "script" = some (.ref sl) ∧ nw = (I, oI) :: (L + 1 + 1 + 1, oc) :: K) rfl F₁ N₂ hc4 (List.forall_mem_cons.mpr ⟨hI4, List.forall_mem_cons.mpr ⟨fun e => h43 e.symm, hK4⟩⟩) (by assumption) rfl (by decide) rfl rfl (by rfl) ⟨rfl, mf, ms, rfl⟩ ?t2 ?d2
    case t2 =>
      clear hc4 mf ms
      rintro I₂ i t₂ m₂ nw h tk gs oI₂ o4 hi5 ⟨rfl, mf, ms, rfl⟩ hoc4 hnI₂ hn4 h4I₂ F N
      refine genQ fun Q₂ hQ₂ => ?_
      dsimp only [envOfC] at F N
      obtain ⟨oj, Dj, js, ej, hj1, hj2, hj3, hj4, hj5⟩ := J.j
      obtain ⟨oo, to, ho1, ho2⟩ := D.odd
      obtain ⟨jvs, je, hm, hjv⟩ := hj5 i hi5
      have hjl := join_len rw i 5
      have hjr := join_rng rw i 5
      have hjvl : jvs.length ≤ 5 := by rw [hjv.length]; exact hjl
      have hxi := hxk i hi5
      have hi0 : (0 : Int) ≤ (i : Int) := Int.natCast_nonneg i
      have hi1 : (i : Int) < 5 := by omega
      refine wpAny_execs_cons ?_
      refine LCt.Assign_ListComp_T (F₀ := F) (by rfl) (by with_unfolding_all rfl) (by with_unfolding_all rfl) (by decide) (by rfl) (by decide) (by rfl) (by rfl) (by rfl) ?_
      ktn_open
      refine LCt.CompSrcT.ledger rfl (by k_asm) (by k_asm) (show List.Mem _ _ from .tail _ (.tail _ (.tail _ (.tail _ hm)))) (Nat.le_trans (m := 1000) (by rw [List.size_toArray]; omega) (by decide)) ?_
      intro gg
      refine compRestT_of (fun k zs nw => nw = (I₂, oI₂) :: (L + 1 + 1 + 1 + 1, o4) :: (I, oI) :: (L + 1 + 1 + 1, oc) :: K ∧ IntsAre zs (((joinN rw i 5).take k).filter fun j => x / 2 ^ j.toNat % 2 == x / 2 ^ i % 2)) ?_ ?_ _ 0 [] _ rfl ⟨rfl, .nil⟩
      · rintro k zs nw v I₃ oI₃ C₃ oC₃ D₃ m₃ h₃ tk₃ E₃ hk ⟨rfl, hzs⟩ hv hC₃ hx₃ F₃ N₃ off₃ ne₃
        have hkl : k < (joinN rw i 5).length := by rw [← hjv.length]; simpa using hk
        obtain ⟨t, ht⟩ := hjv.get k (joinN rw i 5)[k] (by simp [hkl])
        have e0 : v = .int (joinN rw i 5)[k] t := by
          rw [List.getElem?_toArray, ht] at hv
          exact (Option.some.inj hv).symm
        subst e0
        have hb := hjr (joinN rw i 5)[k] (List.getElem_mem hkl)
        have htk : (joinN rw i 5).take (k + 1) = (joinN rw i 5).take k ++ [(joinN rw i 5)[k]] := by
          rw [List.take_add_one, List.getElem?_eq_getElem hkl]
          rfl
        generalize (joinN rw i 5)[k] = j at hb htk hx₃
        obtain ⟨hb0, hb1⟩ := hb
        ktn_open
        · refine compEnd_same F₃ N₃ off₃ (.inr ⟨_, .tail _ (.tail _ (.tail _ (.tail _ hm))), rfl, _, rfl⟩) ⟨rfl, ?_⟩
          have hh : (x.fdiv (2 ^ j.toNat)).fmod 2 = (x.fdiv (2 ^ (i : Int).toNat)).fmod 2 := by assumption
          rw [fd_of, fd_of, Int.toNat_natCast] at hh
          rw [htk, List.filter_append, show [j].filter (fun j => x / 2 ^ j.toNat % 2 == x / 2 ^ i % 2) = [j] by simp [hh]]
          exact hzs.append (.cons _ _ .nil)
        · refine compEnd_same F₃ N₃ off₃ (.inr ⟨_, .tail _ (.tail _ (.tail _ (.tail _ hm))), rfl, _, rfl⟩) ⟨rfl, ?_⟩
          have hh : (x.fdiv (2 ^ j.toNat)).fmod 2 ≠ (x.fdiv (2 ^ (i : Int).toNat)).fmod 2 := by assumption
          rw [fd_of, fd_of, Int.toNat_natCast] at hh
          rw [htk, List.filter_append, show [j].filter (fun j => x / 2 ^ j.toNat % 2 == x / 2 ^ i % 2) = [] by simp [hh], List.append_nil]
          exact hzs
      · rintro zs nw ⟨rfl, hzs⟩
        rw [List.size_toArray, hjv.length, Nat.add_zero, List.take_length] at hzs
        have hzs' : IntsAre zs (ownN rw x i) := hzs
        unfold LCg.FinA
        intro D₂ h₉ tk₉ F₉ N₉ o1'
        have hol := own_len rw x i
        have hle : (((ownN rw x i).length : Int)).fmod 2 = odd * (x.fdiv (2 ^ (i : Int).toNat)).fmod 2 := by
          rw [fd_of, Int.toNat_natCast, Int.fmod_eq_emod_of_nonneg _ (by decide)]
          exact hxi
        ktn_open
        · exact absurd hle (by assumption)
        · refine hQ₂ _ _ (CEnd.intro _ ((I, oI) :: (L + 1 + 1 + 1, oc) :: K) (by assumption) (by assumption) (.tail _ (.head _)) (.tail _ (.tail _ (.head _))) (fun p hp => .tail _ (.tail _ (.tail _ hp))) hoc4 hnI₂ hn4 ⟨rfl, by ktn_lt, by ktn_lt, rfl⟩)
    case d2 =>
      rintro m₂ nw h tk gs o4' v4' ⟨rfl, mf, ms, rfl⟩ hoc4 hn4 F N
      dsimp only
      ktn_open
      refine hQ₁ _ _ (CEnd.intro _ ((L + 1 + 1 + 1 + 1, o4') :: K) F N (.tail _ (.head _)) (.tail _ (.tail _ (.head _))) (List.forall_mem_cons.mpr ⟨.head _, fun p hp => .tail _ (.tail _ (.tail _ hp))⟩) hoc (List.forall_mem_cons.mpr ⟨hI4.symm, fun p hp => hnI _ (.tail _ hp)⟩) (List.forall_mem_cons.mpr ⟨h43, fun p hp => hn3 _ (.tail _ hp)⟩) ⟨rfl, mf, ms, _, _, rfl, hoc4⟩)
  case done =>
    rintro m nw h tk gs oc v ⟨rfl, mf, ms, o4, w4, rfl, hc4⟩ hoc hn3 F N
    dsimp only
    exact hQ _ _ _ _ _ _ _ mf ms F N hoc hc4
end
section
theorem off_TS0 : True := by
  k_with_none
  w_top off
  trivial
section
variable {prog : Program} {w : World} {A : Around} {E : Value → Shared → Prop} {s : Shared} {n k a : Int} {t u : Tok} {Q : Value → Shared → Prop}
theorem pow_bnd (h1 : 1 ≤ n) (h2 : n ≤ 32) : ∀ k : Nat, k < 3 → 1 ≤ n ^ k ∧ n ^ k ≤ 1024
  | 0, _ => by rw [Int.pow_zero]; omega
  | 1, _ => by rw [Int.pow_succ, Int.pow_zero, Int.one_mul]; omega
  | 2, _ => by
    rw [Int.pow_succ, Int.pow_succ, Int.pow_zero, Int.one_mul]
    have e1 : 1 * 1 ≤ n * n := Int.mul_le_mul h1 h1 (by omega) (by omega)
    have e2 : n * n ≤ 32 * 32 := Int.mul_le_mul h2 h2 (by omega) (by omega)
    omega
  | k + 3, h => by omega
theorem pown_k (h0 : 0 ≤ k) (h1 : k < 3) (h2 : 1 ≤ n) (h3 : n ≤ 32) (h : Q (.int (n ^ k.toNat) s.toks) { s with toks := s.toks + 1 }) : wpAny (model prog w) A (binaryOp .Pow (.int n t) (.int k u)) Q E s :=
  pow_int_small h0 (by omega) (by omega) h
theorem fdivn_k (h1 : k < 3) (h2 : 1 ≤ n) (h3 : n ≤ 32) (h : Q (.int (a.fdiv (n ^ k.toNat)) s.toks) { s with toks := s.toks + 1 }) : wpAny (model prog w) A (binaryOp .FloorDiv (.int a t) (.int (n ^ k.toNat) u)) Q E s := by
  have hb := pow_bnd h2 h3 k.toNat (by omega)
  refine floordiv_int (by omega) h (Or.inl (PyProof.noPylong_of_log2 ?_))
  have h5 : (n ^ k.toNat).natAbs ≤ 1024 := by omega
  have h6 : (n ^ k.toNat).natAbs < 2 ^ 11 := Nat.lt_of_le_of_lt h5 (by decide)
  by_cases hz : (n ^ k.toNat).natAbs = 0
  · rw [hz]; decide
  · have := (Nat.log2_lt hz).mpr h6
    omega
theorem modn_k (h2 : 1 ≤ n) (h : Q (.int (a.fmod n) s.toks) { s with toks := s.toks + 1 }) : wpAny (model prog w) A (binaryOp .Mod (.int a t) (.int n u)) Q E s := by
  refine mod_int' (by omega) h
theorem fmod_nn (h2 : 1 ≤ n) : 0 ≤ a.fmod n := Int.fmod_nonneg_of_pos _ (by omega)
theorem fmod_lt (h2 : 1 ≤ n) : a.fmod n < n := Int.fmod_lt_of_pos _ (by omega)
end
end
section
theorem off_SL : True := by
  k_with_none
  w_top off
  trivial
theorem srt_take {l : List Int} {x : Int} : ∀ (l : List Int) (r : Nat), (∀ i, i < r → l.getD i 0 < x) → (∀ i, r ≤ i → i < l.length → ¬ l.getD i 0 < x) → r ≤ l.length → l.take r = l.filter (fun y => decide (y < x))
  | [], r, _, _, _ => by simp
  | y :: t, 0, _, h2, _ => by
    have h0 : ¬ y < x := h2 0 (Nat.le_refl _) (by simp)
    have ih := srt_take (l := l) (x := x) t 0 (fun i hi => by omega) (fun i _ hi => by simpa using h2 (i + 1) (by omega) (by simpa using hi)) (Nat.zero_le _)
    rw [List.filter_cons, decide_eq_false h0]
    simpa using ih
  | y :: t, r + 1, h1, h2, h3 => by
    have h0 : y < x := h1 0 (by omega)
    have ih := srt_take (l := l) (x := x) t r (fun i hi => by simpa using h1 (i + 1) (by omega)) (fun i hr hi => by simpa using h2 (i + 1) (by omega) (by simpa using hi)) (by simpa using h3)
    rw [List.filter_cons, decide_eq_true h0, List.take_succ_cons, ih]
    simp
theorem srt_drop {l : List Int} {x : Int} (hs : l.Pairwise (· < ·)) (hx : x ∈ l) (r : Nat) (h1 : ∀ i, i < r → l.getD i 0 < x) (h2 : ∀ i, r ≤ i → i < l.length → ¬ l.getD i 0 < x) : ∃ t, l.drop r = x :: t := by
  obtain ⟨i, hi, rfl⟩ := List.getElem_of_mem hx
  have hir : ¬ i < r := fun h => by
    have := h1 i h
    rw [List.getD_eq_getElem?_getD, List.getElem?_eq_getElem hi] at this
    simp at this
  have hri : r < l.length := by omega
  have e := h2 r (Nat.le_refl _) hri
  rw [List.getD_eq_getElem?_getD, List.getElem?_eq_getElem hri] at e
  simp only [Option.getD_some] at e
  have hri' : r = i := by
    rcases Nat.lt_or_ge r i with h | h
    · have := (List.pairwise_iff_getElem.mp hs) r i hri hi h
      omega
    · omega
  subst hri'
  exact ⟨l.drop (r + 1), List.drop_eq_getElem_cons hri⟩
theorem srt_le {l : List Int} (hs : l.Pairwise (· < ·)) (i j : Nat) (hij : i ≤ j) (hj : j < l.length) : l.getD i 0 ≤ l.getD j 0 := by
  rw [List.getD_eq_getElem?_getD, List.getD_eq_getElem?_getD, List.getElem?_eq_getElem hj, List.getElem?_eq_getElem (by omega)]
  simp only [Option.getD_some]
  rcases Nat.lt_or_ge i j with h | h
  · exact Int.le_of_lt ((List.pairwise_iff_getElem.mp hs) i j (by omega) hj h)
  · obtain rfl : i = j := by omega
    exact Int.le_refl _
end
section
theorem off_TL : True := by
  k_with_none
  w_top off
  trivial
theorem rules_TL1 : True := by
  k_with "eval Name" => (k_here; k_dflt (refine' nameX_L (by k_asm) (by ktn_lt) ?_ (by rfl) (by rfl); k_whole))
  k_with "loadName" => (k_here; k_dflt (refine' ldn (by k_asm) (by ktn_lt) ?_; k_whole))
  k_with "call builtin:len" => (k_here; (with_reducible show wpAny _ _ (call (Value.builtin "len") [Value.ref _]) _ _ _); k_dflt (refine' len_led (by k_asm) (by first | assumption | k_mem) (by assumption) (by omega) ?_); intro _ _)
  k_with "subscriptTail" => (k_here; (with_reducible show wpAny _ _ (subscriptTail _ _ (Value.ref _) (Value.int _ _)) _ _ _); k_dflt (refine' item_led (by k_asm) (by k_mem) (by assumption) (by omega) (by omega) (by omega) ?_ (by with_unfolding_all rfl) (by intro _; with_unfolding_all rfl)); intro _)
  k_with "subscriptTail" => (k_here; (with_reducible show wpAny _ _ (subscriptTail _ _ (Value.ref _) (Value.int (Nat.cast _) _)) _ _ _); k_dflt (refine' item_ref (by k_asm) (by k_mem) (by omega) (by omega) ?_ (by with_unfolding_all rfl) (by intro _; with_unfolding_all rfl)))
  k_with "binaryOp Pow int int" => (k_here; (with_reducible refine' pown_k (by with_reducible assumption) (by with_reducible assumption) (by with_reducible assumption) (by with_reducible assumption) ?_))
  k_with "binaryOp FloorDiv int int" => (k_here; (with_reducible refine' fdivn_k (by with_reducible assumption) (by with_reducible assumption) (by with_reducible assumption) ?_))
  k_with "binaryOp Mod int int" => (k_here; (with_reducible refine' modn_k (by with_reducible assumption) ?_))
  trivial
theorem found_up (rw : List Int) (odd : Int) (n : Nat) : (foundN rw odd n).Pairwise (· < ·) := by
  unfold foundN
  rw [List.pairwise_map]
  refine List.Pairwise.imp (fun {a b} h => Int.ofNat_lt.mpr h) (List.Pairwise.filter _ List.pairwise_lt_range)
theorem getD_mem {l : List Int} {n : Int} (h0 : 0 ≤ n) (h1 : n < l.length) : l.getD n.toNat 0 ∈ l := by
  have h : n.toNat < l.length := by omega
  rw [List.getD_eq_getElem?_getD, List.getElem?_eq_getElem h]
  exact List.getElem_mem h
theorem slice_one {l : List Int} {g r : Int} (hs : l.Pairwise (· < ·)) (hx : g ∈ l) (h0 : 0 ≤ r) (h1 : ∀ i : Nat, (i : Int) < r → l.getD i 0 < g) (h2 : ∀ i : Nat, r ≤ (i : Int) → i < l.length → ¬ l.getD i 0 < g) :
    List.take (min (r + 1).toNat l.length - r.toNat) (List.drop r.toNat l) = [g] := by
  obtain ⟨t, ht⟩ := srt_drop hs hx r.toNat (fun i hi => h1 i (by omega)) (fun i hi => h2 i (by omega))
  have hl : r.toNat < l.length := by
    have := congrArg List.length ht
    simp at this
    omega
  rw [ht, show min (r + 1).toNat l.length - r.toNat = 1 by omega]
  rfl
structure GJ (rw : List Int) (odd : Int) (L lf : Nat) (K : List (Addr × Obj)) (tot : Int) (gs₀ : Array GenState) (k : Nat) (m : Str → Option Value) (nw : List (Addr × Obj)) (gs : Array GenState) : Prop where
  gens : gs = gs₀
  found : m "found" = some (.ref lf)
  total : ∃ t, m "total" = some (.int tot t)
  nw : ∃ o t g, nw = (L + 1 + 1 + 1 + 1 + 1 + 1, o) :: K ∧ o.data = .cell (some (.int g t)) ∧ ∃ l : List Int, l.length = k ∧ (∀ x ∈ l, x ∈ foundN rw odd 32) ∧ g = l.foldl Builtin.bitXor 0
theorem rules_TL2 : True := by
  k_with "subscriptTail" => (k_here; (with_reducible show wpAny _ _ (subscriptTail _ _ (Value.ref _) (Value.int (Int.fmod _ _) _)) _ _ _); k_dflt (refine' item_led (by k_asm) (by k_mem) (by with_reducible assumption) (by exact fmod_nn (by assumption)) (by exact fmod_lt (by assumption)) (by omega) ?_ (by with_unfolding_all rfl) (by intro _; with_unfolding_all rfl)); intro _)
  trivial
theorem tail_st {w : World} {L : Nat} {fa : Addr} {cd : Value} {base : Heap} {rw : List Int} {odd : Int} {lf : Nat} {sl : Addr} {K : List (Addr × Obj)} {ns : List Int} {vs fvs : List Value} {e2 : Nat} {p : Program} {loose : List Str} {mean : ExcName → Option Value} {mg mb m : Str → Option Value} {s : Shared} {Q : Flow → Shared → Prop} {E : Value → Shared → Prop} {c6 : Obj} {v6 : Option Value}
   (B : Below callerA base [] base) (F : Fr base L s.heap m) (X : (hd.heap_39 w.params).In base) (T : Top p loose mean mg mb base) (N : News base L s.heap ((L + 1 + 1 + 1 + 1 + 1 + 1, c6) :: K)) (hc6 : c6.data = .cell v6)
   (hK6 : ∀ q ∈ K, @Ne Nat q.1 (L + 1 + 1 + 1 + 1 + 1 + 1)) (hsl : base.IsList sl vs.toArray) (hsi : IntsAre vs ns) (hnl : ns.length ≤ 63)
   (hf : (lf, listOf fvs.toArray e2) ∈ K) (hfi : IntsAre fvs (foundN rw odd 32)) (mf : m "found" = some (.ref lf)) (ms : m "script" = some (.ref sl))
   (hne : 1 ≤ (foundN rw odd 32).length) (hx3 : ∀ a ∈ foundN rw odd 32, ∀ b ∈ foundN rw odd 32, ∀ c ∈ foundN rw odd 32, Builtin.bitXor (Builtin.bitXor (Builtin.bitXor 0 a) b) c ∈ foundN rw odd 32)
   (hQ : ∀ h' tk' m' news', Fr base L h' m' → News base L h' news' → (∀ p ∈ K, p ∈ news') → Q (.ret (.bool true)) { s with heap := h', toks := tk' }) :
   wpAny (model PySem.Challenge.rw_ux0014_01.row.prog w) (callerA.deeper (lawEnv L fa cd)) (execs (lawSB.1.drop 10) (lawEnv L fa cd)) Q E s := by
  show wpAny _ (callerA.deeper (envOfC "law" (Scope.mk _ _ _ _ _) L fa cd)) (execs (List.cons _ _) (envOfC "law" (Scope.mk _ _ _ _ _) L fa cd)) _ _ _
  ktn_open
  refine wpAny_For ?_ (fun _ => rfl)
  ktn_open
  have hfl := found_len rw odd 32
  refine iter_rng0 (env := envOfC _ _ L _ _) (n := 3) (GJ rw odd L lf K ns.sum s.gens) rfl (by assumption) (by assumption) (by assumption) rfl (by decide) rfl rfl ⟨rfl, by ktn_lt, ⟨_, by ktn_lt⟩, _, _, 0, rfl, by assumption, [], rfl, (fun x hx => nomatch hx), rfl⟩ ?turn ?done
  case turn =>
    clear hQ
    rintro I k t m nw h tk gs oI hk3 ⟨rfl, mf, ⟨tt, mt⟩, o, to, g, rfl, hod, l, hl, hlm, rfl⟩ hnI F N
    refine genQ fun Q₁ hQ₁ => ?_
    dsimp only [envOfC] at F N
    have hk0 : (0 : Int) ≤ (k : Int) := Int.natCast_nonneg k
    have hk1 : (k : Int) < 3 := by omega
    have hn1 : (1 : Int) ≤ ((foundN rw odd 32).length : Int) := by omega
    have hn2 : ((foundN rw odd 32).length : Int) ≤ 32 := by omega
    have hfn : (foundN rw odd 32).length ≤ 1000 := by omega
    ktn_open
    refine stCN (own := [(I, oI)]) (by k_asm) ‹News base L _ ((I, oI) :: _)› rfl hod (fun q hq => ?_) hK6 fun h' o' F'' N'' hd' => ?_
    · rw [List.mem_singleton.mp hq]
      exact fun e => hnI _ (.head _) e.symm
    · ktn_open
      refine hQ₁ _ _ (FEnd.intro _ ((L + 1 + 1 + 1 + 1 + 1 + 1, o') :: K) F'' N'' (.head _) (fun p hp => .tail _ hp) (fun p hp => ?_) ⟨rfl, by ktn_lt, ⟨_, by ktn_lt⟩, _, _, _, rfl, hd', l ++ [_], by simp [hl], fun x hx => ?_, by rw [List.foldl_append]; rfl⟩)
      · rcases List.mem_cons.mp hp with rfl | hp
        · exact hnI (L + 1 + 1 + 1 + 1 + 1 + 1, o) (.head _)
        · exact hnI p (.tail _ hp)
      · rcases List.mem_append.mp hx with hx | hx
        · exact hlm x hx
        · rw [List.mem_singleton.mp hx]
          exact getD_mem (fmod_nn hn1) (fmod_lt hn1)
  case done =>
    rintro m nw h tk gs ⟨rfl, mf, ⟨tt, mt⟩, o, to, g, rfl, hod, l, hl, hlm, hg⟩ F N
    have hgm : g ∈ foundN rw odd 32 := by
      match l, hl, hlm, hg with
      | [a, b, c], _, hlm, hg => rw [hg]; exact hx3 a (hlm a (.head _)) b (hlm b (.tail _ (.head _))) c (hlm c (.tail _ (.tail _ (.head _))))
    dsimp only
    ktn_open
    have hup := found_up rw odd 32
    have hgr := found_rng rw odd 32 g hgm
    have hfn : (foundN rw odd 32).length ≤ 1000 := by omega
    have hfvl : fvs.length ≤ 1000 := by rw [hfi.length]; exact hfn
    k_dflt (refine' bl_spec ?B ?F ?X ?N ?T ?hd (.tail _ hf) hfi hfn (fun i j => srt_le hup i j) ?hQ)
    case B => k_asm
    case F => k_asm
    case X => k_asm
    case N => k_asm
    case T => k_asm
    case hd => decide
    case hQ =>
      intro r₁ t₁ h₁ tk₁ hr0 hr1 hr2 hr3 F₁ N₁
      ktn_open
      k_dflt (refine' bl_spec ?B ?F ?X ?N ?T ?hd (.tail _ hf) hfi hfn (fun i j => srt_le hup i j) ?hQ)
      case B => k_asm
      case F => k_asm
      case X => k_asm
      case N => k_asm
      case T => k_asm
      case hd => decide
      case hQ =>
        intro r₂ t₂ h₂ tk₂ hq0 hq1 hq2 hq3 F₂ N₂
        have hs1 := slice_one hup hgm hr0 hr2 hr3
        have hs2 := srt_take (l := []) (x := 31 - g) (foundN rw odd 32) r₂.toNat (fun i hi => hq2 i (by omega)) (fun i hi => hq3 i (by omega)) (by omega)
        ktn_open
        · have N₃ := ‹News base L _ (_ :: _ :: _ :: _ :: K)›
          refine LCt.ListComp_T (F₀ := (by k_asm)) (by with_unfolding_all rfl) (by decide) (by rfl) (by decide) (by rfl) ?_
          ktn_open
          refine LCt.CompSrcT.ledger rfl (by k_asm) N₃ (show List.Mem _ _ from .tail _ (.tail _ (.tail _ (.tail _ hf)))) (Nat.le_trans (m := 1000) (by rw [List.size_toArray]; omega) (by decide)) ?_
          intro gg
          refine compRestT_of (fun k zs nw => IntsAre zs (((foundN rw odd 32).take k).filter fun y => decide (y < 31 - g)) ∧ nw = _) ?_ ?_ _ 0 [] _ rfl ⟨.nil, rfl⟩
          · rintro k zs nw v I₃ oI₃ C₃ oC₃ D₃ m₃ h₃ tk₃ E₃ hk ⟨hzs, rfl⟩ hv hC₃ hx₃ F₃ N₃ off₃ ne₃
            have hkl : k < (foundN rw odd 32).length := by rw [← hfi.length]; simpa using hk
            obtain ⟨t, ht⟩ := hfi.get k (foundN rw odd 32)[k] (by simp [hkl])
            have e0 : v = .int (foundN rw odd 32)[k] t := by
              rw [List.getElem?_toArray, ht] at hv
              exact (Option.some.inj hv).symm
            subst e0
            have htk : (foundN rw odd 32).take (k + 1) = (foundN rw odd 32).take k ++ [(foundN rw odd 32)[k]] := by
              rw [List.take_add_one, List.getElem?_eq_getElem hkl]
              rfl
            generalize (foundN rw odd 32)[k] = j at htk hx₃
            ktn_open
            · refine compEnd_same F₃ N₃ off₃ (.inr ⟨_, .tail _ (.tail _ (.tail _ (.tail _ hf))), rfl, _, rfl⟩) ⟨?_, rfl⟩
              rw [htk, List.filter_append, show [j].filter (fun y => decide (y < 31 - g)) = [j] from by rw [List.filter_cons, decide_eq_true (by assumption)]; rfl]
              exact hzs.append (.cons _ _ .nil)
            · refine compEnd_same F₃ N₃ off₃ (.inr ⟨_, .tail _ (.tail _ (.tail _ (.tail _ hf))), rfl, _, rfl⟩) ⟨?_, rfl⟩
              rw [htk, List.filter_append, show [j].filter (fun y => decide (y < 31 - g)) = [] from by rw [List.filter_cons, decide_eq_false (by assumption)]; rfl, List.append_nil]
              exact hzs
          · rintro zs nw ⟨hzs, rfl⟩
            rw [List.size_toArray, hfi.length, Nat.add_zero, List.take_length] at hzs
            unfold LCg.FinE
            intro D₂ h₉ tk₉ F₉ N₉ o1'
            ktn_open
            rw [decide_eq_true hs2]
            exact hQ _ _ _ _ (by assumption) ‹News base L _ (_ :: _ :: _ :: _ :: _ :: K)› (fun p hp => .tail _ (.tail _ (.tail _ (.tail _ (.tail _ hp)))))
end
section
theorem off_Q1 : True := by
  k_with_none
  w_top off
  trivial
def invZ (ns : List Int) (y j : Int) : Bool := (decide (j < y) && decide (keyN ns y < keyN ns j)) || (decide (y < j) && decide (keyN ns j < keyN ns y))
theorem insK_split (ns : List Int) (x : Int) : ∀ (l : List Int), l.Pairwise (fun a b => keyN ns a ≤ keyN ns b) → ∃ A B, l = A ++ B ∧ insK ns l x = A ++ x :: B ∧ (∀ y ∈ A, ¬ keyN ns x < keyN ns y) ∧ (∀ y ∈ B, keyN ns x < keyN ns y)
  | [], _ => ⟨[], [], rfl, rfl, (fun y h => nomatch h), (fun y h => nomatch h)⟩
  | j :: r, h => by
    rw [List.pairwise_cons] at h
    by_cases hj : keyN ns x < keyN ns j
    · refine ⟨[], j :: r, rfl, by simp [insK, hj], fun y h => (nomatch h), fun y hy => ?_⟩
      rcases List.mem_cons.mp hy with rfl | hy
      · exact hj
      · have := h.1 y hy; omega
    · obtain ⟨A, B, e1, e2, e3, e4⟩ := insK_split ns x r h.2
      refine ⟨j :: A, B, by rw [e1]; rfl, ?_, fun y hy => ?_, e4⟩
      · have e : insK ns (j :: r) x = j :: insK ns r x := by simp [insK, hj]
        rw [e, e2]; rfl
      · rcases List.mem_cons.mp hy with rfl | hy
        · exact hj
        · exact e3 y hy
structure PInv (ns hp acc : List Int) : Prop where
  perm : acc.Perm hp
  up : hp.Pairwise (· < ·)
  srt : acc.Pairwise (fun a b => keyN ns a ≤ keyN ns b)
  par : ∀ y ∈ hp, (((acc.idxOf y : Nat) : Int) - (hp.idxOf y : Nat) + ((hp.filter (invZ ns y)).length : Nat)) % 2 = 0
theorem filt_len {l : List Int} {p : Int → Bool} (h : ∀ y ∈ l, p y = true) : (l.filter p).length = l.length := by
  rw [List.filter_eq_self.mpr h]
theorem filt_nil {l : List Int} {p : Int → Bool} (h : ∀ y ∈ l, p y = false) : (l.filter p).length = 0 := by
  rw [List.length_eq_zero_iff, List.filter_eq_nil_iff]
  intro y hy
  rw [h y hy]
  decide
theorem PInv.step {ns hp acc : List Int} {x : Int} (I : PInv ns hp acc) (hx : ∀ y ∈ hp, y < x) : PInv ns (hp ++ [x]) (insK ns acc x) := by
  obtain ⟨A, B, e1, e2, e3, e4⟩ := insK_split ns x acc I.srt
  have hnd : hp.Nodup := I.up.imp fun h => Int.ne_of_lt h
  have hacc : acc.Nodup := I.perm.nodup_iff.mpr hnd
  have hmem : ∀ y, y ∈ acc ↔ y ∈ hp := fun y => I.perm.mem_iff
  have hxa : x ∉ acc := fun h => by have := hx x ((hmem x).mp h); omega
  have hxh : x ∉ hp := fun h => by have := hx x h; omega
  refine ⟨?_, ?_, ?_, ?_⟩
  · rw [e2]
    have h1 : (A ++ x :: B).Perm ((A ++ B) ++ [x]) := by
      rw [List.append_assoc]
      exact List.Perm.append_left A (List.perm_append_singleton x B).symm
    rw [← e1] at h1
    exact h1.trans (List.Perm.append_right [x] I.perm)
  · rw [List.pairwise_append]
    refine ⟨I.up, List.pairwise_singleton _ _, fun a ha b hb => ?_⟩
    rw [List.mem_singleton.mp hb]
    exact hx a ha
  · exact insK_sort ns x acc I.srt
  · intro y hy
    rw [List.filter_append, List.length_append, e2]
    rw [e1] at hacc hxa
    have hxA : x ∉ A := fun h => hxa (List.mem_append_left _ h)
    rcases List.mem_append.mp hy with hy | hy
    · have h0 := I.par y hy
      have hyx : y < x := hx y hy
      have hya : y ∈ acc := (hmem y).mpr hy
      have hh : (hp ++ [x]).idxOf y = hp.idxOf y := by rw [List.idxOf_append, if_pos hy]
      rw [hh]
      rw [e1, List.idxOf_append] at h0
      rw [e1] at hya
      rw [List.idxOf_append]
      by_cases hA : y ∈ A
      · rw [if_pos hA] at h0 ⊢
        have hi : [x].filter (invZ ns y) = [] := by
          have h1 := e3 y hA
          have h2 : ¬ x < y := by omega
          simp [invZ, h1, h2]
        rw [hi]
        simpa using h0
      · have hB : y ∈ B := (List.mem_append.mp hya).resolve_left hA
        rw [if_neg hA] at h0 ⊢
        have hne : x ≠ y := by omega
        have hi : [x].filter (invZ ns y) = [x] := by
          have h1 := e4 y hB
          simp [invZ, h1, hyx]
        rw [hi, List.idxOf_cons, show (x == y) = false from beq_eq_false_iff_ne.mpr hne]
        simp only [cond_false, List.length_cons, List.length_nil] at h0 ⊢
        omega
    · rw [List.mem_singleton.mp hy]
      have hh : (hp ++ [x]).idxOf x = hp.length := by rw [List.idxOf_append, if_neg hxh, List.idxOf_cons]; simp
      rw [hh, List.idxOf_append, if_neg hxA, List.idxOf_cons]
      simp only [beq_self_eq_true, cond_true]
      have hs : [x].filter (invZ ns x) = [] := by simp [invZ]
      have hp1 : ((hp.filter (invZ ns x)).length) = (acc.filter (invZ ns x)).length := (I.perm.filter _).length_eq.symm
      have hA : (A.filter (invZ ns x)).length = 0 := filt_nil fun z hz => by
        have h1 := e3 z hz
        have h2 : z < x := hx z ((hmem z).mp (by rw [e1]; exact List.mem_append_left _ hz))
        have h3 : ¬ x < z := by omega
        simp [invZ, h1, h3]
      have hB : (B.filter (invZ ns x)).length = B.length := filt_len fun z hz => by
        have h1 := e4 z hz
        have h2 : z < x := hx z ((hmem z).mp (by rw [e1]; exact List.mem_append_right _ hz))
        simp [invZ, h1, h2]
      have hl : hp.length = A.length + B.length := by rw [← I.perm.length_eq, e1, List.length_append]
      rw [hs, hp1, e1, List.filter_append, List.length_append, hA, hB, hl]
      simp only [List.length_nil]
      omega
theorem PInv.fold (ns : List Int) : ∀ (hs hp acc : List Int), PInv ns hp acc → (hp ++ hs).Pairwise (· < ·) → PInv ns (hp ++ hs) (hs.foldl (insK ns) acc)
  | [], hp, acc, I, _ => by simpa using I
  | x :: r, hp, acc, I, h => by
    have hx : ∀ y ∈ hp, y < x := fun y hy => (List.pairwise_append.mp h).2.2 y hy x (.head _)
    have e : hp ++ x :: r = (hp ++ [x]) ++ r := by simp
    rw [e] at h ⊢
    exact PInv.fold ns r (hp ++ [x]) (insK ns acc x) (I.step hx) h
theorem hand_up' {m : Nat} (hm : m < 32) : (handN m).Pairwise (· < ·) := by
  have h : ∀ m : Nat, m < 32 → (handN m).Pairwise (· < ·) := by decide
  exact h m hm
theorem stand_par (ns : List Int) {m : Nat} (hm : m < 32) : PInv ns (handN m) (standN ns m) := by
  have h := PInv.fold ns (handN m) [] [] ⟨.refl _, .nil, .nil, fun y hy => nomatch hy⟩ (by simpa using hand_up' hm)
  simpa [standN] using h
end
section
theorem off_Q2 : True := by
  k_with_none
  w_top off
  trivial
/-- how many of the five -/
def cnt (f : Nat → Bool) : Nat := ((List.range 5).filter f).length
def msk (f : Nat → Bool) : Nat := (f 0).toNat + 2 * (f 1).toNat + 4 * (f 2).toNat + 8 * (f 3).toNat + 16 * (f 4).toNat
theorem cnt_eq (f : Nat → Bool) : cnt f = (f 0).toNat + (f 1).toNat + (f 2).toNat + (f 3).toNat + (f 4).toNat := by
  show ([0, 1, 2, 3, 4].filter f).length = _
  simp only [List.filter_cons, List.filter_nil]
  generalize f 0 = a
  generalize f 1 = b
  generalize f 2 = c
  generalize f 3 = d
  generalize f 4 = e
  revert a b c d e
  decide +kernel
def mskB (a b c d e : Bool) : Nat := a.toNat + 2 * b.toNat + 4 * c.toNat + 8 * d.toNat + 16 * e.toNat
def bit5 (a b c d e : Bool) (n : Nat) : Bool := [a, b, c, d, e].getD n false
theorem msk_all : ∀ a b c d e : Bool, mskB a b c d e < 32 ∧ ∀ i, i < 5 → (mskB a b c d e).testBit i = bit5 a b c d e i ∧ (bit5 a b c d e i = false → mskB a b c d e + 2 ^ i < 32) := by decide +kernel
theorem bit5_eq (f : Nat → Bool) {i : Nat} (hi : i < 5) : bit5 (f 0) (f 1) (f 2) (f 3) (f 4) i = f i := by
  obtain rfl | rfl | rfl | rfl | rfl : i = 0 ∨ i = 1 ∨ i = 2 ∨ i = 3 ∨ i = 4 := by omega
  all_goals rfl
theorem msk_lt (f : Nat → Bool) : msk f < 32 := (msk_all (f 0) (f 1) (f 2) (f 3) (f 4)).1
theorem msk_bit (f : Nat → Bool) (j : Nat) (hj : j < 5) : (msk f).testBit j = f j := ((msk_all (f 0) (f 1) (f 2) (f 3) (f 4)).2 j hj).1.trans (bit5_eq f hj)
theorem msk_room (f : Nat → Bool) {i : Nat} (hi : i < 5) (h : f i = false) : msk f + 2 ^ i < 32 := ((msk_all (f 0) (f 1) (f 2) (f 3) (f 4)).2 i hi).2 ((bit5_eq f hi).trans h)
theorem cnt_congr {f g : Nat → Bool} (h : ∀ j, j < 5 → f j = g j) : cnt f = cnt g := by
  rw [cnt_eq, cnt_eq, h 0 (by decide), h 1 (by decide), h 2 (by decide), h 3 (by decide), h 4 (by decide)]
/-- the parity of a number below 32, by a table -/
def par (x : Nat) : Nat := (2523490710 >>> x) % 2
theorem par_and : ∀ x, x < 32 → ∀ y, y < 32 → par (x &&& y) = cnt (fun j => x.testBit j && y.testBit j) % 2 := by decide +kernel
theorem par_one : ∀ x, x < 32 → par x = cnt (fun j => x.testBit j) % 2 := by decide +kernel
def goodV (A : Nat → Nat) (odd m : Nat) : Bool := (List.range 5).all fun i => bif m.testBit i then par (A i &&& m) == odd else par (A i &&& (31 - m)) == 0
def lineV (A : Nat → Nat) (odd i : Nat) : Nat := A i + (par (A i) + odd) % 2 * 2 ^ i
def redV (line : Nat) (kept : List Nat) : Nat := kept.foldl (fun l one => min l (l ^^^ one)) line
def rksV (kept : List Nat) (line : Nat) : List Nat := if 0 < redV line kept then kept ++ [redV line kept] else kept
def rankV (A : Nat → Nat) (odd : Nat) : Nat := (((List.range 5).map (lineV A odd)).foldl rksV []).length
def foundV (A : Nat → Nat) (odd : Nat) : List Nat := (List.range 32).filter (goodV A odd)
def chkV (A : Nat → Nat) (odd : Nat) : Bool := let F := foundV A odd
  (F.length == 2 ^ (5 - rankV A odd)) && (match F with | [] => false | a0 :: _ => F.all fun a => F.all fun b => goodV A odd (a ^^^ b ^^^ a0))
def tr (p q r : Bool) : Bool := (!(p && q) || r) && (p || q || !r)
def adjV (b01 b02 b03 b04 b12 b13 b14 b23 b24 b34 : Bool) (i : Nat) : Nat := match i with
  | 0 => 2 * b01.toNat + 4 * b02.toNat + 8 * b03.toNat + 16 * b04.toNat
  | 1 => b01.toNat + 4 * b12.toNat + 8 * b13.toNat + 16 * b14.toNat
  | 2 => b02.toNat + 2 * b12.toNat + 8 * b23.toNat + 16 * b24.toNat
  | 3 => b03.toNat + 2 * b13.toNat + 4 * b23.toNat + 16 * b34.toNat
  | _ => b04.toNat + 2 * b14.toNat + 4 * b24.toNat + 8 * b34.toNat
def tr10 (b01 b02 b03 b04 b12 b13 b14 b23 b24 b34 : Bool) : Bool :=
  tr b01 b12 b02 && tr b01 b13 b03 && tr b01 b14 b04 && tr b02 b23 b03 && tr b02 b24 b04 && tr b03 b34 b04 && tr b12 b23 b13 && tr b12 b24 b14 && tr b13 b34 b14 && tr b23 b34 b24
def bb (f : Bool → Bool) : Bool := f false && f true
theorem bb_all {f : Bool → Bool} (h : bb f = true) (b : Bool) : f b = true := by
  rw [bb, Bool.and_eq_true] at h
  cases b
  · exact h.1
  · exact h.2
def claimV (b01 b02 b03 b04 : Bool) : Bool := bb fun b12 => bb fun b13 => bb fun b14 => bb fun b23 => bb fun b24 => bb fun b34 =>
  !(tr10 b01 b02 b03 b04 b12 b13 b14 b23 b24 b34) || (chkV (adjV b01 b02 b03 b04 b12 b13 b14 b23 b24 b34) 0 && chkV (adjV b01 b02 b03 b04 b12 b13 b14 b23 b24 b34) 1)
theorem claim_0 : (claimV false false false false && claimV false false false true && claimV false false true false && claimV false false true true) = true := by decide +kernel
theorem claim_1 : (claimV false true false false && claimV false true false true && claimV false true true false && claimV false true true true) = true := by decide +kernel
theorem claim_2 : (claimV true false false false && claimV true false false true && claimV true false true false && claimV true false true true) = true := by decide +kernel
theorem claim_3 : (claimV true true false false && claimV true true false true && claimV true true true false && claimV true true true true) = true := by decide +kernel
theorem claim_c (b01 b02 b03 b04 : Bool) : claimV b01 b02 b03 b04 = true := by
  have h0 := claim_0
  have h1 := claim_1
  have h2 := claim_2
  have h3 := claim_3
  simp only [Bool.and_eq_true] at h0 h1 h2 h3
  cases b01 <;> cases b02 <;> cases b03 <;> cases b04 <;> simp only [h0, h1, h2, h3]
theorem claim_all {b01 b02 b03 b04 b12 b13 b14 b23 b24 b34 : Bool} (ht : tr10 b01 b02 b03 b04 b12 b13 b14 b23 b24 b34 = true) :
    chkV (adjV b01 b02 b03 b04 b12 b13 b14 b23 b24 b34) 0 = true ∧ chkV (adjV b01 b02 b03 b04 b12 b13 b14 b23 b24 b34) 1 = true := by
  have h := claim_c b01 b02 b03 b04
  unfold claimV at h
  have h := bb_all (bb_all (bb_all (bb_all (bb_all (bb_all h b12) b13) b14) b23) b24) b34
  rw [ht, Bool.not_true, Bool.false_or, Bool.and_eq_true] at h
  exact h
end
section
theorem off_Q3 : True := by
  k_with_none
  w_top off
  trivial
theorem invZ_cast (ns : List Int) (i j : Nat) : invZ ns (i : Int) (j : Int) = invB ns i j := by
  unfold invZ invB keyN
  simp only [Int.toNat_natCast, Int.ofNat_lt]
theorem hand_cnt (ns : List Int) (m i : Nat) : ((handN m).filter (invZ ns (i : Int))).length = cnt (fun j => m.testBit j && invB ns i j) := by
  unfold handN cnt
  rw [List.filter_map, List.length_map, List.filter_filter]
  congr 1
  apply List.filter_congr
  intro j _
  show (invZ ns (i : Int) (Int.ofNat j) && m.testBit j) = _
  rw [show Int.ofNat j = (j : Int) from rfl, invZ_cast, Bool.and_comm]
theorem mem_hand {m i : Nat} (hi : i < 5) (h : m.testBit i = true) : (i : Int) ∈ handN m := List.mem_map.mpr ⟨i, List.mem_filter.mpr ⟨List.mem_range.mpr hi, h⟩, rfl⟩
theorem of_hand {m : Nat} {y : Int} (h : y ∈ handN m) : ∃ i : Nat, y = i ∧ i < 5 ∧ m.testBit i = true := by
  obtain ⟨i, hi, rfl⟩ := List.mem_map.mp h
  have h2 := List.mem_filter.mp hi
  exact ⟨i, rfl, List.mem_range.mp h2.1, h2.2⟩
theorem step_par (ns : List Int) {m k : Nat} (hm : m < 32) (hk : k < (handN m).length) : (stepN ns m (handN m)[k] k + (((handN m).filter (invZ ns (handN m)[k])).length : Nat)) % 2 = 0 := by
  have I := stand_par ns hm
  have h := I.par _ (List.getElem_mem hk)
  have hnd : (handN m).Nodup := I.up.imp fun h => Int.ne_of_lt h
  rw [List.Nodup.idxOf_getElem hnd] at h
  unfold stepN
  split <;> omega
theorem evenP_iff (ns : List Int) (odd : Int) {m : Nat} (hm : m < 32) : evenP odd (pairN ns m) = true ↔ ∀ i, i < 5 → m.testBit i = true → ((cnt (fun j => m.testBit j && invB ns i j) : Int) + odd) % 2 = 0 := by
  unfold evenP
  rw [List.all_eq_true]
  constructor
  · intro h i hi hb
    obtain ⟨k, hk, e⟩ := List.getElem_of_mem (mem_hand hi hb)
    have h1 := h ((handN m).getD k 0, stepN ns m ((handN m).getD k 0) k) (List.mem_map.mpr ⟨k, List.mem_range.mpr hk, rfl⟩)
    have h2 := step_par ns hm hk
    rw [e] at h2
    have e2 : (handN m).getD k 0 = (i : Int) := by rw [List.getD_eq_getElem?_getD, List.getElem?_eq_getElem hk, e]; rfl
    rw [e2] at h1
    rw [hand_cnt] at h2
    have h3 : (stepN ns m (i : Int) k + odd) % 2 = 0 := of_decide_eq_true h1
    omega
  · intro h q hq
    obtain ⟨k, hk, rfl⟩ := List.mem_map.mp hq
    have hk' : k < (handN m).length := List.mem_range.mp hk
    have e2 : (handN m).getD k 0 = (handN m)[k] := by rw [List.getD_eq_getElem?_getD, List.getElem?_eq_getElem hk']; rfl
    obtain ⟨i, e, hi, hb⟩ := of_hand (List.getElem_mem hk')
    have h2 := step_par ns hm hk'
    rw [e, hand_cnt] at h2
    have h1 := h i hi hb
    show decide ((stepN ns m ((handN m).getD k 0) k + odd) % 2 = 0) = true
    rw [e2, e]
    exact decide_eq_true (by omega)
theorem bit_comp : ∀ m, m < 32 → ∀ j, j < 5 → (31 - m).testBit j = !m.testBit j := by decide +kernel
/-- the five rows of the table of inversions, as masks -/
def AN (ns : List Int) : Nat → Nat := adjV (decide (ns.getD 1 0 < ns.getD 0 0)) (decide (ns.getD 2 0 < ns.getD 0 0)) (decide (ns.getD 3 0 < ns.getD 0 0)) (decide (ns.getD 4 0 < ns.getD 0 0))
  (decide (ns.getD 2 0 < ns.getD 1 0)) (decide (ns.getD 3 0 < ns.getD 1 0)) (decide (ns.getD 4 0 < ns.getD 1 0)) (decide (ns.getD 3 0 < ns.getD 2 0)) (decide (ns.getD 4 0 < ns.getD 2 0)) (decide (ns.getD 4 0 < ns.getD 3 0))
theorem AN_msk (ns : List Int) {i : Nat} (hi : i < 5) : AN ns i = msk (invB ns i) := by
  obtain rfl | rfl | rfl | rfl | rfl : i = 0 ∨ i = 1 ∨ i = 2 ∨ i = 3 ∨ i = 4 := by omega
  all_goals simp [AN, adjV, msk, invB, -List.getD_eq_getElem?_getD]
theorem tr_dec (x y z : Int) : tr (decide (y < x)) (decide (z < y)) (decide (z < x)) = true := by
  unfold tr
  by_cases h1 : y < x <;> by_cases h2 : z < y <;> by_cases h3 : z < x <;> simp [h1, h2, h3] <;> omega
theorem AN_chk (ns : List Int) : chkV (AN ns) 0 = true ∧ chkV (AN ns) 1 = true := by
  refine claim_all ?_
  unfold tr10
  simp only [tr_dec, Bool.and_self]
theorem par_A (ns : List Int) {i m : Nat} (hi : i < 5) (hm : m < 32) : par (AN ns i &&& m) = cnt (fun j => m.testBit j && invB ns i j) % 2 := by
  rw [AN_msk ns hi, par_and _ (msk_lt _) _ hm]
  congr 1
  apply cnt_congr
  intro j hj
  rw [msk_bit _ j hj, Bool.and_comm]
theorem good_eq (ns : List Int) {o m : Nat} (ho : o = 0 ∨ o = 1) (hm : m < 32) : goodN ns (o : Int) m = goodV (AN ns) o m := by
  rw [Bool.eq_iff_iff]
  unfold goodN goodV
  rw [Bool.and_eq_true, evenP_iff ns _ hm, evenP_iff ns _ (show 31 - m < 32 by omega), List.all_eq_true]
  constructor
  · rintro ⟨h1, h2⟩ i hi
    have hi5 := List.mem_range.mp hi
    cases hb : m.testBit i with
    | true =>
      have := h1 i hi5 hb
      simp only [cond_true, beq_iff_eq]
      rw [par_A ns hi5 hm]
      omega
    | false =>
      have := h2 i hi5 (by rw [bit_comp m hm i hi5, hb]; rfl)
      simp only [cond_false, beq_iff_eq]
      rw [par_A ns hi5 (by omega)]
      omega
  · intro h
    refine ⟨fun i hi hb => ?_, fun i hi hb => ?_⟩
    · have h1 := h i (List.mem_range.mpr hi)
      rw [hb] at h1
      simp only [cond_true, beq_iff_eq] at h1
      rw [par_A ns hi hm] at h1
      omega
    · have h1 := h i (List.mem_range.mpr hi)
      have hb' : m.testBit i = false := by rw [bit_comp m hm i hi] at hb; simpa using hb
      rw [hb'] at h1
      simp only [cond_false, beq_iff_eq] at h1
      rw [par_A ns hi (by omega)] at h1
      omega
theorem found_eq (ns : List Int) {o : Nat} (ho : o = 0 ∨ o = 1) : foundN ns (o : Int) 32 = (foundV (AN ns) o).map Int.ofNat := by
  unfold foundN foundV
  congr 1
  apply List.filter_congr
  intro m hm
  exact good_eq ns ho (List.mem_range.mp hm)
theorem xor_sum : ∀ a, a < 32 → ∀ b, b < 32 → (a ^^^ b) + 2 * (a &&& b) = a + b ∧ a ^^^ b < 32 := by decide +kernel
theorem xor_cast {a b : Nat} (ha : a < 32) (hb : b < 32) : Builtin.bitXor (a : Int) (b : Int) = ((a ^^^ b : Nat) : Int) := by
  have h := (xor_sum a ha b hb).1
  rw [bitXor_and, bitAnd_pp (Int.natCast_nonneg a) (Int.natCast_nonneg b), Int.toNat_natCast, Int.toNat_natCast]
  omega
theorem red_cast : ∀ (kept : List Nat) (l : Nat), l < 32 → (∀ x ∈ kept, x < 32) → red (l : Int) (kept.map Int.ofNat) = (redV l kept : Int) ∧ redV l kept < 32
  | [], l, hl, _ => ⟨rfl, hl⟩
  | x :: r, l, hl, h => by
    have hx := h x (.head _)
    have hlt := (xor_sum l hl x hx).2
    have e : min (l : Int) (Builtin.bitXor (l : Int) (x : Int)) = ((min l (l ^^^ x) : Nat) : Int) := by
      rw [xor_cast hl hx]
      omega
    have ih := red_cast r (min l (l ^^^ x)) (by omega) (fun y hy => h y (.tail _ hy))
    unfold red redV
    rw [List.map_cons, List.foldl_cons, List.foldl_cons]
    show List.foldl _ (min (l : Int) (Builtin.bitXor (l : Int) (Int.ofNat x))) _ = _ ∧ _
    rw [show Int.ofNat x = (x : Int) from rfl, e]
    exact ih
theorem rks_cast : ∀ (ls kept : List Nat), (∀ x ∈ ls, x < 32) → (∀ x ∈ kept, x < 32) → (ls.map Int.ofNat).foldl rks (kept.map Int.ofNat) = (ls.foldl rksV kept).map Int.ofNat
  | [], _, _, _ => rfl
  | l :: r, kept, h, hk => by
    obtain ⟨e, hl⟩ := red_cast kept l (h l (.head _)) hk
    have e2 : rks (kept.map Int.ofNat) (l : Int) = (rksV kept l).map Int.ofNat := by
      unfold rks rksV
      rw [e]
      by_cases hp : 0 < redV l kept
      · rw [if_pos hp, if_pos (by omega), List.map_append]; rfl
      · rw [if_neg hp, if_neg (by omega)]
    rw [List.map_cons, List.foldl_cons, List.foldl_cons, show Int.ofNat l = (l : Int) from rfl, e2]
    refine rks_cast r (rksV kept l) (fun x hx => h x (.tail _ hx)) fun x hx => ?_
    unfold rksV at hx
    split at hx
    · rcases List.mem_append.mp hx with hx | hx
      · exact hk x hx
      · rw [List.mem_singleton.mp hx]; exact hl
    · exact hk x hx
theorem msk_sum (f : Nat → Bool) : ((((List.range 5).filter f).map Int.ofNat).map fun j => (2 : Int) ^ j.toNat).sum = (msk f : Int) := by
  show ((([0, 1, 2, 3, 4].filter f).map Int.ofNat).map fun j => (2 : Int) ^ j.toNat).sum = _
  unfold msk
  simp only [List.filter_cons, List.filter_nil]
  generalize f 0 = a
  generalize f 1 = b
  generalize f 2 = c
  generalize f 3 = d
  generalize f 4 = e
  revert a b c d e
  decide +kernel
theorem inv_self (ns : List Int) (i : Nat) : invB ns i i = false := by simp [invB]
theorem line_eq (ns : List Int) {o i : Nat} (hi : i < 5) : lineN ns (o : Int) i = (lineV (AN ns) o i : Int) ∧ lineV (AN ns) o i < 32 := by
  have h1 : ((joinN ns i 5).length) = cnt (invB ns i) := by unfold joinN cnt; rw [List.length_map]
  have h2 : par (msk (invB ns i)) = cnt (invB ns i) % 2 := by
    rw [par_one _ (msk_lt _)]
    congr 1
    exact cnt_congr fun j hj => msk_bit _ j hj
  have h3 := msk_room (invB ns i) hi (inv_self ns i)
  unfold lineN lineV
  rw [h1, AN_msk ns hi, h2]
  constructor
  · show ((joinN ns i 5).map fun j => (2 : Int) ^ j.toNat).sum + _ = _
    unfold joinN
    rw [msk_sum]
    have e : ((cnt (invB ns i) : Int) + (o : Int)) % 2 = (((cnt (invB ns i) % 2 + o) % 2 : Nat) : Int) := by omega
    rw [e]
    simp
  · have hb : (cnt (invB ns i) % 2 + o) % 2 ≤ 1 := by omega
    have := Nat.mul_le_mul_right (2 ^ i) hb
    omega
theorem rank_eq (ns : List Int) (o : Nat) : rankN ns (o : Int) = rankV (AN ns) o := by
  unfold rankN rankV
  have e : (List.range 5).map (lineN ns (o : Int)) = ((List.range 5).map (lineV (AN ns) o)).map Int.ofNat := by
    rw [List.map_map]
    apply List.map_congr_left
    intro i hi
    exact (line_eq ns (List.mem_range.mp hi)).1
  rw [e]
  have h := rks_cast ((List.range 5).map (lineV (AN ns) o)) [] (fun x hx => by
    obtain ⟨i, hi, rfl⟩ := List.mem_map.mp hx
    exact (line_eq ns (List.mem_range.mp hi)).2) (fun x hx => nomatch hx)
  rw [show ([] : List Int) = ([] : List Nat).map Int.ofNat from rfl, h, List.length_map]
theorem chk_of (ns : List Int) {o : Nat} (ho : o = 0 ∨ o = 1) : chkV (AN ns) o = true := by
  rcases ho with rfl | rfl
  · exact (AN_chk ns).1
  · exact (AN_chk ns).2
theorem law_rank (ns : List Int) {o : Nat} (ho : o = 0 ∨ o = 1) : (foundN ns (o : Int) 32).length = 2 ^ (5 - rankN ns (o : Int)) := by
  have h := chk_of ns ho
  unfold chkV at h
  rw [Bool.and_eq_true, beq_iff_eq] at h
  rw [found_eq ns ho, List.length_map, rank_eq]
  exact h.1
theorem mem_found {ns : List Int} {o : Nat} (ho : o = 0 ∨ o = 1) {x : Int} (h : x ∈ foundN ns (o : Int) 32) : ∃ m : Nat, x = m ∧ m < 32 ∧ goodV (AN ns) o m = true ∧ m ∈ foundV (AN ns) o := by
  rw [found_eq ns ho] at h
  obtain ⟨m, hm, rfl⟩ := List.mem_map.mp h
  have h2 := List.mem_filter.mp hm
  exact ⟨m, rfl, List.mem_range.mp h2.1, h2.2, hm⟩
theorem found_of {ns : List Int} {o : Nat} (ho : o = 0 ∨ o = 1) {m : Nat} (hm : m < 32) (h : goodV (AN ns) o m = true) : (m : Int) ∈ foundN ns (o : Int) 32 := by
  rw [found_eq ns ho]
  exact List.mem_map.mpr ⟨m, List.mem_filter.mpr ⟨List.mem_range.mpr hm, h⟩, rfl⟩
theorem bit_div (m j : Nat) : (m : Int) / 2 ^ j % 2 = ((m.testBit j).toNat : Int) := by
  rw [Nat.toNat_testBit]
  simp
theorem own_cnt (ns : List Int) (m i : Nat) : (ownN ns (m : Int) i).length = cnt (fun j => (m.testBit j == m.testBit i) && invB ns i j) := by
  unfold ownN joinN cnt
  rw [List.filter_map, List.length_map, List.filter_filter]
  congr 1
  apply List.filter_congr
  intro j _
  show (((m : Int) / 2 ^ (Int.ofNat j).toNat % 2 == (m : Int) / 2 ^ i % 2) && invB ns i j) = _
  rw [show (Int.ofNat j).toNat = j from rfl, bit_div, bit_div]
  cases m.testBit j <;> cases m.testBit i <;> rfl
theorem law_own (ns : List Int) {o : Nat} (ho : o = 0 ∨ o = 1) : ∀ x ∈ foundN ns (o : Int) 32, ∀ i : Nat, i < 5 → ((ownN ns x i).length : Int) % 2 = (o : Int) * (x / 2 ^ i % 2) := by
  intro x hx i hi
  obtain ⟨m, rfl, hm, hg, _⟩ := mem_found ho hx
  unfold goodV at hg
  have h1 := (List.all_eq_true.mp hg) i (List.mem_range.mpr hi)
  rw [own_cnt, bit_div]
  cases hb : m.testBit i with
  | true =>
    rw [hb] at h1
    simp only [cond_true, beq_iff_eq] at h1
    rw [par_A ns hi hm] at h1
    have e : cnt (fun j => (m.testBit j == true) && invB ns i j) = cnt (fun j => m.testBit j && invB ns i j) := cnt_congr fun j _ => by cases m.testBit j <;> rfl
    rw [e]
    simp only [Bool.toNat_true]
    omega
  | false =>
    rw [hb] at h1
    simp only [cond_false, beq_iff_eq] at h1
    rw [par_A ns hi (by omega)] at h1
    have e : cnt (fun j => (m.testBit j == false) && invB ns i j) = cnt (fun j => (31 - m).testBit j && invB ns i j) := cnt_congr fun j hj => by rw [bit_comp m hm j hj]; cases m.testBit j <;> rfl
    rw [e]
    simp only [Bool.toNat_false]
    omega
theorem law_three (ns : List Int) {o : Nat} (ho : o = 0 ∨ o = 1) : ∀ a ∈ foundN ns (o : Int) 32, ∀ b ∈ foundN ns (o : Int) 32, ∀ c ∈ foundN ns (o : Int) 32, Builtin.bitXor (Builtin.bitXor (Builtin.bitXor 0 a) b) c ∈ foundN ns (o : Int) 32 := by
  intro x hx y hy z hz
  obtain ⟨a, rfl, ha, _, ha'⟩ := mem_found ho hx
  obtain ⟨b, rfl, hb, _, hb'⟩ := mem_found ho hy
  obtain ⟨c, rfl, hc, _, hc'⟩ := mem_found ho hz
  have e1 : Builtin.bitXor (0 : Int) (a : Int) = (a : Int) := by
    have := xor_cast (a := 0) (b := a) (by decide) ha
    rw [Nat.zero_xor] at this
    exact this
  have hab := (xor_sum a ha b hb).2
  rw [e1, xor_cast ha hb, xor_cast hab hc]
  have h := chk_of ns ho
  unfold chkV at h
  simp only [Bool.and_eq_true] at h
  have h2 := h.2
  cases hF : foundV (AN ns) o with
  | nil => rw [hF] at ha'; exact nomatch ha'
  | cons a0 r =>
    rw [hF] at h2
    simp only at h2
    rw [← hF] at h2
    have ha0 : a0 < 32 := by
      have : a0 ∈ foundV (AN ns) o := by rw [hF]; exact .head _
      exact List.mem_range.mp (List.mem_filter.mp this).1
    have g1 := (List.all_eq_true.mp ((List.all_eq_true.mp h2) a ha')) b hb'
    have hd := (xor_sum _ hab a0 ha0).2
    have hd' : a ^^^ b ^^^ a0 ∈ foundV (AN ns) o := List.mem_filter.mpr ⟨List.mem_range.mpr hd, g1⟩
    have g2 := (List.all_eq_true.mp ((List.all_eq_true.mp h2) _ hd')) c hc'
    have e : a ^^^ b ^^^ a0 ^^^ c ^^^ a0 = a ^^^ b ^^^ c := by
      rw [Nat.xor_assoc (a ^^^ b) a0 c, Nat.xor_comm a0 c, ← Nat.xor_assoc (a ^^^ b) c a0, Nat.xor_assoc (a ^^^ b ^^^ c) a0 a0, Nat.xor_self, Nat.xor_zero]
    rw [e] at g2
    exact found_of ho (xor_sum _ hab c hc).2 g2
end
section
theorem off_RS : True := by
  k_with_none
  w_top off
  trivial
theorem LInts.mono' {G G' : List (Addr × Obj)} {a : Addr} {ns : List Int} (h : LInts G a ns) (s : ∀ p ∈ G, p ∈ G') : LInts G' a ns := h.mono s
theorem LR.mono {rw : List Int} {odd : Int} {L ld : Nat} {R R' : List (Addr × Obj)} (D : LR rw odd L ld R) (s : ∀ p ∈ R, p ∈ R') : LR rw odd L ld R' :=
  ⟨let ⟨ds, ed, h1, h2, h3⟩ := D.ld; ⟨ds, ed, s _ h1, h2, fun k hk => (h3 k hk).mono s⟩, let ⟨o, D', vs, e, h1, h2, h3, h4⟩ := D.row; ⟨o, D', vs, e, s _ h1, h2, s _ h3, h4⟩,
   let ⟨o, t, h1, h2⟩ := D.odd; ⟨o, t, s _ h1, h2⟩, let ⟨ps, h⟩ := D.tab; ⟨ps, s _ h⟩⟩
theorem LJ.mono {rw : List Int} {L : Nat} {R R' : List (Addr × Obj)} (D : LJ rw L R) (s : ∀ p ∈ R, p ∈ R') : LJ rw L R' :=
  ⟨let ⟨o, Dj, js, e, h1, h2, h3, h4, h5⟩ := D.j; ⟨o, Dj, js, e, s _ h1, h2, s _ h3, h4, fun k hk => (h5 k hk).mono s⟩⟩
theorem permR {h₀ h : Heap} {L : Addr} {a b c d e : Addr × Obj} {R : List (Addr × Obj)} (N : News h₀ L h (a :: b :: c :: d :: e :: R)) : News h₀ L h (d :: a :: b :: c :: e :: R) := alPerm (l := R) [a, b, c, d, e] [3, 0, 1, 2, 4] N
theorem permS {h₀ h : Heap} {L : Addr} {a b c d e f : Addr × Obj} {T R : List (Addr × Obj)} (N : News h₀ L h (a :: b :: (T ++ (c :: d :: e :: f :: R)))) : News h₀ L h (c :: e :: (a :: b :: (T ++ (d :: f :: R)))) :=
  have M := alRgt (l := [a, b]) N
  have Z := alRgt (l := T) M
  alCat (l := [c, e]) (alPick (alLft (l := [c, d, e, f]) Z) [0, 2]) (alCat (l := [a, b]) (alLft (l := [a, b]) N) (alCat (l := T) (alLft M) (alPerm (l := R) [c, d, e, f] [1, 3] Z)))
theorem permT {h₀ h : Heap} {L : Addr} {a b c d e f : Addr × Obj} {T R : List (Addr × Obj)} (N : News h₀ L h (a :: b :: c :: d :: (T ++ (e :: f :: R)))) : News h₀ L h (f :: (a :: b :: c :: d :: (T ++ (e :: R)))) :=
  have M := alRgt (l := [a, b, c, d]) N
  have Z := alRgt (l := T) M
  alCat (l := [f]) (alPick (alLft (l := [e, f]) Z) [1]) (alCat (l := [a, b, c, d]) (alLft (l := [a, b, c, d]) N) (alCat (l := T) (alLft M) (alPerm (l := R) [e, f] [0] Z)))
theorem drop6 : lawSB.1.drop 6 = lawSt 6 :: lawSB.1.drop 7 := rfl
theorem drop7 : lawSB.1.drop 7 = lawSt 7 :: lawSB.1.drop 8 := rfl
theorem drop8 : lawSB.1.drop 8 = lawSt 8 :: lawSB.1.drop 9 := rfl
theorem drop9 : lawSB.1.drop 9 = lawSt 9 :: lawSB.1.drop 10 := rfl
theorem rest_st {w : World} {L : Nat} {fa : Addr} {cd : Value} {base : Heap} {rw : List Int} {o : Nat} {ld lf : Nat} {sl : Addr} {ns : List Int} {vs : List Value} {R : List (Addr × Obj)} {p : Program} {loose : List Str} {mean : ExcName → Option Value} {mg mb m : Str → Option Value} {s : Shared} {Q Q' : Flow → Shared → Prop} {E E' : Value → Shared → Prop} {c3 c4 c5 c6 : Obj} {v3 v4 v5 v6 : Option Value} {e : Nat}
   (B : Below callerA base [] base) (F : Fr base L s.heap m) (X : (hd.heap_39 w.params).In base) (T : Top p loose mean mg mb base)
   (N : News base L s.heap ((L + 1 + 1 + 1, c3) :: (lf, listOf #[] e) :: (L + 1 + 1 + 1 + 1, c4) :: (L + 1 + 1 + 1 + 1 + 1, c5) :: (L + 1 + 1 + 1 + 1 + 1 + 1, c6) :: R)) (hc3 : c3.data = .cell v3) (hc4 : c4.data = .cell v4) (hc5 : c5.data = .cell v5) (hc6 : c6.data = .cell v6)
   (D : LR rw (o : Int) L ld R) (ho : o = 0 ∨ o = 1) (hrw : rw.length = 5)
   (hR3 : ∀ q ∈ R, @Ne Nat q.1 (L + 1 + 1 + 1)) (hR4 : ∀ q ∈ R, @Ne Nat q.1 (L + 1 + 1 + 1 + 1)) (hR5 : ∀ q ∈ R, @Ne Nat q.1 (L + 1 + 1 + 1 + 1 + 1)) (hR6 : ∀ q ∈ R, @Ne Nat q.1 (L + 1 + 1 + 1 + 1 + 1 + 1)) (hRf : ∀ q ∈ R, @Ne Nat q.1 lf)
   (hf : @LT.lt Nat _ (L + 1 + 1 + 1 + 1 + 1 + 1) lf) (hsl : base.IsList sl vs.toArray) (hsi : IntsAre vs ns) (hnl : ns.length ≤ 63)
   (m1 : m "script" = some (.ref sl)) (m2 : m "dealt" = some (.ref ld)) (m3 : m "found" = some (.ref lf)) (hg : ∀ y ∈ s.gens, y.bare = true)
   (hnext : ∀ s', wpAny (model PySem.Challenge.rw_ux0014_01.row.prog w) (callerA.deeper (lawEnv L fa cd)) (execs (lawSB.1.drop 6) (lawEnv L fa cd)) Q E s' → Q' .next s')
   (hQ : ∀ h' tk' gs' m' news' ps, (∀ y ∈ gs', y.bare = true) → Fr base L h' m' → News base L h' news' → (96, tabObj ps) ∈ news' → Q (.ret (.bool true)) { s with heap := h', toks := tk', gens := gs' }) :
   wpAny (model PySem.Challenge.rw_ux0014_01.row.prog w) (callerA.deeper (lawEnv L fa cd)) (exec (lawSt 5) (lawEnv L fa cd)) Q' E' s := by
  have ho' : (o : Int) = 0 ∨ (o : Int) = 1 := by omega
  have n43 : @Ne Nat (L + 1 + 1 + 1 + 1) (L + 1 + 1 + 1) := by refine neN ?_; omega
  have n53 : @Ne Nat (L + 1 + 1 + 1 + 1 + 1) (L + 1 + 1 + 1) := by refine neN ?_; omega
  have n63 : @Ne Nat (L + 1 + 1 + 1 + 1 + 1 + 1) (L + 1 + 1 + 1) := by refine neN ?_; omega
  have n54 : @Ne Nat (L + 1 + 1 + 1 + 1 + 1) (L + 1 + 1 + 1 + 1) := by refine neN ?_; omega
  have n64 : @Ne Nat (L + 1 + 1 + 1 + 1 + 1 + 1) (L + 1 + 1 + 1 + 1) := by refine neN ?_; omega
  have n65 : @Ne Nat (L + 1 + 1 + 1 + 1 + 1 + 1) (L + 1 + 1 + 1 + 1 + 1) := by refine neN ?_; omega
  have nf3 : @Ne Nat lf (L + 1 + 1 + 1) := by refine neN ?_; omega
  have nf4 : @Ne Nat lf (L + 1 + 1 + 1 + 1) := by refine neN ?_; omega
  have nf5 : @Ne Nat lf (L + 1 + 1 + 1 + 1 + 1) := by refine neN ?_; omega
  have nf6 : @Ne Nat lf (L + 1 + 1 + 1 + 1 + 1 + 1) := by refine neN ?_; omega
  refine mask_loop B F X T N hc3 (D.mono fun q hq => .tail _ (.tail _ (.tail _ hq))) ho' ?_ ?_ nf3 m1 m2 m3 hg ?_
  · exact List.forall_mem_cons.mpr ⟨n43, List.forall_mem_cons.mpr ⟨n53, List.forall_mem_cons.mpr ⟨n63, hR3⟩⟩⟩
  · exact List.forall_mem_cons.mpr ⟨nf4.symm, List.forall_mem_cons.mpr ⟨nf5.symm, List.forall_mem_cons.mpr ⟨nf6.symm, hRf⟩⟩⟩
  intro h₁ tk₁ gs₁ m₁ o3 w3 fvs e₁ hg₁ ms₁ mf₁ hfi ho3 F₁ N₁
  refine hnext _ ?_
  clear N F hg m1 m2 m3 hc3
  rw [drop6]
  refine wpAny_execs_cons ?_
  have N₂ : News base L h₁ ((L + 1 + 1 + 1 + 1 + 1, c5) :: ((L + 1 + 1 + 1, o3) :: (lf, listOf fvs.toArray e₁) :: (L + 1 + 1 + 1 + 1, c4) :: (L + 1 + 1 + 1 + 1 + 1 + 1, c6) :: R)) := permR N₁
  refine joined_st B F₁ X T N₂ hc5 (D.mono fun q hq => .tail _ (.tail _ (.tail _ (.tail _ hq)))) hrw ?_ ?_
  · exact List.forall_mem_cons.mpr ⟨n53.symm, List.forall_mem_cons.mpr ⟨nf5, List.forall_mem_cons.mpr ⟨n54.symm, List.forall_mem_cons.mpr ⟨n65, hR5⟩⟩⟩⟩
  intro h₃ tk₃ Dj o5 Tj js ej ho5 F₃ N₃ hTK hT5 hjm hjl hji
  dsimp only
  clear N₁ N₂ F₁
  rw [drop7]
  refine wpAny_execs_cons ?_
  have J₃ : LJ rw L ((L + 1 + 1 + 1 + 1 + 1, o5) :: (Tj ++ ((L + 1 + 1 + 1, o3) :: (lf, listOf fvs.toArray e₁) :: (L + 1 + 1 + 1 + 1, c4) :: (L + 1 + 1 + 1 + 1 + 1 + 1, c6) :: R))) :=
    ⟨o5, Dj, js, ej, .head _, ho5, .tail _ (List.mem_append_left _ hjm), hjl, fun k hk => (hji k hk).mono fun q hq => .tail _ (List.mem_append_left _ hq)⟩
  refine lines_st B F₃ X T N₃ (D.mono fun q hq => .tail _ (List.mem_append_right _ (.tail _ (.tail _ (.tail _ (.tail _ hq)))))) J₃ ho' ?_
  intro h₄ tk₄ Dl lvs el hlv F₄ N₄ hDl
  dsimp only
  clear N₃ F₃
  rw [drop8]
  refine wpAny_execs_cons ?_
  have hlf : (lf, listOf fvs.toArray e₁) ∈ (L + 1 + 1 + 1 + 1 + 1, o5) :: (Tj ++ ((L + 1 + 1 + 1, o3) :: (lf, listOf fvs.toArray e₁) :: (L + 1 + 1 + 1 + 1, c4) :: (L + 1 + 1 + 1 + 1 + 1 + 1, c6) :: R)) := .tail _ (List.mem_append_right _ (.tail _ (.head _)))
  refine rank_st (ld := 0) B F₄ X T N₄ (.head _) hlv (.tail _ hlf) hfi (if_pos rfl) ((if_neg (by decide)).trans mf₁) (law_rank rw ho) ?_
  intro h₅ tk₅ F₅ N₅
  dsimp only
  clear N₄ F₄
  rw [drop9]
  refine wpAny_execs_cons ?_
  have N₆ : News base L h₅ ((L + 1 + 1 + 1, o3) :: (L + 1 + 1 + 1 + 1, c4) :: ((Dl, listOf lvs.toArray el) :: (L + 1 + 1 + 1 + 1 + 1, o5) :: (Tj ++ ((lf, listOf fvs.toArray e₁) :: (L + 1 + 1 + 1 + 1 + 1 + 1, c6) :: R)))) := permS N₅
  have D₆ : LR rw (o : Int) L ld ((Dl, listOf lvs.toArray el) :: (L + 1 + 1 + 1 + 1 + 1, o5) :: (Tj ++ ((lf, listOf fvs.toArray e₁) :: (L + 1 + 1 + 1 + 1 + 1 + 1, c6) :: R))) := D.mono fun q hq => .tail _ (.tail _ (List.mem_append_right _ (.tail _ (.tail _ hq))))
  have J₆ : LJ rw L ((Dl, listOf lvs.toArray el) :: (L + 1 + 1 + 1 + 1 + 1, o5) :: (Tj ++ ((lf, listOf fvs.toArray e₁) :: (L + 1 + 1 + 1 + 1 + 1 + 1, c6) :: R))) :=
    ⟨o5, Dj, js, ej, .tail _ (.head _), ho5, .tail _ (.tail _ (List.mem_append_left _ hjm)), hjl, fun k hk => (hji k hk).mono fun q hq => .tail _ (.tail _ (List.mem_append_left _ hq))⟩
  have t3 : ∀ q ∈ Tj, @Ne Nat q.1 (L + 1 + 1 + 1) := fun q hq => hTK q hq _ (.head _)
  have t4 : ∀ q ∈ Tj, @Ne Nat q.1 (L + 1 + 1 + 1 + 1) := fun q hq => hTK q hq _ (.tail _ (.tail _ (.head _)))
  have t6 : ∀ q ∈ Tj, @Ne Nat q.1 (L + 1 + 1 + 1 + 1 + 1 + 1) := fun q hq => hTK q hq _ (.tail _ (.tail _ (.tail _ (.head _))))
  have d3 : @Ne Nat Dl (L + 1 + 1 + 1) := fun e => hDl _ (.tail _ (List.mem_append_right _ (.head _))) e.symm
  have d4 : @Ne Nat Dl (L + 1 + 1 + 1 + 1) := fun e => hDl _ (.tail _ (List.mem_append_right _ (.tail _ (.tail _ (.head _))))) e.symm
  have d6 : @Ne Nat Dl (L + 1 + 1 + 1 + 1 + 1 + 1) := fun e => hDl _ (.tail _ (List.mem_append_right _ (.tail _ (.tail _ (.tail _ (.head _)))))) e.symm
  refine check_st B F₅ X T N₆ ho3 hc4 D₆ J₆ ho' ?_ ?_ (.tail _ (.tail _ (List.mem_append_right _ (.head _)))) hfi ((if_neg (by decide)).trans mf₁) ((if_neg (by decide)).trans ms₁) (law_own rw ho) ?_
  · refine List.forall_mem_cons.mpr ⟨d3, List.forall_mem_cons.mpr ⟨n53, fun q hq => ?_⟩⟩
    rcases List.mem_append.mp hq with hq | hq
    · exact t3 q hq
    · exact (List.forall_mem_cons.mpr ⟨nf3, List.forall_mem_cons.mpr ⟨n63, hR3⟩⟩ : ∀ q ∈ (lf, listOf fvs.toArray e₁) :: (L + 1 + 1 + 1 + 1 + 1 + 1, c6) :: R, @Ne Nat q.1 (L + 1 + 1 + 1)) q hq
  · refine List.forall_mem_cons.mpr ⟨d4, List.forall_mem_cons.mpr ⟨n54, fun q hq => ?_⟩⟩
    rcases List.mem_append.mp hq with hq | hq
    · exact t4 q hq
    · exact (List.forall_mem_cons.mpr ⟨nf4, List.forall_mem_cons.mpr ⟨n64, hR4⟩⟩ : ∀ q ∈ (lf, listOf fvs.toArray e₁) :: (L + 1 + 1 + 1 + 1 + 1 + 1, c6) :: R, @Ne Nat q.1 (L + 1 + 1 + 1 + 1)) q hq
  intro h₇ tk₇ m₇ p3 p4 u3 u4 mf₇ ms₇ F₇ N₇ hp3 hp4
  dsimp only
  clear N₅ F₅ N₆
  have N₈ : News base L h₇ ((L + 1 + 1 + 1 + 1 + 1 + 1, c6) :: ((L + 1 + 1 + 1, p3) :: (L + 1 + 1 + 1 + 1, p4) :: (Dl, listOf lvs.toArray el) :: (L + 1 + 1 + 1 + 1 + 1, o5) :: (Tj ++ ((lf, listOf fvs.toArray e₁) :: R)))) := permT N₇
  obtain ⟨ps, hps⟩ := D.tab
  have hne : 1 ≤ (foundN rw (o : Int) 32).length := by rw [law_rank rw ho]; exact Nat.pos_of_ne_zero (by simp)
  refine tail_st B F₇ X T N₈ hc6 ?_ hsl hsi hnl (.tail _ (.tail _ (.tail _ (.tail _ (List.mem_append_right _ (.head _)))))) hfi mf₇ ms₇ hne (law_three rw ho) ?_
  · refine List.forall_mem_cons.mpr ⟨n63.symm, List.forall_mem_cons.mpr ⟨n64.symm, List.forall_mem_cons.mpr ⟨d6, List.forall_mem_cons.mpr ⟨n65.symm, fun q hq => ?_⟩⟩⟩⟩
    rcases List.mem_append.mp hq with hq | hq
    · exact t6 q hq
    · exact (List.forall_mem_cons.mpr ⟨nf6, hR6⟩ : ∀ q ∈ (lf, listOf fvs.toArray e₁) :: R, @Ne Nat q.1 (L + 1 + 1 + 1 + 1 + 1 + 1)) q hq
  intro h₉ tk₉ m₉ news₉ F₉ N₉ hK
  exact hQ h₉ tk₉ gs₁ m₉ news₉ ps hg₁ F₉ N₉ (hK _ (.tail _ (.tail _ (.tail _ (.tail _ (List.mem_append_right _ (.tail _ hps)))))))
end
section
theorem off_M2 : True := by
  k_with_none
  w_top off
  trivial
theorem postB {M : Model} {A : Around} {cd : Code} {s s₁ : Shared} {cw : ClaimW} {cl : Str → Option Addr} {mean : ExcName → Option Value} {args : List WData} {tabs : List (Addr × Addr)} (hT : TabsAt tabs s₁.heap)
    (hr : ∀ x, cw.raises args x = false) (hp : cw.post args (.bool true) args = true)
    (h : codeAny M A cd (fun r s' => (r = .ok (.ret (.bool true)) ∧ (∀ b o, (ghostOf s₁.heap tabs).get? b = some o → s'.heap.get? b = some o) ∧ s'.os = s₁.os ∧ AllBare s'.gens) ∧ GrownAll tabs s'.heap) s) :
    codeAny M A cd (GoodWG cw cl mean args s₁) s := by
  refine codeAny_mono h ?_
  rintro r s' ⟨⟨rfl, hk, hos, hg⟩, hgr⟩
  have tab : ∀ b o, b ∈ tabs.map (·.2) → s₁.heap.get? b = some o → isCodeTable s₁.heap b ∧ o = tabObj #[] ∧ ∃ ps, s'.heap.get? b = some (tabObj ps) := by
    intro b o hb e
    obtain ⟨q, hq, rfl⟩ := List.mem_map.mp hb
    have e2 := (hT q hq).2
    have e3 := ((hT q hq).1.tab e2).isCodeTable
    rw [e] at e2
    cases e2
    exact ⟨e3, rfl, hgr.get q hq⟩
  refine ⟨.inl ⟨_, _, [], rfl, hr, .bool true, hp, fun _ => ⟨List.nodup_nil, fun a ha => nomatch ha⟩⟩, ⟨fun b o e => ?_, fun b o e => ?_⟩, hos, hg⟩
  · by_cases hb : b ∈ tabs.map (·.2)
    · obtain ⟨h1, rfl, ps, h2⟩ := tab b o hb e
      exact .inr (.inl ⟨h1, rfl, #[], ps, rfl, by simpa using h2⟩)
    · exact .inl (hk b o (ghost_ne e hb))
  · by_cases hb : b ∈ tabs.map (·.2)
    · obtain ⟨_, _, ps, h2⟩ := tab b o hb e
      exact ⟨_, h2⟩
    · exact ⟨o, hk b o (ghost_ne e hb)⟩
theorem rules_M21 : True := by
  k_with "eval Name" => (k_here; k_dflt (refine' nameX_L (by k_asm) (by ktn_lt) ?_ (by rfl) (by rfl); k_whole))
  k_with "loadName" => (k_here; k_dflt (refine' ldn (by k_asm) (by ktn_lt) ?_; k_whole))
  k_with "call builtin:len" => (k_here; (with_reducible show wpAny _ _ (call (Value.builtin "len") [Value.ref _]) _ _ _); k_dflt (refine' len_led (by k_asm) (by first | assumption | k_mem) (by assumption) (by omega) ?_); intro _ _)
  k_with "subscriptTail" => (k_here; (with_reducible show wpAny _ _ (subscriptTail _ _ (Value.ref _) (Value.int _ _)) _ _ _); k_dflt (refine' item_led (by k_asm) (by k_mem) (by assumption) (by omega) (by omega) (by omega) ?_ (by with_unfolding_all rfl) (by intro _; with_unfolding_all rfl)); intro _)
  k_with "subscriptTail" => (k_here; (with_reducible show wpAny _ _ (subscriptTail _ _ (Value.ref _) (Value.int (Nat.cast _) _)) _ _ _); k_dflt (refine' item_ref (by k_asm) (by k_mem) (by omega) (by omega) ?_ (by with_unfolding_all rfl) (by intro _; with_unfolding_all rfl)))
  k_with "call builtin:list.index" => (k_here; (with_reducible show wpAny _ _ (call (Value.builtin _) [Value.ref _, Value.int _ _]) _ _ _); k_dflt (refine' index_led (by k_asm) (by k_mem) (by assumption) (by assumption) (by omega) ?_))
  trivial
local macro_rules | `(tactic| kn_posts) => `(tactic| refine postB (by assumption) (fun _ => rfl) (by wrow_post) ?_)
theorem lit5 (a b c d e : Int) (t1 t2 t3 t4 t5 : Tok) : IntsAre [.int a t1, .int b t2, .int c t3, .int d t4, .int e t5] [a, b, c, d, e] := .cons _ _ (.cons _ _ (.cons _ _ (.cons _ _ (.cons _ _ .nil))))
local macro_rules | `(tactic| walk_at "subscriptTail Name Slice ref ref") => `(tactic| (k_here; (with_reducible show wpAny _ _ (subscriptTail _ (PySem.Expr.Slice _ _ none _) (Value.ref _) (Value.ref _)) _ _ _); k_dflt (refine' kmk_slice_ints ?F ?N ?l ?p ?q ?i ?m ?c ?_ ?s ?t ?z; (case F => k_asm); (case N => k_asm); (case l => first | exact News.isList (by k_asm) (by k_mem) | exact Fr.lst (by k_asm) (by k_asm)); (case p => kmk_part); (case q => kmk_part); (case i => first | exact lit5 _ _ _ _ _ _ _ _ _ _ | assumption); (case m => first | exact kmk_from (by first | assumption | exact lit5 _ _ _ _ _ _ _ _ _ _) (by omega) | exact kmk_upto (by assumption) (by omega) | exact kmk_run (by assumption) (by omega) (by omega)); (case c => exact rfl); (case s => with_unfolding_all rfl); (case t => kmk_pure); (case z => exact Nat.le_trans (m := 1000) (by rw [List.size_toArray]; first | (simp only [List.length_cons, List.length_nil]; omega) | (rw [IntsAre.length (by assumption)]; omega)) (by decide))); intro D' ws' h' F' N' l1 hI' hC' hL'; clear hC'; (try k_lt l1); (try k_sweep)))
theorem rules_M22 : True := by
  k_with "subscriptTail" => (k_here; (with_reducible show wpAny _ _ (subscriptTail (PySem.Expr.List _ _) _ _ _) _ _ _); k_dflt (refine kba_turn (value' := PySem.Expr.Name (PySem.Str.ofString "_") ⟨0, 0, 0, 0⟩) (fun _ => rfl) ?_))
  trivial
theorem lastFirst {h₀ h : Heap} {L : Addr} {l : List (Addr × Obj)} {x : Addr × Obj} (N : News h₀ L h (l ++ [x])) : News h₀ L h (x :: l) := alCat (l := [x]) (alRgt (l := l) N) (alLft N)
theorem swapTail {h₀ h : Heap} {L : Addr} {a b : Addr × Obj} {G K : List (Addr × Obj)} (N : News h₀ L h (a :: b :: (G ++ K))) : News h₀ L h (a :: b :: (K ++ G)) :=
  have R := alRgt (l := [a, b]) N
  alCat (l := [a, b]) (alLft (l := [a, b]) N) (alCat (alRgt (l := G) R) (alLft (l := G) R))
theorem arr5 {h₀ h : Heap} {L : Addr} {a l2 b t d3 d2 l0 d1 c6 c5 c4 c3 c2 c1 : Addr × Obj} {Gn : List (Addr × Obj)} (N : News h₀ L h (a :: l2 :: b :: t :: d3 :: d2 :: l0 :: d1 :: c6 :: c5 :: c4 :: c3 :: c2 :: c1 :: Gn)) : News h₀ L h (c3 :: a :: c4 :: c5 :: c6 :: (b :: t :: d3 :: c2 :: c1 :: Gn)) :=
  alPerm (l := Gn) [a, l2, b, t, d3, d2, l0, d1, c6, c5, c4, c3, c2, c1] [11, 0, 10, 9, 8, 2, 3, 4, 12, 13] N
def rowOf (ns : List Int) : List Int := ns.take 5 ++ ([4, 1, 3, 0, 2] : List Int).drop ns.length
theorem row_len (ns : List Int) : (rowOf ns).length = 5 := by
  simp only [rowOf, List.length_append, List.length_take, List.length_drop, List.length_cons, List.length_nil]
  omega
theorem ne_sz {ds : List Addr} (h : ds.length = 32) : ((refs ds).toArray.size != (List.toArray ([] : List Value)).size) = true := by simp [refs, h]
theorem rules_M23 : True := by
  k_with "compareOp Eq ref ref" => (k_here; (with_reducible show wpAny _ _ (compareOp CmpOp.Eq (Value.ref _) (Value.ref _)) _ _ _); k_dflt (refine' PySem.SeqAt.eq_list_lengthsAt (by exact News.isList (by k_asm) (by k_mem)) (by exact News.isList (by k_asm) (by k_mem)) (by exact ne_sz (by assumption)) (by first | units_room | exact Nat.le_of_ble_eq_true rfl) ?_))
  trivial
theorem law_holds : PySem.Challenge.rw_ux0014_01.Holds := hd (by
  k_go0
  rename_i w s₀ s₁ mg mb G Y fa o pm cd doc ho hcd hg X V T B TE TW ns hs hlay0 hLay hr1 hl2 w10 w9 sl vs w6 hL ra w1 r0 hI hr2 hcond1 hcond2 hD h₁ tk₁ c6 c5 c4 c3 c2 c1 dl4 dl3 dl2 dl1 dl0 dr X0 X' T' K' F' N' l0
  have e6 : c6.data = .cell none := dl4
  have e5 : c5.data = .cell none := dl3
  have e4 : c4.data = .cell none := dl2
  have e3 : c3.data = .cell none := dl1
  have e2 : c2.data = .cell none := dl0
  have e1 : c1.data = .cell none := dr
  have hnl : ns.length ≤ 63 := by omega
  clear G Y ho hcd X V T B TE TW hs hlay0 hr1 hl2 hL ra w1 r0 hr2 hcond1 hcond2 hD dl4 dl3 dl2 dl1 dl0 dr X0 hT9 hT8
  have F₀ : Fr (ghostOf s₁.heap [(98, 96)]) s₁.heap.objs.size h₁ (fun y => if y = PySem.Str.ofString "script" then some (.ref sl) else none) := F'
  clear F'
  generalize ghostOf s₁.heap [(98, 96)] = base at F₀ N' K' T' X' codeHd lifted ⊢
  generalize s₁.heap.objs.size = L at F₀ N' l0 ⊢
  (try k_unmd)
  dsimp only
  (try k_unmd)
  k_fold
  ktn_open
  have hRow : IntsAre _ (rowOf ns) := ‹IntsAre _ (List.take 5 ns ++ List.drop (ns.length : Int).toNat [4, 1, 3, 0, 2])›
  have N₁ := lastFirst (l := [_, _, _, _, _, _, _, _, _, _]) ‹News base _ _ _›
  k_dflt (refine' dealt_spec ?B ?F ?X N₁ ?hK ?T ?CH ?hd (.head _) hRow (row_len ns) ?hQ)
  case B => k_asm
  case F => k_asm
  case X => k_asm
  case hK => k_all
  case T => k_asm
  case CH => exact codeHd
  case hd => decide
  case hQ =>
    intro ld ds ed ps Gn h₂ tk₂ F₂ N₂ o96 oLd lt96 oG hdl hdp
    have N₃ := swapTail N₂
    dsimp only [List.cons_append, List.nil_append] at N₃
    clear N₂ N₁
    ktn_open
    rename_i lf hA l1f hB F₅ N₅
    have N₆ := arr5 N₅
    obtain ⟨_, b1, b2, b3, b4, b5, b6, b7, b8, b9, b10, b11, b12, bG⟩ := l1f
    have hod : (ns.length : Int).fmod 2 = ((ns.length % 2 : Nat) : Int) := by rw [Int.fmod_eq_emod_of_nonneg _ (by decide)]; rfl
    have g3 : ∀ q ∈ Gn, @Ne Nat q.1 (L + 1 + 1 + 1) := fun q hq => oG q hq (L + 1 + 1 + 1, c3) (by simp)
    have g4 : ∀ q ∈ Gn, @Ne Nat q.1 (L + 1 + 1 + 1 + 1) := fun q hq => oG q hq (L + 1 + 1 + 1 + 1, c4) (by simp)
    have g5 : ∀ q ∈ Gn, @Ne Nat q.1 (L + 1 + 1 + 1 + 1 + 1) := fun q hq => oG q hq (L + 1 + 1 + 1 + 1 + 1, c5) (by simp)
    have g6 : ∀ q ∈ Gn, @Ne Nat q.1 (L + 1 + 1 + 1 + 1 + 1 + 1) := fun q hq => oG q hq (L + 1 + 1 + 1 + 1 + 1 + 1, c6) (by simp)
    have gf : ∀ q ∈ Gn, @Ne Nat q.1 lf := fun q hq => Nat.ne_of_lt (allLt_mem bG q hq)
    have d3 : @Ne Nat ld (L + 1 + 1 + 1) := fun e => oLd (L + 1 + 1 + 1, c3) (by simp) e.symm
    have d4 : @Ne Nat ld (L + 1 + 1 + 1 + 1) := fun e => oLd (L + 1 + 1 + 1 + 1, c4) (by simp) e.symm
    have d5 : @Ne Nat ld (L + 1 + 1 + 1 + 1 + 1) := fun e => oLd (L + 1 + 1 + 1 + 1 + 1, c5) (by simp) e.symm
    have d6 : @Ne Nat ld (L + 1 + 1 + 1 + 1 + 1 + 1) := fun e => oLd (L + 1 + 1 + 1 + 1 + 1 + 1, c6) (by simp) e.symm
    have hrowd := ‹_ = Data.cell (some (Value.ref _))›
    have hoddd := ‹_ = Data.cell (some (Value.int (Int.fmod _ 2) _))›
    rw [hod] at hoddd
    have hg0 : ∀ y ∈ s₁.gens, y.bare = true := fun y hy => by rw [hg] at hy; exact absurd hy (by simp)
    refine rest_st (Q := qk) (E := ek) (o := ns.length % 2) (lf := lf) (ld := ld) (sl := sl) (ns := ns) K' F₅ X' T' N₆ e3 e4 e5 e6 ?hD (by omega) (row_len ns) ?a3 ?a4 ?a5 ?a6 ?af b7 lifted hI hnl (by ktn_lt) (by ktn_lt) (by ktn_lt) hg0 (fun s' h => h) ?hQ
    case hD => exact ⟨⟨ds, ed, .head _, hdl, fun k hk => (hdp k hk).mono fun q hq => .tail _ (.tail _ (.tail _ (.tail _ (.tail _ hq))))⟩, ⟨_, _, _, _, .tail _ (.tail _ (.tail _ (.tail _ (.head _)))), hrowd, .tail _ (.tail _ (.head _)), hRow⟩, ⟨_, _, .tail _ (.tail _ (.tail _ (.head _))), hoddd⟩, ⟨ps, .tail _ (.head _)⟩⟩
    case a3 => refine List.forall_mem_cons.mpr ⟨d3, List.forall_mem_cons.mpr ⟨?_, List.forall_mem_cons.mpr ⟨?_, List.forall_mem_cons.mpr ⟨?_, List.forall_mem_cons.mpr ⟨?_, g3⟩⟩⟩⟩⟩ <;> k_ne
    case a4 => refine List.forall_mem_cons.mpr ⟨d4, List.forall_mem_cons.mpr ⟨?_, List.forall_mem_cons.mpr ⟨?_, List.forall_mem_cons.mpr ⟨?_, List.forall_mem_cons.mpr ⟨?_, g4⟩⟩⟩⟩⟩ <;> k_ne
    case a5 => refine List.forall_mem_cons.mpr ⟨d5, List.forall_mem_cons.mpr ⟨?_, List.forall_mem_cons.mpr ⟨?_, List.forall_mem_cons.mpr ⟨?_, List.forall_mem_cons.mpr ⟨?_, g5⟩⟩⟩⟩⟩ <;> k_ne
    case a6 => refine List.forall_mem_cons.mpr ⟨d6, List.forall_mem_cons.mpr ⟨?_, List.forall_mem_cons.mpr ⟨?_, List.forall_mem_cons.mpr ⟨?_, List.forall_mem_cons.mpr ⟨?_, g6⟩⟩⟩⟩⟩ <;> k_ne
    case af => refine List.forall_mem_cons.mpr ⟨?_, List.forall_mem_cons.mpr ⟨?_, List.forall_mem_cons.mpr ⟨?_, List.forall_mem_cons.mpr ⟨?_, List.forall_mem_cons.mpr ⟨?_, gf⟩⟩⟩⟩⟩ <;> k_ne
    case hQ =>
      intro h' tk' gs' m' news' ps' hg' F₇ N₇ hps
      exact ⟨⟨rfl, F₇.keep, rfl, hg'⟩, ⟨⟨ps', (N₇ _ hps).1⟩, trivial⟩⟩)
end
end
end Mine
theorem PySem.Challenge.cw_ux0014_01_holds : PySem.Challenge.rw_ux0014_01.Holds := by
  exact Mine.law_holds
