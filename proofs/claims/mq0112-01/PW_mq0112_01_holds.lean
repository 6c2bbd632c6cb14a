import PyProof.Rows.All
import Wide.All
import OpenK.AllK
import Wide.FinOn
import PySem.Challenge.RW_mq0112_01
set_option Elab.async false
set_option rowWalk.seconds 0
noncomputable section
open PySem PySem.W PyProof.Rows
namespace Mine
def TurnEnd (h₀ : Heap) (L : Addr) (Jn : (Str → Option Value) → List (Addr × Obj) → Prop) (I : Addr) (oI : Obj) (s₁ : Shared) (Q : Flow → Shared → Prop) (f : Flow) (s₂ : Shared) : Prop :=
  match f with
  | .ret v => Q (.ret v) s₂
  | .brk => Q .next s₂
  | _ => ∃ h' tk m₂ news₂, s₂ = { s₁ with heap := h', toks := tk } ∧ Fr h₀ L h' m₂ ∧ News h₀ L h' ((I, oI) :: news₂) ∧ (∀ p ∈ news₂, p.1 ≠ I) ∧ Jn m₂ news₂
theorem TurnEnd.go {h₀ : Heap} {L : Addr} {Jn : (Str → Option Value) → List (Addr × Obj) → Prop} {I : Addr} {oI : Obj} {s₁ : Shared} {Q : Flow → Shared → Prop} {h' : Heap} {tk : Nat} {m₂ : Str → Option Value} {ledger news₂ : List (Addr × Obj)}
    (F : Fr h₀ L h' m₂) (N : News h₀ L h' ledger) (hI : (I, oI) ∈ ledger) (hsub : ∀ p ∈ news₂, p ∈ ledger) (hne : ∀ p ∈ news₂, p.1 ≠ I) (hj : Jn m₂ news₂) :
    TurnEnd h₀ L Jn I oI s₁ Q .next { s₁ with heap := h', toks := tk } :=
  ⟨h', tk, m₂, news₂, rfl, F, fun p hp => N p (by rcases List.mem_cons.mp hp with rfl | hp; exact hI; exact hsub p hp), hne, hj⟩
section
variable {prog : Program} {w : World} {A : Around} {E : Value → Shared → Prop} {s : Shared} {env : Env} {h₀ : Heap} {x : Str} {body : List Stmt} {Q : Flow → Shared → Prop}
theorem loop_walks {I : Addr} {fp : List Addr} {n : Nat} {P : Nat → Value → Prop} {St : Nat → Heap → Prop} {m₀ : Str → Option Value} {news : List (Addr × Obj)}
    (J : Nat → (Str → Option Value) → List (Addr × Obj) → Prop) (W : Walks prog w A I fp [I] n P St)
    (hlive : ∀ i h, St i h → ∃ o, h.get? I = some o) (hst : St 0 s.heap) (hnew : h₀.get? I = none) (hL : env.locals ∉ fp) (hnI : ∀ p ∈ news, p.1 ≠ I)
    (hfp : ∀ b ∈ fp, b = I ∨ (∃ o, h₀.get? b = some o) ∨ ∃ o, ∀ i m₁ news₁, J i m₁ news₁ → (b, o) ∈ news₁)
    (F : Fr h₀ env.locals s.heap m₀) (N : News h₀ env.locals s.heap news) (hj : J 0 m₀ news)
    (turn : ∀ i v m₁ news₁ h tk oI, i < n → P i v → J i m₁ news₁ → (∀ p ∈ news₁, p.1 ≠ I) → Fr h₀ env.locals h (fun y => if y = x then some v else m₁ y) → News h₀ env.locals h ((I, oI) :: news₁) →
      wpAny (model prog w) A (execs body env) (TurnEnd h₀ env.locals (J (i + 1)) I oI { s with heap := h, toks := tk } Q) E { s with heap := h, toks := tk })
    (done : ∀ m₁ news₁ h tk, J n m₁ news₁ → (∀ p ∈ news₁, p.1 ≠ I) → Fr h₀ env.locals h m₁ → News h₀ env.locals h news₁ → Q .next { s with heap := h, toks := tk }) :
    LoopAtV prog w A h₀ env x body Q E (.ref I) s := by
  have hIf : I ∈ fp := W.sub I (.head _)
  refine ⟨I, fp, [I], n, P, St, m₀, news, J, rfl, W, hL, ?_, ?_, hst, F, N, hj, ?_, ?_⟩
  · intro b hb; rw [List.mem_singleton.mp hb]; exact hnew
  · intro p hp hb; exact hnI p hp (List.mem_singleton.mp hb)
  · rintro i v m₁ news₁ s₁ own ⟨h, tk, rfl⟩ hi hP hJ hoff hown hget hall hst' F₁ N₁
    obtain ⟨oI, hoI⟩ := hlive _ _ hst'
    have hmI : (I, oI) ∈ own := hall I hIf hnew oI hoI
    have hne : ∀ p ∈ news₁, p.1 ≠ I := fun p hp e => hoff p hp (by rw [e]; exact .head _)
    have N₂ : News h₀ env.locals h ((I, oI) :: news₁) := fun p hp => by
      rcases List.mem_cons.mp hp with rfl | hp
      · exact N₁ _ (List.mem_append_left _ hmI)
      · exact N₁ _ (List.mem_append_right _ hp)
    refine wpAny_mono (turn i v m₁ news₁ h tk oI hi hP hJ hne F₁ N₂) (fun f s₂ p => ?_) fun _ _ e => e
    have fin : ∀ s₂, (∃ h' tk' m₂ news₂, s₂ = { ({ s with heap := h, toks := tk } : Shared) with heap := h', toks := tk' } ∧ Fr h₀ env.locals h' m₂ ∧ News h₀ env.locals h' ((I, oI) :: news₂) ∧ (∀ p ∈ news₂, p.1 ≠ I) ∧ J (i + 1) m₂ news₂) →
        LoopStepU h₀ env.locals [I] own (J (i + 1)) { s with heap := h, toks := tk } .next s₂ := by
      rintro s₂ ⟨h', tk', m₂, news₂, rfl, F', N', hne', hJ'⟩
      refine ⟨rfl, h', tk', m₂, news₂, rfl, F', fun p hp => ?_, fun p hp hb => hne' p hp (List.mem_singleton.mp hb), hJ'⟩
      rcases List.mem_append.mp hp with hp | hp
      · rcases hfp _ (hown p hp) with e | ⟨o, ho⟩ | ⟨o, ho⟩
        · have : p = (I, oI) := by
            have h1 := hget p hp
            rw [e] at h1
            have h2 : oI = p.2 := Option.some.inj (hoI.symm.trans h1)
            exact Prod.ext e h2.symm
          rw [this]; exact N' _ (.head _)
        · have := (N₁ p (List.mem_append_left _ hp)).2.2
          rw [ho] at this; cases this
        · have h1 := hget p hp
          have h2 := (N₁ _ (List.mem_append_right _ (ho _ _ _ hJ))).1
          have h3 : p.2 = o := Option.some.inj (h1.symm.trans h2)
          have : p = (p.1, o) := Prod.ext rfl h3
          rw [this]; exact N' _ (.tail _ (ho _ _ _ hJ'))
      · exact N' _ (.tail _ hp)
    cases f with
    | ret v => exact .ret p
    | brk => exact .brk p
    | next => exact .next (fin _ p)
    | cont => exact .cont (fin _ p)
  · intro h' tk m' news' F' N' hoff hJ
    exact done m' news' h' tk hJ (fun p hp e => hoff p hp (by rw [e]; exact .head _)) F' N'
theorem led_lt {h : Heap} {L : Addr} {news : List (Addr × Obj)} (N : News h₀ L h news) : ∀ p ∈ news, p.1 ≠ h.objs.size := fun p hp e =>
  absurd (Heap.lt_size (N p hp).1) (by rw [e]; exact Nat.lt_irrefl _)
theorem not_base {h : Heap} {L : Addr} {m : Str → Option Value} (F : Fr h₀ L h m) : h₀.get? h.objs.size = none := by
  cases q : h₀.get? h.objs.size with
  | none => rfl
  | some o => exact absurd (Heap.lt_size (F.keep _ _ q)) (Nat.lt_irrefl _)
/-- a list of the ledger, turn by turn -/
theorem iter_led {l : Addr} {vs : List Value} {k : Nat} {m₀ : Str → Option Value} {news : List (Addr × Obj)} (J : Nat → (Str → Option Value) → List (Addr × Obj) → Prop)
    (hh : A.handled = none) (hl : ∀ i m₁ news₁, J i m₁ news₁ → (l, ({ cls := .type "list", data := .seq vs.toArray k } : Obj)) ∈ news₁) (F : Fr h₀ env.locals s.heap m₀) (N : News h₀ env.locals s.heap news) (hj : J 0 m₀ news)
    (turn : ∀ i v m₁ news₁ h tk I oI, vs[i]? = some v → J i m₁ news₁ → (∀ p ∈ news₁, p.1 ≠ I) → Fr h₀ env.locals h (fun y => if y = x then some v else m₁ y) → News h₀ env.locals h ((I, oI) :: news₁) →
      wpAny (model prog w) A (execs body env) (TurnEnd h₀ env.locals (J (i + 1)) I oI { s with heap := h, toks := tk } Q) E { s with heap := h, toks := tk })
    (done : ∀ m₁ news₁ h tk, J vs.length m₁ news₁ → Fr h₀ env.locals h m₁ → News h₀ env.locals h news₁ → Q .next { s with heap := h, toks := tk }) :
    wpAny (model prog w) A (pyIter (.ref l)) (fun it s₂ => LoopAtV prog w A h₀ env x body Q E it s₂) E s := by
  have N0 := N _ (hl _ _ _ hj)
  have hls : s.heap.IsList l vs.toArray := ⟨_, N0.1, rfl, _, rfl⟩
  have hne : l ≠ s.heap.objs.size := Nat.ne_of_lt (Heap.lt_size N0.1)
  refine wpAny_pyIter_list hls ?_
  have W := Walks.list (prog := prog) (w := w) hh s.heap.objs.size l hne vs.toArray
  rw [List.size_toArray] at W
  refine loop_walks (s := { s with heap := _ }) J W ?_ ⟨⟨_, Heap.get?_push_size _ rfl, rfl, rfl⟩, hls.at fun o e => Heap.get?_push_of_some _ e⟩ (not_base F) ?_ (led_lt N) ?_ (F.push _) (fun p hp => ⟨Heap.get?_push_of_some _ (N p hp).1, (N p hp).2⟩) hj ?_ ?_
  · rintro i h ⟨⟨o, ho, _⟩, _⟩; exact ⟨o, ho⟩
  · intro hm
    rcases List.mem_cons.mp hm with e | hm
    · exact absurd F.ns.lt (e ▸ Nat.lt_irrefl _)
    · exact N0.2.1 (List.mem_singleton.mp hm).symm
  · intro b hb
    rcases List.mem_cons.mp hb with e | hb
    · exact .inl e
    · exact .inr (.inr ⟨_, fun i m₁ news₁ q => (List.mem_singleton.mp hb) ▸ hl i m₁ news₁ q⟩)
  · intro i v m₁ news₁ h tk oI _ hP hJ hne' F' N'
    exact turn i v m₁ news₁ h tk _ oI (by simpa using hP) hJ hne' F' N'
  · intro m₁ news₁ h tk hJ _ F' N'
    exact done m₁ news₁ h tk hJ F' N'
/-- a text, sign by sign -/
theorem iter_str {t : Str} {u : Tok} {m₀ : Str → Option Value} {news : List (Addr × Obj)} (J : Nat → (Str → Option Value) → List (Addr × Obj) → Prop)
    (hh : A.handled = none) (F : Fr h₀ env.locals s.heap m₀) (N : News h₀ env.locals s.heap news) (hj : J 0 m₀ news)
    (turn : ∀ i c u' m₁ news₁ h tk I oI, t.cps[i]? = some c → J i m₁ news₁ → (∀ p ∈ news₁, p.1 ≠ I) → Fr h₀ env.locals h (fun y => if y = x then some (.str ⟨#[c]⟩ u') else m₁ y) → News h₀ env.locals h ((I, oI) :: news₁) →
      wpAny (model prog w) A (execs body env) (TurnEnd h₀ env.locals (J (i + 1)) I oI { s with heap := h, toks := tk } Q) E { s with heap := h, toks := tk })
    (done : ∀ m₁ news₁ h tk, J t.cps.size m₁ news₁ → Fr h₀ env.locals h m₁ → News h₀ env.locals h news₁ → Q .next { s with heap := h, toks := tk }) :
    wpAny (model prog w) A (pyIter (.str t u)) (fun it s₂ => LoopAtV prog w A h₀ env x body Q E it s₂) E s := by
  have go : ∀ (o : Obj) (St : Nat → Heap → Prop), (∀ i h, St i h → ∃ o, h.get? s.heap.objs.size = some o) → Walks prog w A s.heap.objs.size [s.heap.objs.size] [s.heap.objs.size] t.cps.size (SignAt t) St → St 0 (s.heap.push o) →
      LoopAtV prog w A h₀ env x body Q E (.ref s.heap.objs.size) { s with heap := s.heap.push o } := by
    intro o St hlive W st
    refine loop_walks (s := { s with heap := _ }) J W hlive st (not_base F) ?_ (led_lt N) ?_ (F.push _) (fun p hp => ⟨Heap.get?_push_of_some _ (N p hp).1, (N p hp).2⟩) hj ?_ ?_
    · intro hm
      exact absurd F.ns.lt ((List.mem_singleton.mp hm) ▸ Nat.lt_irrefl _)
    · intro b hb; exact .inl (List.mem_singleton.mp hb)
    · rintro i v m₁ news₁ h tk oI _ ⟨c, u', hc, rfl⟩ hJ hne' F' N'
      exact turn i c u' m₁ news₁ h tk _ oI hc hJ hne' F' N'
    · intro m₁ news₁ h tk hJ _ F' N'
      exact done m₁ news₁ h tk hJ F' N'
  cases ha : t.cps.all (· < 128)
  · exact wpAny_pyIter_wide ha (go _ _ (fun i h st => let ⟨o, ho, _⟩ := st; ⟨o, ho⟩) (Walks.strWide hh _ t u) ⟨_, Heap.get?_push_size _ rfl, rfl, rfl⟩)
  · exact wpAny_pyIter_ascii ha (go _ _ (fun i h st => let ⟨o, ho, _⟩ := st; ⟨o, ho⟩) (Walks.strAscii hh _ t u) ⟨_, Heap.get?_push_size _ rfl, rfl, rfl⟩)
/-- a range -/
theorem iter_range {r : Addr} {a b c : Int} {t u v : Tok} {n : Nat} {m₀ : Str → Option Value} {news : List (Addr × Obj)} (J : Nat → (Str → Option Value) → List (Addr × Obj) → Prop)
    (hh : A.handled = none) (hr : IsRange s.heap r a b c t u v) (hsmall : Builtin.Range.small a b c = true) (hn : Builtin.Range.rangeSize a b c = (n : Int)) (F : Fr h₀ env.locals s.heap m₀) (N : News h₀ env.locals s.heap news) (hj : J 0 m₀ news)
    (turn : ∀ i t' m₁ news₁ h tk I oI, i < n → J i m₁ news₁ → (∀ p ∈ news₁, p.1 ≠ I) → Fr h₀ env.locals h (fun y => if y = x then some (.int (a + (i : Nat) * c) t') else m₁ y) → News h₀ env.locals h ((I, oI) :: news₁) →
      wpAny (model prog w) A (execs body env) (TurnEnd h₀ env.locals (J (i + 1)) I oI { s with heap := h, toks := tk } Q) E { s with heap := h, toks := tk })
    (done : ∀ m₁ news₁ h tk, J n m₁ news₁ → Fr h₀ env.locals h m₁ → News h₀ env.locals h news₁ → Q .next { s with heap := h, toks := tk }) :
    wpAny (model prog w) A (pyIter (.ref r)) (fun it s₂ => LoopAtV prog w A h₀ env x body Q E it s₂) E s := by
  refine wpAny_pyIter_range hr hsmall ?_
  refine loop_walks (s := { s with heap := _ }) J (Walks.range hh _ a c n) ?_ ?_ (not_base F) ?_ (led_lt N) ?_ (F.push _) (fun p hp => ⟨Heap.get?_push_of_some _ (N p hp).1, (N p hp).2⟩) hj ?_ ?_
  · intro i h st; exact ⟨_, st⟩
  · show IsRangeIter _ _ _ _ _
    rw [hn]; simpa using Heap.get?_push_size _ rfl
  · intro hm
    exact absurd F.ns.lt ((List.mem_singleton.mp hm) ▸ Nat.lt_irrefl _)
  · intro b hb; exact .inl (List.mem_singleton.mp hb)
  · rintro i v' m₁ news₁ h tk oI hi ⟨t', rfl⟩ hJ hne' F' N'
    exact turn i t' m₁ news₁ h tk _ oI hi hJ hne' F' N'
  · intro m₁ news₁ h tk hJ _ F' N'
    exact done m₁ news₁ h tk hJ F' N'
end
/-- what is known of a frame's names -/
noncomputable def Has (m : Str → Option Value) : List (Str × Value) → Prop
  | [] => True
  | (x, v) :: r => m x = some v ∧ Has m r
abbrev over (l : List (Str × Value)) (m : Str → Option Value) : Str → Option Value := fun y => match l.lookup y with | some v => some v | none => m y
theorem Has.over {m : Str → Option Value} : ∀ {l : List (Str × Value)}, Has m l → over l m = m
  | [], _ => rfl
  | (x, v) :: r, h => by
    funext y
    show (match List.lookup y ((x, v) :: r) with | some v => some v | none => m y) = m y
    rw [List.lookup_cons]
    by_cases q : y = x
    · rw [show (y == x) = true from by rw [q]; exact beq_self_eq_true x, q]; exact h.1.symm
    · rw [show (y == x) = false from beq_eq_false_iff_ne.mpr q]
      exact congrFun (Has.over h.2) y
theorem Fr.turn {h₀ h : Heap} {L : Addr} {m : Str → Option Value} {x : Str} {v : Value} {l : List (Str × Value)} (F : Fr h₀ L h (fun y => if y = x then some v else m y)) (e : Has m l) :
    Fr h₀ L h (fun y => if y = x then some v else over l m y) := by rw [e.over]; exact F
theorem Fr.has {h₀ h : Heap} {L : Addr} {m : Str → Option Value} {l : List (Str × Value)} (F : Fr h₀ L h m) (e : Has m l) : Fr h₀ L h (over l m) := by rw [e.over]; exact F
end Mine
end
noncomputable section
open PySem PySem.Calls PySem.NumText PyProof.Rows PySem.W
set_option maxRecDepth 100000
namespace Mine
theorem typeCall_int_2 (a b : Value) : checkTypeCall "int" ⟨[a, b], []⟩ = pure () := by kernel_rfl
theorem newCall_int_2 (a b : Value) : checkBuiltinCall "int.__new__" ⟨[.type "int", a, b], []⟩ = pure () := by kernel_rfl
set_option maxHeartbeats 4000000 in
theorem gives_text2 {x : PySem.Str} {u t : Tok} {n : Int} (hl : x.length ≤ 640) (hn : PySem.intText? x = some n) : Gives (Builtin.«int.__new__» ⟨[.type "int", .str x u, .int 10 t], []⟩) (.int n) :=
  .of_wp fun M A E s Q h => by
    obtain ⟨hp, g, d, tk, os⟩ := s
    have f1 := F.conv_sub_int
    have f2 := F.madeHere_int
    have f3 := KIN.str_int
    have f4 := KIN.str_idx
    have f5 := KIN.str_trunc
    have f6 : typeOf (.str x u) = pure (.type "str") := rfl
    have hs : (numSeenOf x).length ≤ 640 := Nat.le_trans (seen_length x) hl
    have hr : (int_private% "readNumeral") 0 10 (numSeenOf x) = (int_private% "Numeral.value") n ∧ ((numSeenOf x).length == (numTextOf x).length) = true := by
      rcases read0 x hs with ⟨m, h1, h2, h3⟩ | ⟨h1, _⟩
      · rw [hn] at h1
        injection h1 with h1
        subst h1
        exact ⟨h3, h2⟩
      · rw [hn] at h1
        cases h1
    have hk := KIN.Hid.mk (And.intro hs hr)
    clear hs hr hl hn
    repeat (any_goals (first
      | assumption
      | ((with_reducible show wpAny _ _ ((int_private% "intFromText") _ _ _) _ _ _); refine KIN.wp_text hk.out.1 hk.out.2.1 hk.out.2.2 ?_)
      | wp_step))
    all_goals first | exact ⟨_, rfl, h⟩ | skip
end Mine
end
noncomputable section
open PySem PySem.W PyProof.Rows PySem.Calls PySem.Sem
set_option maxRecDepth 100000
namespace Mine
/-- the claim's caller stands below on the stack -/
def HasCaller (Γ : Ctx) : Prop := (Γ.below.any fun c => c.1.isCaller) = true
def wpC {α : Type} (M : Model) (A : Around) (t : Sem α) (Q : α → Shared → Prop) (E : Value → Shared → Prop) (s : Shared) : Prop :=
  ∀ Γ p, Γ.In A → HasCaller Γ → wp M Γ t (fun a _ s' => Q a s') (fun e _ s' => E e s') p s
def codeC (M : Model) (A : Around) (c : Code) (R : Result → Shared → Prop) (s : Shared) : Prop :=
  ∀ Γ p, Γ.code = c → Γ.Below A → HasCaller Γ → wpCode M Γ R p s
section
variable {α β : Type} {M : Model} {A : Around} {E : Value → Shared → Prop} {s : Shared} {env : Env}
theorem wpC.of {t : Sem α} {Q : α → Shared → Prop} (h : wpAny M A t Q E s) : wpC M A t Q E s := fun Γ p hΓ _ => h Γ p hΓ
theorem wpC.mono {t : Sem α} {Q Q' : α → Shared → Prop} {E' : Value → Shared → Prop} (h : wpC M A t Q E s)
    (hQ : ∀ a s, Q a s → Q' a s) (hE : ∀ e s, E e s → E' e s) : wpC M A t Q' E' s :=
  fun Γ p hΓ hc => Sem.wp_mono M Γ t (fun a _ s => hQ a s) (fun e _ s => hE e s) p s (h Γ p hΓ hc)
theorem wpC_bind {m : Sem α} {f : α → Sem β} {Q : β → Shared → Prop} (h : wpC M A m (fun a s' => wpC M A (f a) Q E s') E s) :
    wpC M A (m >>= f) Q E s := fun Γ p hΓ hc => by
  rw [Sem.wp_bind']
  exact Sem.wp_mono M Γ m (fun a p' s' h' => h' Γ p' hΓ hc) (fun _ _ _ h' => h') p s (h Γ p hΓ hc)
theorem wpC_holding {vs : List Value} {m : Sem α} {Q : α → Shared → Prop} (h : wpC M A m Q E s) : wpC M A (holding vs m) Q E s :=
  fun Γ p hΓ hc => by rw [Sem.wp_holding]; exact h Γ p hΓ hc
theorem wpC_onRaise {m : Sem α} {k : Value → Sem Unit} {Q : α → Shared → Prop}
    (h : wpC M A m Q (fun e s' => wpC M A (k e) (fun _ s'' => E e s'') E s') s) : wpC M A (m.onRaise k) Q E s := fun Γ p hΓ hc => by
  rw [Sem.wp_onRaise]
  exact Sem.wp_mono M Γ m (fun _ _ _ h' => h') (fun e p' s' h' => h' Γ p' hΓ hc) p s (h Γ p hΓ hc)
theorem HasCaller.enter {Γ : Ctx} (h : HasCaller Γ) (c : Code) (hd : Option Value) (p : Pos) : HasCaller (Γ.enter c hd p) := by
  unfold HasCaller Ctx.enter at *
  simp only [List.any_cons, h, Bool.or_true]
theorem wpC_run {c : Code} {h : Option Value} {Q : Flow → Shared → Prop}
    (hc : codeC M (A.mark h) c (fun r s' => match r with | .ok f => Q f s' | .error e => E e s') s) (hnb : h ≠ some byPass := by intro x; cases x) :
    wpC M A (run c h) Q E s :=
  fun Γ p hΓ hC => by rw [Sem.wp_run]; exact hc _ p rfl (hΓ.enter c h p hnb) (hC.enter c h p)
theorem wpC_call {f : Value} {pos : List Value} {kw : List (Str × Value)} {Q : Value → Shared → Prop}
    (hc : codeC M A (.call f ⟨pos, kw⟩) (fun r s' => match r with | .ok (.ret v) => Q v s' | .ok _ => False | .error e => E e s') s) :
    wpC M A (call f pos kw) Q E s := fun Γ p hΓ hC => by
  show wp M Γ (runValue _) _ _ p s
  rw [Sem.wp_runValue]; exact hc _ p rfl (hΓ.enter _ none p (by intro x; cases x)) (hC.enter _ none p)
theorem codeC_of_tree {c : Code} {R : Result → Shared → Prop}
    (h : wpC M (A.under c) (M.den c) (fun fin s' => match fin with | .done f => R (.ok f) s' | .again c' => c'.quiet = true ∧ codeC M A c' R s')
      (fun e s' => R (.error e) s') s) : codeC M A c R s := fun Γ p hc hΓ hC => by
  rw [wpCode_iff_wp, hc]
  refine Sem.wp_mono M Γ _ (fun fin p' s' h' => ?_) (fun _ _ _ h' => h') p s (h Γ p (hc ▸ hΓ.in) hC)
  cases fin with
  | done f => exact h'
  | again c' => exact ⟨h'.1, h'.2 (Γ.goto c') p' rfl (hΓ.goto c') hC⟩
theorem wpC_execs_cons {st : Stmt} {rest : List Stmt} {Q : Flow → Shared → Prop}
    (h : wpC M A (exec st env) (fun f s' => match f with | .next => wpC M A (execs rest env) Q E s' | f => Q f s') E s) :
    wpC M A (execs (st :: rest) env) Q E s := fun Γ p hΓ hC => by
  rw [execs_cons, Sem.wp_bind']
  refine Sem.wp_mono M Γ _ (fun f p' s' h' => ?_) (fun _ _ _ h' => h') _ _ (h Γ p hΓ hC)
  cases f <;> first | exact h' Γ p' hΓ hC | exact h'
theorem wpC_If {test : PySem.Expr} {body orelse : List Stmt} {pos : Pos} {Q : Flow → Shared → Prop}
    (h : wpC M A (isTrue test env (eval test env)) (fun b s₂ => if b then wpC M A (execs body env) Q E s₂ else wpC M A (execs orelse env) Q E s₂) E s) :
    wpC M A (exec (.If test body orelse pos) env) Q E s := fun Γ p hΓ hC => by
  simp only [exec_If, Sem.wp_bind', Sem.wp_cmd_standAt]
  refine Sem.wp_mono M Γ _ (fun b p₂ s₂ h₂ => ?_) (fun _ _ _ h' => h') _ _ (h Γ _ hΓ hC)
  cases b <;> exact h₂ Γ p₂ hΓ hC
theorem mark_skip {own : List String} {e : Value} {Q : Unit → Shared → Prop} (h : Q () s) : wpC M A (markTheRefusal own e) Q E s := fun Γ p hΓ hC => by
  unfold markTheRefusal
  rw [Sem.wp_bind']
  show wp M Γ (.stack .pure) _ _ p s
  rw [wp_stack]
  show wp M Γ (if pythonCodeMadeTheCall own (((Γ.code, p) :: Γ.below).map (·.1)) then _ else _) _ _ p s
  have : pythonCodeMadeTheCall own (((Γ.code, p) :: Γ.below).map (·.1)) = false := by
    unfold pythonCodeMadeTheCall
    have h2 : ((((Γ.code, p) :: Γ.below).map (·.1)).any fun c => match c with | .builtin "claim.caller" _ => true | _ => false) = true := by
      rw [List.any_map, List.any_cons]
      have : (Γ.below.any ((fun c => match c with | .builtin "claim.caller" _ => true | _ => false) ∘ fun (x : Code × Pos) => x.1)) = true := hC
      rw [this, Bool.or_true]
    have key : ∀ X Y Z : Bool, X = true → ((!X && Y) && Z) = false := fun X Y Z e => by subst e; rfl
    exact key _ _ _ h2
  rw [this]
  exact h
end
end Mine
end
noncomputable section
open PySem PySem.W PyProof.Rows PySem.Calls PySem.Sem
set_option maxRecDepth 100000
namespace Mine
section
variable {prog : Program} {w : World} {A : Around} {E : Value → Shared → Prop} {s : Shared} {env : Env} {R : Result → Shared → Prop}
theorem codeC_func {body : List Stmt}
    (h : wpC (model prog w) (A.deeper env) (execs body env) (fun f s' => R (.ok (.ret (match f with | .ret v => v | _ => .none))) s')
      (fun e s' => wpC (model prog w) (A.deeper env) (leaving env e) (fun _ s'' => R (.error e) s'') (fun e' s'' => R (.error e') s'') s') s) :
    codeC (model prog w) A (.func body env) R s := by
  refine codeC_of_tree ?_
  show wpC _ (A.deeper env) (do point; match ← (execs body env).onRaise (leaving env) with | .ret v => ret v | _ => ret .none) _ _ s
  refine wpC_bind (.of (wpAny_point (wpC_bind (wpC_onRaise (h.mono (fun f s' h' => ?_) fun _ _ h' => h')))))
  cases f <;> exact .of (wpAny_pure h')
theorem codeC_call_function {a : Addr} {args : Args} {o : Obj} {fd : FuncData} {body : List Stmt} (hroom : A.depth < recursionLimit)
    (ho : s.heap.get? a = some o)
    (hd' : o.data = .func fd) (hco : fd.scope.isCoroutine = false) (hgen : fd.scope.isGenerator = false) (hbody : fd.body = .stmts body) (hcd : s.heap.CodeRec fd.code fd.qualname)
    (h : wpAny (model prog w) A.in1 (bindArgs fd args) (fun binds s₁ =>
      wpAny (model prog w) A.in1 (newFunctionEnv fd.scope fd.globals fd.closure binds (fd.qualname ++ ".<locals>.") (some a) fd.code none fd.builtins)
        (fun env s₂ => s₂.heap.NoLimit ∧ codeC (model prog w) A (.func body env) R s₂) (fun e s' => R (.error e) s') s₁) (fun e s' => R (.error e) s') s) :
    codeC (model prog w) A (.call (.ref a) args) R s := by
  refine codeC_of_tree (.of ?_)
  show wpAny _ A.in1 (callAny (.ref a) args) _ _ s
  simp only [callAny]
  refine wpAny_bind (wpAny_load ho ?_)
  obtain ⟨c, oc, vs, tq, hc, hoc, hdc, hq⟩ := hcd
  simp only [hd', callFunction, hco, hgen, hbody, hc]
  rw [hc] at h
  refine wpAny_bind (m := field (.ref c) 1) (wpAny_field hoc hdc hq (wpAny_bind (wpAny_pure ?_)))
  exact wpAny_bind (wpAny_mono h (fun binds s₁ h₁ => wpAny_bind (wpAny_mono h₁ (fun env s₂ h₂ => wpAny_bind (wpAny_enterFrame h₂.1 hroom
    (wpAny_pure (And.intro rfl h₂.2)))) fun _ _ h' => h')) fun _ _ h' => h')
theorem codeC_loop {c : Code} (hq : c.quiet = true) (I : Nat → Shared → Prop)
    (turn : ∀ n s, I n s → wpC (model prog w) (A.under c) ((model prog w).den c)
      (fun fin s' => match fin with
        | .done f => R (.ok f) s'
        | .again c' => (c' = c ∧ ∃ m, m < n ∧ I m s') ∨ (c'.quiet = true ∧ codeC (model prog w) A c' R s')) (fun e s' => R (.error e) s') s)
    (n : Nat) (h : I n s) : codeC (model prog w) A c R s := by
  induction n using Nat.strongRecOn generalizing s with
  | ind n ih =>
    refine codeC_of_tree ((turn n s h).mono (fun fin s' hf => ?_) fun _ _ h' => h')
    cases fin with
    | done f => exact hf
    | again c' =>
      rcases hf with ⟨rfl, m, hm, hI⟩ | hf
      · exact ⟨hq, ih m hm hI⟩
      · exact hf
theorem wpC_noted {α : Type} {m : Sem α} {Q : α → Shared → Prop} (h : wpC (model prog w) A m Q (notedBy (model prog w) A env E) s) : wpC (model prog w) A (m.onRaise fun x => do noteFrame x env; theTreesLotGoes x) Q E s :=
  wpC_onRaise (h.mono (fun _ _ q => q) fun _ _ hx => .of (wpAny_bind (wpAny_mono hx (fun _ _ e => wpAny_theTreesLotGoes e) fun _ _ e => e)))
theorem wpC_attempt {α : Type} {M : Model} {m : Sem α} {Q : Except Value α → Shared → Prop} (h : wpC M A m (fun a => Q (.ok a)) (fun e => Q (.error e)) s) :
    wpC M A m.attempt Q E s := fun Γ p hΓ hC => by rw [Sem.wp_attempt]; exact h Γ p hΓ hC
theorem codeC_of_any {M : Model} {c : Code} (h : codeAny M A c R s) : codeC M A c R s := fun Γ p hc hΓ _ => h Γ p hc hΓ
theorem codeC_forLoop {target : PySem.Expr} {it : Value} {body : List Stmt} (I : Nat → Shared → Prop)
    (turn : ∀ n s, I n s → wpAny (model prog w) A (pyNext it) (fun r s₁ => match r with
      | none => R (.ok .next) s₁
      | some v => wpAny (model prog w) A (assign target env v) (fun _ s₂ => wpC (model prog w) A (execs body env) (fun f s₃ => match f with
          | .next | .cont => ∃ m, m < n ∧ I m s₃
          | .brk => R (.ok .next) s₃
          | .ret v => R (.ok (.ret v)) s₃) (notedBy (model prog w) A env fun e s' => R (.error e) s') s₂) (notedBy (model prog w) A env fun e s' => R (.error e) s') s₁) (notedBy (model prog w) A env fun e s' => R (.error e) s') s)
    (n : Nat) (h : I n s) (ht : ∀ v, letOwnedTupleGo target it v = pure () := by intro _; rfl) : codeC (model prog w) A (.forLoop target it body [] env) R s := by
  refine codeC_loop rfl I (fun n s hI => ?_) n h
  show wpC _ _ ((forTurn target it body [] env).onRaise (fun x => do noteFrame x env; theTreesLotGoes x)) _ _ s
  refine wpC_noted ?_
  simp only [forTurn]
  refine wpC_bind (.of (wpAny_standAt (wpC_bind (wpC_onRaise (.of (wpAny_mono (turn n s hI) (fun r s₁ h₁ => ?_) fun _ _ h' => .of (wpAny_standAt h')))))))
  cases r with
  | none => exact .of (wpAny_pure (.inr ⟨rfl, codeC_of_any (codeAny_block (wpAny_execs_nil h₁))⟩))
  | some v =>
    refine wpC_bind (.of (wpAny_of_eq (ht v) ?_))
    refine wpC_bind (.of (wpAny_mono h₁ (fun _ s₂ h₂ => wpC_bind (h₂.mono (fun f s₃ h₃ => ?_) fun _ _ h' => h')) fun _ _ h' => h'))
    cases f with
    | next => exact .of (wpAny_pure (.inl ⟨rfl, h₃⟩))
    | cont => exact .of (wpAny_pure (.inl ⟨rfl, h₃⟩))
    | brk => exact .of (wpAny_pure h₃)
    | ret v => exact .of (wpAny_pure h₃)
theorem wpC_runOwn {c : Code} {h : Option Value} {Q : Flow → Shared → Prop}
    (hc : codeC (model prog w) (A.mark h) c (fun r s' => match r with | .ok f => Q f s' | .error e => cameBackBy (model prog w) A env E e s') s) (hnb : h ≠ some byPass := by intro x; cases x) :
    wpC (model prog w) A (runOwn c env h) Q E s := by
  unfold runOwn
  exact wpC_onRaise ((wpC_run hc hnb).mono (fun _ _ q => q) fun _ _ q => .of q)
theorem wpC_For {target iter : PySem.Expr} {body : List Stmt} {pos : Pos} {Q : Flow → Shared → Prop}
    (h : wpAny (model prog w) A (eval iter env) (fun x s₁ => wpAny (model prog w) A (pyIter x) (fun it s₂ =>
      codeC (model prog w) A (.forLoop target it body [] env) (fun r s' => match r with | .ok f => Q f s' | .error e => cameBackBy (model prog w) A env E e s') s₂) E s₁) E s)
    (hs : ∀ x, foldedSetIterable iter env x = pure x := by intro _; rfl) :
    wpC (model prog w) A (exec (.For target iter body [] pos) env) Q E s := by
  rw [exec_For]
  exact wpC_bind (.of (wpAny_standAt (wpC_bind (.of (wpAny_mono h (fun x s₁ h₁ => wpC_bind (.of (wpAny_of_eq (hs x) (wpC_bind (.of (wpAny_standAt (wpC_bind (.of (wpAny_holding
    (wpAny_mono h₁ (fun it s₂ h₂ => wpC_runOwn h₂) fun _ _ h' => h')))))))))) fun _ _ h' => h')))))
theorem wpC_Try_except {body orelse : List Stmt} {h₀ : ExceptHandler} {hs : List ExceptHandler} {pos : Pos} {Q : Flow → Shared → Prop}
    (h : wpC (model prog w) A (execs body env) (fun f s₁ => match f with | .next => wpAny (model prog w) A (execs orelse env) Q E s₁ | f => Q f s₁)
      (fun e s₁ => wpAny (model prog w) A (noteFrame e env) (fun _ s₂ => wpAny (model prog w) A (setFlight e none) (fun _ s₃ => wpAny (model prog w) A (handleBy e env (h₀ :: hs)) Q E s₃) E s₂) E s₁) s) :
    wpC (model prog w) A (exec (.Try body (h₀ :: hs) orelse [] pos) env) Q E s := by
  rw [arm_exec_Try]
  refine wpC_bind (.of (wpAny_standAt ?_))
  unfold tryStmt
  simp only [List.isEmpty_nil, if_true, List.isEmpty_cons, Bool.false_and, Bool.false_eq_true, if_false]
  refine wpC_bind (wpC_attempt (h.mono (fun f s₁ h₁ => ?_) fun e s₁ h₁ => ?_))
  · cases f <;> first | exact .of h₁ | exact .of (wpAny_pure h₁)
  · exact .of (wpAny_bind (wpAny_mono h₁ (fun _ _ h₂ => wpAny_bind h₂) fun _ _ x => x))
end
end Mine
end
noncomputable section
open PySem PySem.Calls PySem.NumText PyProof.Rows PySem.W
set_option maxRecDepth 100000
namespace Mine
section
variable {prog : Program} {w : World} {A : Around} {E : Value → Shared → Prop} {s : Shared} {Q : Value → Shared → Prop}
set_option maxHeartbeats 4000000 in
theorem refuse_text {x : PySem.Str} {t : Tok} {text : List Nat} (hh : A.handled = none) (hs : (text.takeWhile (· != 0)).length ≤ 640)
    (hr : (int_private% "readNumeral") 0 10 (text.takeWhile (· != 0)) = int_private% "Numeral.invalid") (hx : (reprText x).length ≤ 100000)
    (h : ∀ h' tk e, Heap.NewExc s.heap h' e "ValueError" → E (.ref e) { s with heap := h', toks := tk }) :
    wpC (model prog w) A ((int_private% "intFromText") (.str x t) text 10) Q E s := by
  show wpC _ _ (do
    let limit ← if (text.takeWhile (· != 0)).length ≤ 640 then pure 0 else _
    _) _ _ _
  dsimp only
  rw [if_pos hs]
  refine wpC_bind (.of (wpAny_pure ?_))
  rw [hr]
  dsimp only
  refine wpC_bind (.of (wpAny_pure ?_))
  rw [if_neg (by simp)]
  refine wpC_bind (.of (wpAny_rule ?_))
  refine wpC_bind (.of (wpAny_pure ?_))
  dsimp only
  refine wpC_bind (.of (wpAny_pyRepr_str (hsz := by rw [sizeLine_eq]; omega) ?_))
  refine wpC_bind (.of (wpAny_mkStr (hx := ?hx) ?_))
  case hx =>
    have h1 : (Str.ofString (toString "invalid literal for int() with base " ++ toString 10 ++ toString ": ")).length = 40 := by decide +kernel
    have h2 : ({ cps := (reprText x).cps.extract 0 200 } : PySem.Str).length ≤ 200 := by
      show ((reprText x).cps.extract 0 200).size ≤ 200
      rw [Array.size_extract]; omega
    rw [sizeLine_eq, Str.length_append, h1]; omega
  refine wpC_bind (.of (wpAny_newExc_plain plainExc_ValueError (fun h' e hm => ?_) (hargs := by rw [sizeLine_eq]; exact Nat.succ_le_of_lt (by decide))))
  refine wpC_bind (mark_skip (.of (wpAny_raiseNew_none hh (h h' _ e hm.newExc))))
theorem new_refused {x : PySem.Str} {t u : Tok} {Q : Fin → Shared → Prop} (hh : A.handled = none) (hs : (numSeenOf x).length ≤ 640)
    (hr : (int_private% "readNumeral") 0 10 (numSeenOf x) = int_private% "Numeral.invalid") (hx : (reprText x).length ≤ 100000)
    (h : ∀ h' tk e, Heap.NewExc s.heap h' e "ValueError" → E (.ref e) { s with heap := h', toks := tk }) :
    wpC (model prog w) A (Builtin.«int.__new__» ⟨[.type "int", .str x t, .int 10 u], []⟩) Q E s := by
  have e1 : isType (Value.type "int") = pure true := rfl
  have e2 := F.conv_sub_int
  have e3 := F.madeHere_int
  have e4 : Builtin.Int.intIndex "int.__new__" (Value.int 10 u) = pure 10 := rfl
  have e5 : (int_private% "numeralText?") (Value.str x t) = pure (some (numTextOf x)) := rfl
  unfold Builtin.«int.__new__»
  dsimp only
  refine wpC_bind (.of (wpAny_of_eq e1 ?_))
  rw [if_neg (by decide)]
  refine wpC_bind (.of (wpAny_of_eq e2 ?_))
  rw [if_neg (by decide)]
  refine wpC_bind (.of (wpAny_of_eq e3 ?_))
  rw [if_neg (by simp)]
  rw [if_neg (by simp)]
  refine wpC_bind (.of (wpAny_pure ?_))
  refine wpC_bind (.of (wpAny_of_eq e4 ?_))
  rw [if_neg (by decide)]
  refine wpC_bind (.of (wpAny_of_eq e5 ?_))
  dsimp only
  refine wpC_bind ?_
  exact refuse_text (text := numTextOf x) hh hs hr hx h
end
end Mine
end
noncomputable section
open PySem PySem.Calls PySem.NumText PyProof.Rows PySem.W
set_option maxRecDepth 100000
namespace Mine
section
variable {prog : Program} {w : World} {A : Around} {E : Value → Shared → Prop} {s : Shared} {Q : Value → Shared → Prop} {R : Result → Shared → Prop}
theorem codeC_builtin {id : String} {args : Args} {b : Builtin} (hb : entryFor table id = some b)
    (h : wpC (model prog w) (A.under (.builtin id args)) (b args)
      (fun fin s' => match fin with | .done f => R (.ok f) s' | .again c' => c'.quiet = true ∧ codeC (model prog w) A c' R s') (fun e s' => R (.error e) s') s) :
    codeC (model prog w) A (.builtin id args) R s := by
  refine codeC_of_tree ?_
  show wpC _ _ (match entryFor table id with | some b => b args | none => unsupported ((withoutEnding? id "#data").getD id)) _ _ s
  rw [hb]; exact h
theorem codeC_call_builtin {id : String} {args : Args} {b : Builtin} (hp : plainId id = true) (hb : entryFor table id = some b) (hc : checkBuiltinCall id args = pure ())
    (h : wpC (model prog w) A.in1 (b args)
      (fun fin s' => match fin with | .done f => R (.ok f) s' | .again c' => c'.quiet = true ∧ codeC (model prog w) A c' R s') (fun e s' => R (.error e) s') s) :
    codeC (model prog w) A (.call (.builtin id) args) R s := by
  refine codeC_of_tree ?_
  show wpC _ A.in1 (do checkBuiltinCall id args; again (.builtin id args)) _ _ s
  rw [hc]
  refine .of (wpAny_bind (wpAny_pure (wpAny_pure ⟨plainId_quiet hp args, codeC_builtin hb ?_⟩)))
  rw [Around.under_plainId hp args]
  exact h
set_option maxHeartbeats 4000000 in
theorem type_refused {x : PySem.Str} {t u : Tok} {Q : Value → Shared → Prop} (hh : A.handled = none) (hs : (numSeenOf x).length ≤ 640)
    (hr : (int_private% "readNumeral") 0 10 (numSeenOf x) = int_private% "Numeral.invalid") (hx : (reprText x).length ≤ 100000)
    (h : ∀ h' tk e, Heap.NewExc s.heap h' e "ValueError" → E (.ref e) { s with heap := h', toks := tk }) :
    wpC (model prog w) A (call (.type "int") [.str x t, .int 10 u]) Q E s := by
  have ft := F.called_int
  obtain ⟨c, tl, hmro⟩ := ft.mro
  have hmade := ft.made
  refine wpC_call (codeC_of_tree ?_)
  show wpC _ _ (callAny (.type "int") _) _ _ _
  refine .of (wpAny_pure ⟨Code.quiet_builtin _ (by decide +kernel), codeC_builtin F.entry_type_call ?_⟩)
  rw [Around.under_plain (weight_type_call_type "int" _ []) (units_type_call_type "int" _ [])]
  unfold Builtin.«type.__call__»
  dsimp only
  rw [if_neg (by decide)]
  rw [if_neg (ne_true_of_eq_false ft.canCreate)]
  refine wpC_bind (.of (wpAny_of_eq (typeCall_int_2 _ _) ?_))
  refine wpC_bind (.of (wpAny_of_eq hmro ?_))
  rw [if_neg (by simp)]
  refine wpC_bind (.of (wpAny_of_eq hmade ?_))
  dsimp only
  refine wpC_bind (.of (wpAny_pure ?_))
  refine wpC_bind (wpC_holding (wpC_call (codeC_call_builtin ft.plain F.entry_int_new (newCall_int_2 _ _) ?_)))
  exact new_refused hh hs hr hx h
end
end Mine
end
noncomputable section
open PySem PySem.Calls PySem.NumText PyProof.Rows PySem.W
set_option maxRecDepth 100000
namespace Mine
def isLet (c : Nat) : Bool := (65 ≤ c && c ≤ 90) || (97 ≤ c && c ≤ 122) || c == 61
theorem isLet_num {c : Nat} (h : isLet c = true) : (65 ≤ c ∧ c ≤ 90) ∨ (97 ≤ c ∧ c ≤ 122) ∨ c = 61 := by
  unfold isLet at h
  simp only [Bool.or_eq_true, Bool.and_eq_true, decide_eq_true_eq, beq_iff_eq] at h
  omega
theorem seen_lets {x : Str} (h : ∀ c ∈ x.cps.toList, isLet c = true) : numTextOf x = x.cps.toList ∧ numSeenOf x = x.cps.toList := by
  have e1 : numTextOf x = x.cps.toList := by
    refine if_pos ?_
    rw [← Array.all_toList, List.all_eq_true]
    intro c hc
    have := isLet_num (h c hc)
    exact decide_eq_true (by omega)
  refine ⟨e1, ?_⟩
  show (numTextOf x).takeWhile _ = _
  rw [e1]
  refine takeWhile_all fun c hc => ?_
  have := isLet_num (h c hc)
  exact bne_iff_ne.mpr (by omega)
theorem step_let {p : Array Nat × Bool} {c : Nat} (h : isLet c = true) : NumText.step 10 p c = none := by
  have hc := isLet_num h
  unfold NumText.step
  rw [if_neg (by rw [beq_iff_eq]; omega)]
  have : digit? c = none ∨ ∃ d, digit? c = some d ∧ ¬ d < 10 := by
    unfold digit?
    rw [if_neg (by simp only [Bool.and_eq_true, decide_eq_true_eq]; omega)]
    split
    · rename_i q
      simp only [Bool.and_eq_true, decide_eq_true_eq] at q
      exact .inr ⟨_, rfl, by omega⟩
    · split
      · rename_i q
        simp only [Bool.and_eq_true, decide_eq_true_eq] at q
        exact .inr ⟨_, rfl, by omega⟩
      · exact .inl rfl
  rcases this with e | ⟨d, e, hd⟩
  · rw [e]
  · rw [e]; exact if_neg hd
theorem dropWhile_lets {cs : List Nat} (h : ∀ c ∈ cs, isLet c = true) : cs.dropWhile blank = cs := by
  cases cs with
  | nil => rfl
  | cons c cs => exact dropWhile_of (by have := isLet_num (h c (List.mem_cons_self ..)); omega)
theorem read_lets {x : Str} (h : ∀ c ∈ x.cps.toList, isLet c = true) : (int_private% "readNumeral") 0 10 (numSeenOf x) = int_private% "Numeral.invalid" := by
  rw [readNumeral_ten, (seen_lets h).2]
  have hd : digits? 10 (core x.cps.toList) = none := by
    generalize x.cps.toList = cs at h
    cases cs with
    | nil => rfl
    | cons c cs =>
      have hc := isLet_num (h c (List.mem_cons_self ..))
      have es : sign ((c :: cs).dropWhile blank) = (false, c :: cs) := by rw [dropWhile_of (by omega)]; exact sign_of (by omega) (by omega)
      have ec : core (c :: cs) = c :: cs := by
        unfold core
        rw [es]
        show ((c :: cs).reverse.dropWhile blank).reverse = c :: cs
        rw [dropWhile_lets fun d hd => h d (List.mem_reverse.mp hd), List.reverse_reverse]
      rw [ec]
      unfold digits?
      rw [List.foldlM_cons, step_let (h c (List.mem_cons_self ..))]
      rfl
  rw [hd]; rfl
section
variable {prog : Program} {w : World} {A : Around} {E : Value → Shared → Prop} {s : Shared}
/-- int(x, 10) of a text of letters: a fresh ValueError -/
theorem int_refused {x : Str} {t u : Tok} {Q : Value → Shared → Prop} (hh : A.handled = none) (hl : x.length ≤ 640) (hx : ∀ c ∈ x.cps.toList, isLet c = true)
    (h : ∀ h' tk e, Heap.NewExc s.heap h' e "ValueError" → E (.ref e) { s with heap := h', toks := tk }) :
    wpC (model prog w) A (call (.type "int") [.str x t, .int 10 u]) Q E s := by
  refine type_refused hh (Nat.le_trans (seen_length x) hl) (read_lets hx) ?_ h
  have := StrLaws.reprText_len x fun c hc => by
    have := isLet_num (hx c hc)
    have h8 : (16 : Nat) ^ 8 = 4294967296 := by decide
    omega
  omega
theorem args_init3 (a b c : Value) : argsOk "object.__init__" ⟨[a, b, c], []⟩ := by unfold argsOk; kernel_rfl
/-- int(x, 10) of a text of digits -/
theorem int_digits {x : Str} {t u : Tok} {Q : Value → Shared → Prop} (hl : x.length ≤ 640) (hd : AllDigits x.cps.toList) (hne : x.cps.toList ≠ [])
    (h : Q (.int (digitsVal x.cps.toList : Nat) s.toks) { s with toks := s.toks + 1 }) :
    wpAny (model prog w) A (call (.type "int") [.str x t, .int 10 u]) Q E s :=
  callType_new F.called_int F.newNe_int (typeCall_int_2 _ _) (newCall_int_2 _ _) (fun obj => args_init3 obj _ _) F.entry_int_new
    (gives_text2 hl (intText_digits hd hne (Nat.le_trans hl (by decide)))).meets (show (Made.int _).post _ s from ⟨rfl, h⟩)
end
end Mine
end
noncomputable section
open PySem PySem.W PyProof.Rows PySem.Calls
open Sem (wp)
set_option maxRecDepth 100000
namespace Mine
section
variable {M : Model} {prog : Program} {w : World} {A : Around} {E : Value → Shared → Prop} {s : Shared} {env : Env}
theorem wpC_standAt {α : Type} {pos : Pos} {f : Unit → Sem α} {Q : α → Shared → Prop} (h : wpC M A (f ()) Q E s) : wpC M A (standAt pos >>= f) Q E s :=
  wpC_bind (.of (wpAny_standAt h))
theorem wpC_keep {α : Type} {vs : List Value} {m : Sem α} {Q : α → Shared → Prop} (h : wpC M A m Q E s) : wpC M A (m.keep vs) Q E s :=
  fun Γ p hΓ hC => by rw [Sem.wp_keep]; exact h Γ p hΓ hC
theorem wpC_operate {vs : List Value} {m : Sem Value} {Q : Value → Shared → Prop} (h : wpC M A m Q E s) : wpC M A (operate vs m) Q E s :=
  fun Γ p hΓ hC => by rw [Sem.wp_operate]; exact h Γ p hΓ hC
theorem wpC_Assign_Name {x pos' value pos} {Q : Flow → Shared → Prop}
    (h : wpC M A (eval value env) (fun v s₁ => wpAny M A (storeName env x v) (fun _ => Q .next) E s₁) E s)
    (hs : swapsWith value (some (.Name x pos')) pos.line env = pure false := by rfl) :
    wpC M A (exec (.Assign [.Name x pos'] value pos) env) Q E s := by
  rw [exec_Assign_Name env x pos' value pos hs]
  exact wpC_standAt (wpC_bind (h.mono (fun v s₁ h₁ => wpC_standAt (wpC_bind (.of (wpAny_mono (wpAny_bindName h₁) (fun _ _ q => .of (wpAny_pure q)) fun _ _ q => q)))) fun _ _ q => q))
theorem wpC_isTrue_Compare1 {l op r pos whole} {Q : Bool → Shared → Prop}
    (h : wpC M A (eval l env) (fun a s₁ => wpAny M A (eval r env) (fun b s₂ => wpAny M A (compareOp op a b)
      (fun c s₃ => wpAny M A (truthy c) Q E s₃) E s₂) E s₁) E s)
    (hm : behindInMarks op r = false := by with_unfolding_all rfl) : wpC M A (isTrue (.Compare l [op] [r] pos) env whole) Q E s := fun Γ p hΓ hC => by
  simp only [isTrue_Compare1, markedBehindIn_of_false hm, Sem.wp_bind', Sem.wp_holding, Sem.wp_cmd_standAt, Sem.wp_operate]
  exact Sem.wp_mono M Γ _ (fun a p₁ s₁ h₁ => Sem.wp_mono M Γ _ (fun b _ s₂ h₂ => Sem.wp_mono M Γ _ (fun c p₃ s₃ h₃ => h₃ Γ p₃ hΓ)
    (fun _ _ _ h' => h') _ _ (h₂ Γ _ hΓ)) (fun _ _ _ h' => h') _ _ (h₁ Γ p₁ hΓ)) (fun _ _ _ h' => h') _ _ (h Γ p hΓ hC)
theorem wpC_IfC {test : PySem.Expr} {body orelse : List Stmt} {pos : Pos} {Q : Flow → Shared → Prop}
    (h : wpC M A (isTrue test env (eval test env)) (fun b s₂ => if b then wpAny M A (execs body env) Q E s₂ else wpAny M A (execs orelse env) Q E s₂) E s) :
    wpC M A (exec (.If test body orelse pos) env) Q E s := fun Γ p hΓ hC => by
  simp only [exec_If, Sem.wp_bind', Sem.wp_cmd_standAt]
  refine Sem.wp_mono M Γ _ (fun b p₂ s₂ h₂ => ?_) (fun _ _ _ h' => h') _ _ (h Γ _ hΓ hC)
  cases b <;> exact h₂ Γ p₂ hΓ
theorem wpC_Call_Name {id : Str} {p pos : Pos} {args : List PySem.Expr} {keywords : List Keyword} {Q : Value → Shared → Prop}
    (h : wpAny M A (eval (.Name id p) env) (fun f s₁ => wpC M A (callWith pos f [] (backTo pos (starEach args env)) (backToKw pos (keywordEach keywords env))) Q E s₁) E s) :
    wpC M A (eval (.Call (.Name id p) args keywords pos) env) Q E s := by
  rw [arm_eval_Call_Name']
  exact wpC_bind (.of h)
theorem wpC_callWith_type {pos : Pos} {T : String} {first : List Value} {args : List (Bool × Sem Value)} {Q : Value → Shared → Prop}
    (hplain : args.any (·.1) = false)
    (h : wpAny M A (evalArgs (.type T) true args []) (fun a s₁ => wpC M A (call (.type T) (first ++ a.pos) a.kw) Q E s₁) E s) :
    wpC M A (callWith pos (.type T) first args []) Q E s := by
  unfold callWith
  refine wpC_bind (.of (wpAny_holding (wpAny_mono h (fun a s₁ h₁ => wpC_standAt ?_) fun _ _ x => x)))
  simp only [hplain, List.any_nil, Bool.or_false]
  refine wpC_bind (.of (wpAny_pure ?_))
  exact wpC_bind (h₁.mono (fun r s₂ hr => wpC_bind (wpC.of (wpAny_holding (wpAny_point (wpC.of (wpAny_pure hr)))))) fun _ _ x => x)
theorem wpC_callWith_function {pos : Pos} {a : Addr} {o : Obj} {fd : FuncData} {first : List Value} {args : List (Bool × Sem Value)} {Q : Value → Shared → Prop}
    (h : wpAny M A (evalArgs (.ref a) true args []) (fun x s₁ => (s₁.heap.get? a = some o ∧ o.data = .func fd) ∧ wpC M A (call (.ref a) (first ++ x.pos) x.kw) Q E s₁) E s) :
    wpC M A (callWith pos (.ref a) first args []) Q E s := by
  unfold callWith
  refine wpC_bind (.of (wpAny_holding (wpAny_mono h (fun x s₁ h₁ => wpC_standAt ?_) fun _ _ x => x)))
  have tail : ∀ {t : Sem Value}, wpC M A t Q E s₁ → wpC M A (t >>= fun r => holding [r] point >>= fun _ => pure r) Q E s₁ :=
    fun ht => wpC_bind (ht.mono (fun r s₂ hr => wpC_bind (wpC.of (wpAny_holding (wpAny_point (wpC.of (wpAny_pure hr)))))) fun _ _ x => x)
  refine wpC_bind (m := keeperOf (.ref a)) (.of ?_)
  unfold keeperOf
  refine wpAny_bind (wpAny_load h₁.1.1 ?_)
  rw [h₁.1.2]
  refine wpAny_pure ?_
  cases hs : (args.any (·.1) || ([] : List (Option Str × Sem Value)).any (·.1.isNone))
  · dsimp only
    split
    · exact tail h₁.2
    · exact tail (by unfold callMarked; exact wpC_keep h₁.2)
  · exact tail (by unfold callMarked; exact wpC_keep h₁.2)
theorem wp_execs_append {Γ : Ctx} {Q : Flow → Pos → Shared → Prop} {EE : Value → Pos → Shared → Prop} : ∀ (pre rest : List Stmt) (p : Pos) (s : Shared),
    wp M Γ (execs pre env) (fun f p' s' => match f with | .next => wp M Γ (execs rest env) Q EE p' s' | f => Q f p' s') EE p s → wp M Γ (execs (pre ++ rest) env) Q EE p s
  | [], rest, p, s, h => h
  | st :: pre, rest, p, s, h => by
    rw [execs_cons, Sem.wp_bind'] at h
    rw [List.cons_append, execs_cons, Sem.wp_bind']
    refine Sem.wp_mono M Γ _ (fun f p' s' h' => ?_) (fun _ _ _ h' => h') _ _ h
    cases f with
    | next => exact wp_execs_append pre rest p' s' h'
    | brk => exact h'
    | cont => exact h'
    | ret v => exact h'
theorem wpC_execs_pre {pre rest : List Stmt} {Q : Flow → Shared → Prop}
    (h : wpAny M A (execs pre env) (fun f s' => match f with | .next => wpC M A (execs rest env) Q E s' | f => Q f s') E s) : wpC M A (execs (pre ++ rest) env) Q E s := fun Γ p hΓ hC => by
  refine wp_execs_append pre rest p s (Sem.wp_mono M Γ _ (fun f p' s' h' => ?_) (fun _ _ _ h' => h') _ _ (h Γ p hΓ))
  cases f with
  | next => exact h' Γ p' hΓ hC
  | brk => exact h'
  | cont => exact h'
  | ret v => exact h'
theorem wpC_execs_nil {Q : Flow → Shared → Prop} (h : Q .next s) : wpC M A (execs [] env) Q E s := fun _ _ _ _ => h
end
section
variable {prog : Program} {w : World} {A : Around} {s : Shared} {h₀ : Heap} {L : Addr} {m : Str → Option Value} {news : List (Addr × Obj)} {K : Frag} {p : Program} {loose : List Str} {mean : ExcName → Option Value} {mg mb : Str → Option Value}
    {R : Result → Shared → Prop} {name qual : Str} {params : Arguments} {body : List Stmt} {scope : Scope} {dV kV doc pm cdv ct oc : Value} {an od : Option Addr} {osl : Array (Option Value)} {f : Addr} {args : Args} {binds : List (Str × Value)} {env : Env}
theorem codeC_def (F : Fr h₀ L s.heap m) (X₀ : K.In h₀) (N : News h₀ L s.heap news) (T : Top p loose mean mg mb h₀) (_hA : A.frames = some [env]) (hf : env.frame = some L) (hke : env.scope.kind = .function)
    (ho : K.lookup f = some ⟨oc, od, .func (fnOf name qual params body scope dV kV doc pm an cdv ct), osl⟩) (hcd : codeIn K cdv qual = true) (hroom : A.depth < recursionLimit)
    (hbind : BindsTo s (fnOf name qual params body scope dV kV doc pm an cdv ct) args binds) (hloc : ∀ y ∈ binds, scope.names.lookup y.1 = some .local)
    (h : ∀ oL h₁, TI.Caller h₀ L m oL → TI.Frs [env] [(L, oL)] → (∀ p ∈ news, p.1 ≠ L) → Fr h₀ s.heap.objs.size h₁ (fun y => binds.reverse.lookup y) → News h₀ s.heap.objs.size h₁ (news ++ [(L, oL)]) →
      wpC (model prog w) (A.deeper (envOf qual scope s.heap.objs.size f cdv)) (execs body (envOf qual scope s.heap.objs.size f cdv))
        (fun fl s' => R (.ok (.ret (match fl with | .ret v => v | _ => .none))) s') (fun _ _ => False)
        { s with heap := h₁, toks := s.toks + binds.length })
    (hco : scope.isCoroutine = false) (hgen : scope.isGenerator = false) (hk : scope.kind = .function)
    (hcell : ∀ x ∈ scope.names, x.2 ≠ .cell) : codeC (model prog w) A (.call (.ref f) args) R s := by
  have X := X₀.keeps F.keep
  obtain ⟨oL, es, ep, hL, hLd, hLk, hLf⟩ := F.ns
  have hLt := Heap.lt_size hL
  have hkind : env.scope.kind ≠ .module := by rw [hke]; decide
  refine codeC_call_function (fd := fnOf name qual params body scope dV kV doc pm an cdv ct) (body := body) hroom (X _ _ ho) rfl hco hgen rfl (codeRec_of X hcd) (hbind _ _ _ _ ?_)
  refine wpAny_newFunctionEnv hcell hloc (fun h₁ hns₁ hsb₁ => ⟨(T.nolimit.keeps F.keep).fresh _ hsb₁, codeC_func ?_⟩) hk
  have up : ∀ b o, s.heap.get? b = some o → h₁.get? b = some o := fun b o e => hsb₁.extBut b o (Nat.ne_of_lt (Heap.lt_size e)) (Heap.get?_push_of_some _ e)
  refine (h oL h₁ ⟨fun h' sl e => ⟨_, es, ep, e, hLd, hLk, hLf⟩, ⟨es, ep, hLd⟩, F.above⟩ ⟨hkind, hf, ⟨es, ep, hLd⟩, trivial⟩ (fun p hp => (N p hp).2.1)
    ⟨hns₁, fun b o e => up b o (F.keep b o e), Nat.le_trans F.above (Nat.le_of_lt hLt)⟩ (fun p hp => ?_)).mono (fun _ _ x => x) fun _ _ x => x.elim
  rcases List.mem_append.mp hp with hp | hp
  · obtain ⟨h1, h2, h3⟩ := N p hp
    exact ⟨up _ _ h1, Nat.ne_of_lt (Heap.lt_size h1), h3⟩
  · rcases List.mem_cons.mp hp with rfl | hp
    · exact ⟨up _ _ hL, Nat.ne_of_lt hLt, Heap.get?_none_of_le F.above⟩
    · exact nomatch hp
end
end Mine
end
noncomputable section
open PySem PySem.W PyProof.Rows PySem.Calls
open Sem (wp)
set_option maxRecDepth 100000
namespace Mine
abbrev ctx0 : Ctx := ⟨.builtin "claim.caller" {}, none, none, [], none⟩
abbrev callerTree (name : Str) (vs : List Value) : Sem PySem.Fin := do match ← nsGet mainNs name with
      | some f => do ret (← PySem.call f vs)
      | none => unsupported "claim.caller:no-such-global"
/-- the claim's own way of calling, from a fact about the call alone, the caller on the stack -/
theorem caller_wp {prog : Program} {w : World} {name : Str} {f : Value} {vs : List Value} {s : Shared} {mg : Str → Option Value} {R : Result → Shared → Prop}
    (hg : s.heap.Ns mainGlobals mg) (hf : mg name = some f)
    (h : codeC (model prog w) callerA (.call f ⟨vs, []⟩) (fun r s' => match r with | .ok (.ret v) => R (.ok (.ret v)) s' | .ok _ => False | .error e => R (.error e) s') s) :
    wp (model prog w) ctx0 (callerTree name vs) (Sem.finPost (model prog w) ctx0 R) (fun e _ s' => R (.error e) s') default s := by
  rw [Sem.wp_bind']
  refine (Sem.wp_nsGet (model prog w) ctx0 _ default s hg name _).mpr ?_
  rw [hf]
  dsimp only
  rw [Sem.wp_bind']
  show wp (model prog w) ctx0 (runValue _) _ _ default s
  rw [Sem.wp_runValue]
  refine wpCode_mono (fun r s' hr => ?_) (h _ default rfl (caller_in.enter _ none default (by intro x; cases x)) rfl)
  cases r with
  | error e => exact hr
  | ok fl =>
    cases fl with
    | ret v => exact hr
    | next => exact hr
    | brk => exact hr
    | cont => exact hr
theorem callFromC {c : ClaimW} {name : Str} {w : World} {s : Shared} {free : Addr → Prop} {gens : Prop} {kept : Heap → Prop} (hz : s.asleep) (hgens : s.gens = #[])
    (spec : ∀ args, c.pre args = true → WData.layableAll args = true → ∀ ord : List DictEntry → List DictEntry, (∀ l, (ord l).Perm l) →
      ∃ vs s₁, layAllW c.records (classAt s.heap) w.params ord args s = some (vs, s₁) ∧
        wp (model c.prog w) ctx0 (callerTree name vs) (Sem.finPost (model c.prog w) ctx0 fun r s' => (c.Ends s args vs s₁ r s' ∧ s'.os = s.os ∧ kept s'.heap) ∧ leftWithCleanup s'.gens = false)
          (fun e _ s' => (c.Ends s args vs s₁ (.error e) s' ∧ s'.os = s.os ∧ kept s'.heap) ∧ leftWithCleanup s'.gens = false) default s₁) :
    c.CallFrom (fun vs => ⟨callerTree name vs, .builtin "claim.caller" {}, default, []⟩) w free gens kept s := by
  intro args hpre hlay ord hord
  obtain ⟨vs, s₁, hlaid, hwp⟩ := spec args hpre hlay ord hord
  have rest := layAllW_rest _ _ _ hlaid
  obtain ⟨n, r, s₂, s₃, hsched, hrun, hfor, ⟨hends, hos, hkept⟩⟩ := wp_halts_full (M := model c.prog w) (Shared.asleep_of_life rest.2.2.2 hz) hwp
  obtain ⟨eh, _, _, eo, _⟩ := Shared.forget_eq hfor
  have life : s₃.heap.life = s.heap.life := (runN_life _ _ _ hrun).trans rest.2.2.2
  refine ⟨vs, s₁, hlaid, n, _, s₃, hsched, ?_, (fun _ i x hx => by rw [hgens] at hx; simp at hx), by rw [eh]; exact hkept, by rw [life], Shared.rest_eq (eo.trans hos)⟩
  rcases hends.congr eh with ⟨v, rfl, q1, q2, q3, q4, q5⟩ | ⟨e, ob, cls, rfl, q1, q2, q3, q4, q5⟩
  · exact .inl ⟨v, rfl, q1, q2, q3, fun b o y _ => q4 b o y, q5⟩
  · exact .inr ⟨e, ob, cls, rfl, q1, q2, q3, q4, fun b o y _ => q5 b o y⟩
theorem codeC_mono {M : Model} {A : Around} {c : Code} {R R' : Result → Shared → Prop} {s : Shared} (h : codeC M A c R s) (k : ∀ r s, R r s → R' r s) : codeC M A c R' s :=
  fun Γ p hc hΓ hC => wpCode_mono k (h Γ p hc hΓ hC)
abbrev WalkC (q : Program) (loose : List Str) (XP : (Str → Option Value) → Heap → Prop) (YP : World → Heap → Prop) (r : RowW) (d : DefRec) (kwd : List (Str × Expr)) : Prop :=
  ∀ (w : World) (s₀ s₁ : Shared) (mg mb : Str → Option Value), Ground q loose r.records XP w s₀ mg mb s₁.heap → YP w s₁.heap → ∀ (a : Addr) (o : Obj) (pm cd doc dV kV : Value), s₁.heap.get? a = some o →
    o.data = .func { docDef d.name d.params d.body d.scope pm cd doc with defaults := dV, kwdefaults := kV } → s₁.heap.CodeRec cd d.name → Dflts mg s₁.heap d.params kwd dV kV → mg d.name = some (.ref a) → s₁.gens = #[] →
    ∀ (args : List WData) (vals : List Value) (as : List Addr), r.claim.pre args = true → WData.layableAll args = true → ReadsAllW r.records (classAt s₀.heap) s₁.heap vals args as → WellAll w.params s₁.heap vals args → (∀ a ∈ as, (a == sysModules) = false) →
      codeC (model r.prog w) callerA (.call (.ref a) ⟨vals, []⟩) (fun res s' => GoodWG r.claim (classAt s₀.heap) (ExcName.means s₀.heap) args s₁ res s') s₁
end Mine
namespace Mine.PySem.W
theorem holds_open {r : OpenRow} {q : Program} {loose : List Str} {Xt : Shared → Bool} {XP : (Str → Option Value) → Heap → Prop} {α : Type} {Yf : Shared → α} {Ya : World → α} {YP : World → Heap → Prop} {d : DefRec} {kwd : List (Str × Expr)} {N : Nat}
    (left : LeftO r.prog q loose Xt Yf Ya N) (hY : ∀ w s, Yf s = Ya w → YP w s.heap) (hYk : ∀ w h h', YP w h → (∀ b o, h.get? b = some o → h'.get? b = some o) → YP w h')
    (hX : ∀ s, Xt s = true → XP (s.heap.nsMap mainGlobals) s.heap) (hXk : ∀ mg h h', XP mg h → (∀ b o, h.get? b = some o → h'.get? b = some o) → XP mg h')
    (hdef : defOf q r.name = some (d, kwd)) (hp : r.prog.theDef r.name = some (d.params, d.body, d.scope)) (hk : kwWritten? d.params.kwonlyargs d.params.kw_defaults = some kwd) (hRf : ∀ s, Xt s = true → RecFacts r.records s.heap) (hwr : (!r.writes || r.records.isEmpty) = true)
    (k1 : r.wellSaid = true) (ok : (chainsOk q && opensWell r.prog && (frees r.toRowW && r.within.isEmpty)) = true) (hb : r.prog.bare) (hw : r.toRowW.promised)
    (call : Mine.WalkC q loose XP YP r.toRowW d kwd) : r.Holds := by
  obtain ⟨ok₁, ok₂⟩ := Bool.and_eq_true_iff.mp ok
  obtain ⟨chains, opens⟩ := Bool.and_eq_true_iff.mp ok₁
  obtain ⟨fre, withi⟩ := Bool.and_eq_true_iff.mp ok₂
  obtain ⟨hsame, hu, ha, hap, hm⟩ := frees_parts fre
  have hident := ident_freeW hu ha hap
  have hwithin : r.toRowW.claim.within = [] := List.isEmpty_iff.mp withi
  have behind := left.behind (XP := fun mg h => XP mg h ∧ RecFacts r.records h) (fun s hs => ⟨hX s hs, hRf s hs⟩) chains
  refine ⟨k1, hw, ⟨hb, opens, by show r.makers.map _ = []; rw [hm]; rfl⟩, hw.witness, fun w => ⟨(left.behind hX chains w).1, fun s' hs' => ?_⟩⟩
  obtain ⟨s₀, hf, hg0, s, hT, hz, hgens, hg, GG, y⟩ := (behind w).2 s' hs'
  have G0 : Ground q loose [] XP w s (s.heap.nsMap mainGlobals) (s.heap.nsMap builtinsNs) s.heap := ⟨GG.T, GG.B, GG.D, GG.TE, GG.TD, GG.W, GG.X.1, GG.cls, GG.has, GG.apart, GG.once, GG.K⟩
  have RF := GG.X.2
  have hT' := hT
  refine ⟨s₀, hf, hg0, s, hT, fun n hn => ?_, RF.1, RF.2.1, ?_⟩
  · obtain rfl : n = r.name := by split at hn <;> simp_all
    exact pinned_of_view hg G0 hdef hp hk
  have hgens0 : s.gens = #[] := Array.eq_empty_of_size_eq_zero (beq_iff_eq.mp hgens)
  have G : Ground q loose r.records XP w s _ _ s.heap := RF.ground G0
  refine Mine.callFromC (c := r.toRowW.claim) hz hgens0 fun args hpre hlay ord hord => ?_
  obtain ⟨⟨vs, s₁⟩, hlaid⟩ := Option.isSome_iff_exists.mp (layAllW_isSome (P := w.params) (ord := ord) G.has args r.args s (pre_splitW hpre).1)
  have keeps := layAllW_keeps _ _ _ hlaid
  have hal := layAllW_rest _ _ _ hlaid
  obtain ⟨as, hrd, hin, hold⟩ := reads_layAllW hord _ _ _ hlaid hlay s₁.heap (fun _ _ e => e)
  have L : Laid r.records w s s₁ args vs as := ⟨⟨ord, hord, hlaid⟩, hrd, hin, hold, keeps, hal.1.trans hgens0, hal.2.2.1⟩
  have G₁ := G.keeps hXk keeps
  obtain ⟨a, o, pm, cd, doc, dV, kV, h1, h2, h3, h4, h5⟩ := G₁.fn hdef
  have hcall := call w s s₁ _ _ G₁ (hYk _ _ _ (hY w s y) keeps) a o pm cd doc dV kV h2 h3 h4 h5 (defOf_name hdef ▸ h1) L.gens args vs as hpre hlay L.reads L.well (L.low G.low)
  refine ⟨vs, s₁, hlaid, Mine.caller_wp (prog := r.toRowW.claim.prog) G₁.T.g h1 (Mine.codeC_mono hcall fun res s' g => ?_)⟩
  have z := g.laid (c := r.toRowW.claim) hsame hwithin hident L
  have hfin := leftWithCleanup_false_of_bare z.2.2
  have g2 := g.2.1.old
  rcases g.1 with ⟨v, _, _, rfl, _⟩ | ⟨e, _, _, rfl, _⟩
  · exact ⟨⟨z.1, z.2.1, fun q => ⟨namesKept_of hT' hg _ keeps g2, noTable hwr q⟩⟩, hfin⟩
  · exact ⟨⟨z.1, z.2.1, fun q => ⟨namesKept_of hT' hg _ keeps g2, noTable hwr q⟩⟩, hfin⟩
end Mine.PySem.W
end
noncomputable section
open PySem PySem.W PyProof.Rows
namespace Mine
set_option maxRecDepth 100000
set_option maxHeartbeats 8000000
open_top hd for PySem.Challenge.rw_mq0112_01
end Mine
end
namespace Mine
theorem walk_fresh : True := by
  w_top off
  trivial
end Mine
noncomputable section
open PySem PySem.W PyProof.Rows PySem.Calls
set_option maxRecDepth 100000
namespace Mine
theorem wpC_gen {α : Type} {M : Model} {A : Around} {t : Sem α} {Q : α → Shared → Prop} {E : Value → Shared → Prop} {s : Shared}
    (h : ∀ Qk : α → Shared → Prop, (∀ a s', Q a s' → Qk a s') → wpC M A t Qk E s) : wpC M A t Q E s := h Q fun _ _ x => x
theorem codeC_cellsN {prog : Program} {w : World} {A : Around} {R : Result → Shared → Prop} {s : Shared} {name : Str} {params : Arguments} {body : List Stmt} {scope : Scope}
    {pm cd doc : Value} {a : Addr} {o : Obj} {args : List Value} {binds : List (Str × Value)}
    (hroom : A.depth < recursionLimit) (ho : s.heap.get? a = some o) (hdata : o.data = .func (Calls.docDef name params body scope pm cd doc)) (hlim : s.heap.NoLimit) (hcd : s.heap.CodeRec cd name)
    (hbind : bindArgs (Calls.docDef name params body scope pm cd doc) ⟨args, []⟩ = pure binds)
    (hkind : ∀ x ∈ binds, scope.names.lookup x.1 = some .local ∨ (scope.names.lookup x.1 = some .cell ∧ ((cellsFrom (s.heap.objs.size + 1) scope.names []).lookup x.1).isSome = true))
    (hnd : ((cellsFrom 0 scope.names []).map (·.1)).Nodup)
    (h : ∀ h₁ tk cells, Fr s.heap s.heap.objs.size h₁ (bindL (envOfC name scope s.heap.objs.size a cd).kindOf binds fun _ => none) → News s.heap s.heap.objs.size h₁ cells →
      CellsAre (bindC (envOfC name scope s.heap.objs.size a cd).kindOf binds fun _ => none) (cellsFrom (s.heap.objs.size + 1) scope.names []) cells →
      wpC (model prog w) (A.deeper (envOfC name scope s.heap.objs.size a cd)) (execs body (envOfC name scope s.heap.objs.size a cd))
        (fun f s' => R (.ok (.ret (match f with | .ret v => v | _ => .none))) s') (fun _ _ => False) { s with heap := h₁, toks := tk })
    (hco : scope.isCoroutine = false := by rfl) (hgen : scope.isGenerator = false := by rfl) (hk : scope.kind = .function := by rfl) :
    codeC (model prog w) A (.call (.ref a) ⟨args, []⟩) R s := by
  refine codeC_call_function (fd := Calls.docDef name params body scope pm cd doc) (body := body) hroom ho hdata hco hgen rfl hcd ?_
  rw [hbind]
  refine wpAny_pure (wpAny_newFunctionEnv_cells hk hkind fun env he s' x => ?_)
  subst he
  refine ⟨hlim.keeps x.toInCall.keep, codeC_func ?_⟩
  obtain ⟨h₁, tk, rfl, _⟩ := x.done
  have F : Fr s.heap s.heap.objs.size h₁ (bindL (envOfC name scope s.heap.objs.size a cd).kindOf binds fun _ => none) := ⟨x.toInCall.ns, x.toInCall.keep, x.toInCall.fresh⟩
  have X : Cl s.heap.objs.size (cellsFrom (s.heap.objs.size + 1) scope.names []) h₁ (bindC (envOfC name scope s.heap.objs.size a cd).kindOf binds fun _ => none) := ⟨x.cell, x.apart, x.above⟩
  obtain ⟨cells, N, Y⟩ := Cl.news (h₀ := s.heap) (Nat.le_refl _) fun n c hm => ⟨X.cell n c (lookup_of_mem_nodup (cellsFrom_names scope.names 0 (s.heap.objs.size + 1) [] [] rfl ▸ hnd) hm), X.above n c hm⟩
  exact (h h₁ tk cells F N Y).mono (fun _ _ x => x) fun _ _ x => x.elim
end Mine
end
noncomputable section
open PySem PySem.W PyProof.Rows
namespace Mine
theorem news_lt {h₀ h : Heap} {L : Addr} {news : List (Addr × Obj)} (N : News h₀ L h news) : ∀ p ∈ news, p.1 < h.objs.size := fun p hp => Heap.lt_size (N p hp).1
theorem News.sub {h₀ h : Heap} {L : Addr} {l l' : List (Addr × Obj)} (N : News h₀ L h l') (hs : ∀ p ∈ l, p ∈ l') : News h₀ L h l := fun p hp => N p (hs p hp)
theorem News.drop2nd4th {h₀ h : Heap} {L : Addr} {a b c d : Addr × Obj} {l : List (Addr × Obj)} (N : News h₀ L h (a :: b :: c :: d :: l)) : News h₀ L h (a :: c :: l) := Mine.News.sub N fun p hp => by
  rcases List.mem_cons.mp hp with rfl | hp
  · exact .head _
  · rcases List.mem_cons.mp hp with rfl | hp
    · exact .tail _ (.tail _ (.head _))
    · exact .tail _ (.tail _ (.tail _ (.tail _ hp)))
theorem StrsAre.length : ∀ {vs : List Value} {xs : List Str}, StrsAre vs xs → vs.length = xs.length
  | _, _, .nil => rfl
  | _, _, .cons _ _ h => congrArg (· + 1) (Mine.StrsAre.length h)
theorem StrsAre.append : ∀ {vs ws : List Value} {xs ys : List Str}, StrsAre vs xs → StrsAre ws ys → StrsAre (vs ++ ws) (xs ++ ys)
  | _, _, _, _, .nil, k => k
  | _, _, _, _, .cons y t h, k => .cons y t (Mine.StrsAre.append h k)
theorem StrsAre.get : ∀ {vs : List Value} {xs : List Str}, StrsAre vs xs → ∀ {i : Nat}, i < xs.length → ∀ d, ∃ t, vs[i]? = some (.str (xs.getD i d) t)
  | _, _, .nil, i, hi, _ => absurd hi (Nat.not_lt_zero _)
  | _, _, .cons y t h, 0, _, _ => ⟨t, rfl⟩
  | _, _, .cons y t h, i + 1, hi, d => by
    obtain ⟨t', e⟩ := Mine.StrsAre.get h (i := i) (Nat.lt_of_succ_lt_succ hi) d
    exact ⟨t', by simpa using e⟩
section
variable {prog : Program} {w : World} {A : Around} {E : Value → Shared → Prop} {s : Shared} {h₀ : Heap} {L : Addr} {m : Str → Option Value} {news : List (Addr × Obj)}
theorem led_list {l : Addr} {vs : List Value} {k : Nat} (N : News h₀ L s.heap news) (hl : (l, W.listOf vs.toArray k) ∈ news) : s.heap.IsList l vs.toArray := ⟨_, (N _ hl).1, rfl, _, rfl⟩
/-- a list and a list -/
theorem addK {l b : Addr} {vs ws : List Value} {k k' : Nat} {Q : Value → Shared → Prop} (F : Fr h₀ L s.heap m) (N : News h₀ L s.heap news) (hl : (l, W.listOf vs.toArray k) ∈ news) (hb : (b, W.listOf ws.toArray k') ∈ news)
    (hsz : vs.length + ws.length ≤ sizeLine)
    (h : ∀ r h', (∀ p ∈ news, p.1 < r) → Fr h₀ L h' m → News h₀ L h' ((r, W.listOf (vs ++ ws).toArray 0) :: news) → Q (.ref r) { s with heap := h' }) :
    wpAny (model prog w) A (binaryOp .Add (.ref l) (.ref b)) Q E s :=
  add_lists F N (led_list N hl) (led_list N hb) (fun h' F' N' => h _ h' (news_lt N) F' N') hsz
/-- an item of a list of the ledger -/
theorem itemK {value slice : PySem.Expr} {l : Addr} {vs : List Value} {k : Nat} {i : Int} {u : Tok} {v : Value} {Q : Value → Shared → Prop} (N : News h₀ L s.heap news) (hl : (l, W.listOf vs.toArray k) ∈ news)
    (h0 : 0 ≤ i) (hhi : i < 2 ^ 63) (hx : vs[i.toNat]? = some v) (h : Q v s)
    (hs : subscripted slice false (.ref l) (.int i u) = operate [.ref l, .int i u] (getItem (.ref l) (.int i u)) := by with_unfolding_all rfl) :
    wpAny (model prog w) A (subscriptTail value slice (.ref l) (.int i u)) Q E s :=
  tail_any (led_list N hl).typeIs slot_list_getitem.lookup (wpAny_getItem_list (led_list N hl) h0 hhi (by simpa using hx) h) hs
theorem itemStrK {value slice : PySem.Expr} {l : Addr} {vs : List Value} {xs : List Str} {k : Nat} {i : Int} {u : Tok} {Q : Value → Shared → Prop} (N : News h₀ L s.heap news) (hl : (l, W.listOf vs.toArray k) ∈ news)
    (hv : StrsAre vs xs) (h0 : 0 ≤ i) (h1 : i < (xs.length : Int)) (h2 : xs.length < 2 ^ 60) (h : ∀ t, Q (.str (xs.getD i.toNat (Str.ofString "")) t) s)
    (hs : subscripted slice false (.ref l) (.int i u) = operate [.ref l, .int i u] (getItem (.ref l) (.int i u)) := by with_unfolding_all rfl) :
    wpAny (model prog w) A (subscriptTail value slice (.ref l) (.int i u)) Q E s := by
  obtain ⟨t, e⟩ := Mine.StrsAre.get hv (i := i.toNat) (by omega) (Str.ofString "")
  exact itemK N hl h0 (by omega) e (h t) hs
theorem lenK {l : Addr} {vs : List Value} {k : Nat} {Q : Value → Shared → Prop} (N : News h₀ L s.heap news) (hl : (l, W.listOf vs.toArray k) ∈ news) (hz : vs.length < 2 ^ 60)
    (h : ∀ t tk, Q (.int (vs.length : Nat) t) { s with toks := tk }) : wpAny (model prog w) A (call (.builtin "len") [.ref l]) Q E s := by
  refine len_list (led_list N hl) (by rw [List.size_toArray]; omega) ?_
  rw [List.size_toArray]; exact h _ _
theorem Fr.grow {h' : Heap} (F : Fr h₀ L s.heap m) (hk : ∀ b o, s.heap.get? b = some o → h'.get? b = some o) : Fr h₀ L h' m := ⟨F.ns.at' fun o e => hk _ o e, fun b o e => hk b o (F.keep b o e), F.above⟩
theorem News.grow {h' : Heap} (N : News h₀ L s.heap news) (hk : ∀ b o, s.heap.get? b = some o → h'.get? b = some o) : News h₀ L h' news := fun p hp => ⟨hk _ _ (N p hp).1, (N p hp).2⟩
theorem bytesK {l : Addr} {vs : List Value} {ns : List Int} {k : Nat} {Q : Value → Shared → Prop} (F : Fr h₀ L s.heap m) (N : News h₀ L s.heap news) (hl : (l, W.listOf vs.toArray k) ∈ news) (hi : IntsAre vs ns) (hr : ∀ n ∈ ns, 0 ≤ n ∧ n < 256) (hz : vs.length ≤ sizeLine) (hh : A.handled = none)
    (h : ∀ h' t tk, Fr h₀ L h' m → News h₀ L h' news → Q (.bytes (byteArr ns) t) { s with heap := h', toks := tk }) : wpAny (model prog w) A (call (.type "bytes") [.ref l]) Q E s :=
  call_bytes_ints (led_list N hl) hi hr hz hh fun h' t tk hk => h h' t tk (Mine.Fr.grow F hk) (Mine.News.grow N hk)
theorem itemStrB {value slice : PySem.Expr} {l : Addr} {vs : List Value} {xs : List Str} {k B : Nat} {i : Int} {u : Tok} {Q : Value → Shared → Prop} (N : News h₀ L s.heap news) (hl : (l, W.listOf vs.toArray k) ∈ news)
    (hv : StrsAre vs xs) (h0 : 0 ≤ i) (h1 : i < (xs.length : Int)) (h2 : xs.length < 2 ^ 60) (hB : ∀ y ∈ xs, y.length ≤ B) (h : ∀ t y, y = xs.getD i.toNat (Str.ofString "") → y.length ≤ B → Q (.str y t) s)
    (hs : subscripted slice false (.ref l) (.int i u) = operate [.ref l, .int i u] (getItem (.ref l) (.int i u)) := by with_unfolding_all rfl) :
    wpAny (model prog w) A (subscriptTail value slice (.ref l) (.int i u)) Q E s := by
  refine itemStrK N hl hv h0 h1 h2 (fun t => h t _ rfl (hB _ ?_)) hs
  rw [List.getD_eq_getElem?_getD, List.getElem?_eq_getElem (by omega)]
  exact List.getElem_mem _
end
end Mine
end
noncomputable section
open PySem PySem.W PyProof.Rows
namespace Mine
theorem sliceIdx_clamp (a b len : Nat) : Builtin.Str.strSliceIndices (some (a : Int)) (some (b : Int)) 1 len = Builtin.Str.strSliceIndices (some ((min a len : Nat) : Int)) (some ((min b len : Nat) : Int)) 1 len := by
  have h1 : ¬ ((a : Int) < 0) := by omega
  have h2 : ¬ ((b : Int) < 0) := by omega
  have h3 : ¬ (((min a len : Nat) : Int) < 0) := by omega
  have h4 : ¬ (((min b len : Nat) : Int) < 0) := by omega
  have e0 : ∀ x : Nat, max (0 : Int) (min (x : Int) len) = max (0 : Int) (min ((min x len : Nat) : Int) len) := fun x => by
    rcases Nat.le_total x len with h | h
    · rw [Nat.min_eq_left h]
    · rw [Nat.min_eq_right h, Int.min_self, Int.min_eq_right (Int.ofNat_le.mpr h)]
  have e1 := e0 a
  have e2 := e0 b
  simp only [Builtin.Str.strSliceIndices, h1, h2, h3, h4, e1, e2, if_false, show (1 : Int) > 0 from by decide, if_true]
theorem slice_nat (x : Str) {a b : Nat} (hab : a ≤ b) : Txt.slice x (some (a : Int)) (some (b : Int)) = ⟨((x.cps.toList.drop a).take (b - a)).toArray⟩ := by
  have e : Txt.slice x (some (a : Int)) (some (b : Int)) = StrLaws.sliceText x (some ((min a x.length : Nat) : Int)) (some ((min b x.length : Nat) : Int)) := by
    show StrLaws.sliceText x (some (a : Int)) (some (b : Int)) = _
    unfold StrLaws.sliceText
    rw [sliceIdx_clamp]
  rw [e, StrLaws.sliceText_nat x (by omega) (by omega)]
  congr 2
  have hl : x.cps.toList.length = x.length := by simp [Str.length]
  by_cases h1 : a ≤ x.length
  · by_cases h2 : b ≤ x.length
    · rw [Nat.min_eq_left h1, Nat.min_eq_left h2]
    · rw [Nat.min_eq_left h1, Nat.min_eq_right (by omega), List.take_of_length_le (by rw [List.length_drop]; omega), List.take_of_length_le (by rw [List.length_drop]; omega)]
  · rw [List.drop_eq_nil_of_le (by omega), Nat.min_eq_right (by omega), List.drop_eq_nil_of_le (by omega)]; simp
section
variable {prog : Program} {w : World} {A : Around} {E : Value → Shared → Prop} {s : Shared}
/-- str.index of a sign that stands in the text -/
theorem index_in {x : Str} {t u : Tok} {c : Nat} {Q : Value → Shared → Prop} (hA : A.handled = none) (hc : c ∈ x.cps.toList) (h : Q (.int (Txt.find x ⟨#[c]⟩) s.toks) { s with toks := s.toks + 1 }) :
    wpAny (model prog w) A (call (.builtin "str.index") [.str x t, .str ⟨#[c]⟩ u]) Q E s := by
  refine index_or hA (fun _ e => ?_) fun _ _ => h
  have := StrLaws.found_one x c
  rw [e, decide_eq_true hc] at this
  cases this
end
end Mine
end
noncomputable section
open PySem PySem.W PyProof.Rows
namespace Mine
def signsS : Str := Str.ofString "ABCDEFGHIJKLMNOPQRSTUVWXYZabcdefghijklmnopqrstuvwxyz0123456789*!"
def wordsL : List Str := [Str.ofString "0", Str.ofString "1", Str.ofString "27", Str.ofString "905", Str.ofString "a", Str.ofString "b", Str.ofString "c", Str.ofString "p", Str.ofString "pl", Str.ofString "rc", Str.ofString "RC", Str.ofString "dev", Str.ofString "alpha", Str.ofString "beta", Str.ofString "unknown", Str.ofString "un", Str.ofString "known"]
def sepsL : List Str := [Str.ofString "", Str.ofString "*", Str.ofString "!", Str.ofString ""]
abbrev signAt (k : Int) : Str := Txt.item signsS k
def wordAt (x : Int) : Str := (wordsL ++ [signAt (Int.fmod (Int.fdiv x 72) 64)]).getD (Int.fmod x 18).toNat (Str.ofString "")
def sepAt (x : Int) : Str := sepsL.getD (Int.fmod (Int.fdiv x 18) 4).toNat (Str.ofString "")
def drawStep (st : Str × List Int) (x : Int) : Str × List Int :=
  (st.1 ++ wordAt x ++ sepAt x, if Int.fmod (Int.fdiv x 18) 4 = 3 then st.2 ++ [((st.1 ++ wordAt x ++ sepAt x).length : Int)] else st.2)
def drawn (ns : List Int) : Str × List Int := ns.foldl drawStep (Str.ofString "1*1!rc", [6])
def drawText (ns : List Int) : Str := (drawn ns).1
def drawCuts (ns : List Int) : List Int := (drawn ns).2
theorem words_le {c : Str} (hc : c.length ≤ 1) : ∀ y ∈ wordsL ++ [c], y.length ≤ 7 := by
  intro y hy
  rcases List.mem_append.mp hy with hy | hy
  · exact (show ∀ y ∈ wordsL, y.length ≤ 7 from by decide) y hy
  · rw [List.mem_singleton.mp hy]; omega
theorem getD_le {xs : List Str} {B : Nat} (h : ∀ y ∈ xs, y.length ≤ B) (i : Nat) : (xs.getD i (Str.ofString "")).length ≤ B := by
  rw [List.getD_eq_getElem?_getD]
  cases q : xs[i]? with
  | none => exact Nat.zero_le _
  | some y => exact h y (List.mem_of_getElem? q)
theorem drawn_snoc (ns : List Int) (x : Int) : drawn (ns ++ [x]) = drawStep (drawn ns) x := by simp [drawn]
theorem drawn_take {ns : List Int} {i : Nat} {x : Int} (h : ns[i]? = some x) : drawn (ns.take (i + 1)) = drawStep (drawn (ns.take i)) x := by
  rw [List.take_add_one, h]; exact drawn_snoc _ _
theorem drawText_take {ns : List Int} {i : Nat} {x : Int} (h : ns[i]? = some x) : drawText (ns.take (i + 1)) = drawText (ns.take i) ++ wordAt x ++ sepAt x := congrArg Prod.fst (drawn_take h)
theorem drawCuts_take {ns : List Int} {i : Nat} {x : Int} (h : ns[i]? = some x) : drawCuts (ns.take (i + 1)) = if Int.fmod (Int.fdiv x 18) 4 = 3 then drawCuts (ns.take i) ++ [((drawText (ns.take i) ++ wordAt x ++ sepAt x).length : Int)] else drawCuts (ns.take i) := congrArg Prod.snd (drawn_take h)
theorem drawn_len : ∀ (ns : List Int) (st : Str × List Int), (ns.foldl drawStep st).1.length ≤ st.1.length + 8 * ns.length ∧ (ns.foldl drawStep st).2.length ≤ st.2.length + ns.length
  | [], st => ⟨by simp, by simp⟩
  | x :: r, st => by
    have h := drawn_len r (drawStep st x)
    have h1 : (wordAt x).length ≤ 7 := getD_le (words_le (c := signAt _) (Nat.le_refl 1)) _
    have h2 : (sepAt x).length ≤ 1 := getD_le (by decide) _
    have h3 : (drawStep st x).1.length ≤ st.1.length + 8 := by
      show (st.1 ++ wordAt x ++ sepAt x).length ≤ _
      rw [Str.length_append, Str.length_append]; omega
    have h4 : (drawStep st x).2.length ≤ st.2.length + 1 := by
      unfold drawStep; dsimp only; split
      · rw [List.length_append, List.length_singleton]; omega
      · omega
    simp only [List.foldl_cons, List.length_cons]
    omega
theorem drawText_len (ns : List Int) : (drawText ns).length ≤ 6 + 8 * ns.length := (drawn_len ns (Str.ofString "1*1!rc", [6])).1
theorem drawCuts_len (ns : List Int) : (drawCuts ns).length ≤ 1 + ns.length := (drawn_len ns (Str.ofString "1*1!rc", [6])).2
def drawDuo (rest : Int) : Str := signAt (Int.fmod rest 64) ++ signAt (Int.fmod (Int.fdiv rest 64) 64) ++ signAt (Int.fmod (Int.fdiv rest 4096) 16 * 4) ++ Str.ofString "="
def drawLone (rest : Int) : Str := signAt (Int.fmod rest 64) ++ signAt (Int.fmod (Int.fdiv rest 64) 4 * 16) ++ Str.ofString "=="
def drawEnd (total : Int) : Str := [Str.ofString "", drawDuo (Int.fdiv total 3), drawLone (Int.fdiv total 3)].getD (Int.fmod total 3).toNat (Str.ofString "")
def drawPage (ns : List Int) (total : Int) : Str := drawText ns ++ Txt.mul (Str.ofString "*") (Int.fmod (-((drawText ns).length : Int)) 4) ++ drawEnd total
theorem ends_le {rest : Int} : ∀ y ∈ [Str.ofString "", drawDuo rest, drawLone rest], y.length ≤ 4 := by
  intro y hy
  rcases List.mem_cons.mp hy with rfl | hy
  · decide
  · rcases List.mem_cons.mp hy with rfl | hy
    · simp only [drawDuo, Str.length_append]; exact Nat.le_refl 4
    · rw [List.mem_singleton.mp hy]; simp only [drawLone, Str.length_append]; exact Nat.le_refl 4
def signsEq : Str := Str.ofString "ABCDEFGHIJKLMNOPQRSTUVWXYZabcdefghijklmnopqrstuvwxyz0123456789*!="
def idxOf (c : Nat) : Int := Txt.find signsEq ⟨#[c]⟩
def quad (l : List Nat) : Int := l.foldl (fun n c => 64 * n + Int.fmod (idxOf c) 64) 0
def trip (n : Int) : List Int := [Int.fdiv n 65536, Int.fmod (Int.fdiv n 256) 256, Int.fmod n 256]
def quadAt (text : Str) (i : Nat) : List Nat := (text.cps.toList.drop (4 * i)).take 4
def octs (text : Str) (k : Nat) : List Int := (List.range k).flatMap fun j => trip (quad (quadAt text j))
theorem octs_succ (text : Str) (k : Nat) : octs text (k + 1) = octs text k ++ trip (quad (quadAt text k)) := by
  unfold octs; rw [List.range_succ, List.flatMap_append]; simp
theorem octs_len (text : Str) : ∀ k, (octs text k).length = 3 * k
  | 0 => rfl
  | k + 1 => by rw [octs_succ, List.length_append, octs_len text k]; simp [trip]; omega
theorem slice_quad (text : Str) (i : Nat) : Txt.slice text (some (0 + (i : Int) * 4)) (some (0 + (i : Int) * 4 + 4)) = ⟨(quadAt text i).toArray⟩ := by
  have e1 : (0 + (i : Int) * 4) = ((4 * i : Nat) : Int) := by omega
  have e2 : (0 + (i : Int) * 4 + 4) = ((4 * i + 4 : Nat) : Int) := by omega
  rw [e2, e1, slice_nat _ (by omega)]
  unfold quadAt
  rw [show 4 * i + 4 - 4 * i = 4 by omega]
theorem quadAt_mem {text : Str} {i c : Nat} (h : c ∈ quadAt text i) : c ∈ text.cps.toList := List.mem_of_mem_drop (List.mem_of_mem_take h)
theorem quad_take {l : List Nat} {j c : Nat} (h : l[j]? = some c) : quad (l.take (j + 1)) = 64 * quad (l.take j) + Int.fmod (idxOf c) 64 := by
  unfold quad; rw [List.take_add_one, h]; simp
theorem quad_bound : ∀ (l : List Nat), 0 ≤ quad l ∧ quad l < 64 ^ l.length := by
  intro l
  have key : ∀ (l : List Nat) (a : Int) (k : Nat), 0 ≤ a → a < 64 ^ k → 0 ≤ l.foldl (fun n c => 64 * n + Int.fmod (idxOf c) 64) a ∧ l.foldl (fun n c => 64 * n + Int.fmod (idxOf c) 64) a < 64 ^ (k + l.length) := by
    intro l
    induction l with
    | nil => intro a k h0 h1; exact ⟨h0, h1⟩
    | cons c l ih =>
      intro a k h0 h1
      have h2 := Int.fmod_nonneg_of_pos (idxOf c) (b := 64) (by decide)
      have h3 := Int.fmod_lt_of_pos (idxOf c) (b := 64) (by decide)
      have := ih (64 * a + Int.fmod (idxOf c) 64) (k + 1) (by omega) (by rw [Int.pow_succ]; omega)
      rw [show k + 1 + l.length = k + (c :: l).length by simp; omega] at this
      exact this
  have := key l 0 0 (by decide) (by decide)
  simpa [quad] using this
theorem trip_range {n : Int} (h0 : 0 ≤ n) (h1 : n < 16777216) : ∀ k ∈ trip n, 0 ≤ k ∧ k < 256 := by
  intro k hk
  simp only [trip, List.mem_cons, List.not_mem_nil, or_false] at hk
  rcases hk with rfl | rfl | rfl
  · rw [Int.fdiv_eq_ediv_of_nonneg _ (by decide)]; omega
  · rw [Int.fmod_eq_emod_of_nonneg _ (by decide)]; omega
  · rw [Int.fmod_eq_emod_of_nonneg _ (by decide)]; omega
theorem octs_range (text : Str) (k : Nat) : ∀ n ∈ octs text k, 0 ≤ n ∧ n < 256 := by
  intro n hn
  obtain ⟨j, _, hj⟩ := List.mem_flatMap.mp hn
  have hb := quad_bound (quadAt text j)
  have hl : (quadAt text j).length ≤ 4 := by unfold quadAt; rw [List.length_take]; omega
  refine trip_range hb.1 (Int.lt_of_lt_of_le hb.2 ?_) n hj
  rcases Nat.lt_or_ge (quadAt text j).length 4 with h | h
  · match (quadAt text j).length, h with
    | 0, _ => decide
    | 1, _ => decide
    | 2, _ => decide
    | 3, _ => decide
  · rw [Nat.le_antisymm hl h]; decide
def octets (text : Str) (n : Nat) : List Int := (octs text n).take ((3 * n : Nat) - Txt.count text (Str.ofString "=")).toNat
theorem range_small4 {n : Nat} (hn : n ≤ 25) : Builtin.Range.small 0 ((4 * n : Nat) : Int) 4 = true := by
  have key : ∀ n : Fin 26, Builtin.Range.small 0 ((4 * n.1 : Nat) : Int) 4 = true := by decide +kernel
  exact key ⟨n, by omega⟩
theorem range_size4 (n : Nat) : Builtin.Range.rangeSize 0 ((4 * n : Nat) : Int) 4 = (n : Int) := by
  unfold Builtin.Range.rangeSize
  split
  · split <;> omega
  · omega
end Mine
end
noncomputable section
open PySem PySem.W PyProof.Rows
set_option pp.deepTerms false
set_option pp.maxSteps 2000
set_option maxRecDepth 100000
set_option maxHeartbeats 8000000
namespace Mine
section
variable {w : World} {p : Program} {loose : List Str} {mean : ExcName → Option Value} {mg mb : Str → Option Value}
  {dp un : Nat} {gd : Option (List Code)} {cn : Str} {cs : Scope} {a : Addr} {ccd : Value} {cl : List (Str × Addr)} {outer : List Env} {A₀ : Around} {base h₀ : Heap} {L : Addr} {m : Str → Option Value} {news : List (Addr × Obj)} {s : Shared} {Q E : Value → Shared → Prop}
theorem c_signs 
  (B : Below A₀ base outer h₀) (F : Fr h₀ L s.heap m) (X : (hd.heap_39 w.params).In h₀) (N : News h₀ L s.heap news) (T : Top p loose mean mg mb h₀) (hk : cs.kind = .function)
  (hd : dp + 1 < recursionLimit) 
  (hret : ∀ t h' tk', Fr h₀ L h' m → News h₀ L h' news → Q (.str (Str.ofString "ABCDEFGHIJKLMNOPQRSTUVWXYZabcdefghijklmnopqrstuvwxyz0123456789*!") t) { s with heap := h', toks := tk' }) :
  wpAny (model PySem.Challenge.rw_mq0112_01.row.prog w) (ktrTop dp un gd cn cs L a ccd cl outer) (call (.ref 95) []) Q E s := by
  revert X; k_fill; intro X
  refine wpAny_call ?_
  k_dflt cell_enter
  (try ((show wpAny _ _ _ _ _ _); k_fold))
  repeat' (first | (k_unfold; (try dsimp only)) | (k_end; wrow_close) | walk1 | (dsimp only; walk1) | (leave1; try dsimp only) | fail "no step")
  exact hret _ _ _ (by assumption) (by assumption)
local macro_rules | `(tactic| k_all) => `(tactic| assumption)
inductive DrawInv (ns : List Int) (total : Int) (tt t9 : Tok) (wa ca : Addr) (news : List (Addr × Obj)) (i : Nat) (m₁ : Str → Option Value) (news₁ : List (Addr × Obj)) : Prop
  | mk (t : Tok) (cv wv : List Value) (kc : Nat) (h1 : Has m₁ [(Str.ofString "text", .str (drawText (ns.take i)) t), (Str.ofString "signs", .str signsS t9), (Str.ofString "words", .ref wa), (Str.ofString "cuts", .ref ca), (Str.ofString "total", .int total tt)])
    (h2 : IntsAre cv (drawCuts (ns.take i))) (h3 : StrsAre wv wordsL) (h4 : news₁ = (ca, W.listOf cv.toArray kc) :: (wa, W.listOf wv.toArray 0) :: news) : DrawInv ns total tt t9 wa ca news i m₁ news₁
theorem c_drawn 
  {ln : Addr} {vs : List Value} {ns : List Int} {total : Int} {tt : Tok}
  (B : Below A₀ base outer h₀) (F : Fr h₀ L s.heap m) (X : (hd.heap_39 w.params).In h₀) (N : News h₀ L s.heap news) (T : Top p loose mean mg mb h₀) (hk : cs.kind = .function)
  (hln : (ln, ({ cls := .type "list", data := .seq vs.toArray } : Obj)) ∈ news) (hvs : IntsAre vs ns) (hlen : ns.length ≤ 10)
  (hd : dp + 2 < recursionLimit)
  (hret : ∀ r ca cv kc tp h' tk', (∀ p ∈ news, p.1 < ca) → (ca : Nat) < r → IntsAre cv (drawCuts ns) → Fr h₀ L h' m → News h₀ L h' ((r, ({ cls := .type "tuple", data := .seq #[.str (drawPage ns total) tp, .ref ca] } : Obj)) :: (ca, W.listOf cv.toArray kc) :: news) → Q (.ref r) { s with heap := h', toks := tk' }) :
  wpAny (model PySem.Challenge.rw_mq0112_01.row.prog w) (ktrTop dp un gd cn cs L a ccd cl outer) (call (.ref 102) [.ref ln, .int total tt]) Q E s := by
  revert X; k_fill; intro X
  refine wpAny_call ?_
  k_dflt (refine' code_def (binds := [(Str.ofString "numbers", .ref ln), (Str.ofString "total", .int total tt)]) ?k1 ?k2 ?k3 ?k4 ?k5 ?kA ?kF ?kK ?k6 ?k7 ?k8 ?k9 ?kB ?_ ?c2 ?c3 ?c4 ?c5; ((case kA => exact rfl); (case kF => exact rfl); (case kK => assumption); (case k1 => k_asm); (case k2 => k_asm); (case k3 => k_asm); (case k4 => k_asm); (case k5 => k_asm); (case k6 => k_is); (case k7 => k_is); (case k8 => ktr_room); (case k9 => exact BindsTo.of_eq rfl); (case c5 => decide); (case kB => exact locs rfl); (case c2 => exact rfl); (case c3 => exact rfl); (case c4 => exact rfl); k_whole; intro g' L' h' FG' F' N' B' X' T'; (try dsimp only); (try k_lift B'); (try k_fold)))
  (try ((show wpAny _ _ _ _ _ _); k_fold))
  repeat' (first | (k_unfold; (try dsimp only)) | (k_end; wrow_close) | ((with_reducible show wpAny _ _ (call (Value.ref _) _ _) _ _ _); (k_here; (with_reducible show wpAny _ _ (call (Value.ref 95) _) _ _ _); (refine' c_signs ?k1 ?k2 ?k3 ?k4 ?k5 ?kK ?kd ?_); (case k1 => k_asm); (case k2 => k_asm); (case k3 => k_asm); (case k4 => k_asm); (case k5 => k_asm); (case kK => exact rfl); (case kd => ktr_room); intro t9 h9 tk9 F9 N9; (try dsimp only); (try k_fold))) | walk1 | (dsimp only; first | ((with_reducible show wpAny _ _ (call (Value.ref _) _ _) _ _ _); (k_here; (with_reducible show wpAny _ _ (call (Value.ref 95) _) _ _ _); (refine' c_signs ?k1 ?k2 ?k3 ?k4 ?k5 ?kK ?kd ?_); (case k1 => k_asm); (case k2 => k_asm); (case k3 => k_asm); (case k4 => k_asm); (case k5 => k_asm); (case kK => exact rfl); (case kd => ktr_room); intro t9 h9 tk9 F9 N9; (try dsimp only); (try k_fold))) | walk1) | (leave1; try dsimp only) | fail "no step")
  rename_i t9 h9 tk9 hA tkA wa hB ltW hC tkC hD ca hE ltC hF FF NN
  have hvs : IntsAre vs ns := by assumption
  have hca : ∀ p ∈ news, p.1 ≠ ca := fun p hp => Nat.ne_of_lt (Nat.lt_trans (ltW p hp) ltC.1)
  refine iter_led (vs := vs) (k := 0) (DrawInv ns total tt t9 wa ca news) rfl ?_ FF NN ?_ ?_ ?_
  · rintro i m₁ news₁ ⟨t, cv, wv, kc, _, _, _, rfl⟩
    exact .tail _ (.tail _ hln)
  · refine ⟨_, [_], [_, _, _, _, _, _, _, _, _, _, _, _, _, _, _, _, _], 0, ⟨rfl, rfl, rfl, rfl, rfl, trivial⟩, ?_, ?_, rfl⟩
    · exact .cons _ _ (.nil)
    · repeat' constructor
  · clear FF NN
    rintro i v m₁ news₁ h tk I oI hv ⟨t, cv, wv, kc, hm, hcv, hwv, rfl⟩ hne F1 N1
    obtain ⟨x, hx⟩ : ∃ x, ns[i]? = some x := by
      have h1 : i < vs.length := (List.getElem?_eq_some_iff.mp hv).1
      rw [hvs.length] at h1
      exact ⟨_, List.getElem?_eq_getElem h1⟩
    obtain ⟨tx, hx'⟩ := hvs.get i x hx
    have hv' : v = .int x tx := Option.some.inj (hv.symm.trans hx')
    subst hv'
    have F2 := Fr.turn F1 hm
    have hwl := Mine.StrsAre.length hwv
    simp only [wordsL, List.length_cons, List.length_nil] at hwl
    clear F1
    have hi : i < 10 := Nat.lt_of_lt_of_le (List.getElem?_eq_some_iff.mp hx).1 hlen
    have hT : (drawText (ns.take i)).length ≤ 6 + 8 * i := Nat.le_trans (drawText_len _) (by rw [List.length_take]; omega)
    have hcl : cv.length ≤ 11 := by rw [hcv.length]; exact Nat.le_trans (drawCuts_len _) (by rw [List.length_take]; omega)
    have hcI : (ca : Nat) ≠ I := hne _ (.head _)
    (try ((show wpAny _ _ _ _ _ _); k_fold))
    repeat' ((fail_if_success (with_reducible show wpAny _ _ (subscriptTail _ _ (Value.ref _) (Value.int _ _)) _ _ _)); first | (k_unfold; (try dsimp only)) | ((with_reducible show wpAny _ _ (binaryOp _ (Value.ref _) (Value.ref _)) _ _ _); (k_here; refine' addK ?F ?N ?l ?b ?z ?_; (case F => k_asm); (case N => k_asm); (case l => k_mem); (case b => k_mem); (case z => (simp only [List.length_cons, List.length_nil]; rw [sizeLine_eq]; omega)); k_whole; intro r' h' l1 F' N'; (try k_lt l1); (try k_sweep); (try dsimp only))) | walk1 | (dsimp only; first | ((with_reducible show wpAny _ _ (binaryOp _ (Value.ref _) (Value.ref _)) _ _ _); (k_here; refine' addK ?F ?N ?l ?b ?z ?_; (case F => k_asm); (case N => k_asm); (case l => k_mem); (case b => k_mem); (case z => (simp only [List.length_cons, List.length_nil]; rw [sizeLine_eq]; omega)); k_whole; intro r' h' l1 F' N'; (try k_lt l1); (try k_sweep); (try dsimp only))) | walk1))
    (with_unfolding_all refine' itemStrB (B := 7) ?N ?l (Mine.StrsAre.append hwv (StrsAre.cons _ _ StrsAre.nil)) ?h0 ?h1 ?h2 ?hB ?_ ?hs)
    (case N => k_asm)
    (case l => k_mem)
    (case h0 => (apply Int.fmod_nonneg_of_pos; decide))
    (case h1 => (refine Int.fmod_lt_of_pos _ ?_; decide))
    (case h2 => (simp only [wordsL, List.length_append, List.length_cons, List.length_nil]; omega))
    (case hB => exact words_le (by omega))
    (case hs => with_unfolding_all rfl)
    intro t1 y1 hy1 hl1
    (try ((show wpAny _ _ _ _ _ _); k_fold))
    repeat' ((fail_if_success (with_reducible show wpAny _ _ (subscriptTail _ _ (Value.ref _) (Value.int _ _)) _ _ _)); first | (k_unfold; (try dsimp only)) | walk1 | (dsimp only; walk1))
    (with_unfolding_all refine' itemStrB (B := 1) (xs := sepsL) ?N2 ?l2 (StrsAre.cons _ _ (StrsAre.cons _ _ (StrsAre.cons _ _ (StrsAre.cons _ _ StrsAre.nil)))) ?h02 ?h12 ?h22 ?hB2 ?_ ?hs2)
    (case N2 => k_asm)
    (case l2 => k_mem)
    (case h02 => (apply Int.fmod_nonneg_of_pos; decide))
    (case h12 => (refine Int.fmod_lt_of_pos _ ?_; decide))
    (case h22 => decide)
    (case hB2 => decide)
    (case hs2 => with_unfolding_all rfl)
    intro t2 y2 hy2 hl2
    have e1 : y1 = wordAt x := hy1
    have e2 : y2 = sepAt x := hy2
    have eT := drawText_take hx
    have eC := drawCuts_take hx
    rw [← e1, ← e2] at eT eC
    (try ((show wpAny _ _ _ _ _ _); k_fold))
    repeat' ((fail_if_success (with_reducible show wpAny _ _ (subscriptTail _ _ (Value.ref _) (Value.int _ _)) _ _ _)); first | (k_unfold; (try dsimp only)) | walk1 | (dsimp only; walk1))
    · rename_i hq
      refine' append_K ?k1 ?k2 ?k3 ?_ ?z
      (case k1 => k_asm)
      (case k2 => k_asm)
      (case k3 => exact .tail (by k_ne) (.tail (by k_ne) (.tail (by k_ne) (.tail hcI.symm (.head (List.forall_mem_cons.mpr ⟨Nat.ne_of_lt ltC.1, hca⟩))))))
      (case z => size_fits)
      k_whole
      intro h' F' N'
      rw [List.push_toArray] at N'
      (try ((show wpAny _ _ _ _ _ _); k_fold))
      repeat' ((fail_if_success (with_reducible show wpAny _ _ (subscriptTail _ _ (Value.ref _) (Value.int _ _)) _ _ _)); first | (k_unfold; (try dsimp only)) | walk1 | (dsimp only; walk1))
      refine TurnEnd.go (by assumption) (by assumption) (by k_mem) (news₂ := (ca, W.listOf (cv ++ [Value.int ((drawText (ns.take i) ++ y1 ++ y2).length : Int) _]).toArray (kc + 1)) :: (wa, W.listOf wv.toArray 0) :: news) (fun p hp => .tail _ (.tail _ (.tail _ (.tail _ hp)))) ?_ ?_
      · intro p hp
        rcases List.mem_cons.mp hp with rfl | hp
        · exact hcI
        · exact hne p (.tail _ hp)
      · refine ⟨_, _, wv, _, ⟨congrArg (fun z => some (Value.str z _)) eT.symm, rfl, rfl, rfl, rfl, trivial⟩, ?_, hwv, rfl⟩
        rw [eC, if_pos (by assumption)]
        exact hcv.append (.cons _ _ .nil)
    · refine TurnEnd.go (by assumption) (by assumption) (by k_mem) (news₂ := (ca, W.listOf cv.toArray kc) :: (wa, W.listOf wv.toArray 0) :: news) (fun p hp => .tail _ (.tail _ (.tail _ (.tail _ hp)))) ?_ ?_
      · intro p hp
        exact hne p hp
      · refine ⟨_, _, wv, _, ⟨congrArg (fun z => some (Value.str z _)) eT.symm, rfl, rfl, rfl, rfl, trivial⟩, ?_, hwv, rfl⟩
        rw [eC, if_neg (by assumption)]
        exact hcv
  · clear FF NN
    rintro m₁ news₁ h tk ⟨t, cv, wv, kc, hm, hcv, hwv, rfl⟩ F1 N1
    have F2 := Fr.has F1 hm
    clear F1
    have hlen' := hvs.length
    rw [hlen', List.take_length] at hcv F2
    have hT := drawText_len ns
    (try ((show wpAny _ _ _ _ _ _); k_fold))
    repeat' ((fail_if_success (with_reducible show wpAny _ _ (subscriptTail _ _ (Value.ref _) (Value.int _ _)) _ _ _)); first | (k_unfold; (try dsimp only)) | walk1 | (dsimp only; walk1))
    (with_unfolding_all refine' itemStrB (B := 4) ?N3 ?l3 (StrsAre.cons _ _ (StrsAre.cons _ _ (StrsAre.cons _ _ StrsAre.nil))) ?h03 ?h13 ?h23 ?hB3 ?_ ?hs3)
    (case N3 => k_asm)
    (case l3 => k_mem)
    (case h03 => (apply Int.fmod_nonneg_of_pos; decide))
    (case h13 => (refine Int.fmod_lt_of_pos _ ?_; decide))
    (case h23 => exact Nat.lt_of_lt_of_le (Nat.lt_succ_self 3) (by decide))
    (case hB3 => exact ends_le)
    (case hs3 => with_unfolding_all rfl)
    intro t2 y2 hy2 hl2
    have e2 : y2 = drawEnd total := hy2
    subst e2
    (try ((show wpAny _ _ _ _ _ _); k_fold))
    repeat' ((fail_if_success (with_reducible show wpAny _ _ (subscriptTail _ _ (Value.ref _) (Value.int _ _)) _ _ _)); first | (k_unfold; (try dsimp only)) | walk1 | (dsimp only; walk1))
    rename News h₀ _ _ _ => kN
    exact hret _ ca cv kc _ _ _ (fun p hp => Nat.lt_trans (ltW p hp) ltC.1) (by rename _ < _ ∧ _ < _ ∧ _ < _ ∧ AllLt _ _ => hq; exact hq.2.1) hcv (by assumption) (News.drop2nd4th kN)
end
end Mine
end
noncomputable section
open PySem PySem.W PyProof.Rows
set_option pp.deepTerms false
set_option pp.maxSteps 2000
set_option maxRecDepth 100000
set_option maxHeartbeats 8000000
namespace Mine
section
variable {w : World} {p : Program} {loose : List Str} {mean : ExcName → Option Value} {mg mb : Str → Option Value}
  {dp un : Nat} {gd : Option (List Code)} {cn : Str} {cs : Scope} {a : Addr} {ccd : Value} {cl : List (Str × Addr)} {outer : List Env} {A₀ : Around} {base h₀ : Heap} {L : Addr} {m : Str → Option Value} {news : List (Addr × Obj)} {s : Shared} {Q E : Value → Shared → Prop}
theorem c_octets {text : Str} {tt : Tok} {n : Nat}
  (B : Below A₀ base outer h₀) (F : Fr h₀ L s.heap m) (X : (hd.heap_39 w.params).In h₀) (N : News h₀ L s.heap news) (T : Top p loose mean mg mb h₀) (hk : cs.kind = .function)
  (hlen : text.length = 4 * n) (hn : n ≤ 25) (hch : ∀ c ∈ text.cps.toList, c ∈ signsEq.cps.toList) (hct0 : 0 ≤ Txt.count text (Str.ofString "=")) (hct : Txt.count text (Str.ofString "=") ≤ 3 * n)
  (hd : dp + 2 < recursionLimit)
  (hret : ∀ t h' tk', Fr h₀ L h' m → News h₀ L h' news → Q (.bytes (byteArr (octets text n)) t) { s with heap := h', toks := tk' }) :
  wpAny (model PySem.Challenge.rw_mq0112_01.row.prog w) (ktrTop dp un gd cn cs L a ccd cl outer) (call (.ref 109) [.str text tt]) Q E s := by
  revert X; k_fill; intro X
  refine wpAny_call ?_
  k_dflt (refine' code_def (binds := [(Str.ofString "text", .str text tt)]) ?k1 ?k2 ?k3 ?k4 ?k5 ?kA ?kF ?kK ?k6 ?k7 ?k8 ?k9 ?kB ?_ ?c2 ?c3 ?c4 ?c5; ((case kA => exact rfl); (case kF => exact rfl); (case kK => assumption); (case k1 => k_asm); (case k2 => k_asm); (case k3 => k_asm); (case k4 => k_asm); (case k5 => k_asm); (case k6 => k_is); (case k7 => k_is); (case k8 => ktr_room); (case k9 => exact BindsTo.of_eq rfl); (case c5 => decide); (case kB => exact locs rfl); (case c2 => exact rfl); (case c3 => exact rfl); (case c4 => exact rfl); k_whole; intro g' L' h' FG' F' N' B' X' T'; (try dsimp only); (try k_lift B'); (try k_fold)))
  (try ((show wpAny _ _ _ _ _ _); k_fold))
  repeat' (first | (k_unfold; (try dsimp only)) | (k_end; wrow_close) | ((with_reducible show wpAny _ _ (call (Value.ref _) _ _) _ _ _); (k_here; (with_reducible show wpAny _ _ (call (Value.ref 95) _) _ _ _); (refine' c_signs ?k1 ?k2 ?k3 ?k4 ?k5 ?kK ?kd ?_); (case k1 => k_asm); (case k2 => k_asm); (case k3 => k_asm); (case k4 => k_asm); (case k5 => k_asm); (case kK => exact rfl); (case kd => ktr_room); intro t9 h9 tk9 F9 N9; (try dsimp only); (try k_fold))) | walk1 | (dsimp only; first | ((with_reducible show wpAny _ _ (call (Value.ref _) _ _) _ _ _); (k_here; (with_reducible show wpAny _ _ (call (Value.ref 95) _) _ _ _); (refine' c_signs ?k1 ?k2 ?k3 ?k4 ?k5 ?kK ?kd ?_); (case k1 => k_asm); (case k2 => k_asm); (case k3 => k_asm); (case k4 => k_asm); (case k5 => k_asm); (case kK => exact rfl); (case kd => ktr_room); intro t9 h9 tk9 F9 N9; (try dsimp only); (try k_fold))) | walk1) | (leave1; try dsimp only) | fail "no step")
  rename_i ts ks hsl hA tkA oa hB ltO hC F0 N0 hD tkB tR uR vR hR FF NN hkp
  clear F0 N0 hkp
  refine iter_range (n := n) (fun i m₁ news₁ => ∃ ov ko, Has m₁ [(Str.ofString "text", .str text tt), (Str.ofString "signs", .str signsEq ts), 
    (Str.ofString "octets", .ref oa)] ∧ IntsAre ov (octs text i) ∧ news₁ = (oa, W.listOf ov.toArray ko) :: news) rfl hR ?_ ?_ FF NN ?_ ?_ ?_
  · rw [hlen]; exact range_small4 hn
  · rw [hlen]; exact range_size4 n
  · exact ⟨[], 0, ⟨rfl, rfl, rfl, trivial⟩, .nil, rfl⟩
  · clear FF NN hR
    rintro i t' m₁ news₁ h tk I oI hi ⟨ov, ko, hm, hov, rfl⟩ hne F1 N1
    have F2 := Fr.turn F1 hm
    clear F1
    (try ((show wpAny _ _ _ _ _ _); k_fold))
    repeat' ((fail_if_success (with_reducible show wpAny _ _ (pyIter _) _ _ _)); first | (k_unfold; (try dsimp only)) | ((with_reducible show wpAny _ _ (exec (Stmt.For _ (Expr.Subscript _ _ _) _ [] _) _) _ _ _); with_reducible (((rename Fr _ _ _ _ => lF'); (with_unfolding_all refine' For_invVF lF' ?k1 ?k2 ?_; (case k1 => exact rfl); (case k2 => exact rfl); k_whole)))) | walk1 | (dsimp only; first | ((with_reducible show wpAny _ _ (exec (Stmt.For _ (Expr.Subscript _ _ _) _ [] _) _) _ _ _); with_reducible (((rename Fr _ _ _ _ => lF'); (with_unfolding_all refine' For_invVF lF' ?k1 ?k2 ?_; (case k1 => exact rfl); (case k2 => exact rfl); k_whole)))) | walk1))
    rw [slice_quad]
    rename_i FF NN hsl2
    refine iter_str (fun j m₂ news₂ => (∃ tn, Has m₂ [(Str.ofString "text", .str text tt), (Str.ofString "signs", .str signsEq ts), 
      (Str.ofString "octets", .ref oa), (Str.ofString "number", .int (quad ((quadAt text i).take j)) tn)]) ∧ news₂ = (I, oI) :: (oa, W.listOf ov.toArray ko) :: news) rfl FF NN ?_ ?_ ?_
    · exact ⟨⟨_, rfl, rfl, rfl, rfl, trivial⟩, rfl⟩
    · clear FF NN
      rintro j c u' m₂ news₂ h2 tk2 I2 oI2 hc ⟨⟨tn, hm2⟩, rfl⟩ hne2 F3 N3
      have F4 := Fr.turn F3 hm2
      clear F3
      have hcl : (quadAt text i)[j]? = some c := by simpa using hc
      have hci : c ∈ signsEq.cps.toList := hch c (quadAt_mem (List.mem_of_getElem? hcl))
      have hqb := quad_bound ((quadAt text i).take j)
      (try ((show wpAny _ _ _ _ _ _); k_fold))
      repeat' ((fail_if_success (with_reducible show wpAny _ _ (pyIter _) _ _ _)); first | (k_unfold; (try dsimp only)) | ((with_reducible show wpAny _ _ (call (Value.builtin "str.index") _ _) _ _ _); with_reducible ((refine index_in rfl (by assumption) ?_))) | walk1 | (dsimp only; first | ((with_reducible show wpAny _ _ (call (Value.builtin "str.index") _ _) _ _ _); with_reducible ((refine index_in rfl (by assumption) ?_))) | walk1))
      refine TurnEnd.go (by assumption) (by assumption) (by k_mem) (news₂ := (I, oI) :: (oa, W.listOf ov.toArray ko) :: news) (fun p hp => .tail _ hp) hne2 ⟨⟨_, rfl, rfl, rfl, congrArg (fun z => some (Value.int z _)) (quad_take hcl).symm, trivial⟩, rfl⟩
    · clear FF NN
      rintro m₂ news₂ h2 tk2 ⟨⟨tn, hm2⟩, rfl⟩ F3 N3
      have eq4 : (quadAt text i).take ({ cps := (quadAt text i).toArray } : Str).cps.size = quadAt text i := by simp
      rw [eq4] at hm2
      have F4 := Fr.has F3 hm2
      clear F3
      (try ((show wpAny _ _ _ _ _ _); k_fold))
      repeat' ((fail_if_success (with_reducible show wpAny _ _ (pyIter _) _ _ _)); first | (k_unfold; (try dsimp only)) | walk1 | (dsimp only; walk1))
      rename_i l3 h3 F5 N5 lt3
      have hol : ov.length = 3 * i := by rw [hov.length, octs_len]
      have hoI : (oa : Nat) ≠ I := hne _ (.head _)
      refine' kl_extend (its := ov.toArray) F5 N5 (.head _) rfl ?ne (.tail (by k_ne) (.tail hoI.symm (.head (fun p hp => Nat.ne_of_lt (ltO p hp))))) ?hd ?hz ?hz2 ?_
      (case ne => exact Nat.succ_ne_zero _)
      (case hd => (simp [Builtin.List.listTooLong, sizeLine_eq]; omega))
      (case hz => (simp only [sizeLine_eq]; omega))
      (case hz2 => (simp only [sizeLine_eq, List.size_toArray, List.length_cons, List.length_nil]; omega))
      intro h4 F6 N6
      (try ((show wpAny _ _ _ _ _ _); k_fold))
      repeat' ((fail_if_success (with_reducible show wpAny _ _ (pyIter _) _ _ _)); first | (k_unfold; (try dsimp only)) | walk1 | (dsimp only; walk1))
      refine TurnEnd.go (by assumption) N6 (.tail _ (.head _)) (news₂ := (oa, W.listOf (ov ++ [_, _, _]).toArray (ko + 1)) :: news) (fun p hp => .tail _ (.tail _ hp)) ?_ ⟨_, _, ⟨rfl, rfl, rfl, trivial⟩, ?_, rfl⟩
      · intro p hp
        rcases List.mem_cons.mp hp with rfl | hp
        · exact hoI
        · exact hne p (.tail _ hp)
      · rw [octs_succ]; exact hov.append (.cons _ _ (.cons _ _ (.cons _ _ .nil)))
  · clear FF NN hR
    rintro m₁ news₁ h tk ⟨ov, ko, hm, hov, rfl⟩ F1 N1
    have F2 := Fr.has F1 hm
    clear F1
    have hol : ov.length = 3 * n := by rw [hov.length, octs_len]
    (try ((show wpAny _ _ _ _ _ _); k_fold))
    repeat' ((fail_if_success (with_reducible show wpAny _ _ (pyIter _) _ _ _)); first | (k_unfold; (try dsimp only)) | ((with_reducible show wpAny _ _ (call (Value.builtin "len") _ _) _ _ _); (k_here; (with_reducible show wpAny _ _ (call (Value.builtin "len") [Value.ref _]) _ _ _); refine' lenK ?N ?l ?z ?_; (case N => k_asm); (case l => k_mem); (case z => omega); k_whole; intro t' tk'; (try dsimp only))) | walk1 | (dsimp only; first | ((with_reducible show wpAny _ _ (call (Value.builtin "len") _ _) _ _ _); (k_here; (with_reducible show wpAny _ _ (call (Value.builtin "len") [Value.ref _]) _ _ _); refine' lenK ?N ?l ?z ?_; (case N => k_asm); (case l => k_mem); (case z => omega); k_whole; intro t' tk'; (try dsimp only))) | walk1))
    rename IntsAre _ (List.take _ _) => hI
    rw [hol] at hI
    refine bytesK (by assumption) (by assumption) (.head _) hI (fun k hk => octs_range _ _ k (List.mem_of_mem_take hk)) ?_ rfl ?_
    · rw [hI.length, List.length_take, octs_len, sizeLine_eq]; omega
    intro h5 t5 tk5 F5 N5
    (try ((show wpAny _ _ _ _ _ _); k_fold))
    repeat' ((fail_if_success (with_reducible show wpAny _ _ (pyIter _) _ _ _)); first | (k_unfold; (try dsimp only)) | walk1 | (dsimp only; walk1))
    rename News h₀ _ _ _ => kN
    exact hret _ _ _ (by assumption) (fun p hp => kN p (.tail _ (.tail _ hp)))
end
end Mine
end
noncomputable section
open PySem PySem.W PyProof.Rows
namespace Mine
section
variable {prog : Program} {w : World} {A : Around} {E : Value → Shared → Prop} {s : Shared} {env : Env} {h₀ : Heap} {x : Str} {body : List Stmt} {Q : Flow → Shared → Prop}
/-- bytes, octet by octet -/
theorem iter_bytes {b : Array UInt8} {u : Tok} {m₀ : Str → Option Value} {news : List (Addr × Obj)} (J : Nat → (Str → Option Value) → List (Addr × Obj) → Prop)
    (hh : A.handled = none) (F : Fr h₀ env.locals s.heap m₀) (N : News h₀ env.locals s.heap news) (hj : J 0 m₀ news)
    (turn : ∀ i c u' m₁ news₁ h tk I oI, b[i]? = some c → J i m₁ news₁ → (∀ p ∈ news₁, p.1 ≠ I) → Fr h₀ env.locals h (fun y => if y = x then some (.int (c.toNat : Int) u') else m₁ y) → News h₀ env.locals h ((I, oI) :: news₁) →
      wpAny (model prog w) A (execs body env) (TurnEnd h₀ env.locals (J (i + 1)) I oI { s with heap := h, toks := tk } Q) E { s with heap := h, toks := tk })
    (done : ∀ m₁ news₁ h tk, J b.size m₁ news₁ → Fr h₀ env.locals h m₁ → News h₀ env.locals h news₁ → Q .next { s with heap := h, toks := tk }) :
    wpAny (model prog w) A (pyIter (.bytes b u)) (fun it s₂ => LoopAtV prog w A h₀ env x body Q E it s₂) E s := by
  refine KBw.pyIter_bytes ?_
  refine loop_walks (s := { s with heap := _ }) J (KBw.walks hh _ b u) ?_ ⟨_, Heap.get?_push_size _ rfl, rfl, rfl⟩ (not_base F) ?_ (led_lt N) ?_ (F.push _) (fun p hp => ⟨Heap.get?_push_of_some _ (N p hp).1, (N p hp).2⟩) hj ?_ ?_
  · rintro i h ⟨o, ho, _⟩; exact ⟨o, ho⟩
  · intro hm
    exact absurd F.ns.lt ((List.mem_singleton.mp hm) ▸ Nat.lt_irrefl _)
  · intro b hb; exact .inl (List.mem_singleton.mp hb)
  · rintro i v' m₁ news₁ h tk oI hi ⟨c, u', hc, rfl⟩ hJ hne' F' N'
    exact turn i c u' m₁ news₁ h tk _ oI hc hJ hne' F' N'
  · intro m₁ news₁ h tk hJ _ F' N'
    exact done m₁ news₁ h tk hJ F' N'
end
def encStep (st : List Int × Nat × Int) (b : Int) : List Int × Nat × Int :=
  match st with
  | (out, 0, _) => (out ++ [b / 4], 1, b)
  | (out, 1, v) => (out ++ [v % 4 * 16 + b / 16], 2, b)
  | (out, _, v) => (out ++ [v % 16 * 4 + b / 64, b % 64], 0, b)
def encFold (l : List Int) : List Int × Nat × Int := l.foldl encStep ([], 0, 0)
def b64S : Array UInt8 := #[65, 66, 67, 68, 69, 70, 71, 72, 73, 74, 75, 76, 77, 78, 79, 80, 81, 82, 83, 84, 85, 86, 87, 88, 89, 90, 97, 98, 99, 100, 101, 102, 103, 104, 105, 106, 107, 108, 109, 110, 111, 112, 113, 114, 115, 116, 117, 118, 119, 120, 121, 122, 48, 49, 50, 51, 52, 53, 54, 55, 56, 57, 43, 47]
def b64Of (k : Int) : Int := (b64S.toList.getD k.toNat 0).toNat
theorem encFold_take {l : List Int} {i : Nat} {b : Int} (h : l[i]? = some b) : encFold (l.take (i + 1)) = encStep (encFold (l.take i)) b := by
  unfold encFold; rw [List.take_add_one, h]; simp
theorem or_low {a c : Int} (ha : 0 ≤ a) (hc0 : 0 ≤ c) (hc : c < 256) : Builtin.bitOr (a * 256) c = a * 256 + c := by
  obtain ⟨n, rfl⟩ := Int.eq_ofNat_of_zero_le ha
  obtain ⟨k, rfl⟩ := Int.eq_ofNat_of_zero_le hc0
  have hk : k < 2 ^ 8 := by omega
  have h := Nat.shiftLeft_add_eq_or_of_lt hk n
  rw [Nat.shiftLeft_eq] at h
  have e : ((n : Int) * 256) = ((n * 2 ^ 8 : Nat) : Int) := by omega
  rw [e]
  have key : Builtin.bitOr ((n * 2 ^ 8 : Nat) : Int) (k : Int) = ((n * 2 ^ 8 ||| k : Nat) : Int) := by
    have h1 : ¬ (0 ≤ -((n * 2 ^ 8 : Nat) : Int) - 1) := by omega
    have h2 : ¬ (0 ≤ -(k : Int) - 1) := by omega
    have e1 : (-(-((n * 2 ^ 8 : Nat) : Int) - 1) - 1).toNat = n * 2 ^ 8 := by omega
    have e2 : (-(-(k : Int) - 1) - 1).toNat = k := by omega
    unfold Builtin.bitOr Builtin.bitAnd Builtin.bitNot
    split
    · rename_i q _; exact absurd (of_decide_eq_true q) h1
    · rename_i q _; exact absurd (of_decide_eq_true q) h1
    · rename_i _ q; exact absurd (of_decide_eq_true q) h2
    · rw [e1, e2]; omega
  rw [key, ← h]; omega
theorem bits_next {lc : Int} {c : UInt8} (h : 0 ≤ lc) : Builtin.bitAnd (Builtin.bitOr (lc * 2 ^ Int.toNat 8) (c.toNat : Int)) 65535 = (lc * 256 + c.toNat) % 65536 := by
  have hc : c.toNat < 256 := c.toNat_lt
  rw [show (2 : Int) ^ Int.toNat 8 = 256 from rfl, or_low h (by omega) (by omega), bitAnd_m16]
theorem sx (x : Int) (p : Nat) (hp : 0 < p) : Builtin.bitAnd (x.fdiv (p : Int)) 63 = x / p % 64 := by
  rw [bitAnd_m6, Int.fdiv_eq_ediv_of_nonneg _ (by omega)]
theorem dm4 (y : Int) : y / (4 : Nat) % 64 = y % 256 / 4 := by omega
theorem dm16 (y : Int) : y / (16 : Nat) % 64 = y % (4 * 256) / 16 := by omega
theorem dm64 (y : Int) : y / (64 : Nat) % 64 = y % (16 * 256) / 64 := by omega
theorem low_c {lc : Int} {c : Nat} (hc : c < 256) : (lc * 256 + c) % 65536 % 256 = c := by
  rw [Int.emod_emod_of_dvd _ (by decide), Int.mul_add_emod_self_right]
  exact Int.emod_eq_of_lt (Int.natCast_nonneg c) (Int.ofNat_lt.mpr hc)
theorem low_k {lc v : Int} {c : Nat} (k : Int) (hk : k * 256 ∣ 65536) (hk2 : k ∣ 256) (hk0 : 0 < k) (hc : c < 256) (hv : lc % 256 = v) : (lc * 256 + c) % 65536 % (k * 256) = v % k * 256 + c := by
  rw [Int.emod_emod_of_dvd _ hk]
  have h1 : lc % k = v % k := by rw [← hv, Int.emod_emod_of_dvd _ hk2]
  have h2 : lc * 256 + c = (v % k * 256 + c) + (k * 256) * (lc / k) := by
    have h3 := Int.emod_add_mul_ediv lc k
    rw [h1] at h3
    conv => lhs; rw [← h3]
    rw [Int.add_mul, Int.mul_right_comm, Int.add_right_comm]
  rw [h2, Int.add_mul_emod_self_left]
  have h4 := Int.emod_nonneg v (Int.ne_of_gt hk0)
  have h5 := Int.emod_lt_of_pos v hk0
  exact Int.emod_eq_of_lt (by omega) (by omega)
theorem sx0 {lc : Int} {c : Nat} (hc : c < 256) : Builtin.bitAnd (((lc * 256 + c) % 65536).fdiv (2 ^ (0 + 8 - 6 : Int).toNat)) 63 = (c : Int) / 4 := by
  rw [show (2 : Int) ^ (0 + 8 - 6 : Int).toNat = ((4 : Nat) : Int) from rfl, sx _ _ (by decide), dm4, low_c hc]
theorem sx1 {lc v : Int} {c : Nat} (hc : c < 256) (hv : lc % 256 = v) : Builtin.bitAnd (((lc * 256 + c) % 65536).fdiv (2 ^ (2 + 8 - 6 : Int).toNat)) 63 = v % 4 * 16 + (c : Int) / 16 := by
  rw [show (2 : Int) ^ (2 + 8 - 6 : Int).toNat = ((16 : Nat) : Int) from rfl, sx _ _ (by decide), dm16, low_k 4 (by decide) (by decide) (by decide) hc hv, show v % 4 * 256 = v % 4 * 16 * 16 by omega, Int.add_comm, Int.add_mul_ediv_right _ _ (by decide), Int.add_comm]
theorem sx2 {lc v : Int} {c : Nat} (hc : c < 256) (hv : lc % 256 = v) : Builtin.bitAnd (((lc * 256 + c) % 65536).fdiv (2 ^ (4 + 8 - 6 : Int).toNat)) 63 = v % 16 * 4 + (c : Int) / 64 := by
  rw [show (2 : Int) ^ (4 + 8 - 6 : Int).toNat = ((64 : Nat) : Int) from rfl, sx _ _ (by decide), dm64, low_k 16 (by decide) (by decide) (by decide) hc hv, show v % 16 * 256 = v % 16 * 4 * 64 by omega, Int.add_comm, Int.add_mul_ediv_right _ _ (by decide), Int.add_comm]
theorem sx3 {lc : Int} {c : Nat} (hc : c < 256) : Builtin.bitAnd (((lc * 256 + c) % 65536).fdiv (2 ^ (4 + 8 - 6 - 6 : Int).toNat)) 63 = (c : Int) % 64 := by
  rw [show (2 : Int) ^ (4 + 8 - 6 - 6 : Int).toNat = ((1 : Nat) : Int) from rfl, sx _ _ (by decide)]
  show (lc * 256 + c) % 65536 / 1 % 64 = _
  rw [Int.ediv_one]
  conv => rhs; rw [← low_c (lc := lc) hc, Int.emod_emod_of_dvd _ (show (64 : Int) ∣ 256 by decide)]
section
variable {prog : Program} {w : World} {A : Around} {E : Value → Shared → Prop} {s : Shared}
theorem b64_item {value slice : PySem.Expr} {t u : Tok} {x k : Int} {Q : Value → Shared → Prop} (e : x = k) (h0 : 0 ≤ k) (h1 : k < 64) (h : ∀ t' tk, Q (.int (b64Of k) t') { s with toks := tk })
    (hs : subscripted slice false (.bytes b64S t) (.int x u) = operate [.bytes b64S t, .int x u] (getItem (.bytes b64S t) (.int x u)))
    (ht : ∀ r, letTemporaryGo value (.bytes b64S t) r = pure ()) : wpAny (model prog w) A (subscriptTail value slice (.bytes b64S t) (.int x u)) Q E s := by
  subst e
  have g : wpAny (model prog w) A (getItem (.bytes b64S.toList.toArray t) (.int x u)) Q E s := by
    refine getItem_bytes (l := b64S.toList) (by decide) h0 h1 ?_
    exact h _ _
  rw [Array.toArray_toList] at g
  exact tail_of_ItemOn ⟨"bytes", _, FB.slot_bytes_getitem.lookup, typeIs_bytes _ _ _, g⟩ hs ht
end
theorem b64Of_range (k : Int) : 0 ≤ b64Of k ∧ b64Of k < 256 := by
  unfold b64Of
  have := (b64S.toList.getD k.toNat 0).toNat_lt
  omega
theorem byteArr_get {ds : List Int} {i : Nat} {c : UInt8} (hds : ∀ k ∈ ds, 0 ≤ k ∧ k < 256) (h : (byteArr ds)[i]? = some c) : ds[i]? = some (c.toNat : Int) := by
  unfold byteArr at h
  rw [List.getElem?_toArray, List.getElem?_map] at h
  cases q : ds[i]? with
  | none => rw [q] at h; cases h
  | some k =>
    rw [q] at h
    have hk := hds k (List.mem_of_getElem? q)
    have e : k.toNat.toUInt8 = c := Option.some.inj h
    rw [← e]
    have h3 : (k.toNat.toUInt8).toNat = k.toNat := by
      rw [Nat.toUInt8, UInt8.toNat_ofNat']
      omega
    rw [h3]; congr 1; omega
def encTail (r : Nat) (v : Int) : List Int := if r = 0 then [] else if r = 1 then [b64Of (v % 4 * 16), 61, 61] else [b64Of (v % 16 * 4), 61]
def encOut (ds : List Int) : List Int := (encFold ds).1.map b64Of ++ encTail (encFold ds).2.1 (encFold ds).2.2
theorem tail1 {lc v : Int} (hv : lc % 256 = v) : Builtin.bitAnd lc 3 * 2 ^ Int.toNat 4 = v % 4 * 16 := by
  rw [bitAnd_m2, show (2 : Int) ^ Int.toNat 4 = 16 from rfl, ← hv, Int.emod_emod_of_dvd _ (by decide)]
theorem tail2 {lc v : Int} (hv : lc % 256 = v) : Builtin.bitAnd lc 15 * 2 ^ Int.toNat 2 = v % 16 * 4 := by
  rw [bitAnd_m4, show (2 : Int) ^ Int.toNat 2 = 4 from rfl, ← hv, Int.emod_emod_of_dvd _ (by decide)]
theorem encOut_range (ds : List Int) : ∀ k ∈ encOut ds, 0 ≤ k ∧ k < 256 := by
  intro k hk
  rcases List.mem_append.mp hk with hk | hk
  · obtain ⟨j, _, rfl⟩ := List.mem_map.mp hk
    exact b64Of_range j
  · unfold encTail at hk
    split at hk
    · cases hk
    · split at hk
      · simp only [List.mem_cons, List.not_mem_nil, or_false] at hk
        rcases hk with rfl | rfl | rfl
        · exact b64Of_range _
        · decide
        · decide
      · simp only [List.mem_cons, List.not_mem_nil, or_false] at hk
        rcases hk with rfl | rfl
        · exact b64Of_range _
        · decide
end Mine
end
noncomputable section
open PySem PySem.W PyProof.Rows
namespace Mine
inductive Tk where
  | num (n : Int)
  | txt (s : Str)
inductive RowAre : List Value → List Tk → Prop
  | nil : RowAre [] []
  | num (n : Int) (t u : Tok) {vs ts} : RowAre vs ts → RowAre (.int 100 t :: .int n u :: vs) (.num n :: ts)
  | txt (s : Str) (t u : Tok) {vs ts} : RowAre vs ts → RowAre (.int 0 t :: .str s u :: vs) (.txt s :: ts)
theorem RowAre.append {vs ws : List Value} {ts us : List Tk} (h : RowAre vs ts) (k : RowAre ws us) : RowAre (vs ++ ws) (ts ++ us) := by
  induction h with
  | nil => exact k
  | num n t u _ ih => exact .num n t u ih
  | txt s t u _ ih => exact .txt s t u ih
theorem RowAre.length {vs : List Value} {ts : List Tk} (h : RowAre vs ts) : vs.length = 2 * ts.length := by
  induction h with
  | nil => rfl
  | num n t u _ ih => exact congrArg (· + 2) ih
  | txt s t u _ ih => exact congrArg (· + 2) ih
theorem RowAre.split {us : List Tk} (ts : List Tk) : ∀ {vs : List Value}, RowAre vs (ts ++ us) → ∃ ws xs, vs = ws ++ xs ∧ RowAre ws ts ∧ RowAre xs us := by
  induction ts with
  | nil => exact fun h => ⟨[], _, rfl, .nil, h⟩
  | cons a ts ih =>
    intro vs h
    have h' : RowAre vs (a :: (ts ++ us)) := h
    cases h' with
    | num n t u k =>
      obtain ⟨ws, xs, rfl, h1, h2⟩ := ih k
      exact ⟨_ :: _ :: ws, xs, rfl, .num n t u h1, h2⟩
    | txt s t u k =>
      obtain ⟨ws, xs, rfl, h1, h2⟩ := ih k
      exact ⟨_ :: _ :: ws, xs, rfl, .txt s t u h1, h2⟩
theorem RowAre.lastNum {ts : List Tk} {vs : List Value} {n : Int} (h : RowAre vs (ts ++ [.num n])) : ∃ ws t u, vs = ws ++ [.int 100 t, .int n u] ∧ RowAre ws ts := by
  obtain ⟨ws, xs, rfl, h1, h2⟩ := h.split
  cases h2 with
  | num n t u k => cases k; exact ⟨ws, t, u, rfl, h1⟩
theorem RowAre.lastTxt {ts : List Tk} {vs : List Value} {s : Str} (h : RowAre vs (ts ++ [.txt s])) : ∃ ws t u, vs = ws ++ [.int 0 t, .str s u] ∧ RowAre ws ts := by
  obtain ⟨ws, xs, rfl, h1, h2⟩ := h.split
  cases h2 with
  | txt s t u k => cases k; exact ⟨ws, t, u, rfl, h1⟩
def starS : Str := Str.ofString "*!"
def digS : Str := Str.ofString "0123456789"
def unkS : Str := Str.ofString "unknown"
def kindOf (c : Nat) : Nat := if Txt.contains starS ⟨#[c]⟩ then 0 else if Txt.contains digS ⟨#[c]⟩ then 2 else 1
def digVal (c : Nat) : Int := Txt.find digS ⟨#[c]⟩
def putNum (kind : Nat) (acc : List Tk) (d : Int) : List Tk := if kind = 2 then (match acc with | .num n :: r => .num (10 * n + d) :: r | r => r) else .num (10 * 0 + d) :: acc
def putTxt (kind : Nat) (acc : List Tk) (s : Str) : List Tk := if kind = 1 then (match acc with | .txt x :: r => .txt (x ++ s) :: r | r => r) else .txt (Str.ofString "" ++ s) :: acc
def stepU (kind : Nat) (acc : List Tk) (c : Nat) : Nat × List Tk :=
  if Txt.contains starS ⟨#[c]⟩ then (0, acc) else if Txt.contains digS ⟨#[c]⟩ then (2, putNum kind acc (digVal c)) else (1, putTxt kind acc ⟨#[c]⟩)
noncomputable def walkF : Nat → List Nat → Nat → List Tk → List Tk
  | 0, _, _, acc => acc
  | n + 1, l, kind, acc => match l with
    | [] => acc
    | c :: r => if (c :: r).take 7 = unkS.cps.toList then walkF n (r.drop 6) kind acc else walkF n r (stepU kind acc c).1 (stepU kind acc c).2
def walkU (l : List Nat) (kind : Nat) (acc : List Tk) : List Tk := walkF l.length l kind acc
theorem drop_le6 (r : List Nat) (k : Nat) : (r.drop k).length ≤ r.length := (List.drop_sublist k r).length_le
theorem walkF_fuel (n : Nat) : ∀ (m : Nat) (l : List Nat) (kind : Nat) (acc : List Tk), l.length ≤ n → l.length ≤ m → walkF n l kind acc = walkF m l kind acc := by
  induction n with
  | zero =>
    intro m l kind acc h _
    cases l with
    | nil => cases m <;> rfl
    | cons c r => exact absurd h (Nat.not_succ_le_zero _)
  | succ n ih =>
    intro m l kind acc h h2
    cases l with
    | nil => cases m <;> rfl
    | cons c r =>
      cases m with
      | zero => exact absurd h2 (Nat.not_succ_le_zero _)
      | succ m =>
        have h := Nat.le_of_succ_le_succ h
        have h2 := Nat.le_of_succ_le_succ h2
        show (if _ then _ else _) = (if _ then _ else _)
        rw [ih m (r.drop 6) kind acc (Nat.le_trans (drop_le6 r 6) h) (Nat.le_trans (drop_le6 r 6) h2), ih m r _ _ h h2]
theorem walkU_nil (kind : Nat) (acc : List Tk) : walkU [] kind acc = acc := rfl
theorem walkU_cons (c : Nat) (r : List Nat) (kind : Nat) (acc : List Tk) : walkU (c :: r) kind acc = if (c :: r).take 7 = unkS.cps.toList then walkU (r.drop 6) kind acc else walkU r (stepU kind acc c).1 (stepU kind acc c).2 := by
  unfold walkU
  rw [walkF_fuel (r.drop 6).length r.length _ kind acc (Nat.le_refl _) (drop_le6 r 6)]
  rfl
def GoodAcc (kind : Nat) (acc : List Tk) : Prop := (kind = 2 → ∃ n r, acc = .num n :: r) ∧ (kind = 1 → ∃ s r, acc = .txt s :: r) ∧ kind ≤ 2
theorem stepU_good {kind : Nat} {acc : List Tk} (c : Nat) (h : GoodAcc kind acc) : GoodAcc (stepU kind acc c).1 (stepU kind acc c).2 := by
  unfold stepU
  split
  · exact ⟨fun e => (nomatch e), fun e => (nomatch e), Nat.le_of_ble_eq_true rfl⟩
  · split
    · refine ⟨fun _ => ?_, fun e => (nomatch e), Nat.le_of_ble_eq_true rfl⟩
      unfold putNum
      split
      · rename_i q; obtain ⟨n, r, rfl⟩ := h.1 q; exact ⟨_, _, rfl⟩
      · exact ⟨_, _, rfl⟩
    · refine ⟨fun e => (nomatch e), fun _ => ?_, Nat.le_of_ble_eq_true rfl⟩
      unfold putTxt
      split
      · rename_i q; obtain ⟨n, r, rfl⟩ := h.2.1 q; exact ⟨_, _, rfl⟩
      · exact ⟨_, _, rfl⟩
theorem walkU_lost {l : List Nat} {kind : Nat} {acc : List Tk} (h : l.take 7 = unkS.cps.toList) : walkU l kind acc = walkU (l.drop 7) kind acc := by
  cases l with
  | nil => exact absurd h (by decide)
  | cons c r => rw [walkU_cons, if_pos h]; rfl
theorem walkU_step {l : List Nat} {c : Nat} {r : List Nat} {kind : Nat} {acc : List Tk} (e : l = c :: r) (h : l.take 7 ≠ unkS.cps.toList) : walkU l kind acc = walkU r (stepU kind acc c).1 (stepU kind acc c).2 := by
  subst e; rw [walkU_cons, if_neg h]
def rowAcc (ps : List Str) : List Tk := ps.foldl (fun acc s => walkU s.cps.toList 0 acc) []
theorem rowAcc_take {ps : List Str} {i : Nat} {x : Str} (h : ps[i]? = some x) : rowAcc (ps.take (i + 1)) = walkU x.cps.toList 0 (rowAcc (ps.take i)) := by
  unfold rowAcc; rw [List.take_add_one, h]; simp
theorem stepU_len (kind : Nat) (acc : List Tk) (c : Nat) : (stepU kind acc c).2.length ≤ acc.length + 1 := by
  unfold stepU
  split
  · exact Nat.le_succ _
  · split
    · show (putNum kind acc (digVal c)).length ≤ _
      unfold putNum; split
      · split
        · simp
        · exact Nat.le_succ _
      · simp
    · show (putTxt kind acc ⟨#[c]⟩).length ≤ _
      unfold putTxt; split
      · split
        · simp
        · exact Nat.le_succ _
      · simp
theorem walkU_len (l : List Nat) : ∀ (kind : Nat) (acc : List Tk), (walkU l kind acc).length ≤ acc.length + l.length := by
  have key : ∀ n (l : List Nat), l.length ≤ n → ∀ (kind : Nat) (acc : List Tk), (walkU l kind acc).length ≤ acc.length + l.length := by
    intro n
    induction n with
    | zero => intro l hl kind acc; cases l with
      | nil => exact Nat.le_refl _
      | cons c r => simp at hl
    | succ n ih =>
      intro l hl kind acc
      cases l with
      | nil => exact Nat.le_refl _
      | cons c r =>
        rw [walkU_cons]
        simp only [List.length_cons] at hl ⊢
        split
        · have := ih (r.drop 6) (by rw [List.length_drop]; omega) kind acc
          rw [List.length_drop] at this; omega
        · have := ih r (by omega) (stepU kind acc c).1 (stepU kind acc c).2
          have := stepU_len kind acc c
          omega
  exact key l.length l (Nat.le_refl _)
theorem rowAcc_len : ∀ (ps : List Str) (acc : List Tk), (ps.foldl (fun acc s => walkU s.cps.toList 0 acc) acc).length ≤ acc.length + (ps.map Str.length).sum
  | [], acc => by simp
  | x :: r, acc => by
    have h1 := rowAcc_len r (walkU x.cps.toList 0 acc)
    have h2 := walkU_len x.cps.toList 0 acc
    have h3 : x.cps.toList.length = x.length := by simp [Str.length]
    simp only [List.foldl_cons, List.map_cons, List.sum_cons]
    omega
end Mine
end
noncomputable section
open PySem PySem.W PyProof.Rows
namespace Mine
def WEnd (h₀ : Heap) (L : Addr) (J : Nat → (Str → Option Value) → List (Addr × Obj) → Prop) (n : Nat) (s : Shared) (Q : Flow → Shared → Prop) (f : Flow) (s₃ : Shared) : Prop :=
  match f with
  | .ret v => Q (.ret v) s₃
  | .brk => Q .next s₃
  | _ => ∃ k h' tk m₂ news₂, k < n ∧ s₃ = { s with heap := h', toks := tk } ∧ Fr h₀ L h' m₂ ∧ News h₀ L h' news₂ ∧ J k m₂ news₂
theorem WEnd.go {h₀ : Heap} {L : Addr} {J : Nat → (Str → Option Value) → List (Addr × Obj) → Prop} {n k : Nat} {s : Shared} {Q : Flow → Shared → Prop} {h' : Heap} {tk : Nat} {m₂ : Str → Option Value} {ledger news₂ : List (Addr × Obj)}
    (F : Fr h₀ L h' m₂) (N : News h₀ L h' ledger) (hk : k < n) (hsub : ∀ p ∈ news₂, p ∈ ledger) (hj : J k m₂ news₂) : WEnd h₀ L J n s Q .next { s with heap := h', toks := tk } :=
  ⟨k, h', tk, m₂, news₂, hk, rfl, F, fun p hp => N p (hsub p hp), hj⟩
section
variable {prog : Program} {w : World} {A : Around} {E : Value → Shared → Prop} {s : Shared} {env : Env} {h₀ : Heap} {test : PySem.Expr} {body : List Stmt} {Q : Flow → Shared → Prop}
theorem while_led {pos : Pos} {n : Nat} {m₀ : Str → Option Value} {news : List (Addr × Obj)} (J : Nat → (Str → Option Value) → List (Addr × Obj) → Prop)
    (F : Fr h₀ env.locals s.heap m₀) (N : News h₀ env.locals s.heap news) (hj : J n m₀ news)
    (turn : ∀ n m₁ news₁ h tk, J n m₁ news₁ → Fr h₀ env.locals h m₁ → News h₀ env.locals h news₁ →
      wpAny (model prog w) A (isTrue test env (eval test env)) (fun b s₂ => WhlIf b (wpAny (model prog w) A (execs body env) (WEnd h₀ env.locals J n s Q) E s₂) (Q .next s₂)) E { s with heap := h, toks := tk })
    (hE : PassesOwn (model prog w) A env E) :
    wpAny (model prog w) A (exec (.While test body [] pos) env) Q E s := by
  refine wpAny_While ?_
  refine codeAny_whileLoop (fun n s' => ∃ m₁ news₁ h tk, s' = { s with heap := h, toks := tk } ∧ Fr h₀ env.locals h m₁ ∧ News h₀ env.locals h news₁ ∧ J n m₁ news₁) ?_ n ⟨m₀, news, s.heap, s.toks, rfl, F, N, hj⟩
  rintro n s' ⟨m₁, news₁, h, tk, rfl, F₁, N₁, hJ⟩
  refine wpAny_passesOwn hE (wpAny_mono (turn n m₁ news₁ h tk hJ F₁ N₁) (fun b s₂ h₂ => ?_) fun _ _ e => e)
  cases b with
  | false =>
    unfold WhlIf at h₂
    rw [if_neg Bool.false_ne_true] at h₂
    simp only [Bool.false_eq_true, if_false]
    exact wpAny_execs_nil h₂
  | true =>
    unfold WhlIf at h₂
    rw [if_pos rfl] at h₂
    simp only [if_true]
    refine wpAny_passesOwn hE (wpAny_mono h₂ (fun f s₃ h₃ => ?_) fun _ _ e => e)
    cases f with
    | next =>
      obtain ⟨k, h', tk', m₂, news₂, hk, rfl, F₂, N₂, hJ₂⟩ := h₃
      exact ⟨k, hk, m₂, news₂, h', tk', rfl, F₂, N₂, hJ₂⟩
    | cont =>
      obtain ⟨k, h', tk', m₂, news₂, hk, rfl, F₂, N₂, hJ₂⟩ := h₃
      exact ⟨k, hk, m₂, news₂, h', tk', rfl, F₂, N₂, hJ₂⟩
    | brk => exact h₃
    | ret v => exact h₃
end
end Mine
namespace Mine
theorem News.swap {h₀ h : Heap} {L : Addr} {a b : Addr × Obj} {l : List (Addr × Obj)} (N : News h₀ L h (a :: b :: l)) : News h₀ L h (b :: a :: l) := fun p hp => N p (by
  rcases List.mem_cons.mp hp with rfl | hp
  · exact .tail _ (.head _)
  · rcases List.mem_cons.mp hp with rfl | hp
    · exact .head _
    · exact .tail _ (.tail _ hp))
end Mine
namespace Mine
theorem sum_take_le (l : List Str) (i : Nat) : ((l.take i).map Str.length).sum ≤ (l.map Str.length).sum := by
  induction l generalizing i with
  | nil => simp
  | cons x r ih => cases i with
    | zero => simp
    | succ i => simp only [List.take_succ_cons, List.map_cons, List.sum_cons]; have := ih i; omega
end Mine
namespace Mine
abbrev stagesD : List (PyData × PyData) := [(.str (Str.ofString "dev"), .int 10), (.str (Str.ofString "alpha"), .int 20), (.str (Str.ofString "a"), .int 20), (.str (Str.ofString "beta"), .int 30), (.str (Str.ofString "b"), .int 30), (.str (Str.ofString "c"), .int 40), (.str (Str.ofString "RC"), .int 50), (.str (Str.ofString "rc"), .int 50), (.str (Str.ofString "pl"), .int 200), (.str (Str.ofString "p"), .int 200)]
def StagesAt (prog : Program) (w : World) (da : Addr) (od : Obj) : Prop := (da == sysModules) = false ∧ ∃ kvs, Obj.IsDictOf (PySem.strKind prog w) od kvs ∧ PyProof.V.FlatPairs PyData.str kvs stagesD
end Mine
namespace Mine
theorem News.drop23 {h₀ h : Heap} {L : Addr} {a b c : Addr × Obj} {l : List (Addr × Obj)} (N : News h₀ L h (a :: b :: c :: l)) : News h₀ L h (a :: l) := fun p hp => N p (by
  rcases List.mem_cons.mp hp with rfl | hp
  · exact .head _
  · exact .tail _ (.tail _ (.tail _ hp)))
end Mine
end
noncomputable section
open PySem PySem.W PyProof.Rows PySem.Calls
set_option maxRecDepth 100000
namespace Mine
section
variable {prog : Program} {w : World} {A : Around} {E : Value → Shared → Prop} {s : Shared} {h₀ : Heap} {L : Addr} {m : Str → Option Value} {news news' : List (Addr × Obj)}
theorem setItem_last {l : Addr} {items : Array Value} {n : Nat} {t : Tok} {v : Value} {Q : Unit → Shared → Prop} (ho : s.heap.get? l = some (W.listOf items n)) (hn : 0 < items.size)
    (hQ : Q () { s with heap := s.heap.update l (Obj.mapSeq (·.setIfInBounds (items.size - 1) v)) }) :
    wpAny (model prog w) A (setItem (.ref l) (.int (-1) t) v) Q E s := by
  have hl : s.heap.IsList l items := ⟨_, ho, rfl, _, rfl⟩
  have hd : (W.listOf items n).data = .seq items n := rfl
  unfold setItem
  try with_reducible refine wpAny_holding ?_
  first | refine wpAny_bind (wpAny_pure ?_) | skip
  refine wpAny_bind (wpAny_sequenceKey hl.typeIs (by decide) ?_)
  refine wpAny_bind (wpAny_callSpecial?_slot (name := Str.ofString "__setitem__") hl.typeIs slot_list_setitem
    (wpAny_call_entry slot_list_setitem hl.typeIs entry_list_setitem ?_ (args_list_setitem _ _ _)))
  show wpAny _ _ (Builtin.List.listSubscript? (.int (-1) t) >>= _) _ _ s
  refine wpAny_bind (wpAny_listSubscript_int (by decide) ?_)
  have hidx : seqIndex? (-1) items.size = some (items.size - 1) := by
    rw [seqIndex_neg (by decide) (by omega)]; congr 1; omega
  have hx' : items[items.size - 1]? = some items[items.size - 1] := Array.getElem?_eq_getElem (by omega)
  show wpAny _ _ ((Builtin.List.listItems (.ref l) >>= fun xs => pure ((seqIndex? (-1) xs.size).bind fun i => xs[i]?.map (i, ·))) >>= _) _ _ s
  refine wpAny_bind (wpAny_bind ?_)
  show wpAny _ _ (seqItems? (.ref l) >>= _) _ _ s
  refine wpAny_bind (wpAny_seqItems ho hd (wpAny_pure (wpAny_pure ?_)))
  simp only [Option.getD_some, hidx, Option.bind_some, hx', Option.map_some]
  show wpAny _ _ (setSeqItemAt l (items.size - 1) v >>= _) _ _ s
  refine wpAny_bind (wpAny_setSeqItemAt ho hd ?_)
  first
    | exact wpAny_bind (wpAny_pure (wpAny_pure ⟨.none, rfl, wpAny_pure hQ⟩))
    | exact wpAny_pure ⟨.none, rfl, wpAny_pure hQ⟩
/-- row[-1] = v -/
theorem setLastK {l : Addr} {ws : List Value} {x v : Value} {n : Nat} {t : Tok} {Q : Unit → Shared → Prop} (F : Fr h₀ L s.heap m) (N : News h₀ L s.heap news) (U : Upd l (W.listOf (ws ++ [x]).toArray n) (W.listOf (ws ++ [v]).toArray n) news news')
    (h : ∀ h', Fr h₀ L h' m → News h₀ L h' news' → Q () { s with heap := h' }) : wpAny (model prog w) A (setItem (.ref l) (.int (-1) t) v) Q E s := by
  obtain ⟨pre, post, rfl, rfl, a, b⟩ := U.split
  have z := N (l, W.listOf (ws ++ [x]).toArray n) (List.mem_append.mpr (.inr (.head _)))
  refine setItem_last z.1 (by simp) (h _ (F.change (Heap.SameBut.update ..) z.2.1 z.2.2) (ki_turn _ N a b ?_ ?_))
  · apply Array.toList_inj.mp
    simp
  · simp
theorem itemLastK {value slice : PySem.Expr} {l : Addr} {ws : List Value} {k : Nat} {u : Tok} {v : Value} {Q : Value → Shared → Prop} (N : News h₀ L s.heap news) (hl : (l, W.listOf (ws ++ [v]).toArray k) ∈ news) (hz : ws.length < 2 ^ 60) (h : Q v s)
    (hs : subscripted slice false (.ref l) (.int (-1) u) = operate [.ref l, .int (-1) u] (getItem (.ref l) (.int (-1) u)) := by with_unfolding_all rfl) :
    wpAny (model prog w) A (subscriptTail value slice (.ref l) (.int (-1) u)) Q E s := by
  have hL := led_list N hl
  have hsz : (ws ++ [v]).toArray.size = ws.length + 1 := by simp
  refine tail_any hL.typeIs slot_list_getitem.lookup (wpAny_getItem_list_neg hL (by decide) (by rw [hsz]; omega) (by decide) ?_ h) hs
  rw [hsz, show ((-1 : Int) + ((ws.length + 1 : Nat) : Int)).toNat = ws.length by omega]
  simp
theorem strItemK {value slice : PySem.Expr} {x : Str} {t u : Tok} {pl c : Nat} {Q : Value → Shared → Prop} (hc : x.cps[pl]? = some c) (hz : x.length < 2 ^ 60) (h : ∀ t' tk, Q (.str ⟨#[c]⟩ t') { s with toks := tk })
    (hs : subscripted slice false (.str x t) (.int (pl : Nat) u) = operate [.str x t, .int (pl : Nat) u] (getItem (.str x t) (.int (pl : Nat) u)) := by with_unfolding_all rfl)
    (ht : ∀ r, letTemporaryGo value (.str x t) r = pure () := by intro _; with_unfolding_all rfl) :
    wpAny (model prog w) A (subscriptTail value slice (.str x t) (.int (pl : Nat) u)) Q E s := by
  have hlt : pl < x.length := (Array.getElem?_eq_some_iff.mp hc).1
  have h1 : fitsSsize (pl : Int) = true := by
    unfold fitsSsize
    rw [decide_eq_false (by omega), decide_eq_false (by omega)]; rfl
  have h2 : Txt.item x (pl : Int) = ⟨#[c]⟩ := item_meets (by omega) (n := c) (by simpa using hc)
  have h3 : (1 ≤ (Txt.item x (pl : Int)).length ∧ (Txt.item x (pl : Int)).length ≤ 1) → Q (.str (Txt.item x (pl : Int)) s.toks) { s with toks := s.toks + 1 } := fun _ => by rw [h2]; exact h _ _
  exact item_str (value := value) (i := (pl : Int)) h1 (by omega) (by omega) h3 hs ht
end
theorem allLt_ne {d : Addr} : ∀ {l : List (Addr × Obj)}, AllLt d l → ∀ p ∈ l, p.1 ≠ d
  | [], _, _, hp => nomatch hp
  | q :: r, h, p, hp => by
    have h1 : @LT.lt Nat _ q.1 d := h.1
    have h2 : AllLt d r := h.2
    rcases List.mem_cons.mp hp with e | hp
    · rw [e]; exact Nat.ne_of_lt h1
    · exact allLt_ne h2 p hp
theorem drop_at {x : Str} {pl c : Nat} (hc : x.cps[pl]? = some c) : x.cps.toList.drop pl = c :: x.cps.toList.drop (pl + 1) := by
  have hlt : pl < x.cps.toList.length := by simpa using (Array.getElem?_eq_some_iff.mp hc).1
  rw [List.drop_eq_getElem_cons hlt]
  congr 1
  have := (Array.getElem?_eq_some_iff.mp hc).2
  simpa using this
theorem slice7 (x : Str) (pl : Nat) : Txt.slice x (some (pl : Int)) (some ((pl : Int) + 7)) = ⟨((x.cps.toList.drop pl).take 7).toArray⟩ := by
  rw [show ((pl : Int) + 7) = ((pl + 7 : Nat) : Int) by omega, slice_nat _ (by omega), show pl + 7 - pl = 7 by omega]
theorem lost_yes {x : Str} {pl : Nat} (h : (Txt.slice x (some (pl : Int)) (some ((pl : Int) + 7)) == Str.ofString "unknown") = true) : (x.cps.toList.drop pl).take 7 = unkS.cps.toList := by
  rw [slice7] at h
  have := congrArg (fun s => s.cps.toList) (eq_of_beq h)
  show _ = (Str.ofString "unknown").cps.toList
  simpa using this
theorem lost_no {x : Str} {pl : Nat} (h : (Txt.slice x (some (pl : Int)) (some ((pl : Int) + 7)) == Str.ofString "unknown") = false) : (x.cps.toList.drop pl).take 7 ≠ unkS.cps.toList := by
  intro e
  rw [slice7, e] at h
  exact absurd h (by decide)
theorem not_in {x : Str} {c : Nat} (h : (Builtin.Str.occurrences x ⟨#[c]⟩ 0 x.length 1).isEmpty = true) : Txt.contains x ⟨#[c]⟩ = false := by unfold Txt.contains; rw [h]; rfl
theorem yes_in {x : Str} {c : Nat} (h : (Builtin.Str.occurrences x ⟨#[c]⟩ 0 x.length 1).isEmpty = false) : Txt.contains x ⟨#[c]⟩ = true := by unfold Txt.contains; rw [h]; rfl
theorem mem_in {x : Str} {c : Nat} (h : (Builtin.Str.occurrences x ⟨#[c]⟩ 0 x.length 1).isEmpty = false) : c ∈ x.cps.toList := by
  have := StrLaws.found_one x c
  rw [h] at this
  exact of_decide_eq_true this.symm
theorem stepU_txt {kd : Nat} {acc : List Tk} {c : Nat} (h1 : (Builtin.Str.occurrences (Str.ofString "*!") ⟨#[c]⟩ 0 (Str.ofString "*!").length 1).isEmpty = true)
    (h2 : (Builtin.Str.occurrences (Str.ofString "0123456789") ⟨#[c]⟩ 0 (Str.ofString "0123456789").length 1).isEmpty = true) : stepU kd acc c = (1, putTxt kd acc ⟨#[c]⟩) := by
  unfold stepU
  rw [show Txt.contains starS ⟨#[c]⟩ = false from not_in h1, show Txt.contains digS ⟨#[c]⟩ = false from not_in h2]; rfl
theorem stepU_num {kd : Nat} {acc : List Tk} {c : Nat} (h1 : (Builtin.Str.occurrences (Str.ofString "*!") ⟨#[c]⟩ 0 (Str.ofString "*!").length 1).isEmpty = true)
    (h2 : (Builtin.Str.occurrences (Str.ofString "0123456789") ⟨#[c]⟩ 0 (Str.ofString "0123456789").length 1).isEmpty = false) : stepU kd acc c = (2, putNum kd acc (digVal c)) := by
  unfold stepU
  rw [show Txt.contains starS ⟨#[c]⟩ = false from not_in h1, show Txt.contains digS ⟨#[c]⟩ = true from yes_in h2]; rfl
theorem stepU_sep {kd : Nat} {acc : List Tk} {c : Nat} (h1 : (Builtin.Str.occurrences (Str.ofString "*!") ⟨#[c]⟩ 0 (Str.ofString "*!").length 1).isEmpty = false) : stepU kd acc c = (0, acc) := by
  unfold stepU
  rw [show Txt.contains starS ⟨#[c]⟩ = true from yes_in h1]; rfl
theorem walk_on {x : Str} {pl c kd k2 : Nat} {acc a2 : List Tk} {W : List Tk} (hd : x.cps.toList.drop pl = c :: x.cps.toList.drop (pl + 1)) (hn : (x.cps.toList.drop pl).take 7 ≠ unkS.cps.toList) (e : stepU kd acc c = (k2, a2))
    (h : W = walkU (x.cps.toList.drop pl) kd acc) : W = walkU (x.cps.toList.drop (pl + 1)) k2 a2 := by
  rw [h, walkU_step hd hn, e]
theorem good_on {kd c k2 : Nat} {acc a2 : List Tk} (e : stepU kd acc c = (k2, a2)) (h : GoodAcc kd acc) : GoodAcc k2 a2 := by
  have := stepU_good c h; rw [e] at this; exact this
theorem len_on {kd c k2 n : Nat} {acc a2 : List Tk} (e : stepU kd acc c = (k2, a2)) (h : acc.length ≤ n) : a2.length ≤ n + 1 := by
  have := stepU_len kd acc c; rw [e] at this; dsimp only at this; omega
theorem putTxt_new {kd : Nat} {acc : List Tk} {y : Str} (h : kd ≠ 1) : putTxt kd acc y = .txt (Str.ofString "" ++ y) :: acc := by unfold putTxt; rw [if_neg h]
theorem putTxt_add {kd : Nat} {acc : List Tk} {x y : Str} (h : kd = 1) : putTxt kd (.txt x :: acc) y = .txt (x ++ y) :: acc := by unfold putTxt; rw [if_pos h]
theorem putNum_new {kd : Nat} {acc : List Tk} {d : Int} (h : kd ≠ 2) : putNum kd acc d = .num (10 * 0 + d) :: acc := by unfold putNum; rw [if_neg h]
theorem putNum_add {kd : Nat} {acc : List Tk} {n d : Int} (h : kd = 2) : putNum kd (.num n :: acc) d = .num (10 * n + d) :: acc := by unfold putNum; rw [if_pos h]
end Mine
end
noncomputable section
open PySem PySem.W PyProof.Rows PySem.Calls
set_option maxRecDepth 100000
namespace Mine
section
variable {prog : Program} {w : World} {A : Around} {h₀ : Heap} {L : Addr} {m : Str → Option Value} {env : Env} {elt : PySem.Expr} {x : Str} {scope : Scope} {cl : List (Str × Addr)} {s : Shared} {S : List (Addr × Obj) → Prop} {P : Nat → Value → Prop} {Fin : List Value → List (Addr × Obj) → Prop} {news : List (Addr × Obj)}
/-- a comprehension's turns, with any relation between place and element; the ledger stays -/
theorem comp_rest {n : Nat} (R : Nat → Value → Prop)
    (turn : ∀ i v I oI C oC D m₂ ys h tk (E' : Value → Shared → Prop), i < n → P i v → LCg.NsObj oC m₂ → m₂ x = some v → Fr h₀ L h m → News h₀ L h ((I, oI) :: (C, oC) :: (D, LCg.lst ys) :: news) → LCg.Off3 I C D news → ((@Ne Nat I C) ∧ (@Ne Nat I D) ∧ (@Ne Nat C D)) →
      wpAny (model prog w) A (eval elt (compEnvC scope cl C env)) (LCg.CompEnd h₀ L m { s with heap := h, toks := tk } I oI C oC D (LCg.lst ys) S (fun y news' => news' = news ∧ R i y)) E' { s with heap := h, toks := tk })
    (fin : ∀ ys : List Value, ys.length = n → (∀ i y, ys[i]? = some y → R i y) → Fin ys news) : LCg.CompRest prog w A h₀ L m env elt x scope cl s S P Fin n 0 [] news := by
  have key : ∀ (j i : Nat) (ys : List Value), i + j = n → ys.length = i → (∀ i y, ys[i]? = some y → R i y) → LCg.CompRest prog w A h₀ L m env elt x scope cl s S P Fin j i ys news := by
    intro j
    induction j with
    | zero =>
      intro i ys hi hl hy
      exact LCg.CompRest.zero (fin ys (by omega) hy)
    | succ j ih =>
      intro i ys hi hl hy
      refine LCg.CompRest.succ ?_
      intro v I oI C oC D m₂ h tk E' hv hC hx F N off ne
      refine wpAny_mono (turn i v I oI C oC D m₂ ys h tk E' (by omega) hv hC hx F N off ne) (fun y s₂ hq => ?_) fun _ _ e => e
      obtain ⟨h', tk', nw, e, F', N', off', hS, hn, hR⟩ := hq
      rw [hn] at N' off' hS
      refine ⟨h', tk', news, e, F', N', off', hS, ?_⟩
      refine ih (i + 1) _ (by omega) (by simp [hl]) ?_
      intro k z hk
      by_cases hlt : k < ys.length
      · rw [List.getElem?_append_left hlt] at hk; exact hy k z hk
      · rw [List.getElem?_append_right (by omega)] at hk
        have h0 : k - ys.length = 0 := by
          rcases Nat.eq_zero_or_pos (k - ys.length) with e | e
          · exact e
          · rw [List.getElem?_eq_none (by simp; omega)] at hk; cases hk
        rw [h0] at hk
        cases hk
        have : k = i := by omega
        rw [this]; exact hR
  exact key n 0 [] (by omega) rfl (fun i y h => by simp at h)
end
/-- what row[k] becomes -/
def stageD (x : Str) : PyData := (PySem.Spec.lookup (.str x) stagesD).getD (.int 0)
theorem lookup_int {k : PyData} : ∀ {D : List (PyData × PyData)}, (∀ p ∈ D, ∃ n, p.2 = .int n) → ∃ n, (PySem.Spec.lookup k D).getD (.int 0) = .int n
  | [], _ => ⟨0, rfl⟩
  | (a, b) :: D, h => by
    unfold PySem.Spec.lookup
    split
    · exact h _ (.head _)
    · exact lookup_int fun p hp => h p (.tail _ hp)
theorem stageD_int (x : Str) : ∃ n, stageD x = .int n := lookup_int (by
  intro p hp
  simp only [stagesD, List.mem_cons, List.not_mem_nil, or_false] at hp
  rcases hp with rfl | rfl | rfl | rfl | rfl | rfl | rfl | rfl | rfl | rfl <;> exact ⟨_, rfl⟩)
def stageI (x : Str) : Int := match stageD x with | .int n => n | _ => 0
theorem stageD_eq (x : Str) : stageD x = .int (stageI x) := by
  obtain ⟨n, e⟩ := stageD_int x
  unfold stageI; rw [e]
def outV (rv : List Value) (i : Nat) (y : Value) : Prop :=
  (rv[i]? = some y ∧ (i % 2 = 1 ∨ ∃ t, y = .int 100 t)) ∨ (i % 2 = 0 ∧ ∃ t x u, rv[i]? = some (.int 0 t) ∧ rv[i + 1]? = some (.str x u) ∧ ∃ t', y = .int (stageI x) t')
inductive OutAre : List Value → List Tk → Prop
  | nil : OutAre [] []
  | num (n : Int) (t u : Tok) {vs ts} : OutAre vs ts → OutAre (.int 100 t :: .int n u :: vs) (.num n :: ts)
  | txt (x : Str) (t u : Tok) {vs ts} : OutAre vs ts → OutAre (.int (stageI x) t :: .str x u :: vs) (.txt x :: ts)
theorem outV_tail {a b : Value} {rv : List Value} {i : Nat} {y : Value} (h : outV (a :: b :: rv) (i + 2) y) : outV rv i y := by
  rcases h with ⟨h1, h2⟩ | ⟨h1, t, x, u, h2, h3, h4⟩
  · exact .inl ⟨by simpa using h1, h2.imp (by omega) id⟩
  · exact .inr ⟨by omega, t, x, u, by simpa using h2, by simpa using h3, h4⟩
theorem outAre_of : ∀ {rv : List Value} {ts : List Tk} {ys : List Value}, RowAre rv ts → ys.length = rv.length → (∀ i y, ys[i]? = some y → outV rv i y) → OutAre ys ts
  | _, _, [], .nil, _, _ => .nil
  | _, _, _ :: _, .nil, h, _ => by simp at h
  | _, _, [], .num n t u r, h, _ => by simp at h
  | _, _, [_], .num n t u r, h, _ => by simp at h
  | _, _, [], .txt n t u r, h, _ => by simp at h
  | _, _, [_], .txt n t u r, h, _ => by simp at h
  | _, _, y1 :: y2 :: ys, .num n t u r, h, hy => by
    have h1 := hy 0 y1 rfl
    have h2 := hy 1 y2 rfl
    have hr := outAre_of r (ys := ys) (by simpa using h) (fun i y e => outV_tail (hy (i + 2) y (by simpa using e)))
    rcases h1 with ⟨e1, _⟩ | ⟨_, t', x, u', e1, _⟩
    · cases e1
      rcases h2 with ⟨e2, _⟩ | ⟨e2, _⟩
      · cases e2
        exact .num n t u hr
      · cases e2
    · cases e1
  | _, _, y1 :: y2 :: ys, .txt x t u r, h, hy => by
    have h1 := hy 0 y1 rfl
    have h2 := hy 1 y2 rfl
    have hr := outAre_of r (ys := ys) (by simpa using h) (fun i y e => outV_tail (hy (i + 2) y (by simpa using e)))
    rcases h2 with ⟨e2, _⟩ | ⟨e2, _⟩
    · cases e2
      rcases h1 with ⟨e1, e3⟩ | ⟨_, t', x', u', e1, e2, t2, rfl⟩
      · rcases e3 with e3 | ⟨t', e3⟩
        · cases e3
        · cases e1; cases e3
      · cases e2
        exact .txt x t2 u hr
    · cases e2
theorem RowAre.at {rv : List Value} {ts : List Tk} (h : RowAre rv ts) : ∀ {i : Nat}, i < rv.length →
    (i % 2 = 1 ∧ ∃ v, rv[i]? = some v) ∨ (i % 2 = 0 ∧ ∃ t, rv[i]? = some (.int 100 t)) ∨ (i % 2 = 0 ∧ ∃ t x u, rv[i]? = some (.int 0 t) ∧ rv[i + 1]? = some (.str x u)) := by
  induction h with
  | nil => exact fun h => absurd h (Nat.not_lt_zero _)
  | num n t u _ ih =>
    intro i h
    match i with
    | 0 => exact .inr (.inl ⟨rfl, t, rfl⟩)
    | 1 => exact .inl ⟨rfl, _, rfl⟩
    | i + 2 =>
      rcases ih (i := i) (Nat.lt_of_succ_lt_succ (Nat.lt_of_succ_lt_succ h)) with ⟨h1, h2⟩ | ⟨h1, h2⟩ | ⟨h1, h2⟩
      · exact .inl ⟨(Nat.add_mod_right i 2).trans h1, h2⟩
      · exact .inr (.inl ⟨(Nat.add_mod_right i 2).trans h1, h2⟩)
      · exact .inr (.inr ⟨(Nat.add_mod_right i 2).trans h1, h2⟩)
  | txt x t u _ ih =>
    intro i h
    match i with
    | 0 => exact .inr (.inr ⟨rfl, t, x, u, rfl, rfl⟩)
    | 1 => exact .inl ⟨rfl, _, rfl⟩
    | i + 2 =>
      rcases ih (i := i) (Nat.lt_of_succ_lt_succ (Nat.lt_of_succ_lt_succ h)) with ⟨h1, h2⟩ | ⟨h1, h2⟩ | ⟨h1, h2⟩
      · exact .inl ⟨(Nat.add_mod_right i 2).trans h1, h2⟩
      · exact .inr (.inl ⟨(Nat.add_mod_right i 2).trans h1, h2⟩)
      · exact .inr (.inr ⟨(Nat.add_mod_right i 2).trans h1, h2⟩)
theorem stagesTab {prog : Program} {w : World} {da : Addr} {od : Obj} {h₀ : Heap} {s : Shared} {L : Addr} {news : List (Addr × Obj)} (hs : StagesAt prog w da od) (N : News h₀ L s.heap news) (hm : (da, od) ∈ news) : StrTab prog w s.heap da stagesD := by
  obtain ⟨lo, kvs, hd, hf⟩ := hs
  exact ⟨lo, kvs, kda_dict N hm hd, hf⟩
theorem stagesMethod {prog : Program} {w : World} {A : Around} {E : Value → Shared → Prop} {s : Shared} {da : Addr} {od : Obj} {h₀ : Heap} {L : Addr} {news : List (Addr × Obj)} {pl : Sem Bool} {Q : Value × List Value → Shared → Prop} (hs : StagesAt prog w da od) (N : News h₀ L s.heap news) (hm : (da, od) ∈ news)
    (h : Q (.builtin "dict.get", [.ref da]) s) : wpAny (model prog w) A (getMethod (.ref da) "get" pl) Q E s := by
  obtain ⟨lo, kvs, hd, hf⟩ := hs
  exact kdg_method N hm hd h
theorem stagesGet {prog : Program} {w : World} {A : Around} {E : Value → Shared → Prop} {s : Shared} {da : Addr} {od : Obj} {h₀ : Heap} {L : Addr} {news : List (Addr × Obj)} {x : Str} {t u : Tok} {Q : Value → Shared → Prop} (hs : StagesAt prog w da od) (N : News h₀ L s.heap news) (hm : (da, od) ∈ news)
    (h : ∀ t' tk, Q (.int (stageI x) t') { s with toks := tk }) : wpAny (model prog w) A (call (.builtin "dict.get") [.ref da, .str x t, .int 0 u]) Q E s :=
  call_get2_strTab (stagesTab hs N hm) (PyProof.V.Flat.int 0 u) fun v hv => by
    have hv' : PyProof.V.Flat v (stageD x) := hv
    rw [stageD_eq] at hv'
    obtain ⟨t', rfl⟩ := PyProof.V.Flat.int_inv hv'
    exact h t' _
end Mine
namespace Mine
section
variable {prog : Program} {w : World} {A : Around} {h₀ : Heap} {L : Addr} {m : Str → Option Value} {env : Env} {elt : PySem.Expr} {x : Str} {scope : Scope} {cl : List (Str × Addr)} {s : Shared} {Fin : Shared → List Value → List (Addr × Obj) → Prop} {news : List (Addr × Obj)}
def RowEl (news : List (Addr × Obj)) (P : Value → Prop) (y : Value) (news' : List (Addr × Obj)) : Prop := news' = news ∧ P y
theorem comp_row {rv : List Value} {ts : List Tk} {r : Addr} {t u v : Tok} (hrv : RowAre rv ts) (hl : rv.length ≤ 400) (hh : A.handled = none) (F : Fr h₀ L s.heap m) (N : News h₀ L s.heap news) (hr : IsRange s.heap r 0 (rv.length : Nat) 1 t u v)
    (odd : ∀ g i t v I oI C oC D m₂ ys h tk (E' : Value → Shared → Prop), rv[i]? = some v → i < rv.length → Int.fmod (i : Nat) 2 = 1 → LCg.NsObj oC m₂ → m₂ x = some (.int (i : Nat) t) → Fr h₀ L h m → News h₀ L h ((I, oI) :: (C, oC) :: (D, LCg.lst ys) :: news) → LCg.Off3 I C D news → ((@Ne Nat I C) ∧ (@Ne Nat I D) ∧ (@Ne Nat C D)) →
      wpAny (model prog w) A (eval elt (compEnvC scope cl C env)) (LCg.CompEnd h₀ L m { { s with heap := g } with heap := h, toks := tk } I oI C oC D (LCg.lst ys) (fun _ => True) (RowEl news (fun y => y = v))) E' { { s with heap := g } with heap := h, toks := tk })
    (num : ∀ g i t tv I oI C oC D m₂ ys h tk (E' : Value → Shared → Prop), rv[i]? = some (.int 100 tv) → i < rv.length → Int.fmod (i : Nat) 2 = 0 → LCg.NsObj oC m₂ → m₂ x = some (.int (i : Nat) t) → Fr h₀ L h m → News h₀ L h ((I, oI) :: (C, oC) :: (D, LCg.lst ys) :: news) → LCg.Off3 I C D news → ((@Ne Nat I C) ∧ (@Ne Nat I D) ∧ (@Ne Nat C D)) →
      wpAny (model prog w) A (eval elt (compEnvC scope cl C env)) (LCg.CompEnd h₀ L m { { s with heap := g } with heap := h, toks := tk } I oI C oC D (LCg.lst ys) (fun _ => True) (RowEl news (fun y => y = .int 100 tv))) E' { { s with heap := g } with heap := h, toks := tk })
    (txt : ∀ g i t tv z tz I oI C oC D m₂ ys h tk (E' : Value → Shared → Prop), rv[i]? = some (.int 0 tv) → rv[i + 1]? = some (.str z tz) → i < rv.length → Int.fmod (i : Nat) 2 = 0 → LCg.NsObj oC m₂ → m₂ x = some (.int (i : Nat) t) → Fr h₀ L h m → News h₀ L h ((I, oI) :: (C, oC) :: (D, LCg.lst ys) :: news) → LCg.Off3 I C D news → ((@Ne Nat I C) ∧ (@Ne Nat I D) ∧ (@Ne Nat C D)) →
      wpAny (model prog w) A (eval elt (compEnvC scope cl C env)) (LCg.CompEnd h₀ L m { { s with heap := g } with heap := h, toks := tk } I oI C oC D (LCg.lst ys) (fun _ => True) (RowEl news (fun y => ∃ t', y = .int (stageI z) t'))) E' { { s with heap := g } with heap := h, toks := tk })
    (fin : ∀ g (ys : List Value), OutAre ys ts → Fin { s with heap := g } ys news) : LCg.CompSrc prog w A h₀ L m env elt x scope cl Fin (.ref r) s := by
  refine LCg.CompSrc.range (n := rv.length) hh F N hr (small_one (by omega) (by omega) (by omega) (by omega)) (rangeSize_nat _ _) (by rw [sizeLine_eq]; omega) fun g => ?_
  refine comp_rest (outV rv) ?_ fun ys hy hR => fin g ys (outAre_of hrv hy hR)
  rintro i v I oI C oC D m₂ ys h tk E' hi ⟨t', rfl⟩ hC hx F' N' off ne
  rw [Int.zero_add] at hx
  have hm : Int.fmod (i : Nat) 2 = ((i % 2 : Nat) : Int) := by rw [Int.fmod_eq_emod_of_nonneg _ (by decide)]; omega
  rcases hrv.at hi with ⟨h1, v', h2⟩ | ⟨h1, tv, h2⟩ | ⟨h1, tv, z, tz, h2, h3⟩
  · refine wpAny_mono (odd g i t' v' I oI C oC D m₂ ys h tk E' h2 hi (by rw [hm, h1]; rfl) hC hx F' N' off ne) (fun y s₂ hq => ?_) fun _ _ e => e
    obtain ⟨h', tk', nw, e, F2, N2, off', hS, hn, rfl⟩ := hq
    exact ⟨h', tk', nw, e, F2, N2, off', hS, hn, .inl ⟨h2, .inl h1⟩⟩
  · refine wpAny_mono (num g i t' tv I oI C oC D m₂ ys h tk E' h2 hi (by rw [hm, h1]; rfl) hC hx F' N' off ne) (fun y s₂ hq => ?_) fun _ _ e => e
    obtain ⟨h', tk', nw, e, F2, N2, off', hS, hn, rfl⟩ := hq
    exact ⟨h', tk', nw, e, F2, N2, off', hS, hn, .inl ⟨h2, .inr ⟨_, rfl⟩⟩⟩
  · refine wpAny_mono (txt g i t' tv z tz I oI C oC D m₂ ys h tk E' h2 h3 hi (by rw [hm, h1]; rfl) hC hx F' N' off ne) (fun y s₂ hq => ?_) fun _ _ e => e
    obtain ⟨h', tk', nw, e, F2, N2, off', hS, hn, t2, rfl⟩ := hq
    exact ⟨h', tk', nw, e, F2, N2, off', hS, hn, .inr ⟨h1, tv, z, tz, h2, h3, t2, rfl⟩⟩
theorem itemRow {value slice : PySem.Expr} {E : Value → Shared → Prop} {l : Addr} {vs : List Value} {k : Nat} {i : Nat} {u : Tok} {v : Value} {Q : Value → Shared → Prop} (N : News h₀ L s.heap news) (hl : (l, W.listOf vs.toArray k) ∈ news) (hz : vs.length ≤ 400)
    (hx : vs[i]? = some v) (h : Q v s)
    (hs : subscripted slice false (.ref l) (.int (i : Nat) u) = operate [.ref l, .int (i : Nat) u] (getItem (.ref l) (.int (i : Nat) u)) := by with_unfolding_all rfl) :
    wpAny (model prog w) A (subscriptTail value slice (.ref l) (.int (i : Nat) u)) Q E s := by
  have := (List.getElem?_eq_some_iff.mp hx).1
  exact itemK N hl (by omega) (by omega) (by simpa using hx) h hs
theorem itemRow1 {value slice : PySem.Expr} {E : Value → Shared → Prop} {l : Addr} {vs : List Value} {k : Nat} {i : Nat} {u : Tok} {v : Value} {Q : Value → Shared → Prop} (N : News h₀ L s.heap news) (hl : (l, W.listOf vs.toArray k) ∈ news) (hz : vs.length ≤ 400)
    (hx : vs[i + 1]? = some v) (h : Q v s)
    (hs : subscripted slice false (.ref l) (.int ((i : Nat) + 1) u) = operate [.ref l, .int ((i : Nat) + 1) u] (getItem (.ref l) (.int ((i : Nat) + 1) u)) := by with_unfolding_all rfl) :
    wpAny (model prog w) A (subscriptTail value slice (.ref l) (.int ((i : Nat) + 1) u)) Q E s := by
  have := (List.getElem?_eq_some_iff.mp hx).1
  exact itemK N hl (by omega) (by omega) (by rw [show (((i : Nat) : Int) + 1).toNat = i + 1 by omega]; exact hx) h hs
end
end Mine
end
noncomputable section
open PySem PySem.W PyProof.Rows
set_option pp.deepTerms false
set_option pp.maxSteps 2000
set_option maxRecDepth 100000
set_option maxHeartbeats 8000000
namespace Mine
section
variable {w : World} {p : Program} {loose : List Str} {mean : ExcName → Option Value} {mg mb : Str → Option Value}
  {dp un : Nat} {gd : Option (List Code)} {cn : Str} {cs : Scope} {a : Addr} {ccd : Value} {cl : List (Str × Addr)} {outer : List Env} {A₀ : Around} {base h₀ : Heap} {L : Addr} {m : Str → Option Value} {news : List (Addr × Obj)} {s : Shared} {Q E : Value → Shared → Prop}
local macro_rules | `(tactic| k_all) => `(tactic| assumption)
inductive ListW (x : Str) (tx : Tok) (row : List Tk) (da I L1 : Addr) (od oI oS : Obj) (news : List (Addr × Obj)) (n : Nat) (m₂ : Str → Option Value) (news₂ : List (Addr × Obj)) : Prop
  | mk (pl kd : Nat) (acc : List Tk) (ra : Addr) (rv : List Value) (kr : Nat) (oR : Obj) (t1 t2 : Tok) (h1 : n = x.length - pl) (h2 : pl ≤ x.length) (h3 : walkU x.cps.toList 0 row = walkU (x.cps.toList.drop pl) kd acc) (h4 : GoodAcc kd acc) (h5 : ∀ y r, kd = 1 → acc = .txt y :: r → y.length ≤ pl) (h6 : acc.length ≤ row.length + pl)
    (h7 : Has m₂ [(Str.ofString "piece", .str x tx), (Str.ofString "kind", .int (kd : Nat) t1), (Str.ofString "place", .int (pl : Nat) t2)]) (h8 : RowAre rv acc.reverse) (h9 : oR.data = .cell (some (.ref ra))) (h10 : (da : Nat) < ra ∧ (L1 + 1 + 1 : Nat) < ra ∧ (∀ p ∈ news, p.1 < ra) ∧ (ra : Nat) ≠ I)
    (h11 : news₂ = (ra, W.listOf rv.toArray kr) :: (I, oI) :: (da, od) :: (L1 + 1 + 1, oR) :: (L1 + 1, oS) :: news) : ListW x tx row da I L1 od oI oS news n m₂ news₂
theorem c_list {pl : Addr} {pv : List Value} {ps : List Str} {kp : Nat}
  (B : Below A₀ base outer h₀) (F : Fr h₀ L s.heap m) (X : (hd.heap_39 w.params).In h₀) (N : News h₀ L s.heap news) (T : Top p loose mean mg mb h₀) (hk : cs.kind = .function)
  (hpl : (pl, W.listOf pv.toArray kp) ∈ news) (hpv : StrsAre pv ps) (hlens : ∀ x ∈ ps, x.length ≤ 200) (hsum : (ps.map Str.length).sum ≤ 200)
  (hd : dp + 6 < recursionLimit)
  (hret : ∀ r ys h' tk', OutAre ys (rowAcc ps).reverse → Fr h₀ L h' m → News h₀ L h' ((r, W.listOf ys.toArray ys.length) :: news) → Q (.ref r) { s with heap := h', toks := tk' }) :
  wpAny (model PySem.Challenge.rw_mq0112_01.row.prog w) (ktrTop dp un gd cn cs L a ccd cl outer) (call (.ref 114) [.ref pl]) Q E s := by
  revert X; k_fill; intro X
  refine wpAny_call ?_
  k_dflt (refine' code_defC (binds := [(Str.ofString "pieces", .ref pl)]) ?k1 ?k2 ?k3 ?k4 ?k5 ?kA ?kF ?kK ?k6 ?k7 ?k8 ?k9 ?kB ?kD ?_ ?c2 ?c3 ?c4; ((case kA => exact rfl); (case kF => exact rfl); (case kK => assumption); (case k1 => k_asm); (case k2 => k_asm); (case k3 => k_asm); (case k4 => k_asm); (case k5 => k_asm); (case k6 => k_is); (case k7 => k_is); (case k8 => ktr_room); (case k9 => first | exact BindsTo.of_eq rfl | exact binds_K (by k_in) rfl (by k_is) rfl rfl rfl); (case kB => exact rfl); (case kD => decide +kernel); (case c2 => exact rfl); (case c3 => exact rfl); (case c4 => exact rfl); k_whole; intro g' L1 hh1 tk1 cells' FG1 F1 N1 Y' B1 X1 T1 l1; (try k_lt l1); k_cells Y'; (try simp only [List.cons_append, List.nil_append] at N1); (try dsimp only); (try k_lift B1); (try k_fold)))
  rename_i o1 o2 d1 d2
  have hc1 : ∀ p ∈ news, p.1 ≠ L1 + 1 := fun p hp => Nat.ne_of_lt (Nat.lt_succ_of_lt (l1 p hp))
  have hc2 : ∀ p ∈ news, p.1 ≠ L1 + 1 + 1 := fun p hp => Nat.ne_of_lt (Nat.lt_succ_of_lt (Nat.lt_succ_of_lt (l1 p hp)))
  repeat' ((fail_if_success (with_reducible show wpAny _ _ (pyIter _) _ _ _)); first | (k_unfold; (try dsimp only)) | walk1 | (dsimp only; walk1))
  rename_i hA od lo hdd hdf hap hlt1 hB oS dS ra0 hC hlt2 hD oR0 FF NN dR0
  have hstg : StagesAt PySem.Challenge.rw_mq0112_01.row.prog w hh1.objs.size od := ⟨lo, _, hdd, hdf⟩
  have hl0 : (∀ p ∈ news, p.1 < L1) := l1
  have hdl : (L1 + 1 + 1 : Nat) < hh1.objs.size := hlt1.1
  clear lo hdd hdf hap d1 d2 hlt1
  obtain ⟨da, hda⟩ : ∃ da, da = hh1.objs.size := ⟨_, rfl⟩
  rw [← hda] at NN hlt2 hstg dS hdl
  refine For_invVF FF rfl rfl ?_
  repeat' ((fail_if_success (with_reducible show wpAny _ _ (pyIter _) _ _ _)); first | (k_unfold; (try dsimp only)) | walk1 | (dsimp only; walk1))
  refine iter_led (vs := pv) (k := kp) (fun i m₁ news₁ => ∃ ra rv kr oR, RowAre rv (rowAcc (ps.take i)).reverse ∧ oR.data = .cell (some (.ref ra)) ∧ ((da : Nat) < ra ∧ (L1 + 1 + 1 : Nat) < ra ∧ (∀ p ∈ news, p.1 < ra)) ∧
    news₁ = (ra, W.listOf rv.toArray kr) :: (da, od) :: (L1 + 1 + 1, oR) :: (L1 + 1, oS) :: news) rfl ?_ FF NN ?_ ?_ ?_
  · rintro i m₁ news₁ ⟨ra, rv, kr, oR, _, _, _, rfl⟩
    exact .tail _ (.tail _ (.tail _ (.tail _ hpl)))
  · exact ⟨ra0, [], 0, oR0, .nil, dR0, ⟨hlt2.1, hlt2.2.1, fun p hp => Nat.lt_trans (l1 p hp) (Nat.lt_trans (Nat.lt_succ_of_lt (Nat.lt_succ_self _)) hlt2.2.1)⟩, rfl⟩
  · clear FF NN
    rintro i v m₁ news₁ h tk I oI hv ⟨ra, rv, kr, oR, hrv, dR, ⟨hr1, hr2, hr3⟩, rfl⟩ hne F1 N1
    obtain ⟨x, hx⟩ : ∃ x, ps[i]? = some x := by
      have h1 : i < pv.length := (List.getElem?_eq_some_iff.mp hv).1
      rw [Mine.StrsAre.length hpv] at h1
      exact ⟨_, List.getElem?_eq_getElem h1⟩
    obtain ⟨tx, hx'⟩ := Mine.StrsAre.get hpv (i := i) (List.getElem?_eq_some_iff.mp hx).1 x
    rw [List.getD_eq_getElem?_getD, hx] at hx'
    have hv' : v = .str x tx := Option.some.inj (hv.symm.trans hx')
    subst hv'
    have hxl := hlens x (List.mem_of_getElem? hx)
    have hI1 : (L1 + 1 : Nat) ≠ I := hne _ (.tail _ (.tail _ (.tail _ (.head _))))
    have hI2 : (L1 + 1 + 1 : Nat) ≠ I := hne _ (.tail _ (.tail _ (.head _)))
    have hI3 : (da : Nat) ≠ I := hne _ (.tail _ (.head _))
    (try dsimp only); (show wpAny _ _ _ _ _ _); k_fold
    repeat' ((fail_if_success (with_reducible show wpAny _ _ (exec (Stmt.While _ _ _ _) _) _ _ _)); first | (k_unfold; (try dsimp only)) | walk1 | (dsimp only; walk1))
    rename Fr _ _ _ _ => FF
    rename News _ _ _ _ => NN
    refine while_led (n := x.length) (ListW x tx (rowAcc (ps.take i)) da I L1 od oI oS news) FF (News.swap NN) ?_ ?_ ?_
    · refine ⟨0, 0, rowAcc (ps.take i), ra, rv, kr, oR, _, _, rfl, Nat.zero_le _, rfl, ⟨fun e => (nomatch e), fun e => (nomatch e), Nat.zero_le _⟩, fun _ _ e => (nomatch e), Nat.le_refl _, ⟨rfl, rfl, rfl, trivial⟩, hrv, dR, ⟨hr1, hr2, hr3, hne _ (.head _)⟩, rfl⟩
    · clear FF NN
      rintro n m₂ news₂ h2 tk2 ⟨pl, kd, acc, ra, rv, kr, oR, t1, t2, hn, hpl2, hwk, hgood, htl, hacl, hm, hrv, dR, ⟨hr1, hr2, hr3, hrI⟩, rfl⟩ F3 N3
      have F4 := Fr.has F3 hm
      clear F3
      have hacc0 : (rowAcc (ps.take i)).length ≤ 200 := by
        have h1 := rowAcc_len (ps.take i) []
        have h2 : ((ps.take i).map Str.length).sum ≤ (ps.map Str.length).sum := sum_take_le _ _
        simp only [List.length_nil, Nat.zero_add] at h1
        exact Nat.le_trans h1 (Nat.le_trans h2 hsum)
      have hrl : rv.length ≤ 800 := by rw [hrv.length, List.length_reverse]; omega
      (try dsimp only); (show wpAny _ _ _ _ _ _); k_fold
      repeat' ((fail_if_success (with_reducible show wpAny _ _ (pyIter _) _ _ _)); first | (k_unfold; (try dsimp only)) | walk1 | (dsimp only; walk1))
      by_cases hlt : pl < x.length
      · refine WhlIf.yes (decide_eq_true (by omega)) ?_
        have hlt' : (pl : Int) < x.length := by omega
        have hr4 : ∀ p ∈ news, p.1 ≠ ra := fun p hp => Nat.ne_of_lt (hr3 p hp)
        obtain ⟨c, hc⟩ : ∃ c, x.cps[pl]? = some c := ⟨_, Array.getElem?_eq_getElem hlt⟩
        have hdrop := drop_at hc
        have hx60 : x.length < 2 ^ 60 := by omega
        (try dsimp only); (show wpAny _ _ _ _ _ _); k_fold
        repeat' ((fail_if_success (with_reducible show wpAny _ _ (pyIter _) _ _ _)); first | (k_unfold; (try dsimp only)) | ((with_reducible show wpAny _ _ (subscriptTail _ _ (Value.str _ _) (Value.int _ _)) _ _ _); with_reducible ((with_unfolding_all refine' strItemK ?e ?z ?_ ?hs ?ht; (case e => assumption); (case z => assumption); (case hs => with_unfolding_all rfl); (case ht => (intro _; with_unfolding_all rfl)); k_whole; intro t' tk'; (try dsimp only)))) | ((with_reducible show wpAny _ _ (binaryOp _ (Value.ref _) (Value.ref _)) _ _ _); with_reducible ((k_here; k_dflt (refine' addK ?F ?N ?l ?b ?z ?_; (case F => k_asm); (case N => k_asm); (case l => k_mem); (case b => k_mem); (case z => (simp only [List.length_cons, List.length_nil]; rw [sizeLine_eq]; omega)); k_whole); intro r9 h10 lt10 F10 N10; (try k_lt lt10); (try k_sweep); (try dsimp only)))) | walk1 | (dsimp only; first | ((with_reducible show wpAny _ _ (subscriptTail _ _ (Value.str _ _) (Value.int _ _)) _ _ _); with_reducible ((with_unfolding_all refine' strItemK ?e ?z ?_ ?hs ?ht; (case e => assumption); (case z => assumption); (case hs => with_unfolding_all rfl); (case ht => (intro _; with_unfolding_all rfl)); k_whole; intro t' tk'; (try dsimp only)))) | ((with_reducible show wpAny _ _ (binaryOp _ (Value.ref _) (Value.ref _)) _ _ _); with_reducible ((k_here; k_dflt (refine' addK ?F ?N ?l ?b ?z ?_; (case F => k_asm); (case N => k_asm); (case l => k_mem); (case b => k_mem); (case z => (simp only [List.length_cons, List.length_nil]; rw [sizeLine_eq]; omega)); k_whole); intro r9 h10 lt10 F10 N10; (try k_lt lt10); (try k_sweep); (try dsimp only)))) | walk1))
        · have hyl := lost_yes (x := x) (pl := pl) (by assumption)
          have h7 : pl + 7 ≤ x.length := by
            have := congrArg List.length hyl
            rw [List.length_take, List.length_drop] at this
            have h8 : unkS.cps.toList.length = 7 := by decide
            have h9 : x.cps.toList.length = x.length := by simp [Str.length]
            omega
          refine WEnd.go (by assumption) (by assumption) (k := x.length - (pl + 7)) (by omega) (fun p hp => hp) ⟨pl + 7, kd, acc, ra, rv, kr, oR, _, _, rfl, h7, ?_, hgood, fun y r e1 e2 => Nat.le_trans (htl y r e1 e2) (by omega), by omega, ⟨rfl, rfl, rfl, trivial⟩, hrv, dR, ⟨hr1, hr2, hr3, hrI⟩, rfl⟩
          rw [hwk, walkU_lost hyl, List.drop_drop]
        · rename_i l9 h9 lt9
          (refine' storeX_C F10 N10 ?cA (.tail (Nat.ne_of_gt lt10.2.2.2.2.1) (.tail (Nat.ne_of_gt lt9.2.2.2.1) (.tail (Nat.ne_of_gt hr2) (.tail hI2.symm (.tail (Nat.ne_of_gt hdl) (.head (List.forall_mem_cons.mpr ⟨Nat.ne_of_lt (Nat.lt_succ_self _), hc2⟩))))))) dR ?_ ?aA ?bA)
          (case aA => rfl)
          (case bA => rfl)
          (case cA => rfl)
          intro h11 o11 F11 N11 d11
          clear F10 N10 lt9 F4 N3
          replace N11 := News.drop23 N11
          have hU := allLt_ne (l := (I, oI) :: (da, od) :: (L1 + 1 + 1, o11) :: (L1 + 1, oS) :: news) lt10.2.2
          have hr9 : ((da : Nat) < r9 ∧ (L1 + 1 + 1 : Nat) < r9 ∧ (∀ p ∈ news, p.1 < r9) ∧ (r9 : Nat) ≠ I) := ⟨lt10.2.2.2.1, lt10.2.2.2.2.1, fun p hp => Nat.lt_trans (hr3 p hp) lt10.2.1, Nat.ne_of_gt lt10.2.2.1⟩
          have hnl := lost_no (x := x) (pl := pl) (by assumption)
          have est := stepU_txt (kd := kd) (acc := acc) (c := c) (by assumption) (by assumption)
          rw [List.append_cons] at N11
          have hws : (rv ++ [Value.int 0 (tk + 1)]).length < 2 ^ 60 := by rw [List.length_append]; simp only [List.length_cons, List.length_nil]; omega
          have hkd : kd ≠ 1 := by omega
          repeat' ((fail_if_success (with_reducible show wpAny _ _ (pyIter _) _ _ _)); first | (k_unfold; (try dsimp only)) | ((with_reducible show wpAny _ _ (subscriptTail _ _ (Value.ref _) (Value.int _ _)) _ _ _); with_reducible ((with_unfolding_all refine' itemLastK ?N ?l ?z ?_ ?hs; (case N => k_asm); (case l => exact List.Mem.head _); (case z => assumption); (case hs => with_unfolding_all rfl); k_whole))) | ((with_reducible show wpAny _ _ (setItem (Value.ref _) (Value.int _ _) _) _ _ _); with_reducible ((k_here; k_dflt (refine' setLastK ?F ?N ?U ?_; (case F => k_asm); (case N => k_asm); (case U => exact .head (by assumption)); k_whole); intro h' F' N'; (try k_sweep)))) | walk1 | (dsimp only; first | ((with_reducible show wpAny _ _ (subscriptTail _ _ (Value.ref _) (Value.int _ _)) _ _ _); with_reducible ((with_unfolding_all refine' itemLastK ?N ?l ?z ?_ ?hs; (case N => k_asm); (case l => exact List.Mem.head _); (case z => assumption); (case hs => with_unfolding_all rfl); k_whole))) | ((with_reducible show wpAny _ _ (setItem (Value.ref _) (Value.int _ _) _) _ _ _); with_reducible ((k_here; k_dflt (refine' setLastK ?F ?N ?U ?_; (case F => k_asm); (case N => k_asm); (case U => exact .head (by assumption)); k_whole); intro h' F' N'; (try k_sweep)))) | walk1))
          refine WEnd.go (by assumption) (by assumption) (k := x.length - (pl + 1)) (by omega) (fun p hp => hp) ⟨pl + 1, 1, putTxt kd _ ⟨#[c]⟩, r9, _, _, o11, _, _, rfl, by omega, walk_on hdrop hnl est hwk, good_on est hgood, fun y r _ e2 => by rw [putTxt_new hkd] at e2; cases e2; rw [Str.length_append]; exact Nat.succ_le_succ (Nat.zero_le _), len_on est hacl, ⟨rfl, rfl, rfl, trivial⟩, ?_, d11, hr9, rfl⟩
          rw [putTxt_new hkd, List.reverse_cons, List.append_assoc]
          exact hrv.append (.txt _ _ _ .nil)
        · rename_i l9 h9 lt9
          (refine' storeX_C F10 N10 ?cB (.tail (Nat.ne_of_gt lt10.2.2.2.2.1) (.tail (Nat.ne_of_gt lt9.2.2.2.1) (.tail (Nat.ne_of_gt hr2) (.tail hI2.symm (.tail (Nat.ne_of_gt hdl) (.head (List.forall_mem_cons.mpr ⟨Nat.ne_of_lt (Nat.lt_succ_self _), hc2⟩))))))) dR ?_ ?aB ?bB)
          (case aB => rfl)
          (case bB => rfl)
          (case cB => rfl)
          intro h11 o11 F11 N11 d11
          clear F10 N10 lt9 F4 N3
          replace N11 := News.drop23 N11
          have hU := allLt_ne (l := (I, oI) :: (da, od) :: (L1 + 1 + 1, o11) :: (L1 + 1, oS) :: news) lt10.2.2
          have hr9 : ((da : Nat) < r9 ∧ (L1 + 1 + 1 : Nat) < r9 ∧ (∀ p ∈ news, p.1 < r9) ∧ (r9 : Nat) ≠ I) := ⟨lt10.2.2.2.1, lt10.2.2.2.2.1, fun p hp => Nat.lt_trans (hr3 p hp) lt10.2.1, Nat.ne_of_gt lt10.2.2.1⟩
          have hnl := lost_no (x := x) (pl := pl) (by assumption)
          have est := stepU_txt (kd := kd) (acc := acc) (c := c) (by assumption) (by assumption)
          have hkd : kd = 1 := by omega
          obtain ⟨y, r0, rfl⟩ := hgood.2.1 hkd
          have hyl := htl y r0 hkd rfl
          rw [List.reverse_cons] at hrv
          obtain ⟨ws, t5, u5, rfl, hws0⟩ := hrv.lastTxt
          rw [List.append_nil, List.append_cons] at N11
          have hws : (ws ++ [Value.int 0 t5]).length < 2 ^ 60 := by simp only [List.length_append, List.length_cons, List.length_nil] at hrl ⊢; omega
          repeat' ((fail_if_success (with_reducible show wpAny _ _ (pyIter _) _ _ _)); first | (k_unfold; (try dsimp only)) | ((with_reducible show wpAny _ _ (subscriptTail _ _ (Value.ref _) (Value.int _ _)) _ _ _); with_reducible ((with_unfolding_all refine' itemLastK ?N ?l ?z ?_ ?hs; (case N => k_asm); (case l => exact List.Mem.head _); (case z => assumption); (case hs => with_unfolding_all rfl); k_whole))) | ((with_reducible show wpAny _ _ (setItem (Value.ref _) (Value.int _ _) _) _ _ _); with_reducible ((k_here; k_dflt (refine' setLastK ?F ?N ?U ?_; (case F => k_asm); (case N => k_asm); (case U => exact .head (by assumption)); k_whole); intro h' F' N'; (try k_sweep)))) | walk1 | (dsimp only; first | ((with_reducible show wpAny _ _ (subscriptTail _ _ (Value.ref _) (Value.int _ _)) _ _ _); with_reducible ((with_unfolding_all refine' itemLastK ?N ?l ?z ?_ ?hs; (case N => k_asm); (case l => exact List.Mem.head _); (case z => assumption); (case hs => with_unfolding_all rfl); k_whole))) | ((with_reducible show wpAny _ _ (setItem (Value.ref _) (Value.int _ _) _) _ _ _); with_reducible ((k_here; k_dflt (refine' setLastK ?F ?N ?U ?_; (case F => k_asm); (case N => k_asm); (case U => exact .head (by assumption)); k_whole); intro h' F' N'; (try k_sweep)))) | walk1))
          refine WEnd.go (by assumption) (by assumption) (k := x.length - (pl + 1)) (by omega) (fun p hp => hp) ⟨pl + 1, 1, putTxt kd _ ⟨#[c]⟩, r9, _, _, o11, _, _, rfl, by omega, walk_on hdrop hnl est hwk, good_on est hgood, fun y2 r2 _ e2 => by rw [putTxt_add hkd] at e2; cases e2; rw [Str.length_append]; exact Nat.add_le_add hyl (Nat.le_refl 1), len_on est hacl, ⟨rfl, rfl, rfl, trivial⟩, ?_, d11, hr9, rfl⟩
          rw [putTxt_add hkd, List.reverse_cons, List.append_assoc]
          exact hws0.append (.txt _ _ _ .nil)
        · rename_i l9 h9 lt9
          (refine' storeX_C F10 N10 ?cC (.tail (Nat.ne_of_gt lt10.2.2.2.2.1) (.tail (Nat.ne_of_gt lt9.2.2.2.1) (.tail (Nat.ne_of_gt hr2) (.tail hI2.symm (.tail (Nat.ne_of_gt hdl) (.head (List.forall_mem_cons.mpr ⟨Nat.ne_of_lt (Nat.lt_succ_self _), hc2⟩))))))) dR ?_ ?aC ?bC)
          (case aC => rfl)
          (case bC => rfl)
          (case cC => rfl)
          intro h11 o11 F11 N11 d11
          clear F10 N10 lt9 F4 N3
          replace N11 := News.drop23 N11
          have hU := allLt_ne (l := (I, oI) :: (da, od) :: (L1 + 1 + 1, o11) :: (L1 + 1, oS) :: news) lt10.2.2
          have hr9 : ((da : Nat) < r9 ∧ (L1 + 1 + 1 : Nat) < r9 ∧ (∀ p ∈ news, p.1 < r9) ∧ (r9 : Nat) ≠ I) := ⟨lt10.2.2.2.1, lt10.2.2.2.2.1, fun p hp => Nat.lt_trans (hr3 p hp) lt10.2.1, Nat.ne_of_gt lt10.2.2.1⟩
          have hnl := lost_no (x := x) (pl := pl) (by assumption)
          have est := stepU_num (kd := kd) (acc := acc) (c := c) (by assumption) (by assumption)
          rw [List.append_cons] at N11
          have hws : (rv ++ [Value.int 100 (tk + 1)]).length < 2 ^ 60 := by rw [List.length_append]; simp only [List.length_cons, List.length_nil]; omega
          have hkd : kd ≠ 2 := by omega
          have hcd : c ∈ (Str.ofString "0123456789").cps.toList := mem_in (by assumption)
          repeat' ((fail_if_success (with_reducible show wpAny _ _ (pyIter _) _ _ _)); first | (k_unfold; (try dsimp only)) | ((with_reducible show wpAny _ _ (subscriptTail _ _ (Value.ref _) (Value.int _ _)) _ _ _); with_reducible ((with_unfolding_all refine' itemLastK ?N ?l ?z ?_ ?hs; (case N => k_asm); (case l => exact List.Mem.head _); (case z => assumption); (case hs => with_unfolding_all rfl); k_whole))) | ((with_reducible show wpAny _ _ (call (Value.builtin "str.index") _ _) _ _ _); with_reducible ((refine index_in rfl (by assumption) ?_))) | ((with_reducible show wpAny _ _ (setItem (Value.ref _) (Value.int _ _) _) _ _ _); with_reducible ((k_here; k_dflt (refine' setLastK ?F ?N ?U ?_; (case F => k_asm); (case N => k_asm); (case U => exact .head (by assumption)); k_whole); intro h' F' N'; (try k_sweep)))) | walk1 | (dsimp only; first | ((with_reducible show wpAny _ _ (subscriptTail _ _ (Value.ref _) (Value.int _ _)) _ _ _); with_reducible ((with_unfolding_all refine' itemLastK ?N ?l ?z ?_ ?hs; (case N => k_asm); (case l => exact List.Mem.head _); (case z => assumption); (case hs => with_unfolding_all rfl); k_whole))) | ((with_reducible show wpAny _ _ (call (Value.builtin "str.index") _ _) _ _ _); with_reducible ((refine index_in rfl (by assumption) ?_))) | ((with_reducible show wpAny _ _ (setItem (Value.ref _) (Value.int _ _) _) _ _ _); with_reducible ((k_here; k_dflt (refine' setLastK ?F ?N ?U ?_; (case F => k_asm); (case N => k_asm); (case U => exact .head (by assumption)); k_whole); intro h' F' N'; (try k_sweep)))) | walk1))
          refine WEnd.go (by assumption) (by assumption) (k := x.length - (pl + 1)) (by omega) (fun p hp => hp) ⟨pl + 1, 2, putNum kd _ (digVal c), r9, _, _, o11, _, _, rfl, by omega, walk_on hdrop hnl est hwk, good_on est hgood, fun y r e1 _ => (nomatch e1), len_on est hacl, ⟨rfl, rfl, rfl, trivial⟩, ?_, d11, hr9, rfl⟩
          rw [putNum_new hkd, List.reverse_cons, List.append_assoc]
          exact hrv.append (.num _ _ _ .nil)
        · rename_i l9 h9 lt9
          (refine' storeX_C F10 N10 ?cD (.tail (Nat.ne_of_gt lt10.2.2.2.2.1) (.tail (Nat.ne_of_gt lt9.2.2.2.1) (.tail (Nat.ne_of_gt hr2) (.tail hI2.symm (.tail (Nat.ne_of_gt hdl) (.head (List.forall_mem_cons.mpr ⟨Nat.ne_of_lt (Nat.lt_succ_self _), hc2⟩))))))) dR ?_ ?aD ?bD)
          (case aD => rfl)
          (case bD => rfl)
          (case cD => rfl)
          intro h11 o11 F11 N11 d11
          clear F10 N10 lt9 F4 N3
          replace N11 := News.drop23 N11
          have hU := allLt_ne (l := (I, oI) :: (da, od) :: (L1 + 1 + 1, o11) :: (L1 + 1, oS) :: news) lt10.2.2
          have hr9 : ((da : Nat) < r9 ∧ (L1 + 1 + 1 : Nat) < r9 ∧ (∀ p ∈ news, p.1 < r9) ∧ (r9 : Nat) ≠ I) := ⟨lt10.2.2.2.1, lt10.2.2.2.2.1, fun p hp => Nat.lt_trans (hr3 p hp) lt10.2.1, Nat.ne_of_gt lt10.2.2.1⟩
          have hnl := lost_no (x := x) (pl := pl) (by assumption)
          have est := stepU_num (kd := kd) (acc := acc) (c := c) (by assumption) (by assumption)
          have hkd : kd = 2 := by omega
          obtain ⟨y, r0, rfl⟩ := hgood.1 hkd
          rw [List.reverse_cons] at hrv
          obtain ⟨ws, t5, u5, rfl, hws0⟩ := hrv.lastNum
          rw [List.append_nil, List.append_cons] at N11
          have hws : (ws ++ [Value.int 100 t5]).length < 2 ^ 60 := by simp only [List.length_append, List.length_cons, List.length_nil] at hrl ⊢; omega
          have hcd : c ∈ (Str.ofString "0123456789").cps.toList := mem_in (by assumption)
          repeat' ((fail_if_success (with_reducible show wpAny _ _ (pyIter _) _ _ _)); first | (k_unfold; (try dsimp only)) | ((with_reducible show wpAny _ _ (subscriptTail _ _ (Value.ref _) (Value.int _ _)) _ _ _); with_reducible ((with_unfolding_all refine' itemLastK ?N ?l ?z ?_ ?hs; (case N => k_asm); (case l => exact List.Mem.head _); (case z => assumption); (case hs => with_unfolding_all rfl); k_whole))) | ((with_reducible show wpAny _ _ (call (Value.builtin "str.index") _ _) _ _ _); with_reducible ((refine index_in rfl (by assumption) ?_))) | ((with_reducible show wpAny _ _ (setItem (Value.ref _) (Value.int _ _) _) _ _ _); with_reducible ((k_here; k_dflt (refine' setLastK ?F ?N ?U ?_; (case F => k_asm); (case N => k_asm); (case U => exact .head (by assumption)); k_whole); intro h' F' N'; (try k_sweep)))) | walk1 | (dsimp only; first | ((with_reducible show wpAny _ _ (subscriptTail _ _ (Value.ref _) (Value.int _ _)) _ _ _); with_reducible ((with_unfolding_all refine' itemLastK ?N ?l ?z ?_ ?hs; (case N => k_asm); (case l => exact List.Mem.head _); (case z => assumption); (case hs => with_unfolding_all rfl); k_whole))) | ((with_reducible show wpAny _ _ (call (Value.builtin "str.index") _ _) _ _ _); with_reducible ((refine index_in rfl (by assumption) ?_))) | ((with_reducible show wpAny _ _ (setItem (Value.ref _) (Value.int _ _) _) _ _ _); with_reducible ((k_here; k_dflt (refine' setLastK ?F ?N ?U ?_; (case F => k_asm); (case N => k_asm); (case U => exact .head (by assumption)); k_whole); intro h' F' N'; (try k_sweep)))) | walk1))
          refine WEnd.go (by assumption) (by assumption) (k := x.length - (pl + 1)) (by omega) (fun p hp => hp) ⟨pl + 1, 2, putNum kd _ (digVal c), r9, _, _, o11, _, _, rfl, by omega, walk_on hdrop hnl est hwk, good_on est hgood, fun y r e1 _ => (nomatch e1), len_on est hacl, ⟨rfl, rfl, rfl, trivial⟩, ?_, d11, hr9, rfl⟩
          rw [putNum_add hkd, List.reverse_cons, List.append_assoc]
          exact hws0.append (.num _ _ _ .nil)
        · have hnl := lost_no (x := x) (pl := pl) (by assumption)
          have est := stepU_sep (kd := kd) (acc := acc) (c := c) (by assumption)
          exact WEnd.go (by assumption) (by assumption) (k := x.length - (pl + 1)) (by omega) (fun p hp => hp) ⟨pl + 1, 0, _, ra, rv, kr, oR, _, _, rfl, by omega, walk_on hdrop hnl est hwk, good_on est hgood, fun y r e1 _ => (nomatch e1), len_on est hacl, ⟨rfl, rfl, rfl, trivial⟩, hrv, dR, ⟨hr1, hr2, hr3, hrI⟩, rfl⟩
      · refine WhlIf.no (decide_eq_false (by omega)) ?_
        repeat' ((fail_if_success (with_reducible show wpAny _ _ (pyIter _) _ _ _)); first | (k_unfold; (try dsimp only)) | walk1 | (dsimp only; walk1))
        have hfin : walkU x.cps.toList 0 (rowAcc (ps.take i)) = acc := by
          rw [hwk, List.drop_of_length_le (by rw [Array.length_toList]; exact Nat.le_of_not_lt hlt), walkU_nil]
        refine TurnEnd.go (by assumption) N3 (.tail _ (.head _)) (news₂ := (ra, W.listOf rv.toArray kr) :: (da, od) :: (L1 + 1 + 1, oR) :: (L1 + 1, oS) :: news) (fun p hp => by
          rcases List.mem_cons.mp hp with rfl | hp
          · exact .head _
          · exact .tail _ (.tail _ hp)) ?_ ⟨ra, rv, kr, oR, ?_, dR, ⟨hr1, hr2, hr3⟩, rfl⟩
        · intro p hp
          rcases List.mem_cons.mp hp with rfl | hp
          · exact hrI
          · rcases List.mem_cons.mp hp with rfl | hp
            · exact hne _ (.tail _ (.head _))
            · rcases List.mem_cons.mp hp with rfl | hp
              · exact hI2
              · exact hne p (.tail _ (.tail _ (.tail _ hp)))
        · rw [rowAcc_take hx, hfin]; exact hrv
    · passes_own
  · clear FF NN
    rintro m₁ news₁ h tk ⟨ra, rv, kr, oR, hrv, dR, ⟨hr1, hr2, hr3⟩, rfl⟩ F1 N1
    have hacc0 : (rowAcc (ps.take pv.length)).length ≤ 200 := by
      have h1 := rowAcc_len (ps.take pv.length) []
      have h2 : ((ps.take pv.length).map Str.length).sum ≤ (ps.map Str.length).sum := sum_take_le _ _
      simp only [List.length_nil, Nat.zero_add] at h1
      exact Nat.le_trans h1 (Nat.le_trans h2 hsum)
    have hrl : rv.length ≤ 400 := by rw [hrv.length, List.length_reverse]; omega
    repeat' ((fail_if_success (with_reducible show LCg.CompSrc _ _ _ _ _ _ _ _ _ _ _ _ _ _)); first | (k_unfold; (try dsimp only)) | ((with_reducible show wpAny _ _ (call (Value.builtin "len") _ _) _ _ _); with_reducible ((k_here; (with_reducible show wpAny _ _ (call (Value.builtin "len") [Value.ref _]) _ _ _); k_dflt (refine' lenK ?N ?l ?z ?_; (case N => k_asm); (case l => k_mem); (case z => omega); k_whole); intro t' tk'; (try dsimp only)))) | walk1 | (dsimp only; first | ((with_reducible show wpAny _ _ (call (Value.builtin "len") _ _) _ _ _); with_reducible ((k_here; (with_reducible show wpAny _ _ (call (Value.builtin "len") [Value.ref _]) _ _ _); k_dflt (refine' lenK ?N ?l ?z ?_; (case N => k_asm); (case l => k_mem); (case z => omega); k_whole); intro t' tk'; (try dsimp only)))) | walk1))
    refine' comp_row ?hrv ?hl ?hh ?F ?N ?hr ?odd ?num ?txt ?fin
    (case hrv => assumption)
    (case hl => assumption)
    (case hh => rfl)
    (case F => k_asm)
    (case N => k_asm)
    (case hr => assumption)
    (case odd =>
      intro g2 i2 t2 v2 I2 oI2 C2 oC2 D2 m2 ys2 h2 tk2 E2 hv2 hi2 hf2 hC2 hx2 F2 N2 off2 ne2
      dsimp only
      repeat' ((fail_if_success (with_reducible show wpAny _ _ (subscriptTail _ _ _ _) _ _ _)); (fail_if_success (with_reducible show LCg.CompEnd _ _ _ _ _ _ _ _ _ _ _ _ _ _)); first | (k_unfold; (try dsimp only)) | walk1 | (dsimp only; walk1))
      · exfalso; omega
      · refine itemRow N2 (.tail _ (.tail _ (.tail _ (.head _)))) hrl hv2 ?_
        exact LCg.CompEnd.intro F2 N2 _ (fun _ hp => hp) off2 True.intro ⟨rfl, rfl⟩)
    (case num =>
      intro g2 i2 t2 v2 I2 oI2 C2 oC2 D2 m2 ys2 h2 tk2 E2 hv2 hi2 hf2 hC2 hx2 F2 N2 off2 ne2
      dsimp only
      repeat' ((fail_if_success (with_reducible show wpAny _ _ (subscriptTail _ _ _ _) _ _ _)); (fail_if_success (with_reducible show LCg.CompEnd _ _ _ _ _ _ _ _ _ _ _ _ _ _)); first | (k_unfold; (try dsimp only)) | walk1 | (dsimp only; walk1))
      · refine itemRow N2 (.tail _ (.tail _ (.tail _ (.head _)))) hrl hv2 ?_
        (try dsimp only)
        repeat' ((fail_if_success (with_reducible show wpAny _ _ (subscriptTail _ _ _ _) _ _ _)); (fail_if_success (with_reducible show LCg.CompEnd _ _ _ _ _ _ _ _ _ _ _ _ _ _)); first | (k_unfold; (try dsimp only)) | walk1 | (dsimp only; walk1))
        refine itemRow N2 (.tail _ (.tail _ (.tail _ (.head _)))) hrl hv2 ?_
        exact LCg.CompEnd.intro F2 N2 _ (fun _ hp => hp) off2 True.intro ⟨rfl, rfl⟩
      · exfalso; omega)
    (case txt =>
      intro g2 i2 t2 v2 z2 tz2 I2 oI2 C2 oC2 D2 m2 ys2 h2 tk2 E2 hv2 hv3 hi2 hf2 hC2 hx2 F2 N2 off2 ne2
      dsimp only
      repeat' ((fail_if_success (with_reducible show wpAny _ _ (subscriptTail _ _ _ _) _ _ _)); (fail_if_success (with_reducible show LCg.CompEnd _ _ _ _ _ _ _ _ _ _ _ _ _ _)); first | (k_unfold; (try dsimp only)) | walk1 | (dsimp only; walk1))
      · refine itemRow N2 (.tail _ (.tail _ (.tail _ (.head _)))) hrl hv2 ?_
        (try dsimp only)
        repeat' ((fail_if_success (with_reducible show wpAny _ _ (subscriptTail _ _ _ _) _ _ _)); (fail_if_success (with_reducible show LCg.CompEnd _ _ _ _ _ _ _ _ _ _ _ _ _ _)); first | (k_unfold; (try dsimp only)) | ((with_reducible show wpAny _ _ (getMethod (Value.ref _) _ _) _ _ _); with_reducible ((k_here; k_dflt (refine' stagesMethod ?S ?N ?l ?_; (case S => assumption); (case N => k_asm); (case l => k_mem); k_whole); (try dsimp only)))) | walk1 | (dsimp only; first | ((with_reducible show wpAny _ _ (getMethod (Value.ref _) _ _) _ _ _); with_reducible ((k_here; k_dflt (refine' stagesMethod ?S ?N ?l ?_; (case S => assumption); (case N => k_asm); (case l => k_mem); k_whole); (try dsimp only)))) | walk1))
        refine itemRow1 N2 (.tail _ (.tail _ (.tail _ (.head _)))) hrl hv3 ?_
        (try dsimp only)
        repeat' ((fail_if_success (with_reducible show wpAny _ _ (subscriptTail _ _ _ _) _ _ _)); (fail_if_success (with_reducible show LCg.CompEnd _ _ _ _ _ _ _ _ _ _ _ _ _ _)); first | (k_unfold; (try dsimp only)) | ((with_reducible show wpAny _ _ (call (Value.builtin "dict.get") _ _) _ _ _); with_reducible ((k_here; k_dflt (refine' stagesGet ?S ?N ?l ?_; (case S => assumption); (case N => k_asm); (case l => k_mem); k_whole); intro t' tk'; (try dsimp only)))) | walk1 | (dsimp only; first | ((with_reducible show wpAny _ _ (call (Value.builtin "dict.get") _ _) _ _ _); with_reducible ((k_here; k_dflt (refine' stagesGet ?S ?N ?l ?_; (case S => assumption); (case N => k_asm); (case l => k_mem); k_whole); intro t' tk'; (try dsimp only)))) | walk1))
        exact LCg.CompEnd.intro F2 N2 _ (fun _ hp => hp) off2 True.intro ⟨rfl, _, rfl⟩
      · exfalso; omega)
    (case fin =>
      intro g2 ys2 hys2
      repeat' ((fail_if_success (with_reducible show wpAny _ _ (pyIter _) _ _ _)); first | (k_unfold; (try dsimp only)) | walk1 | (dsimp only; walk1))
      rename Fr h₀ L _ m => kF
      rename News h₀ L _ _ => kN
      rw [List.take_of_length_le (by rw [hpv.length]; exact Nat.le_refl _)] at hys2
      exact hret _ ys2 _ _ hys2 kF (Mine.News.sub kN (fun p hp => by
        rcases List.mem_cons.mp hp with rfl | hp
        · exact .head _
        · exact .tail _ (.tail _ (.tail _ (.tail _ (.tail _ hp)))))))
end
end Mine
end
noncomputable section
open PySem PySem.W PyProof.Rows
set_option pp.deepTerms false
set_option pp.maxSteps 2000
set_option maxRecDepth 100000
set_option maxHeartbeats 8000000
namespace Mine
section
variable {w : World} {p : Program} {loose : List Str} {mean : ExcName → Option Value} {mg mb : Str → Option Value}
  {dp un : Nat} {gd : Option (List Code)} {cn : Str} {cs : Scope} {a : Addr} {ccd : Value} {cl : List (Str × Addr)} {outer : List Env} {A₀ : Around} {base h₀ : Heap} {L : Addr} {m : Str → Option Value} {news : List (Addr × Obj)} {s : Shared} {Q E : Value → Shared → Prop}
theorem c_buffer {b : Array UInt8} {tb : Tok}
  (B : Below A₀ base outer h₀) (F : Fr h₀ L s.heap m) (X : (hd.heap_39 w.params).In h₀) (N : News h₀ L s.heap news) (T : Top p loose mean mg mb h₀) (hk : cs.kind = .function)
  (hd : dp + 2 < recursionLimit)
  (hret : ∀ h' tk', Fr h₀ L h' m → News h₀ L h' news → Q (.bytes b tb) { s with heap := h', toks := tk' }) :
  wpAny (model PySem.Challenge.rw_mq0112_01.row.prog w) (ktrTop dp un gd cn cs L a ccd cl outer) (call (.ref 65) [.bytes b tb]) Q E s := by
  revert X; k_fill; intro X
  refine wpAny_call ?_
  k_dflt (refine' code_def (binds := [(Str.ofString "data", .bytes b tb)]) ?k1 ?k2 ?k3 ?k4 ?k5 ?kA ?kF ?kK ?k6 ?k7 ?k8 ?k9 ?kB ?_ ?c2 ?c3 ?c4 ?c5; ((case kA => exact rfl); (case kF => exact rfl); (case kK => assumption); (case k1 => k_asm); (case k2 => k_asm); (case k3 => k_asm); (case k4 => k_asm); (case k5 => k_asm); (case k6 => k_is); (case k7 => k_is); (case k8 => ktr_room); (case k9 => exact BindsTo.of_eq rfl); (case c5 => decide); (case kB => exact locs rfl); (case c2 => exact rfl); (case c3 => exact rfl); (case c4 => exact rfl); k_whole; intro g' L' h' FG' F' N' B' X' T'; (try dsimp only); (try k_lift B'); (try k_fold)))
  (try ((show wpAny _ _ _ _ _ _); k_fold))
  repeat' (first | (k_unfold; (try dsimp only)) | (k_end; wrow_close) | ((with_reducible show wpAny _ _ (call (Value.type "type") _ _) _ _ _); ((with_reducible show wpAny _ _ (call _ [Value.bytes _ _]) _ _ _); refine call_type_of (Tx := "bytes") rfl (by decide) ?_)) | walk1 | (dsimp only; first | ((with_reducible show wpAny _ _ (call (Value.type "type") _ _) _ _ _); ((with_reducible show wpAny _ _ (call _ [Value.bytes _ _]) _ _ _); refine call_type_of (Tx := "bytes") rfl (by decide) ?_)) | walk1) | (leave1; try dsimp only) | fail "no step")
  exact hret _ _ (by assumption) (by assumption)
theorem c_truth {b : Bool}
  (B : Below A₀ base outer h₀) (F : Fr h₀ L s.heap m) (X : (hd.heap_39 w.params).In h₀) (N : News h₀ L s.heap news) (T : Top p loose mean mg mb h₀) (hk : cs.kind = .function)
  (hd : dp + 2 < recursionLimit)
  (hret : ∀ h' tk', Fr h₀ L h' m → News h₀ L h' news → Q (.bool b) { s with heap := h', toks := tk' }) :
  wpAny (model PySem.Challenge.rw_mq0112_01.row.prog w) (ktrTop dp un gd cn cs L a ccd cl outer) (call (.ref 72) [.bool b]) Q E s := by
  revert X; k_fill; intro X
  refine wpAny_call ?_
  k_dflt (refine' code_def (binds := [(Str.ofString "x", .bool b)]) ?k1 ?k2 ?k3 ?k4 ?k5 ?kA ?kF ?kK ?k6 ?k7 ?k8 ?k9 ?kB ?_ ?c2 ?c3 ?c4 ?c5; ((case kA => exact rfl); (case kF => exact rfl); (case kK => assumption); (case k1 => k_asm); (case k2 => k_asm); (case k3 => k_asm); (case k4 => k_asm); (case k5 => k_asm); (case k6 => k_is); (case k7 => k_is); (case k8 => ktr_room); (case k9 => exact BindsTo.of_eq rfl); (case c5 => decide); (case kB => exact locs rfl); (case c2 => exact rfl); (case c3 => exact rfl); (case c4 => exact rfl); k_whole; intro g' L' h' FG' F' N' B' X' T'; (try dsimp only); (try k_lift B'); (try k_fold)))
  (try ((show wpAny _ _ _ _ _ _); k_fold))
  repeat' (first | (k_unfold; (try dsimp only)) | (k_end; wrow_close) | walk1 | (dsimp only; walk1) | (leave1; try dsimp only) | fail "no step")
  · have hb : b = true := by assumption
    subst hb
    exact hret _ _ (by assumption) (by assumption)
  · have hb : b = false := by assumption
    subst hb
    exact hret _ _ (by assumption) (by assumption)
inductive B2aInv (ds : List Int) (oa : Addr) (news : List (Addr × Obj)) (i : Nat) (m₁ : Str → Option Value) (news₁ : List (Addr × Obj)) : Prop
  | mk (out : List Int) (r : Nat) (v : Int) (ov : List Value) (ko : Nat) (lc : Int) (tl tb' : Tok) (h1 : encFold (ds.take i) = (out, r, v)) (h2 : Has m₁ [(Str.ofString "newline", .bool false), (Str.ofString "out", .ref oa), (Str.ofString "leftbits", .int (2 * (r : Nat)) tb'), (Str.ofString "leftchar", .int lc tl)])
    (h3 : IntsAre ov (out.map b64Of)) (h4 : 0 ≤ lc) (h5 : lc < 65536) (h6 : r ≠ 0 → lc % 256 = v) (h7 : r < 3) (h8 : ov.length ≤ 2 * i) (h9 : news₁ = (oa, W.listOf ov.toArray ko) :: news) : B2aInv ds oa news i m₁ news₁
theorem c_b2a {b : Array UInt8} {tb : Tok} {ds : List Int}
  (B : Below A₀ base outer h₀) (F : Fr h₀ L s.heap m) (X : (hd.heap_39 w.params).In h₀) (N : News h₀ L s.heap news) (T : Top p loose mean mg mb h₀) (hk : cs.kind = .function)
  (hb : byteArr ds = b) (hds : ∀ k ∈ ds, 0 ≤ k ∧ k < 256) (hlen : ds.length ≤ 100)
  (hd : dp + 4 < recursionLimit)
  (hret : ∀ t h' tk', Fr h₀ L h' m → News h₀ L h' news → Q (.bytes (byteArr (encOut ds)) t) { s with heap := h', toks := tk' }) :
  wpAny (model PySem.Challenge.rw_mq0112_01.row.prog w) (ktrTop dp un gd cn cs L a ccd cl outer) (call (.ref 80) [.bytes b tb] [(Str.ofString "newline", .bool false)]) Q E s := by
  revert X; k_fill; intro X
  refine wpAny_call ?_
  k_dflt (refine' code_def (binds := [(Str.ofString "data", .bytes b tb), (Str.ofString "newline", .bool false)]) ?k1 ?k2 ?k3 ?k4 ?k5 ?kA ?kF ?kK ?k6 ?k7 ?k8 ?k9 ?kB ?_ ?c2 ?c3 ?c4 ?c5; ((case kA => exact rfl); (case kF => exact rfl); (case kK => assumption); (case k1 => k_asm); (case k2 => k_asm); (case k3 => k_asm); (case k4 => k_asm); (case k5 => k_asm); (case k6 => k_is); (case k7 => k_is); (case k8 => ktr_room); (case k9 => exact BindsTo.of_eq rfl); (case c5 => decide); (case kB => exact locs rfl); (case c2 => exact rfl); (case c3 => exact rfl); (case c4 => exact rfl); k_whole; intro g' L' h' FG' F' N' B' X' T'; (try dsimp only); (try k_lift B'); (try k_fold)))
  (try ((show wpAny _ _ _ _ _ _); k_fold))
  repeat' (first | (k_unfold; (try dsimp only)) | (k_end; wrow_close) | ((with_reducible show wpAny _ _ (call (Value.ref _) _ _) _ _ _); (k_here; (with_reducible show wpAny _ _ (call (Value.ref 65) _) _ _ _); (refine' c_buffer ?k1 ?k2 ?k3 ?k4 ?k5 ?kK ?kd ?_); (case k1 => k_asm); (case k2 => k_asm); (case k3 => k_asm); (case k4 => k_asm); (case k5 => k_asm); (case kK => exact rfl); (case kd => ktr_room); intro h9 tk9 F9 N9; (try dsimp only); (try k_fold))) | ((with_reducible show wpAny _ _ (call (Value.ref _) _ _) _ _ _); (k_here; (with_reducible show wpAny _ _ (call (Value.ref 72) _) _ _ _); (refine' c_truth ?k1 ?k2 ?k3 ?k4 ?k5 ?kK ?kd ?_); (case k1 => k_asm); (case k2 => k_asm); (case k3 => k_asm); (case k4 => k_asm); (case k5 => k_asm); (case kK => exact rfl); (case kd => ktr_room); intro h9 tk9 F9 N9; (try dsimp only); (try k_fold))) | walk1 | (dsimp only; first | ((with_reducible show wpAny _ _ (call (Value.ref _) _ _) _ _ _); (k_here; (with_reducible show wpAny _ _ (call (Value.ref 65) _) _ _ _); (refine' c_buffer ?k1 ?k2 ?k3 ?k4 ?k5 ?kK ?kd ?_); (case k1 => k_asm); (case k2 => k_asm); (case k3 => k_asm); (case k4 => k_asm); (case k5 => k_asm); (case kK => exact rfl); (case kd => ktr_room); intro h9 tk9 F9 N9; (try dsimp only); (try k_fold))) | ((with_reducible show wpAny _ _ (call (Value.ref _) _ _) _ _ _); (k_here; (with_reducible show wpAny _ _ (call (Value.ref 72) _) _ _ _); (refine' c_truth ?k1 ?k2 ?k3 ?k4 ?k5 ?kK ?kd ?_); (case k1 => k_asm); (case k2 => k_asm); (case k3 => k_asm); (case k4 => k_asm); (case k5 => k_asm); (case kK => exact rfl); (case kd => ktr_room); intro h9 tk9 F9 N9; (try dsimp only); (try k_fold))) | walk1) | (leave1; try dsimp only) | fail "no step")
  rename_i oa hA ltO hB hC hD FF NN
  refine iter_bytes (B2aInv ds oa news) rfl FF NN ?_ ?_ ?_
  · refine ⟨_, _, _, [], 0, _, _, _, rfl, ⟨rfl, rfl, rfl, rfl, trivial⟩, .nil, by decide, by decide, fun h => absurd rfl h, by decide, Nat.le_refl _, rfl⟩
  · clear FF NN
    rintro i c u' m₁ news₁ h tk I oI hc ⟨out, r, v, ov, ko, lc, tl, tb', hst, hm, hov, hl0, hl1, hlv, hr, holen, rfl⟩ hne F1 N1
    have hoI : (oa : Nat) ≠ I := hne _ (.head _)
    have hO : ∀ p ∈ news, p.1 ≠ oa := fun p hp => Nat.ne_of_lt (ltO p hp)
    have hd1 : ds[i]? = some (c.toNat : Int) := byteArr_get hds (by rw [hb]; exact hc)
    have hst2 := encFold_take hd1
    rw [hst] at hst2
    have hi : i < ds.length := by
      have h1 := (Array.getElem?_eq_some_iff.mp hc).1
      rw [← hb, byteArr_size] at h1; exact h1
    have hc2 : c.toNat < 256 := c.toNat_lt
    have hl2 : 0 ≤ (lc * 256 + c.toNat) % 65536 ∧ (lc * 256 + c.toNat) % 65536 < 65536 := by omega
    match r, hr with
    | 0, _ => 
      replace hm : Has m₁ [(Str.ofString "newline", .bool false), (Str.ofString "out", .ref oa), (Str.ofString "leftbits", .int 0 tb'), (Str.ofString "leftchar", .int lc tl)] := hm
      have F2 := Fr.turn F1 hm
      clear F1
      (try ((show wpAny _ _ _ _ _ _); k_fold))
      repeat' ((fail_if_success (with_reducible show wpAny _ _ (exec (Stmt.While _ _ _ _) _) _ _ _)); first | (k_unfold; (try dsimp only)) | ((with_reducible show wpAny _ _ (binaryOp _ (Value.int _ _) (Value.int _ _)) _ _ _); with_reducible ((refine lshift_int_small (by decide) (by decide) (by omega) ?_))) | walk1 | (dsimp only; first | ((with_reducible show wpAny _ _ (binaryOp _ (Value.int _ _) (Value.int _ _)) _ _ _); with_reducible ((refine lshift_int_small (by decide) (by decide) (by omega) ?_))) | walk1))
      rename Fr _ _ _ _ => F3
      rw [bits_next hl0] at F3
      have hx1 := sx0 (lc := lc) hc2
      generalize hlc : (lc * 256 + (c.toNat : Int)) % 65536 = lc2 at F3 hl2 hx1
      (try ((show wpAny _ _ _ _ _ _); k_fold))
      repeat' (first | (k_unfold; (try dsimp only)) | (k_end; wrow_close) | ((with_reducible show wpAny _ _ (subscriptTail _ _ (Value.bytes _ _) (Value.int _ _)) _ _ _); with_reducible (((with_reducible show wpAny _ _ (subscriptTail _ _ (Value.bytes _ _) (Value.int _ _)) _ _ _); (with_unfolding_all refine' b64_item ?e ?h0 ?h1 ?_ ?hs ?ht); (case e => assumption); (case h0 => omega); (case h1 => omega); (case hs => with_unfolding_all rfl); (case ht => (intro _; with_unfolding_all rfl)); k_whole; intro t' tk'; (try dsimp only)))) | ((with_reducible show wpAny _ _ (call (Value.builtin "list.append") _ _) _ _ _); with_reducible ((k_here; (refine' append_K ?k1 ?k2 ?k3 ?_ ?z); (case k1 => k_asm); (case k2 => k_asm); (case k3 => first | exact .tail (Ne.symm (by assumption)) (.head (by assumption)) | exact .head (by assumption)); (case z => size_fits); k_whole; intro h' F' N'; (try k_sweep)))) | walk1 | (dsimp only; first | ((with_reducible show wpAny _ _ (subscriptTail _ _ (Value.bytes _ _) (Value.int _ _)) _ _ _); with_reducible (((with_reducible show wpAny _ _ (subscriptTail _ _ (Value.bytes _ _) (Value.int _ _)) _ _ _); (with_unfolding_all refine' b64_item ?e ?h0 ?h1 ?_ ?hs ?ht); (case e => assumption); (case h0 => omega); (case h1 => omega); (case hs => with_unfolding_all rfl); (case ht => (intro _; with_unfolding_all rfl)); k_whole; intro t' tk'; (try dsimp only)))) | ((with_reducible show wpAny _ _ (call (Value.builtin "list.append") _ _) _ _ _); with_reducible ((k_here; (refine' append_K ?k1 ?k2 ?k3 ?_ ?z); (case k1 => k_asm); (case k2 => k_asm); (case k3 => first | exact .tail (Ne.symm (by assumption)) (.head (by assumption)) | exact .head (by assumption)); (case z => size_fits); k_whole; intro h' F' N'; (try k_sweep)))) | walk1) | (leave1; try dsimp only) | fail "no step")
      rename News _ _ _ _ => N9
      rw [List.push_toArray] at N9
      refine TurnEnd.go (by assumption) N9 (.head _) (news₂ := (oa, W.listOf (ov ++ [_]).toArray (ko + 1)) :: news) (fun p hp => .tail _ hp) (fun p hp => by
        rcases List.mem_cons.mp hp with rfl | hp
        · exact hoI
        · exact hne p (.tail _ hp)) ⟨_, _, _, _, _, _, _, _, hst2, ⟨rfl, rfl, rfl, rfl, trivial⟩, ?_, hl2.1, hl2.2, fun _ => by omega, by decide, by simp only [List.length_append, List.length_cons, List.length_nil]; omega, rfl⟩
      simp only [List.map_append, List.map_cons, List.map_nil]
      exact hov.append (.cons _ _ .nil)
    | 1, _ => 
      replace hm : Has m₁ [(Str.ofString "newline", .bool false), (Str.ofString "out", .ref oa), (Str.ofString "leftbits", .int 2 tb'), (Str.ofString "leftchar", .int lc tl)] := hm
      have F2 := Fr.turn F1 hm
      clear F1
      (try ((show wpAny _ _ _ _ _ _); k_fold))
      repeat' ((fail_if_success (with_reducible show wpAny _ _ (exec (Stmt.While _ _ _ _) _) _ _ _)); first | (k_unfold; (try dsimp only)) | ((with_reducible show wpAny _ _ (binaryOp _ (Value.int _ _) (Value.int _ _)) _ _ _); with_reducible ((refine lshift_int_small (by decide) (by decide) (by omega) ?_))) | walk1 | (dsimp only; first | ((with_reducible show wpAny _ _ (binaryOp _ (Value.int _ _) (Value.int _ _)) _ _ _); with_reducible ((refine lshift_int_small (by decide) (by decide) (by omega) ?_))) | walk1))
      rename Fr _ _ _ _ => F3
      rw [bits_next hl0] at F3
      have hx1 := sx1 (lc := lc) hc2 (hlv (by decide))
      generalize hlc : (lc * 256 + (c.toNat : Int)) % 65536 = lc2 at F3 hl2 hx1
      (try ((show wpAny _ _ _ _ _ _); k_fold))
      repeat' (first | (k_unfold; (try dsimp only)) | (k_end; wrow_close) | ((with_reducible show wpAny _ _ (subscriptTail _ _ (Value.bytes _ _) (Value.int _ _)) _ _ _); with_reducible (((with_reducible show wpAny _ _ (subscriptTail _ _ (Value.bytes _ _) (Value.int _ _)) _ _ _); (with_unfolding_all refine' b64_item ?e ?h0 ?h1 ?_ ?hs ?ht); (case e => assumption); (case h0 => omega); (case h1 => omega); (case hs => with_unfolding_all rfl); (case ht => (intro _; with_unfolding_all rfl)); k_whole; intro t' tk'; (try dsimp only)))) | ((with_reducible show wpAny _ _ (call (Value.builtin "list.append") _ _) _ _ _); with_reducible ((k_here; (refine' append_K ?k1 ?k2 ?k3 ?_ ?z); (case k1 => k_asm); (case k2 => k_asm); (case k3 => first | exact .tail (Ne.symm (by assumption)) (.head (by assumption)) | exact .head (by assumption)); (case z => size_fits); k_whole; intro h' F' N'; (try k_sweep)))) | walk1 | (dsimp only; first | ((with_reducible show wpAny _ _ (subscriptTail _ _ (Value.bytes _ _) (Value.int _ _)) _ _ _); with_reducible (((with_reducible show wpAny _ _ (subscriptTail _ _ (Value.bytes _ _) (Value.int _ _)) _ _ _); (with_unfolding_all refine' b64_item ?e ?h0 ?h1 ?_ ?hs ?ht); (case e => assumption); (case h0 => omega); (case h1 => omega); (case hs => with_unfolding_all rfl); (case ht => (intro _; with_unfolding_all rfl)); k_whole; intro t' tk'; (try dsimp only)))) | ((with_reducible show wpAny _ _ (call (Value.builtin "list.append") _ _) _ _ _); with_reducible ((k_here; (refine' append_K ?k1 ?k2 ?k3 ?_ ?z); (case k1 => k_asm); (case k2 => k_asm); (case k3 => first | exact .tail (Ne.symm (by assumption)) (.head (by assumption)) | exact .head (by assumption)); (case z => size_fits); k_whole; intro h' F' N'; (try k_sweep)))) | walk1) | (leave1; try dsimp only) | fail "no step")
      rename News _ _ _ _ => N9
      rw [List.push_toArray] at N9
      refine TurnEnd.go (by assumption) N9 (.head _) (news₂ := (oa, W.listOf (ov ++ [_]).toArray (ko + 1)) :: news) (fun p hp => .tail _ hp) (fun p hp => by
        rcases List.mem_cons.mp hp with rfl | hp
        · exact hoI
        · exact hne p (.tail _ hp)) ⟨_, _, _, _, _, _, _, _, hst2, ⟨rfl, rfl, rfl, rfl, trivial⟩, ?_, hl2.1, hl2.2, fun _ => by omega, by decide, by simp only [List.length_append, List.length_cons, List.length_nil]; omega, rfl⟩
      simp only [List.map_append, List.map_cons, List.map_nil]
      exact hov.append (.cons _ _ .nil)
    | 2, _ => 
      replace hm : Has m₁ [(Str.ofString "newline", .bool false), (Str.ofString "out", .ref oa), (Str.ofString "leftbits", .int 4 tb'), (Str.ofString "leftchar", .int lc tl)] := hm
      have F2 := Fr.turn F1 hm
      clear F1
      (try ((show wpAny _ _ _ _ _ _); k_fold))
      repeat' ((fail_if_success (with_reducible show wpAny _ _ (exec (Stmt.While _ _ _ _) _) _ _ _)); first | (k_unfold; (try dsimp only)) | ((with_reducible show wpAny _ _ (binaryOp _ (Value.int _ _) (Value.int _ _)) _ _ _); with_reducible ((refine lshift_int_small (by decide) (by decide) (by omega) ?_))) | walk1 | (dsimp only; first | ((with_reducible show wpAny _ _ (binaryOp _ (Value.int _ _) (Value.int _ _)) _ _ _); with_reducible ((refine lshift_int_small (by decide) (by decide) (by omega) ?_))) | walk1))
      rename Fr _ _ _ _ => F3
      rw [bits_next hl0] at F3
      have hx1 := sx2 (lc := lc) hc2 (hlv (by decide))
      have hx2 := sx3 (lc := lc) hc2
      generalize hlc : (lc * 256 + (c.toNat : Int)) % 65536 = lc2 at F3 hl2 hx1 hx2
      (try ((show wpAny _ _ _ _ _ _); k_fold))
      repeat' (first | (k_unfold; (try dsimp only)) | (k_end; wrow_close) | ((with_reducible show wpAny _ _ (subscriptTail _ _ (Value.bytes _ _) (Value.int _ _)) _ _ _); with_reducible (((with_reducible show wpAny _ _ (subscriptTail _ _ (Value.bytes _ _) (Value.int _ _)) _ _ _); (with_unfolding_all refine' b64_item ?e ?h0 ?h1 ?_ ?hs ?ht); (case e => assumption); (case h0 => omega); (case h1 => omega); (case hs => with_unfolding_all rfl); (case ht => (intro _; with_unfolding_all rfl)); k_whole; intro t' tk'; (try dsimp only)))) | ((with_reducible show wpAny _ _ (call (Value.builtin "list.append") _ _) _ _ _); with_reducible ((k_here; (refine' append_K ?k1 ?k2 ?k3 ?_ ?z); (case k1 => k_asm); (case k2 => k_asm); (case k3 => first | exact .tail (Ne.symm (by assumption)) (.head (by assumption)) | exact .head (by assumption)); (case z => size_fits); k_whole; intro h' F' N'; (try k_sweep)))) | walk1 | (dsimp only; first | ((with_reducible show wpAny _ _ (subscriptTail _ _ (Value.bytes _ _) (Value.int _ _)) _ _ _); with_reducible (((with_reducible show wpAny _ _ (subscriptTail _ _ (Value.bytes _ _) (Value.int _ _)) _ _ _); (with_unfolding_all refine' b64_item ?e ?h0 ?h1 ?_ ?hs ?ht); (case e => assumption); (case h0 => omega); (case h1 => omega); (case hs => with_unfolding_all rfl); (case ht => (intro _; with_unfolding_all rfl)); k_whole; intro t' tk'; (try dsimp only)))) | ((with_reducible show wpAny _ _ (call (Value.builtin "list.append") _ _) _ _ _); with_reducible ((k_here; (refine' append_K ?k1 ?k2 ?k3 ?_ ?z); (case k1 => k_asm); (case k2 => k_asm); (case k3 => first | exact .tail (Ne.symm (by assumption)) (.head (by assumption)) | exact .head (by assumption)); (case z => size_fits); k_whole; intro h' F' N'; (try k_sweep)))) | walk1) | (leave1; try dsimp only) | fail "no step")
      rename News _ _ _ _ => N9
      rw [List.push_toArray, List.push_toArray, List.append_assoc] at N9
      refine TurnEnd.go (by assumption) N9 (.head _) (news₂ := (oa, W.listOf (ov ++ [_, _]).toArray (ko + 1 + 1)) :: news) (fun p hp => .tail _ hp) (fun p hp => by
        rcases List.mem_cons.mp hp with rfl | hp
        · exact hoI
        · exact hne p (.tail _ hp)) ⟨_, _, _, _, _, _, _, _, hst2, ⟨rfl, rfl, rfl, rfl, trivial⟩, ?_, hl2.1, hl2.2, fun _ => by omega, by decide, by simp only [List.length_append, List.length_cons, List.length_nil]; omega, rfl⟩
      simp only [List.map_append, List.map_cons, List.map_nil]
      exact hov.append (.cons _ _ (.cons _ _ .nil))
  · clear FF NN
    rintro m₁ news₁ h tk ⟨out, r, v, ov, ko, lc, tl, tb', hst, hm, hov, hl0, hl1, hlv, hr, holen, rfl⟩ F1 N1
    have hO : ∀ p ∈ news, p.1 ≠ oa := fun p hp => Nat.ne_of_lt (ltO p hp)
    rw [show b.size = ds.length from by rw [← hb, byteArr_size], List.take_length] at hst
    rw [show b.size = ds.length from by rw [← hb, byteArr_size]] at holen
    match r, hr with
    | 0, _ =>
      replace hm : Has m₁ [(Str.ofString "newline", .bool false), (Str.ofString "out", .ref oa), (Str.ofString "leftbits", .int 0 tb'), (Str.ofString "leftchar", .int lc tl)] := hm
      have F2 := Fr.has F1 hm
      clear F1
      (try ((show wpAny _ _ _ _ _ _); k_fold))
      repeat' (first | (k_unfold; (try dsimp only)) | (k_end; wrow_close) | walk1 | (dsimp only; walk1) | (leave1; try dsimp only) | fail "no step")
      refine bytesK (by assumption) (by assumption) (.head _) (ns := encOut ds) ?_ (encOut_range ds) ?_ rfl ?_
      · unfold encOut encTail; rw [hst, if_pos rfl, List.append_nil]; exact hov
      · rw [sizeLine_eq]; omega
      intro h5 t5 tk5 F5 N5
      (try ((show wpAny _ _ _ _ _ _); k_fold))
      repeat' (first | (k_unfold; (try dsimp only)) | (k_end; wrow_close) | walk1 | (dsimp only; walk1) | (leave1; try dsimp only) | fail "no step")
      rename News h₀ _ _ _ => kN
      exact hret _ _ _ (by assumption) (fun p hp => kN p (.tail _ hp))
    | 1, _ =>
      replace hm : Has m₁ [(Str.ofString "newline", .bool false), (Str.ofString "out", .ref oa), (Str.ofString "leftbits", .int 2 tb'), (Str.ofString "leftchar", .int lc tl)] := hm
      have F2 := Fr.has F1 hm
      clear F1
      have hx1 := tail1 (hlv (by decide))
      have hbr := bitAnd_range lc (y := 3) (by decide)
      (try ((show wpAny _ _ _ _ _ _); k_fold))
      repeat' (first | (k_unfold; (try dsimp only)) | (k_end; wrow_close) | ((with_reducible show wpAny _ _ (binaryOp _ (Value.int _ _) (Value.int _ _)) _ _ _); with_reducible ((refine lshift_int_small (by decide) (by decide) (by omega) ?_))) | ((with_reducible show wpAny _ _ (subscriptTail _ _ (Value.bytes _ _) (Value.int _ _)) _ _ _); with_reducible (((with_reducible show wpAny _ _ (subscriptTail _ _ (Value.bytes _ _) (Value.int _ _)) _ _ _); (with_unfolding_all refine' b64_item ?e ?h0 ?h1 ?_ ?hs ?ht); (case e => assumption); (case h0 => omega); (case h1 => omega); (case hs => with_unfolding_all rfl); (case ht => (intro _; with_unfolding_all rfl)); k_whole; intro t' tk'; (try dsimp only)))) | ((with_reducible show wpAny _ _ (call (Value.builtin "list.append") _ _) _ _ _); with_reducible ((k_here; (refine' append_K ?k1 ?k2 ?k3 ?_ ?z); (case k1 => k_asm); (case k2 => k_asm); (case k3 => first | exact .tail (Ne.symm (by assumption)) (.head (by assumption)) | exact .head (by assumption)); (case z => size_fits); k_whole; intro h' F' N'; (try k_sweep)))) | walk1 | (dsimp only; first | ((with_reducible show wpAny _ _ (binaryOp _ (Value.int _ _) (Value.int _ _)) _ _ _); with_reducible ((refine lshift_int_small (by decide) (by decide) (by omega) ?_))) | ((with_reducible show wpAny _ _ (subscriptTail _ _ (Value.bytes _ _) (Value.int _ _)) _ _ _); with_reducible (((with_reducible show wpAny _ _ (subscriptTail _ _ (Value.bytes _ _) (Value.int _ _)) _ _ _); (with_unfolding_all refine' b64_item ?e ?h0 ?h1 ?_ ?hs ?ht); (case e => assumption); (case h0 => omega); (case h1 => omega); (case hs => with_unfolding_all rfl); (case ht => (intro _; with_unfolding_all rfl)); k_whole; intro t' tk'; (try dsimp only)))) | ((with_reducible show wpAny _ _ (call (Value.builtin "list.append") _ _) _ _ _); with_reducible ((k_here; (refine' append_K ?k1 ?k2 ?k3 ?_ ?z); (case k1 => k_asm); (case k2 => k_asm); (case k3 => first | exact .tail (Ne.symm (by assumption)) (.head (by assumption)) | exact .head (by assumption)); (case z => size_fits); k_whole; intro h' F' N'; (try k_sweep)))) | walk1) | (leave1; try dsimp only) | fail "no step")
      rename News _ _ _ _ => N9
      simp only [List.push_toArray, List.append_assoc, List.cons_append, List.nil_append] at N9
      refine bytesK (by assumption) N9 (.head _) (ns := encOut ds) ?_ (encOut_range ds) ?_ rfl ?_
      · unfold encOut encTail; rw [hst]; exact hov.append (.cons _ _ (.cons _ _ (.cons _ _ .nil)))
      · rw [sizeLine_eq]; simp only [List.length_append, List.length_cons, List.length_nil]; omega
      intro h5 t5 tk5 F5 N5
      (try ((show wpAny _ _ _ _ _ _); k_fold))
      repeat' (first | (k_unfold; (try dsimp only)) | (k_end; wrow_close) | walk1 | (dsimp only; walk1) | (leave1; try dsimp only) | fail "no step")
      rename News h₀ _ _ _ => kN
      exact hret _ _ _ (by assumption) (fun p hp => kN p (.tail _ hp))
    | 2, _ =>
      replace hm : Has m₁ [(Str.ofString "newline", .bool false), (Str.ofString "out", .ref oa), (Str.ofString "leftbits", .int 4 tb'), (Str.ofString "leftchar", .int lc tl)] := hm
      have F2 := Fr.has F1 hm
      clear F1
      have hx1 := tail2 (hlv (by decide))
      have hbr := bitAnd_range lc (y := 15) (by decide)
      (try ((show wpAny _ _ _ _ _ _); k_fold))
      repeat' (first | (k_unfold; (try dsimp only)) | (k_end; wrow_close) | ((with_reducible show wpAny _ _ (binaryOp _ (Value.int _ _) (Value.int _ _)) _ _ _); with_reducible ((refine lshift_int_small (by decide) (by decide) (by omega) ?_))) | ((with_reducible show wpAny _ _ (subscriptTail _ _ (Value.bytes _ _) (Value.int _ _)) _ _ _); with_reducible (((with_reducible show wpAny _ _ (subscriptTail _ _ (Value.bytes _ _) (Value.int _ _)) _ _ _); (with_unfolding_all refine' b64_item ?e ?h0 ?h1 ?_ ?hs ?ht); (case e => assumption); (case h0 => omega); (case h1 => omega); (case hs => with_unfolding_all rfl); (case ht => (intro _; with_unfolding_all rfl)); k_whole; intro t' tk'; (try dsimp only)))) | ((with_reducible show wpAny _ _ (call (Value.builtin "list.append") _ _) _ _ _); with_reducible ((k_here; (refine' append_K ?k1 ?k2 ?k3 ?_ ?z); (case k1 => k_asm); (case k2 => k_asm); (case k3 => first | exact .tail (Ne.symm (by assumption)) (.head (by assumption)) | exact .head (by assumption)); (case z => size_fits); k_whole; intro h' F' N'; (try k_sweep)))) | walk1 | (dsimp only; first | ((with_reducible show wpAny _ _ (binaryOp _ (Value.int _ _) (Value.int _ _)) _ _ _); with_reducible ((refine lshift_int_small (by decide) (by decide) (by omega) ?_))) | ((with_reducible show wpAny _ _ (subscriptTail _ _ (Value.bytes _ _) (Value.int _ _)) _ _ _); with_reducible (((with_reducible show wpAny _ _ (subscriptTail _ _ (Value.bytes _ _) (Value.int _ _)) _ _ _); (with_unfolding_all refine' b64_item ?e ?h0 ?h1 ?_ ?hs ?ht); (case e => assumption); (case h0 => omega); (case h1 => omega); (case hs => with_unfolding_all rfl); (case ht => (intro _; with_unfolding_all rfl)); k_whole; intro t' tk'; (try dsimp only)))) | ((with_reducible show wpAny _ _ (call (Value.builtin "list.append") _ _) _ _ _); with_reducible ((k_here; (refine' append_K ?k1 ?k2 ?k3 ?_ ?z); (case k1 => k_asm); (case k2 => k_asm); (case k3 => first | exact .tail (Ne.symm (by assumption)) (.head (by assumption)) | exact .head (by assumption)); (case z => size_fits); k_whole; intro h' F' N'; (try k_sweep)))) | walk1) | (leave1; try dsimp only) | fail "no step")
      rename News _ _ _ _ => N9
      simp only [List.push_toArray, List.append_assoc, List.cons_append, List.nil_append] at N9
      refine bytesK (by assumption) N9 (.head _) (ns := encOut ds) ?_ (encOut_range ds) ?_ rfl ?_
      · unfold encOut encTail; rw [hst]; exact hov.append (.cons _ _ (.cons _ _ .nil))
      · rw [sizeLine_eq]; simp only [List.length_append, List.length_cons, List.length_nil]; omega
      intro h5 t5 tk5 F5 N5
      (try ((show wpAny _ _ _ _ _ _); k_fold))
      repeat' (first | (k_unfold; (try dsimp only)) | (k_end; wrow_close) | walk1 | (dsimp only; walk1) | (leave1; try dsimp only) | fail "no step")
      rename News h₀ _ _ _ => kN
      exact hret _ _ _ (by assumption) (fun p hp => kN p (.tail _ hp))
end
end Mine
end
noncomputable section
open PySem PySem.W PyProof.Rows PySem.Calls
set_option maxRecDepth 100000
namespace Mine
theorem plain_mt : plainId "bytes.maketrans" = true := by decide +kernel
theorem entry_mt : entryFor table "bytes.maketrans" = some Builtin.«bytes.maketrans» := entryFor_of_tree (by kernel_rfl)
theorem chk_mt (a b : Value) : checkBuiltinCall "bytes.maketrans" ⟨[a, b], []⟩ = pure () := by kernel_rfl
theorem slot_tr : Slot "bytes" "translate" "bytes.translate" :=
  .of (owner := "bytes") (n := "translate") (by rw [typeLookup_type, builtinLookup_eq_fast]; kernel_rfl) (by decide +kernel) (by decide +kernel) (by decide +kernel)
    (by first | exact .inl (by decide +kernel) | exact .inr (by decide +kernel)) (by rw [isSubtype_type]; kernel_rfl)
theorem type_tr : typeOf (.builtin "bytes.translate") = pure (.type "method_descriptor") := by show builtinType _ = _; rw [builtinType_eq_fast]; kernel_rfl
theorem entry_tr : entryFor table "bytes.translate" = some Builtin.«bytes.translate» := entryFor_of_tree (by kernel_rfl)
theorem args_tr (a b : Value) : argsOk "bytes.translate" ⟨[a, b], []⟩ := by unfold argsOk; kernel_rfl
def ident256 : Array UInt8 := (Array.range 256).map (·.toUInt8)
def transTab (frm to : Array UInt8) : Array UInt8 := (frm.toList.zip to.toList).foldl (fun t (p : UInt8 × UInt8) => t.setIfInBounds p.1.toNat p.2) ident256
theorem transTab_size (frm to : Array UInt8) : (transTab frm to).size = 256 := by
  unfold transTab
  have key : ∀ (l : List (UInt8 × UInt8)) (a : Array UInt8), (l.foldl (fun t (p : UInt8 × UInt8) => t.setIfInBounds p.1.toNat p.2) a).size = a.size := by
    intro l
    induction l with
    | nil => intro a; rfl
    | cons x l ih => intro a; rw [List.foldl_cons, ih]; simp
  rw [key]; unfold ident256; simp
def transOf (tab b : Array UInt8) : Array UInt8 := b.map fun c => tab.getD c.toNat c
theorem meets_mt {frm to : Array UInt8} {t u : Tok} (hs : frm.size = to.size) :
    Meets (Builtin.«bytes.maketrans» ⟨[.bytes frm t, .bytes to u], []⟩) (fun _ R s => R (.ok (.ret (.bytes (transTab frm to) s.toks))) { s with toks := s.toks + 1 }) := by
  refine .of_wp fun prog w A R s hS => ?_
  unfold Builtin.«bytes.maketrans» Builtin.Bytes.maketransM
  refine wpAny_bind (wpAny_of_eq (a := ()) (by first | rfl | kernel_rfl) ?_)
  refine wpAny_bind (wpAny_of_eq (a := ()) (by first | rfl | kernel_rfl) ?_)
  refine wpAny_bind (wpAny_of_eq (a := frm) KBd.like_eq ?_)
  refine wpAny_bind (wpAny_of_eq (a := to) KBd.like_eq ?_)
  refine KFB.if_not (by rw [hs]; simp) ?_
  refine wpAny_bind ?_
  have hz := transTab_size frm to
  show wpAny _ _ (mkBytes (transTab frm to)) _ _ _
  unfold mkBytes
  rw [if_neg (by rw [hz, sizeLine_eq]; decide)]
  exact wpAny_bind (wpAny_fresh (wpAny_pure (wpAny_pure ⟨_, rfl, hS⟩)))
section
variable {prog : Program} {w : World} {A : Around} {E : Value → Shared → Prop} {s : Shared}
theorem call_checked {id : String} {B : Builtin} {args : List Value} {S : PySem.Spec} {Q : Value → Shared → Prop} (plain : plainId id = true)
    (entry : entryFor table id = some B) (chk : checkBuiltinCall id ⟨args, []⟩ = pure ()) (g : Meets (B ⟨args, []⟩) S) (h : S A (wants Q E) s) : wpAny (model prog w) A (call (.builtin id) args) Q E s := by
  refine wpAny_call (codeAny_call_builtin plain entry ?_)
  rw [chk]
  exact wpAny_pure (g prog w A (wants Q E) s h)
theorem maketransK {frm to : Array UInt8} {t u : Tok} {Q : Value → Shared → Prop} (hs : frm.size = to.size) (h : ∀ t' tk, Q (.bytes (transTab frm to) t') { s with toks := tk }) :
    wpAny (model prog w) A (call (.builtin "bytes.maketrans") [.bytes frm t, .bytes to u]) Q E s :=
  call_checked plain_mt entry_mt (chk_mt _ _) (meets_mt hs) (h _ _)
end
theorem meets_tr {b tab : Array UInt8} {t u : Tok} (hs : tab.size = 256) (hz : b.size ≤ sizeLine) :
    Meets (Builtin.«bytes.translate» ⟨[.bytes b t, .bytes tab u], []⟩) (fun _ R s => ∀ t' tk, R (.ok (.ret (.bytes (transOf tab b) t'))) { s with toks := tk }) := by
  refine .of_wp fun prog w A R s hS => ?_
  unfold Builtin.«bytes.translate» Builtin.Bytes.translateM
  dsimp only
  rw [if_neg (show ¬ ([Value.bytes tab u].length + ([] : List (Str × Value)).length > 2) from by simp), if_neg (by simp), if_neg (by intro h; cases (eq_of_beq h))]
  refine wpAny_bind (wpAny_of_eq (a := tab) KBd.like_eq ?_)
  refine KFB.if_not (by rw [hs]; rfl) ?_
  refine wpAny_bind (wpAny_pure ?_)
  refine wpAny_bind (wpAny_pure ?_)
  refine wpAny_bind (wpAny_of_eq (a := b) rfl ?_)
  have e : Array.map (fun c => tab.getD c.toNat c) (Array.filter (fun x => !(#[] : Array UInt8).contains x) b) = transOf tab b := by
    unfold transOf; congr 1; simp
  dsimp only
  rw [e]
  by_cases hc : (transOf tab b == b) = true
  · rw [if_pos hc]
    refine wpAny_bind (wpAny_rule ?_)
    refine wpAny_bind (wpAny_of_eq (a := .bytes b t) rfl ?_)
    have h := hS t s.toks
    rw [eq_of_beq hc] at h
    exact wpAny_pure ⟨_, rfl, h⟩
  · rw [if_neg hc]
    refine wpAny_bind ?_
    show wpAny _ _ (mkBytes (transOf tab b)) _ _ _
    unfold mkBytes
    rw [if_neg (by unfold transOf; rw [Array.size_map]; omega)]
    exact wpAny_bind (wpAny_fresh (wpAny_pure (wpAny_pure ⟨_, rfl, hS _ _⟩)))
section
variable {prog : Program} {w : World} {A : Around} {E : Value → Shared → Prop} {s : Shared}
theorem translateK {b tab : Array UInt8} {t u : Tok} {Q : Value → Shared → Prop} (hs : tab.size = 256) (hz : b.size ≤ sizeLine) (h : ∀ t' tk, Q (.bytes (transOf tab b) t') { s with toks := tk }) :
    wpAny (model prog w) A (call (.builtin "bytes.translate") [.bytes b t, .bytes tab u]) Q E s :=
  call_meets slot_tr (typeIs_bytes _ _ _) entry_tr (args_tr _ _) (meets_tr hs hz) h
theorem method_tr {M : Model} {b : Array UInt8} {t : Tok} {pl : Sem Bool} {Q : Value × List Value → Shared → Prop} (h : Q (.builtin "bytes.translate", [.bytes b t]) s) : wpAny M A (getMethod (.bytes b t) (Str.ofString "translate") pl) Q E s := by
  with_reducible exact KBd.method_of (.bytes b t) (typeIs_bytes _ _ _) slot_tr type_tr KBd.noRef h
theorem meta_bytes : typeOf (.type "bytes") = pure (.type "type") := by first | rfl | kernel_rfl
end
end Mine
end
noncomputable section
open PySem PySem.W PyProof.Rows
set_option pp.deepTerms false
set_option pp.maxSteps 2000
set_option maxRecDepth 100000
set_option maxHeartbeats 8000000
namespace Mine
section
variable {w : World} {p : Program} {loose : List Str} {mean : ExcName → Option Value} {mg mb : Str → Option Value}
  {dp un : Nat} {gd : Option (List Code)} {cn : Str} {cs : Scope} {a : Addr} {ccd : Value} {cl : List (Str × Addr)} {outer : List Env} {A₀ : Around} {base h₀ : Heap} {L : Addr} {m : Str → Option Value} {news : List (Addr × Obj)} {s : Shared} {Q E : Value → Shared → Prop}
theorem c_b64encode {ds : List Int} {tb ta : Tok} {x y : Int}
  (B : Below A₀ base outer h₀) (F : Fr h₀ L s.heap m) (X : (hd.heap_39 w.params).In h₀) (N : News h₀ L s.heap news) (T : Top p loose mean mg mb h₀) (hk : cs.kind = .function)
  (hds : ∀ k ∈ ds, 0 ≤ k ∧ k < 256) (hlen : ds.length ≤ 100)
  (hol : (encOut ds).length ≤ sizeLine)
  (hd : dp + 6 < recursionLimit)
  (hret : ∀ t h' tk', Fr h₀ L h' m → News h₀ L h' news → Q (.bytes (transOf (transTab #[43, 47] (byteArr [x, y])) (byteArr (encOut ds))) t) { s with heap := h', toks := tk' }) :
  wpAny (model PySem.Challenge.rw_mq0112_01.row.prog w) (ktrTop dp un gd cn cs L a ccd cl outer) (call (.ref 88) [.bytes (byteArr ds) tb, .bytes (byteArr [x, y]) ta]) Q E s := by
  revert X; k_fill; intro X
  refine wpAny_call ?_
  k_dflt (refine' code_def (binds := [(Str.ofString "s", .bytes (byteArr ds) tb), (Str.ofString "altchars", .bytes (byteArr [x, y]) ta)]) ?k1 ?k2 ?k3 ?k4 ?k5 ?kA ?kF ?kK ?k6 ?k7 ?k8 ?k9 ?kB ?_ ?c2 ?c3 ?c4 ?c5; ((case kA => exact rfl); (case kF => exact rfl); (case kK => assumption); (case k1 => k_asm); (case k2 => k_asm); (case k3 => k_asm); (case k4 => k_asm); (case k5 => k_asm); (case k6 => k_is); (case k7 => k_is); (case k8 => ktr_room); (case k9 => first | exact binds_K (by k_in) rfl (by k_is) rfl rfl rfl | exact BindsTo.of_eq rfl); (case c5 => decide); (case kB => exact locs rfl); (case c2 => exact rfl); (case c3 => exact rfl); (case c4 => exact rfl); k_whole; intro g' L' h' FG' F' N' B' X' T'; (try dsimp only); (try k_lift B'); (try k_fold)))
  repeat' (first | (k_unfold; (try dsimp only)) | (k_end; wrow_close) | ((with_reducible show wpAny _ _ (call (Value.ref _) _ _) _ _ _); (k_here; (with_reducible show wpAny _ _ (call (Value.ref 80) _ _) _ _ _); (refine' c_b2a ?k1 ?k2 ?k3 ?k4 ?k5 ?kK rfl ?kr ?kl ?kd ?_); (case k1 => k_asm); (case k2 => k_asm); (case k3 => k_asm); (case k4 => k_asm); (case k5 => k_asm); (case kK => exact rfl); (case kr => assumption); (case kl => assumption); (case kd => ktr_room); intro t9 h9 tk9 F9 N9; (try dsimp only); (try k_fold))) | ((with_reducible show wpAny _ _ (getMethod (Value.bytes _ _) _ _) _ _ _); with_reducible ((with_reducible refine method_tr ?_))) | ((with_reducible show wpAny _ _ (getMethod (Value.type _) _ _) _ _ _); with_reducible ((k_here; refine' method_type ?F ?X ?m (by decide +kernel) ?e ?h ?_; (case F => k_asm); (case X => k_asm); (case m => exact meta_bytes); (case e => k_dflt k_is); (case h => k_handed)))) | ((with_reducible show wpAny _ _ (call (Value.builtin "bytes.maketrans") _ _) _ _ _); with_reducible ((refine maketransK rfl ?_; intro t' tk'; (try dsimp only)))) | ((with_reducible show wpAny _ _ (call (Value.builtin "bytes.translate") _ _) _ _ _); with_reducible ((refine translateK (transTab_size _ _) (by rw [byteArr_size]; assumption) ?_; intro t' tk'; (try dsimp only)))) | walk1 | (dsimp only; first | ((with_reducible show wpAny _ _ (call (Value.ref _) _ _) _ _ _); (k_here; (with_reducible show wpAny _ _ (call (Value.ref 80) _ _) _ _ _); (refine' c_b2a ?k1 ?k2 ?k3 ?k4 ?k5 ?kK rfl ?kr ?kl ?kd ?_); (case k1 => k_asm); (case k2 => k_asm); (case k3 => k_asm); (case k4 => k_asm); (case k5 => k_asm); (case kK => exact rfl); (case kr => assumption); (case kl => assumption); (case kd => ktr_room); intro t9 h9 tk9 F9 N9; (try dsimp only); (try k_fold))) | ((with_reducible show wpAny _ _ (getMethod (Value.bytes _ _) _ _) _ _ _); with_reducible ((with_reducible refine method_tr ?_))) | ((with_reducible show wpAny _ _ (getMethod (Value.type _) _ _) _ _ _); with_reducible ((k_here; refine' method_type ?F ?X ?m (by decide +kernel) ?e ?h ?_; (case F => k_asm); (case X => k_asm); (case m => exact meta_bytes); (case e => k_dflt k_is); (case h => k_handed)))) | ((with_reducible show wpAny _ _ (call (Value.builtin "bytes.maketrans") _ _) _ _ _); with_reducible ((refine maketransK rfl ?_; intro t' tk'; (try dsimp only)))) | ((with_reducible show wpAny _ _ (call (Value.builtin "bytes.translate") _ _) _ _ _); with_reducible ((refine translateK (transTab_size _ _) (by rw [byteArr_size]; assumption) ?_; intro t' tk'; (try dsimp only)))) | walk1) | (leave1; try dsimp only) | fail "no step")
  · exact hret _ _ _ (by assumption) (by assumption)
  · exact absurd rfl (by assumption)
end
end Mine
end
noncomputable section
open PySem PySem.Sre
set_option maxRecDepth 100000
namespace Mine
abbrev reCode : Array Nat := #[14, 4, 0, 1, 4294967295, 17, 0, 7, 14, 24, 10, 1, 4294967295, 13, 5, 22, 48, 57, 0, 1, 15, 17, 15, 13, 11, 9, 0, 26624, 2147483648, 0, 0, 0, 0, 0, 0, 15, 2, 0, 17, 1, 1]
noncomputable def stepN : Nat → M → M
  | 0, m => m
  | n + 1, m => stepN n m.step
theorem stepN_add (a b : Nat) (m : M) : stepN (a + b) m = stepN b (stepN a m) := by
  induction a generalizing m with
  | zero => simp [stepN]
  | succ a ih => rw [Nat.succ_add]; exact ih m.step
theorem step_done {m : M} (h : m.outcome.isSome = true) : m.step = m := by unfold M.step; rw [if_pos h]
theorem stepN_done {m : M} (h : m.outcome.isSome = true) : ∀ n, stepN n m = m
  | 0 => rfl
  | n + 1 => by rw [stepN, step_done h]; exact stepN_done h n
theorem runFor_eq : ∀ (n : Nat) (m : M), M.runFor n m = stepN n m
  | 0, _ => rfl
  | n + 1, m => by
    unfold M.runFor
    split
    · rename_i h; rw [stepN_done h]
    · exact runFor_eq n _
def isDig (c : Nat) : Bool := 48 ≤ c && c ≤ 57
def isSep (c : Nat) : Bool := c == 43 || c == 45 || c == 46 || c == 95
/-- a machine at work on the pattern -/
abbrev mach (text : Array Nat) (s pc pos handed : Nat) (om : Bool) (marks : Array (Option Nat)) (lm li : Int) (fr : List Sre.Frame) (wt : Nat) (ans : Option Bool) (seen : Seen) : M :=
  { code := reCode, text, lim := text.size, start := s, lastStart := text.size, wholeText := false, mustAdvance := false, pc, pos, handed, outermost := om, marks, lastmark := lm, lastindex := li, loops := #[], inner := none, frames := fr, weight := wt, answer := ans, seen, outcome := none }
abbrev startFrame (s : Nat) (om : Bool) : Sre.Frame := { wait := .nextStart, pc := 5, pos := s, outermost := om }
abbrev branchFrame (s alt : Nat) (om : Bool) : Sre.Frame := { wait := .nextBranch, pc := alt, pos := s, outermost := om, kept := { lastmark := 0, lastindex := -1 } }
theorem set_dig (c : Nat) (seen : Seen) : ∃ seen', inSet reCode c reCode.size 15 true seen = .ok (isDig c, seen') := by
  have h1 : inSet reCode c reCode.size 15 true seen = if (48 ≤ c && c ≤ 57) then .ok (true, seen.add 22) else inSet reCode c 40 18 true (seen.add 22) := rfl
  have h2 : ∀ sn, inSet reCode c 40 18 true sn = .ok (false, sn.add 0) := fun _ => rfl
  rw [h1, h2]
  unfold isDig
  cases (decide (48 ≤ c) && decide (c ≤ 57))
  · exact ⟨_, rfl⟩
  · exact ⟨_, rfl⟩
theorem set_sep (c : Nat) (seen : Seen) : ∃ seen', inSet reCode c reCode.size 25 true seen = .ok (isSep c, seen') := by
  have h1 : inSet reCode c reCode.size 25 true seen = if c < 256 && (reCode.getD (25 + (1 + c / 32)) 0).testBit (c % 32) then .ok (true, seen.add 9) else inSet reCode c 40 34 true (seen.add 9) := rfl
  have h2 : ∀ sn, inSet reCode c 40 34 true sn = .ok (false, sn.add 0) := fun _ => rfl
  rw [h1, h2]
  have h3 : (decide (c < 256) && (reCode.getD (25 + (1 + c / 32)) 0).testBit (c % 32)) = isSep c := by
    by_cases hc : c < 256
    · have : ∀ c : Fin 256, (decide (c.val < 256) && (reCode.getD (25 + (1 + c.val / 32)) 0).testBit (c.val % 32)) = isSep c.val := by decide +kernel
      exact this ⟨c, hc⟩
    · rw [decide_eq_false hc, Bool.false_and]
      unfold isSep
      simp only [Bool.false_eq, Bool.or_eq_false_iff, beq_eq_false_iff_ne]
      omega
  rw [h3]
  cases isSep c
  · exact ⟨_, rfl⟩
  · exact ⟨_, rfl⟩
theorem acc_dig (c : Nat) (seen : Seen) : ∃ seen', accepts reCode 13 c seen = .ok (isDig c, seen') := set_dig c seen
theorem acc_sep (c : Nat) (seen : Seen) : ∃ seen', accepts reCode 23 c seen = .ok (isSep c, seen') := set_sep c seen
noncomputable def digRun (text : Array Nat) : Nat → Nat → Nat
  | 0, _ => 0
  | n + 1, p => if isDig (text.getD p 0) then digRun text n (p + 1) + 1 else 0
theorem run_dig (text : Array Nat) : ∀ (n p found : Nat) (seen : Seen), ∃ seen', Sre.run reCode text 13 n p found seen = .ok (found + digRun text n p, seen')
  | 0, p, found, seen => ⟨seen, rfl⟩
  | n + 1, p, found, seen => by
    obtain ⟨sn, e⟩ := acc_dig (text.getD p 0) seen
    unfold Sre.run
    rw [e]
    unfold digRun
    cases h : isDig (text.getD p 0)
    · exact ⟨sn, rfl⟩
    · obtain ⟨sn', e'⟩ := run_dig text n (p + 1) (found + 1) sn
      refine ⟨sn', ?_⟩
      show Sre.run reCode text 13 n (p + 1) (found + 1) sn = _
      rw [e']
      simp only [if_true]
      congr 2
      omega
end Mine
end
noncomputable section
open PySem PySem.Sre
set_option maxRecDepth 100000
namespace Mine
section
variable {text : Array Nat} {s : Nat} {om : Bool} {mk : Array (Option Nat)} {sn : Seen} {fr : List Sre.Frame} {wt pos handed : Nat}
theorem st_mark0 : (mach text s 5 s s om mk (-1) (-1) fr 1 none sn).step = mach text s 7 s s om (mk.setIfInBounds 0 (some s)) 0 (-1) fr 1 none (sn.add 17) := rfl
theorem st_branch : (mach text s 7 s s om mk 0 (-1) fr 1 none sn).step = mach text s 9 s s om mk 0 (-1) (branchFrame s 8 om :: fr) 2 none (sn.add 7) := rfl
theorem st_rep : (mach text s 9 s s om mk 0 (-1) fr 2 none sn).step = (if ((1 : Nat) : Int) > ((text.size : Nat) : Int) - (s : Nat) then mach text s 9 s s om mk 0 (-1) fr 2 (some false) (sn.add 24) else
    match Sre.run reCode text 13 (min 4294967295 (((text.size : Nat) : Int) - (s : Nat)).toNat) s 0 ((sn.add 24).add 13) with
    | .error why => (mach text s 9 s s om mk 0 (-1) fr 2 none (sn.add 24)).stick why
    | .ok (n, seen) => if n < 1 then mach text s 9 s s om mk 0 (-1) fr 2 (some false) seen else
        (mach text s 9 (s + n) s om mk 0 (-1) fr 2 none seen).afterRun .giveBack n { lastmark := 0, lastindex := -1 }) := rfl
theorem st_rep_end (h : ¬ s < text.size) : (mach text s 9 s s om mk 0 (-1) fr 2 none sn).step = mach text s 9 s s om mk 0 (-1) fr 2 (some false) (sn.add 24) := by
  rw [st_rep, if_pos (by omega)]
theorem st_rep_no (hs : s < text.size) (hz : text.size ≤ 1000) (hd : isDig (text.getD s 0) = false) : ∃ sn', (mach text s 9 s s om mk 0 (-1) fr 2 none sn).step = mach text s 9 s s om mk 0 (-1) fr 2 (some false) sn' := by
  rw [st_rep, if_neg (by omega), show (min 4294967295 (((text.size : Nat) : Int) - (s : Nat)).toNat) = text.size - s by omega]
  obtain ⟨sn', e⟩ := run_dig text (text.size - s) s 0 ((sn.add 24).add 13)
  rw [e]
  obtain ⟨k, hk⟩ : ∃ k, text.size - s = k + 1 := ⟨text.size - s - 1, by omega⟩
  rw [hk, digRun, hd]
  exact ⟨sn', rfl⟩
abbrev giveFrame (pos n : Nat) (om : Bool) : Sre.Frame := { wait := .giveBack, pc := 9, pos := pos, outermost := om, count := n, kept := { lastmark := 0, lastindex := -1 } }
theorem st_rep_yes (hs : s < text.size) (hz : text.size ≤ 1000) (hd : isDig (text.getD s 0) = true) : ∃ sn', (mach text s 9 s s om mk 0 (-1) fr 2 none sn).step =
    mach text s 20 (s + digRun text (text.size - s) s) (s + digRun text (text.size - s) s) om mk 0 (-1) (giveFrame (s + digRun text (text.size - s) s) (digRun text (text.size - s) s) om :: fr) 3 none sn' := by
  rw [st_rep, if_neg (by omega), show (min 4294967295 (((text.size : Nat) : Int) - (s : Nat)).toNat) = text.size - s by omega]
  obtain ⟨sn', e⟩ := run_dig text (text.size - s) s 0 ((sn.add 24).add 13)
  rw [e]
  have h1 : 1 ≤ digRun text (text.size - s) s := by
    obtain ⟨k, hk⟩ : ∃ k, text.size - s = k + 1 := ⟨text.size - s - 1, by omega⟩
    rw [hk, digRun, hd]; exact Nat.succ_le_succ (Nat.zero_le _)
  rw [Nat.zero_add]
  generalize digRun text (text.size - s) s = n at h1
  refine ⟨sn', ?_⟩
  show (if n < 1 then _ else _) = _
  rw [if_neg (by omega)]
  rfl
theorem st_jump20 : (mach text s 20 pos handed om mk 0 (-1) fr wt none sn).step = mach text s 38 pos handed om mk 0 (-1) fr wt none (sn.add 15) := rfl
theorem st_jump35 : (mach text s 35 pos handed om mk 0 (-1) fr wt none sn).step = mach text s 38 pos handed om mk 0 (-1) fr wt none (sn.add 15) := rfl
theorem st_mark1 : (mach text s 38 pos handed om mk 0 (-1) fr wt none sn).step = mach text s 40 pos handed om (mk.setIfInBounds 1 (some pos)) 1 1 fr wt none (sn.add 17) := by
  show ({ mach text s 38 pos handed om mk 0 (-1) fr wt none (sn.add 17) with marks := (if ((1 : Nat) : Int) ≤ (0 : Int) + 1 then mk else (List.range 1).foldl (fun (a : Array (Option Nat)) (j : Nat) => if (j : Int) > (0 : Int) then a.setIfInBounds j none else a) mk).setIfInBounds 1 (some pos), lastmark := max 0 ((1 : Nat) : Int), lastindex := if 1 % 2 == 1 then ((1 / 2 + 1 : Nat) : Int) else -1, pc := 38 + 2 } : M) = _
  rw [if_pos (by decide)]
  rfl
theorem st_succ : (mach text s 40 pos handed om mk 1 1 fr wt none sn).step = mach text s 40 pos pos om mk 1 1 fr wt (some true) (sn.add 1) := by
  cases om <;> rfl
theorem st_giveYes {n p2 pc : Nat} {o2 : Bool} : (mach text s pc pos handed om mk 1 1 (giveFrame p2 n o2 :: fr) 3 (some true) sn).step = mach text s 9 p2 handed o2 mk 1 1 fr 2 (some true) sn := rfl
theorem st_branchYes {p2 alt pc : Nat} {o2 : Bool} : (mach text s pc pos handed om mk 1 1 (branchFrame p2 alt o2 :: fr) 2 (some true) sn).step = mach text s alt p2 handed o2 mk 1 1 fr 1 (some true) sn := rfl
theorem st_startYes {p2 pc : Nat} {o2 : Bool} : (mach text s pc pos handed om mk 1 1 [startFrame p2 o2] 1 (some true) sn).step = mach text s 5 p2 handed o2 mk 1 1 [] 0 (some true) sn := rfl
theorem st_end {pc : Nat} {lm li : Int} {b : Bool} : (mach text s pc pos handed om mk lm li [] wt (some b) sn).step = { mach text s pc pos handed om mk lm li [] wt (some b) sn with outcome := some (if b then .matched else .failed) } := rfl
theorem st_branch8 {pc : Nat} {o2 : Bool} : (mach text s pc pos handed om mk 0 (-1) (branchFrame s 8 o2 :: fr) 2 (some false) sn).step = mach text s 23 s s o2 mk 0 (-1) (branchFrame s 22 o2 :: fr) 2 none sn := rfl
theorem st_branch22 {pc : Nat} {o2 : Bool} : (mach text s pc pos handed om mk 0 (-1) (branchFrame s 22 o2 :: fr) 2 (some false) sn).step = mach text s 22 s handed o2 mk 0 (-1) fr 1 (some false) sn := rfl
theorem st_in : (mach text s 23 s s om mk 0 (-1) fr 2 none sn).step = (if s ≥ text.size then mach text s 23 s s om mk 0 (-1) fr 2 (some false) (sn.add 13) else
    match accepts reCode 23 (text.getD s 0) (sn.add 13) with
    | .error why => (mach text s 23 s s om mk 0 (-1) fr 2 none (sn.add 13)).stick why
    | .ok (false, seen) => mach text s 23 s s om mk 0 (-1) fr 2 (some false) seen
    | .ok (true, seen) => mach text s 35 (s + 1) s om mk 0 (-1) fr 2 none seen) := rfl
theorem st_in_end (h : ¬ s < text.size) : (mach text s 23 s s om mk 0 (-1) fr 2 none sn).step = mach text s 23 s s om mk 0 (-1) fr 2 (some false) (sn.add 13) := by
  rw [st_in, if_pos (by omega)]
theorem st_in_no (h : s < text.size) (hd : isSep (text.getD s 0) = false) : ∃ sn', (mach text s 23 s s om mk 0 (-1) fr 2 none sn).step = mach text s 23 s s om mk 0 (-1) fr 2 (some false) sn' := by
  rw [st_in, if_neg (by omega)]
  obtain ⟨sn', e⟩ := acc_sep (text.getD s 0) (sn.add 13)
  rw [e, hd]
  exact ⟨sn', rfl⟩
theorem st_in_yes (h : s < text.size) (hd : isSep (text.getD s 0) = true) : ∃ sn', (mach text s 23 s s om mk 0 (-1) fr 2 none sn).step = mach text s 35 (s + 1) s om mk 0 (-1) fr 2 none sn' := by
  rw [st_in, if_neg (by omega)]
  obtain ⟨sn', e⟩ := acc_sep (text.getD s 0) (sn.add 13)
  rw [e, hd]
  exact ⟨sn', rfl⟩
theorem st_start_go {pc : Nat} {o2 : Bool} {lm li : Int} (h : s < text.size) : (mach text s pc pos handed om mk lm li [startFrame s o2] 1 (some false) sn).step = mach text (s + 1) 5 (s + 1) (s + 1) false mk (-1) (-1) [startFrame (s + 1) false] 1 none sn := by
  show (if s < text.size then _ else _) = _
  rw [if_pos h]
  rfl
theorem st_start_no {pc : Nat} {o2 : Bool} {lm li : Int} (h : ¬ s < text.size) : (mach text s pc pos handed om mk lm li [startFrame s o2] 1 (some false) sn).step = mach text s 5 s handed o2 mk lm li [] 0 (some false) sn := by
  show (if s < text.size then _ else _) = _
  rw [if_neg h]
  rfl
end
end Mine
end
noncomputable section
open PySem PySem.Sre
set_option maxRecDepth 100000
namespace Mine
def plainC (c : Nat) : Bool := !isDig c && !isSep c
def hitLen (text : Array Nat) (s : Nat) : Nat := if isDig (text.getD s 0) then digRun text (text.size - s) s else 1
section
variable {text : Array Nat}
abbrev atStart (text : Array Nat) (s : Nat) (om : Bool) (mk : Array (Option Nat)) (sn : Seen) : M := mach text s 5 s s om mk (-1) (-1) [startFrame s om] 1 none sn
theorem fail_at {s : Nat} {om : Bool} {mk : Array (Option Nat)} {sn : Seen} (hs : s < text.size) (hz : text.size ≤ 1000) (hp : plainC (text.getD s 0) = true) : ∃ sn', stepN 7 (atStart text s om mk sn) = atStart text (s + 1) false (mk.setIfInBounds 0 (some s)) sn' := by
  unfold plainC at hp
  have hd : isDig (text.getD s 0) = false := by cases h : isDig (text.getD s 0) <;> simp_all
  have hq : isSep (text.getD s 0) = false := by cases h : isSep (text.getD s 0) <;> simp_all
  simp only [stepN, atStart, st_mark0, st_branch]
  obtain ⟨s3, e3⟩ := st_rep_no (text := text) (s := s) (om := om) (mk := mk.setIfInBounds 0 (some s)) (fr := [branchFrame s 8 om, startFrame s om]) (sn := (sn.add 17).add 7) hs hz hd
  rw [e3, st_branch8]
  obtain ⟨s4, e4⟩ := st_in_no (text := text) (s := s) (om := om) (mk := mk.setIfInBounds 0 (some s)) (fr := [branchFrame s 22 om, startFrame s om]) (sn := s3) hs hq
  rw [e4, st_branch22, st_start_go hs]
  exact ⟨_, rfl⟩
theorem end_at {s : Nat} {om : Bool} {mk : Array (Option Nat)} {sn : Seen} (hs : ¬ s < text.size) : (stepN 8 (atStart text s om mk sn)).outcome = some .failed := by
  simp only [stepN, atStart, st_mark0, st_branch]
  rw [st_rep_end hs, st_branch8, st_in_end hs, st_branch22, st_start_no hs, st_end]
  rfl
def Hit (text : Array Nat) (s' n : Nat) (m : M) : Prop := m.outcome = some .matched ∧ m.start = s' ∧ m.handed = s' + n ∧ m.lastmark = 1 ∧ m.marks.getD 0 none = some s' ∧ m.marks.getD 1 none = some (s' + n)
theorem marks2 {mk : Array (Option Nat)} {a b : Nat} (h : mk.size = 2) : ((mk.setIfInBounds 0 (some a)).setIfInBounds 1 (some b)).getD 0 none = some a ∧ ((mk.setIfInBounds 0 (some a)).setIfInBounds 1 (some b)).getD 1 none = some b := by
  obtain ⟨l⟩ := mk
  match l, h with
  | [x, y], _ => exact ⟨rfl, rfl⟩
theorem dig_at {s : Nat} {om : Bool} {mk : Array (Option Nat)} {sn : Seen} (hm : mk.size = 2) (hs : s < text.size) (hz : text.size ≤ 1000) (hd : isDig (text.getD s 0) = true) : Hit text s (hitLen text s) (stepN 10 (atStart text s om mk sn)) := by
  simp only [stepN, atStart, st_mark0, st_branch]
  obtain ⟨s3, e3⟩ := st_rep_yes (text := text) (s := s) (om := om) (mk := mk.setIfInBounds 0 (some s)) (fr := [branchFrame s 8 om, startFrame s om]) (sn := (sn.add 17).add 7) hs hz hd
  rw [e3, st_jump20, st_mark1, st_succ, st_giveYes, st_branchYes, st_startYes, st_end]
  have hl : hitLen text s = digRun text (text.size - s) s := by unfold hitLen; rw [hd]; rfl
  rw [hl]
  exact ⟨rfl, rfl, rfl, rfl, (marks2 hm).1, (marks2 hm).2⟩
theorem sep_at {s : Nat} {om : Bool} {mk : Array (Option Nat)} {sn : Seen} (hm : mk.size = 2) (hs : s < text.size) (hz : text.size ≤ 1000) (hd : isDig (text.getD s 0) = false) (hq : isSep (text.getD s 0) = true) : Hit text s (hitLen text s) (stepN 11 (atStart text s om mk sn)) := by
  simp only [stepN, atStart, st_mark0, st_branch]
  obtain ⟨s3, e3⟩ := st_rep_no (text := text) (s := s) (om := om) (mk := mk.setIfInBounds 0 (some s)) (fr := [branchFrame s 8 om, startFrame s om]) (sn := (sn.add 17).add 7) hs hz hd
  rw [e3, st_branch8]
  obtain ⟨s4, e4⟩ := st_in_yes (text := text) (s := s) (om := om) (mk := mk.setIfInBounds 0 (some s)) (fr := [branchFrame s 22 om, startFrame s om]) (sn := s3) hs hq
  rw [e4, st_jump35, st_mark1, st_succ, st_branchYes, st_startYes, st_end]
  have hl : hitLen text s = 1 := by unfold hitLen; rw [hd]; rfl
  rw [hl]
  exact ⟨rfl, rfl, rfl, rfl, (marks2 hm).1, (marks2 hm).2⟩
def Found (text : Array Nat) (s : Nat) (m : M) : Prop :=
  (∃ s', s ≤ s' ∧ s' < text.size ∧ (∀ i, s ≤ i → i < s' → plainC (text.getD i 0) = true) ∧ plainC (text.getD s' 0) = false ∧ Hit text s' (hitLen text s') m) ∨
  ((∀ i, s ≤ i → i < text.size → plainC (text.getD i 0) = true) ∧ m.outcome = some .failed)
theorem search_at (hz : text.size ≤ 1000) : ∀ (j s : Nat) (om : Bool) (mk : Array (Option Nat)) (sn : Seen), s + j = text.size → mk.size = 2 → ∃ k, k ≤ 7 * j + 20 ∧ Found text s (stepN k (atStart text s om mk sn)) := by
  intro j
  induction j with
  | zero =>
    intro s om mk sn hs hm
    exact ⟨8, by omega, .inr ⟨fun i h1 h2 => by omega, end_at (by omega)⟩⟩
  | succ j ih =>
    intro s om mk sn hs hm
    cases hd : isDig (text.getD s 0) with
    | true => exact ⟨10, by omega, .inl ⟨s, Nat.le_refl _, by omega, fun i h1 h2 => by omega, by unfold plainC; rw [hd]; rfl, dig_at hm (by omega) hz hd⟩⟩
    | false =>
      cases hq : isSep (text.getD s 0) with
      | true => exact ⟨11, by omega, .inl ⟨s, Nat.le_refl _, by omega, fun i h1 h2 => by omega, by unfold plainC; rw [hd, hq]; rfl, sep_at hm (by omega) hz hd hq⟩⟩
      | false =>
        have hp : plainC (text.getD s 0) = true := by unfold plainC; rw [hd, hq]; rfl
        obtain ⟨sn', e⟩ := fail_at (text := text) (om := om) (mk := mk) (sn := sn) (by omega) hz hp
        obtain ⟨k, hk, hf⟩ := ih (s + 1) false (mk.setIfInBounds 0 (some s)) sn' (by omega) (by simpa using hm)
        refine ⟨7 + k, by omega, ?_⟩
        rw [stepN_add, e]
        have step : ∀ i, s ≤ i → i ≠ s → s + 1 ≤ i := fun i h1 h2 => by omega
        rcases hf with ⟨s', h1, h2, h3, h4, h5⟩ | ⟨h1, h2⟩
        · refine .inl ⟨s', by omega, h2, fun i a b => ?_, h4, h5⟩
          by_cases e : i = s
          · rw [e]; exact hp
          · exact h3 i (step i a e) b
        · refine .inr ⟨fun i a b => ?_, h2⟩
          by_cases e : i = s
          · rw [e]; exact hp
          · exact h1 i (step i a e) b
theorem forSearch_go {s : Nat} (h : s < text.size) : Sre.forSearch reCode text 1 s text.size false = atStart text s true (Array.replicate 2 none) (({} : Seen).add 14) := by
  unfold Sre.forSearch
  dsimp only
  rw [if_neg (by show ¬ ((decide (s > text.size) || decide (text.size - s < 1)) = true); simp only [Bool.or_eq_true, decide_eq_true_eq]; omega)]
  rfl
theorem forSearch_end {s : Nat} (h : ¬ s < text.size) : ((Sre.forSearch reCode text 1 s text.size false).step).outcome = some .failed := by
  unfold Sre.forSearch
  dsimp only
  rw [if_pos (by show ((decide (s > text.size) || decide (text.size - s < 1)) = true); simp only [Bool.or_eq_true, decide_eq_true_eq]; omega)]
  rfl
theorem search_all (hz : text.size ≤ 1000) (s : Nat) (hs : s ≤ text.size) : ∃ k, k ≤ 8000 ∧ Found text s (stepN k (Sre.forSearch reCode text 1 s text.size false)) := by
  by_cases h : s < text.size
  · rw [forSearch_go h]
    obtain ⟨k, hk, hf⟩ := search_at hz (text.size - s) s true (Array.replicate 2 none) (({} : Seen).add 14) (by omega) rfl
    exact ⟨k, by omega, hf⟩
  · exact ⟨1, by omega, .inr ⟨fun i h1 h2 => by omega, forSearch_end h⟩⟩
end
end Mine
end
noncomputable section
open PySem PySem.Sre PySem.Builtin.Re PyProof.Rows
set_option maxRecDepth 100000
namespace Mine
section
variable {M₀ : Model} {A : Around} {E : Value → Shared → Prop} {s : Shared}
theorem drive_ok {Q : M → Shared → Prop} : ∀ (turns k : Nat) (m : M), k < 4 * turns → (stepN k m).outcome.isSome = true → Q (stepN k m) s → wpAny M₀ A (reDrive turns m) Q E s
  | 0, k, m, h, _, _ => by omega
  | turns + 1, k, m, h, ho, hq => by
    unfold reDrive
    rw [show reTurnSteps = 4 from rfl, runFor_eq]
    by_cases h1 : (stepN 4 m).outcome.isSome = true
    · rw [if_pos h1]
      have e : stepN 4 m = stepN k m := by
        by_cases hk : k ≤ 4
        · rw [show 4 = k + (4 - k) by omega, stepN_add, stepN_done ho]
        · rw [show k = 4 + (k - 4) by omega, stepN_add, stepN_done h1]
      rw [e]
      exact wpAny_pure hq
    · rw [if_neg h1]
      have hk : 4 < k := by
        rcases Nat.lt_or_ge 4 k with h2 | h2
        · exact h2
        · refine absurd ?_ h1
          rw [show 4 = k + (4 - k) by omega, stepN_add, stepN_done ho]; exact ho
      have e : stepN k m = stepN (k - 4) (stepN 4 m) := by rw [← stepN_add]; congr 1; omega
      rw [e] at ho hq
      exact wpAny_bind (wpAny_rule (drive_ok turns (k - 4) (stepN 4 m) (by omega) ho hq))
theorem names_ok {m : M} {Q : PUnit → Shared → Prop} (l : List Nat) (h : Q ⟨⟩ s) : wpAny M₀ A (forIn l PUnit.unit (fun i _ => do
    if m.seen.has i then rule (Sre.names.getD i "")
    pure (ForInStep.yield PUnit.unit))) Q E s := by
  refine wpAny_forIn_list _ (fun _ _ s' => s' = s) _ ?_ (fun _ s' e => e ▸ h) l _ rfl
  intro x rest b s' e
  subst e
  dsimp only
  cases m.seen.has x
  · exact wpAny_pure rfl
  · exact wpAny_bind (wpAny_rule (wpAny_pure rfl))
theorem toEnd_ok {text : Array Nat} {st : Nat} {Q : Option M → Shared → Prop} (hz : text.size ≤ 1000) (hs : st ≤ text.size)
    (hit : ∀ s' m, st ≤ s' → s' < text.size → (∀ i, st ≤ i → i < s' → plainC (text.getD i 0) = true) → plainC (text.getD s' 0) = false → Hit text s' (hitLen text s') m → Q (some m) s)
    (miss : (∀ i, st ≤ i → i < text.size → plainC (text.getD i 0) = true) → Q none s) : wpAny M₀ A (reRunToEnd (Sre.forSearch reCode text 1 st text.size false)) Q E s := by
  obtain ⟨k, hk, hf⟩ := search_all hz st hs
  generalize hm : stepN k (Sre.forSearch reCode text 1 st text.size false) = m at hf
  have ho : m.outcome.isSome = true := by
    rcases hf with ⟨_, _, _, _, _, h⟩ | ⟨_, h⟩
    · rw [h.1]; rfl
    · rw [h]; rfl
  unfold reRunToEnd
  refine wpAny_bind (drive_ok (2 ^ 64) k _ (by omega) (hm ▸ ho) ?_)
  rw [hm]
  refine wpAny_bind (names_ok _ ?_)
  rcases hf with ⟨s', h1, h2, h3, h4, h5⟩ | ⟨h1, h2⟩
  · rw [h5.1]; exact wpAny_pure (hit s' m h1 h2 h3 h4 h5)
  · rw [h2]; exact wpAny_pure (miss h1)
end
end Mine
end
noncomputable section
open PySem PySem.Sre PySem.Builtin.Re PyProof.Rows
set_option maxRecDepth 100000
namespace Mine
/-- what the pattern's split gives -/
noncomputable def reSplit : List Nat → List Nat → List (List Nat)
  | acc, [] => [acc]
  | acc, c :: r => if isDig c then acc :: (c :: r.takeWhile isDig) :: reSplit [] (r.dropWhile isDig) else if isSep c then acc :: [c] :: reSplit [] r else reSplit (acc ++ [c]) r
termination_by _ r => r.length
decreasing_by
  · have := List.dropWhile_sublist (p := isDig) (l := r) |>.length_le
    simp only [List.length_cons]; omega
  · simp only [List.length_cons]; omega
  · simp only [List.length_cons]; omega
theorem reSplit_nil (acc : List Nat) : reSplit acc [] = [acc] := by rw [reSplit]
theorem reSplit_plain {acc r : List Nat} {c : Nat} (h : plainC c = true) : reSplit acc (c :: r) = reSplit (acc ++ [c]) r := by
  unfold plainC at h
  have hd : isDig c = false := by cases h' : isDig c <;> simp_all
  have hq : isSep c = false := by cases h' : isSep c <;> simp_all
  rw [reSplit, hd, hq]; rfl
theorem reSplit_dig {acc r : List Nat} {c : Nat} (h : isDig c = true) : reSplit acc (c :: r) = acc :: (c :: r.takeWhile isDig) :: reSplit [] (r.dropWhile isDig) := by rw [reSplit, h]; rfl
theorem reSplit_sep {acc r : List Nat} {c : Nat} (h : isDig c = false) (h' : isSep c = true) : reSplit acc (c :: r) = acc :: [c] :: reSplit [] r := by rw [reSplit, h, h']; rfl
theorem drop_getD {text : Array Nat} {s : Nat} (h : s < text.size) : text.toList.drop s = text.getD s 0 :: text.toList.drop (s + 1) := by
  rw [List.drop_eq_getElem_cons (by simpa using h)]
  congr 1
  simp [Array.getD, h]
theorem digRun_len (text : Array Nat) : ∀ (n s : Nat), s + n = text.size → digRun text n s = ((text.toList.drop s).takeWhile isDig).length
  | 0, s, h => by rw [List.drop_of_length_le (by simp; omega)]; rfl
  | n + 1, s, h => by
    rw [drop_getD (by omega), digRun, List.takeWhile_cons]
    cases hd : isDig (text.getD s 0)
    · rfl
    · simp only [if_true, List.length_cons]; rw [digRun_len text n (s + 1) (by omega)]
theorem split_plain (text : Array Nat) : ∀ (k st : Nat) (acc : List Nat), st + k ≤ text.size → (∀ i, st ≤ i → i < st + k → plainC (text.getD i 0) = true) → reSplit acc (text.toList.drop st) = reSplit (acc ++ (text.toList.drop st).take k) (text.toList.drop (st + k))
  | 0, st, acc, _, _ => by simp
  | k + 1, st, acc, h, hp => by
    rw [drop_getD (s := st) (by omega), reSplit_plain (hp st (Nat.le_refl _) (by omega)), split_plain text k (st + 1) _ (by omega) (fun i a b => hp i (by omega) (by omega))]
    rw [List.take_succ_cons, List.append_assoc, show st + 1 + k = st + (k + 1) by omega]; rfl
theorem hitLen_pos {text : Array Nat} {s : Nat} (h : s < text.size) : 1 ≤ hitLen text s ∧ s + hitLen text s ≤ text.size := by
  cases hd : isDig (text.getD s 0)
  · have e : hitLen text s = 1 := by unfold hitLen; rw [hd]; rfl
    rw [e]; omega
  · have e : hitLen text s = ((text.toList.drop (s + 1)).takeWhile isDig).length + 1 := by
      unfold hitLen
      rw [hd, digRun_len text (text.size - s) s (by omega), drop_getD h, List.takeWhile_cons, hd]
      simp only [if_true, List.length_cons]
    rw [e]
    have h2 := (List.takeWhile_sublist isDig (l := text.toList.drop (s + 1))).length_le
    have h3 : text.toList.length = text.size := Array.length_toList
    rw [List.length_drop, h3] at h2
    omega
theorem tw_split (l : List Nat) : l.drop (l.takeWhile isDig).length = l.dropWhile isDig ∧ l.take (l.takeWhile isDig).length = l.takeWhile isDig := by
  induction l with
  | nil => exact ⟨rfl, rfl⟩
  | cons c l ih =>
    rw [List.takeWhile_cons, List.dropWhile_cons]
    cases isDig c
    · exact ⟨rfl, rfl⟩
    · simp only [if_true, List.length_cons, List.drop_succ_cons, List.take_succ_cons]
      exact ⟨ih.1, by rw [ih.2]⟩
theorem split_hit {text : Array Nat} {s : Nat} {acc : List Nat} (h : s < text.size) (hp : plainC (text.getD s 0) = false) :
    reSplit acc (text.toList.drop s) = acc :: (text.toList.drop s).take (hitLen text s) :: reSplit [] (text.toList.drop (s + hitLen text s)) := by
  unfold hitLen
  cases hd : isDig (text.getD s 0)
  · have hq : isSep (text.getD s 0) = true := by unfold plainC at hp; rw [hd] at hp; cases h' : isSep (text.getD s 0) <;> simp_all
    rw [drop_getD h, reSplit_sep hd hq]; rfl
  · rw [digRun_len text (text.size - s) s (by omega)]
    have e : text.toList.drop (s + ((text.toList.drop s).takeWhile isDig).length) = ((text.toList.drop s).dropWhile isDig) := by
      rw [← List.drop_drop]; exact (tw_split _).1
    have e2 := (tw_split (text.toList.drop s)).2
    simp only [if_true]
    rw [e, e2, drop_getD h, reSplit_dig hd, List.takeWhile_cons, List.dropWhile_cons, hd]; rfl
section
variable {M₀ : Model} {A : Around} {E : Value → Shared → Prop} {s : Shared}
theorem named_ok (v : Value) : reNamed "re.Pattern.split" "split" ["string", "maxsplit"] 1 [v] [] = pure [some v, none] := rfl
abbrev tgt (p : Addr) (x : Str) (t : Tok) : ReTarget := { pattern := .ref p, string := .str x t, code := reCode, text := x.cps, kind := 0, groups := 1, pos := 0, lim := x.cps.size }
theorem target_ok {p c : Addr} {o oc : Obj} {x : Str} {t : Tok} {a b d e : Value} {tk2 tk6 : Tok} {its : Array Value} {n : Nat} {Q : ReTarget → Shared → Prop} (ho : s.heap.get? p = some o) (hd : o.data = .fields #[a, b, .int 1 tk2, d, e, .ref c, .int 0 tk6])
    (hc : s.heap.get? c = some oc) (hcd : oc.data = .seq its n) (hi : (its.map reRawOf).map (·.toNat) = reCode)
    (h : Q (tgt p x t) s) : wpAny M₀ A (reWholeTarget (.ref p) (.str x t)) Q E s := by
  unfold reWholeTarget
  refine wpAny_bind (wpAny_fieldsOf ho hd ?_)
  refine wpAny_bind ?_
  unfold reTextOf
  refine wpAny_bind (wpAny_pure ?_)
  dsimp only
  refine wpAny_pure ?_
  dsimp only
  refine wpAny_ite_false rfl (wpAny_ite_false rfl ?_)
  refine wpAny_bind (wpAny_pure ?_)
  refine wpAny_bind ?_
  show wpAny _ _ (reRawItems (.ref c)) _ _ _
  unfold reRawItems
  refine wpAny_bind (wpAny_seqItems hc hcd ?_)
  refine wpAny_pure (wpAny_pure ?_)
  rw [Option.getD_some, hi]
  exact h
theorem slice_ok {text : Array Nat} {b e : Nat} {Q : Value → Shared → Prop} (hz : text.size ≤ 1000) (he : e ≤ text.size) (hbe : b ≤ e) (h : ∀ t, Q (.str ⟨((text.toList.drop b).take (e - b)).toArray⟩ t) { s with toks := s.toks + 1 }) : wpAny M₀ A (reSlice text 0 b e) Q E s := by
  show wpAny M₀ A (mkStr ⟨text.extract b e⟩) Q E s
  refine wpAny_mkStr ?_ ?_
  · have e1 : text.extract b e = ((text.toList.drop b).take (e - b)).toArray := by
      apply Array.toList_inj.mp
      simp
    rw [e1]; exact h _
  · show (text.extract b e).size ≤ sizeLine
    rw [sizeLine_eq, Array.size_extract]; omega
/-- the pieces as texts -/
def strOf (l : List Nat) : Str := ⟨l.toArray⟩
abbrev SpSt : Type := Array Value × Nat × Nat × Bool × Int × Bool
inductive SpDone (x : Str) (s : Shared) (b : SpSt) (s' : Shared) : Prop
  | mk (tk : Nat) (os : List (List Nat)) (h1 : s' = { s with toks := tk }) (h2 : StrsAre b.1.toList (os.map strOf)) (h3 : b.2.2.2.2.2 = true) (h4 : b.2.2.1 ≤ x.cps.size) (h5 : os ++ [x.cps.toList.drop b.2.2.1] = reSplit [] x.cps.toList) : SpDone x s b s'
inductive SpRun (x : Str) (s : Shared) (rest : List Nat) (b : SpSt) (s' : Shared) : Prop
  | mk (tk : Nat) (os : List (List Nat)) (h1 : s' = { s with toks := tk }) (h2 : StrsAre b.1.toList (os.map strOf)) (h3 : b.2.2.2.2.2 = false) (h4 : b.2.2.1 = b.2.1) (h5 : b.2.2.2.1 = false) (h6 : b.2.1 ≤ x.cps.size) (h7 : x.cps.size + 1 ≤ b.2.1 + rest.length) (h8 : os ++ reSplit [] (x.cps.toList.drop b.2.1) = reSplit [] x.cps.toList) : SpRun x s rest b s'
abbrev SpInv (x : Str) (s : Shared) (rest : List Nat) (b : SpSt) (s' : Shared) : Prop := SpDone x s b s' ∨ SpRun x s rest b s'
theorem split_ok {p c : Addr} {o oc : Obj} {x : Str} {t : Tok} {a b d e : Value} {tk2 tk6 : Tok} {its : Array Value} {n : Nat} {Q : PySem.Fin → Shared → Prop} (ho : s.heap.get? p = some o) (hd : o.data = .fields #[a, b, .int 1 tk2, d, e, .ref c, .int 0 tk6])
    (hc : s.heap.get? c = some oc) (hcd : oc.data = .seq its n) (hi : (its.map reRawOf).map (·.toNat) = reCode) (hz : x.cps.size ≤ 1000)
    (h : ∀ vs tk, StrsAre vs ((reSplit [] x.cps.toList).map strOf) → wpAny M₀ A (newList vs) (fun r s' => wpAny M₀ A (ret r) Q E s') E { s with toks := tk }) :
    wpAny M₀ A (Builtin.«re.Pattern.split» ⟨[.ref p, .str x t], []⟩) Q E s := by
  unfold Builtin.«re.Pattern.split»
  dsimp only
  rw [named_ok]
  refine wpAny_bind (wpAny_pure ?_)
  dsimp only
  refine wpAny_bind (wpAny_pure ?_)
  refine wpAny_bind (target_ok ho hd hc hcd hi ?_)
  dsimp only
  refine wpAny_bind (wpAny_forIn_list _ (SpInv x s) (fun b s' => wpAny _ _ _ _ _ s') ?_ ?_ _ _ ?_)
  · rintro i rest ⟨out, st, la, mu, n', ov⟩ s' hinv
    rcases hinv with ⟨tk, os, rfl, hs, hov, hla, hsp⟩ | ⟨tk, os, rfl, hs, hov, hla, hmu, hst, hre, hsp⟩
    · dsimp only at hov ⊢
      subst hov
      refine wpAny_ite_false rfl (wpAny_pure ?_)
      exact .inl ⟨tk, os, rfl, hs, rfl, hla, hsp⟩
    · dsimp only at hov hla hmu hst hre hsp hs ⊢
      subst hov hla hmu
      refine wpAny_ite_true rfl (wpAny_bind (wpAny_ite_false rfl (toEnd_ok hz hst ?_ ?_)))
      · intro s' m h1 h2 h3 h4 h5
        change s' < x.cps.size at h2
        change (∀ i, la ≤ i → i < s' → plainC (x.cps.getD i 0) = true) at h3
        change plainC (x.cps.getD s' 0) = false at h4
        change Hit x.cps s' (hitLen x.cps s') m at h5
        obtain ⟨_, hms, hmh, hml, hm0, hm1⟩ := h5
        obtain ⟨hl1, hl2⟩ := hitLen_pos h2
        have hnext : os ++ [(x.cps.toList.drop la).take (s' - la), (x.cps.toList.drop s').take (hitLen x.cps s')] ++ reSplit [] (x.cps.toList.drop (s' + hitLen x.cps s')) = reSplit [] x.cps.toList := by
          rw [← hsp, split_plain x.cps (s' - la) la [] (by omega) (fun i a b => h3 i a (by omega)), show la + (s' - la) = s' by omega, split_hit h2 h4, List.append_assoc]; rfl
        dsimp only
        rw [hms, hmh]
        refine wpAny_bind (slice_ok hz (by omega) (by omega) fun t1 => ?_)
        refine wpAny_bind ?_
        show wpAny _ _ (forIn [0] _ _) _ _ _
        rw [List.forIn_cons]
        refine wpAny_bind (wpAny_bind ?_)
        unfold reMachineGroup
        rw [if_neg (by rw [hml]; decide)]
        dsimp only [Nat.zero_add, Nat.sub_self, Nat.mul_zero]
        rw [hm0, hm1]
        dsimp only
        rw [if_neg (by omega)]
        refine slice_ok hz hl2 (by omega) fun t2 => ?_
        refine wpAny_pure ?_
        dsimp only
        rw [List.forIn_nil]
        refine wpAny_pure (wpAny_pure ?_)
        refine .inr ⟨_, os ++ [(x.cps.toList.drop la).take (s' - la), (x.cps.toList.drop s').take (hitLen x.cps s')], rfl, ?_, rfl, rfl, ?_, hl2, ?_, hnext⟩
        · simp only [Array.toList_push, List.map_append, List.append_assoc]
          refine StrsAre.append hs (.cons _ _ ?_)
          rw [show s' + hitLen x.cps s' - s' = hitLen x.cps s' by omega]
          exact .cons _ _ .nil
        · show (s' + hitLen x.cps s' == s') = false
          rw [beq_eq_false_iff_ne]; omega
        · dsimp only [List.length_cons] at hre ⊢
          omega
      · intro h1
        dsimp only
        refine wpAny_pure (.inl ⟨tk, os, rfl, hs, rfl, hst, ?_⟩)
        dsimp only
        rw [← hsp, split_plain x.cps (x.cps.size - la) la [] (by omega) (fun i a b => h1 i a (by show i < x.cps.size; omega)), List.drop_of_length_le (i := la + (x.cps.size - la)) (by rw [show x.cps.toList.length = x.cps.size from Array.length_toList]; omega), reSplit_nil, List.nil_append, List.take_of_length_le (by rw [List.length_drop, show x.cps.toList.length = x.cps.size from Array.length_toList]; omega)]
  · rintro ⟨out, st, la, mu, n', ov⟩ s' hinv
    rcases hinv with ⟨tk, os, rfl, hs, hov, hla, hsp⟩ | ⟨tk, os, rfl, hs, hov, hla, hmu, hst, hre, hsp⟩
    · dsimp only at hov hla hsp hs ⊢
      subst hov
      refine wpAny_ite_false rfl ?_
      refine wpAny_bind (slice_ok hz (Nat.le_refl _) hla fun t1 => ?_)
      refine wpAny_bind (h _ _ ?_)
      rw [← hsp, List.map_append, Array.toList_push]
      refine StrsAre.append hs ?_
      rw [List.take_of_length_le (by rw [List.length_drop, show x.cps.toList.length = x.cps.size from Array.length_toList]; omega)]
      exact .cons _ _ .nil
    · exfalso
      dsimp only [List.length_nil] at hre hst
      omega
  · refine .inr ⟨s.toks, [], rfl, .nil, rfl, rfl, rfl, Nat.zero_le _, ?_, ?_⟩
    · rw [List.length_range]; show x.cps.size + 1 ≤ 0 + (2 * x.cps.size + 3); omega
    · rfl
end
end Mine
end
noncomputable section
open PySem PySem.W PyProof.Rows PySem.Calls PySem.Builtin.Re
set_option maxRecDepth 100000
namespace Mine
theorem slot_split : Slot "re.Pattern" "split" "re.Pattern.split" :=
  .of (owner := "re.Pattern") (n := "split") (by rw [typeLookup_type, builtinLookup_eq_fast]; kernel_rfl) (by decide +kernel) (by decide +kernel) (by decide +kernel)
    (by first | exact .inl (by decide +kernel) | exact .inr (by decide +kernel)) (by rw [isSubtype_type]; kernel_rfl)
theorem type_split : typeOf (.builtin "re.Pattern.split") = pure (.type "method_descriptor") := by show builtinType _ = _; rw [builtinType_eq_fast]; kernel_rfl
theorem entry_split : entryFor table "re.Pattern.split" = some Builtin.«re.Pattern.split» := entryFor_of_tree (by kernel_rfl)
theorem args_split (a b : Value) : argsOk "re.Pattern.split" ⟨[a, b], []⟩ := by unfold argsOk; kernel_rfl
theorem plainAttrs_pat : PlainAttrs "re.Pattern" :=
  ⟨⟨"object.__getattribute__", by rw [typeLookup_type, builtinLookup_eq_fast]; kernel_rfl, by decide +kernel⟩, by rw [typeLookup_type, builtinLookup_eq_fast]; kernel_rfl⟩
theorem reSplit_len : ∀ (acc r : List Nat), (reSplit acc r).length ≤ 2 * r.length + 1
  | acc, [] => by rw [reSplit_nil]; simp
  | acc, c :: r => by
    rw [reSplit]
    split
    · have h1 := reSplit_len [] (r.dropWhile isDig)
      have h2 := List.dropWhile_sublist (p := isDig) (l := r) |>.length_le
      simp only [List.length_cons]; omega
    · split
      · have h1 := reSplit_len [] r
        simp only [List.length_cons]; omega
      · have h1 := reSplit_len (acc ++ [c]) r
        simp only [List.length_cons]; omega
termination_by _ r => r.length
decreasing_by
  all_goals first
    | exact Nat.lt_succ_self _
    | exact Nat.lt_succ_of_le (List.dropWhile_sublist isDig).length_le
def PatAt (h : Heap) : Prop := ∃ o oc a b d e tk2 tk6 its n, h.get? 43 = some o ∧ o.cls = .type "re.Pattern" ∧ o.dict = none ∧ o.data = .fields #[a, b, .int 1 tk2, d, e, .ref 42, .int 0 tk6] ∧ h.get? 42 = some oc ∧ oc.data = .seq its n ∧ (its.map reRawOf).map (·.toNat) = reCode
theorem patAt {w : World} {h₀ : Heap} (X : (hd.heap_39 w.params).In h₀) : PatAt h₀ :=
  ⟨_, _, _, _, _, _, _, _, _, _, X 43 _ rfl, rfl, rfl, rfl, X 42 _ rfl, rfl, by decide +kernel⟩
theorem PatAt.keep {h h' : Heap} (P : PatAt h) (k : ∀ b o, h.get? b = some o → h'.get? b = some o) : PatAt h' := by
  obtain ⟨o, oc, a, b, d, e, tk2, tk6, its, n, h1, h2, h3, h4, h5, h6, h7⟩ := P
  exact ⟨o, oc, a, b, d, e, tk2, tk6, its, n, k _ _ h1, h2, h3, h4, k _ _ h5, h6, h7⟩
section
variable {prog : Program} {w : World} {A : Around} {E : Value → Shared → Prop} {s : Shared} {h₀ : Heap} {L : Addr} {m : Str → Option Value} {news : List (Addr × Obj)}
theorem PatAt.typeIs (P : PatAt s.heap) : s.TypeIs (.ref 43) "re.Pattern" := by
  obtain ⟨o, oc, a, b, d, e, tk2, tk6, its, n, h1, h2, h3, h4, h5, h6, h7⟩ := P
  exact ⟨o, h1, h2⟩
theorem method_split {M : Model} {pl : Sem Bool} {Q : Value × List Value → Shared → Prop} (P : PatAt s.heap) (h : Q (.builtin "re.Pattern.split", [.ref 43]) s) : wpAny M A (getMethod (.ref 43) (Str.ofString "split") pl) Q E s := by
  refine getMethod_builtin P.typeIs plainAttrs_pat slot_split type_split ?_ h
  obtain ⟨o, oc, a, b, d, e, tk2, tk6, its, n, h1, h2, h3, h4, h5, h6, h7⟩ := P
  rintro a' e'
  cases e'
  exact ⟨o, h1, h3⟩
theorem call_split {x : Str} {t : Tok} {Q : Value → Shared → Prop} (P : PatAt h₀) (F : Fr h₀ L s.heap m) (N : News h₀ L s.heap news) (hz : x.cps.size ≤ 1000)
    (h : ∀ r vs h' tk, StrsAre vs ((reSplit [] x.cps.toList).map strOf) → (∀ p ∈ news, p.1 < r) → Fr h₀ L h' m → News h₀ L h' ((r, W.listOf vs.toArray 0) :: news) → Q (.ref r) { s with heap := h', toks := tk }) :
    wpAny (model prog w) A (call (.builtin "re.Pattern.split") [.ref 43, .str x t]) Q E s := by
  have P' := P.keep F.keep
  refine wpAny_call_entry slot_split P'.typeIs entry_split ?_ (args_split _ _)
  obtain ⟨o, oc, a, b, d, e, tk2, tk6, its, n, h1, h2, h3, h4, h5, h6, h7⟩ := P'
  refine split_ok h1 h4 h5 h6 h7 hz fun vs tk hvs => ?_
  have hlen : vs.length ≤ 2 * x.cps.size + 1 := by
    have := reSplit_len [] x.cps.toList
    rw [Mine.StrsAre.length hvs, List.length_map]
    rwa [show x.cps.toList.length = x.cps.size from Array.length_toList] at this
  refine wpAny_newList (hsz := by rw [sizeLine_eq]; omega) ?_
  refine wpAny_pure ⟨_, rfl, ?_⟩
  have up : ∀ b o, s.heap.get? b = some o → (s.heap.push { cls := .type "list", data := .seq vs.toArray }).get? b = some o := fun b o e => Heap.get?_push_of_some _ e
  refine h _ vs _ _ hvs (fun p hp => Heap.lt_size (N p hp).1) (F.keeps up) (fun p hp => ?_)
  rcases List.mem_cons.mp hp with rfl | hp
  · exact ⟨Heap.get?_push_size _ rfl, Ne.symm (Nat.ne_of_lt F.ns.lt), next_is_new F⟩
  · exact ⟨up _ _ (N p hp).1, (N p hp).2⟩
end
end Mine
end
noncomputable section
open PySem PySem.W PyProof.Rows PySem.Calls
set_option maxRecDepth 100000
namespace Mine
section
variable {prog : Program} {w : World} {A : Around} {E : Value → Shared → Prop} {s : Shared} {env : Env} {h₀ : Heap} {x : Str} {body : List Stmt} {Q : Flow → Shared → Prop}
/-- a for loop over any iterator of the ledger, its turns with the caller on the stack -/
inductive LoopC (prog : Program) (w : World) (A : Around) (h₀ : Heap) (env : Env) (x : Str) (body : List Stmt) (Q : Flow → Shared → Prop) (it : Value) (s₂ : Shared) : Prop
  | mk (I : Addr) (fp : List Addr) (n : Nat) (P : Nat → Value → Prop) (St : Nat → Heap → Prop) (m : Str → Option Value) (news : List (Addr × Obj)) (oI : Obj) (J : Nat → (Str → Option Value) → List (Addr × Obj) → Prop)
    (h1 : it = .ref I) (h2 : Walks prog w A I fp [I] n P St) (h3 : ∀ i h, St i h → ∃ o, h.get? I = some o) (h4 : St 0 s₂.heap) (h5 : ∀ i h h' oI i₂ m₂ news₂, St i h → h.get? I = some oI → News h₀ env.locals h' ((I, oI) :: news₂) → J i₂ m₂ news₂ → St i h')
    (h6 : Fr h₀ env.locals s₂.heap m) (h7 : News h₀ env.locals s₂.heap ((I, oI) :: news)) (h8 : ∀ p ∈ news, p.1 ≠ I) (h9 : J 0 m news)
    (h12 : ∀ i v m₁ news₁ h tk oI, i < n → P i v → J i m₁ news₁ → (∀ p ∈ news₁, p.1 ≠ I) → Fr h₀ env.locals h (fun y => if y = x then some v else m₁ y) → News h₀ env.locals h ((I, oI) :: news₁) →
      wpC (model prog w) A (execs body env) (TurnEnd h₀ env.locals (J (i + 1)) I oI { s₂ with heap := h, toks := tk } Q) (fun _ _ => False) { s₂ with heap := h, toks := tk })
    (h13 : ∀ m₁ news₁ h tk, J n m₁ news₁ → Fr h₀ env.locals h m₁ → News h₀ env.locals h news₁ → Q .next { s₂ with heap := h, toks := tk }) : LoopC prog w A h₀ env x body Q it s₂
inductive InvC (h₀ : Heap) (L : Addr) (I : Addr) (St : Nat → Heap → Prop) (J : Nat → (Str → Option Value) → List (Addr × Obj) → Prop) (n : Nat) (s₂ : Shared) (k : Nat) (s' : Shared) : Prop
  | mk (h' : Heap) (tk : Nat) (m' : Str → Option Value) (news' : List (Addr × Obj)) (oI : Obj) (i : Nat) (h1 : s' = { s₂ with heap := h', toks := tk }) (h4 : St i h') (h5 : Fr h₀ L h' m') (h6 : News h₀ L h' ((I, oI) :: news'))
    (h7 : ∀ p ∈ news', p.1 ≠ I) (h8 : J i m' news') (h9 : i ≤ n) (h10 : k = n + 1 - i) : InvC h₀ L I St J n s₂ k s'
theorem wpC_For_led {px pos : Pos} {iter : PySem.Expr} (hx : env.kindOf x = some .local) (hp : (env.scope.kind == .class || (env.scope.kind == .module && env.locals != env.globals)) = false)
    (h : wpAny (model prog w) A (eval iter env) (fun xv s₁ => wpAny (model prog w) A (pyIter xv) (fun it s₂ => LoopC prog w A h₀ env x body Q it s₂) E s₁) E s)
    (hs : ∀ x, foldedSetIterable iter env x = pure x := by intro _; rfl) :
    wpC (model prog w) A (exec (.For (.Name x px) iter body [] pos) env) Q E s := by
  refine wpC_For (wpAny_mono h (fun xv s₁ h₁ => wpAny_mono h₁ (fun it s₂ h₂ => ?_) fun _ _ e => e) fun _ _ e => e) hs
  obtain ⟨I, fp, n, P, St, m, news, oI, J, rfl, W, hlive, hst, hkeep, F, N, hne, hj, step, hQ⟩ := h₂
  refine codeC_forLoop
    (InvC h₀ env.locals I St J n s₂) ?_ (n + 1)
    ⟨s₂.heap, s₂.toks, m, news, oI, 0, rfl, hst, F, N, hne, hj, Nat.zero_le _, rfl⟩
  rintro k s' ⟨h', tk, m', news', oI', i, rfl, hst', F', N', hne', hJ, hi, rfl⟩
  have hLI : env.locals ≠ I := Ne.symm (N' _ (.head _)).2.1
  have hI₀ := (N' _ (.head _)).2.2
  have next : ∀ h₁ : Heap, (∀ b o, b ∉ [I] → h'.get? b = some o → h₁.get? b = some o) → Fr h₀ env.locals h₁ m' ∧ News h₀ env.locals h₁ news' := fun h₁ hk₁ =>
    ⟨LCg.fr_but F' hk₁ hLI hI₀, fun p hp => ⟨hk₁ _ _ (by simpa using hne' p hp) (N' p (.tail _ hp)).1, (N' p (.tail _ hp)).2⟩⟩
  by_cases hlt : i < n
  · refine W.item i _ _ _ hlt hst' fun v h₁ tk₁ hP hst₁ hk₁ => ?_
    obtain ⟨F₁, N₁⟩ := next h₁ hk₁
    refine wpAny_assign_Name (wpAny_storeName_local hx F₁.ns (fun h₂ hn₂ hs₂ => ?_) hp)
    have F₂ := F₁.set hn₂ hs₂
    obtain ⟨o₁, ho₁⟩ := hlive _ _ hst₁
    have ho₂ : h₂.get? I = some o₁ := hs₂.extBut _ _ (Ne.symm hLI) ho₁
    have N₂ : News h₀ env.locals h₂ ((I, o₁) :: news') := fun p hp => by
      rcases List.mem_cons.mp hp with rfl | hp
      · exact ⟨ho₂, Ne.symm hLI, hI₀⟩
      · exact N₁.set hs₂ p hp
    have N₁' : News h₀ env.locals h₁ ((I, o₁) :: news') := fun p hp => by
      rcases List.mem_cons.mp hp with rfl | hp
      · exact ⟨ho₁, Ne.symm hLI, hI₀⟩
      · exact N₁ p hp
    refine (step i v m' news' h₂ _ o₁ hlt hP hJ hne' F₂ N₂).mono (fun f s₃ h₃ => ?_) fun _ _ e => e.elim
    have fin : ∀ s₃, (∃ h' tk m₂ news₂, s₃ = { ({ s₂ with heap := h₂, toks := tk₁ } : Shared) with heap := h', toks := tk } ∧ Fr h₀ env.locals h' m₂ ∧ News h₀ env.locals h' ((I, o₁) :: news₂) ∧ (∀ p ∈ news₂, p.1 ≠ I) ∧ J (i + 1) m₂ news₂) →
        ∃ k', k' < n + 1 - i ∧ InvC h₀ env.locals I St J n s₂ k' s₃ := by
      rintro s₃ ⟨h₃', tk₃, m₂, news₂, rfl, F₃, N₃, ha₃, hJ₃⟩
      exact ⟨n + 1 - (i + 1), by omega, h₃', tk₃, m₂, news₂, o₁, i + 1, rfl, hkeep _ _ _ _ _ _ _ hst₁ ho₁ N₃ hJ₃, F₃, N₃, ha₃, hJ₃, hlt, rfl⟩
    cases f with
    | ret v => exact h₃
    | brk => exact h₃
    | cont => exact fin _ h₃
    | next => exact fin _ h₃
  · have hin : i = n := by omega
    subst hin
    refine W.done _ _ _ hst' fun h₁ tk₁ hk₁ => ?_
    obtain ⟨F₁, N₁⟩ := next h₁ hk₁
    exact hQ m' news' h₁ tk₁ hJ F₁ N₁
theorem iter_ledC {l : Addr} {vs : List Value} {k : Nat} {m₀ : Str → Option Value} {news : List (Addr × Obj)} (J : Nat → (Str → Option Value) → List (Addr × Obj) → Prop)
    (hh : A.handled = none) (hl : ∀ i m₁ news₁, J i m₁ news₁ → (l, ({ cls := .type "list", data := .seq vs.toArray k } : Obj)) ∈ news₁) (F : Fr h₀ env.locals s.heap m₀) (N : News h₀ env.locals s.heap news) (hj : J 0 m₀ news)
    (turn : ∀ i v m₁ news₁ h tk I oI, vs[i]? = some v → J i m₁ news₁ → (∀ p ∈ news₁, p.1 ≠ I) → Fr h₀ env.locals h (fun y => if y = x then some v else m₁ y) → News h₀ env.locals h ((I, oI) :: news₁) →
      wpC (model prog w) A (execs body env) (TurnEnd h₀ env.locals (J (i + 1)) I oI { s with heap := h, toks := tk } Q) (fun _ _ => False) { s with heap := h, toks := tk })
    (done : ∀ m₁ news₁ h tk, J vs.length m₁ news₁ → Fr h₀ env.locals h m₁ → News h₀ env.locals h news₁ → Q .next { s with heap := h, toks := tk }) :
    wpAny (model prog w) A (pyIter (.ref l)) (fun it s₂ => LoopC prog w A h₀ env x body Q it s₂) E s := by
  have N0 := N _ (hl _ _ _ hj)
  have hls : s.heap.IsList l vs.toArray := ⟨_, N0.1, rfl, _, rfl⟩
  have hne : l ≠ s.heap.objs.size := Nat.ne_of_lt (Heap.lt_size N0.1)
  refine wpAny_pyIter_list hls ?_
  have W := Walks.list (prog := prog) (w := w) hh s.heap.objs.size l hne vs.toArray
  have hsz : vs.toArray.size = vs.length := List.size_toArray
  refine ⟨s.heap.objs.size, _, _, _, _, m₀, news, { cls := .type "list_iterator", data := .fields #[.ref l, .int 0 0] }, J, rfl, W, ?_, ⟨⟨_, Heap.get?_push_size _ rfl, rfl, rfl⟩, hls.at fun o e => Heap.get?_push_of_some _ e⟩, ?_, F.push _, ?_, led_lt N, hj, ?_, ?_⟩
  · rintro i h ⟨⟨o, ho, _⟩, _⟩; exact ⟨o, ho⟩
  · rintro i h h' oI i₂ m₂ news₂ ⟨⟨o, ho, hd⟩, _⟩ hoI N' hJ
    rw [hoI] at ho
    cases ho
    exact ⟨⟨_, (N' _ (.head _)).1, hd⟩, ⟨_, (N' _ (.tail _ (hl _ _ _ hJ))).1, rfl, _, rfl⟩⟩
  · intro p hp
    rcases List.mem_cons.mp hp with rfl | hp
    · exact ⟨Heap.get?_push_size _ rfl, Ne.symm (Nat.ne_of_lt F.ns.lt), not_base F⟩
    · exact ⟨Heap.get?_push_of_some _ (N p hp).1, (N p hp).2⟩
  · intro i v m₁ news₁ h tk oI hi hv hJ hne' F' N'
    exact turn i v m₁ news₁ h tk _ oI (by simpa using hv) hJ hne' F' N'
  · intro m₁ news₁ h tk hJ F' N'
    rw [hsz] at hJ
    exact done m₁ news₁ h tk hJ F' N'
end
end Mine
end
noncomputable section
open PySem PySem.W PyProof.Rows PySem.NumText PySem.Builtin PySem.Builtin.Str
namespace Mine
def okC (c : Nat) : Prop := isDig c = true ∨ isSep c = true ∨ isLet c = true
def PieceOk (y : List Nat) : Prop := y = [] ∨ (∃ c, isSep c = true ∧ y = [c]) ∨ (y ≠ [] ∧ ∀ c ∈ y, isDig c = true) ∨ (y ≠ [] ∧ ∀ c ∈ y, isLet c = true)
theorem tw_mem {p : Nat → Bool} : ∀ {l : List Nat} {x : Nat}, x ∈ l.takeWhile p → p x = true
  | [], _, h => nomatch h
  | c :: l, x, h => by
    rw [List.takeWhile_cons] at h
    split at h
    · rcases List.mem_cons.mp h with rfl | h
      · assumption
      · exact tw_mem h
    · cases h
theorem pieces_ok : ∀ (acc r : List Nat), (∀ c ∈ acc, isLet c = true) → (∀ c ∈ r, okC c) → ∀ y ∈ reSplit acc r, PieceOk y
  | acc, [], ha, _, y, hy => by
    rw [reSplit_nil] at hy
    rw [List.mem_singleton.mp hy]
    by_cases h : acc = []
    · exact .inl h
    · exact .inr (.inr (.inr ⟨h, ha⟩))
  | acc, c :: r, ha, hr, y, hy => by
    have hacc : PieceOk acc := by
      by_cases h : acc = []
      · exact .inl h
      · exact .inr (.inr (.inr ⟨h, ha⟩))
    rw [reSplit] at hy
    split at hy
    · rename_i hd
      rcases List.mem_cons.mp hy with rfl | hy
      · exact hacc
      · rcases List.mem_cons.mp hy with rfl | hy
        · refine .inr (.inr (.inl ⟨by simp, fun d hd' => ?_⟩))
          rcases List.mem_cons.mp hd' with rfl | hd'
          · exact hd
          · exact tw_mem hd'
        · exact pieces_ok [] (r.dropWhile isDig) (by simp) (fun d hd' => hr d (.tail _ ((List.dropWhile_sublist _).mem hd'))) y hy
    · rename_i hd
      split at hy
      · rename_i hs
        rcases List.mem_cons.mp hy with rfl | hy
        · exact hacc
        · rcases List.mem_cons.mp hy with rfl | hy
          · exact .inr (.inl ⟨c, hs, rfl⟩)
          · exact pieces_ok [] r (by simp) (fun d hd' => hr d (.tail _ hd')) y hy
      · rename_i hs
        have hl : isLet c = true := by
          rcases hr c (.head _) with h | h | h
          · exact absurd h hd
          · exact absurd h hs
          · exact h
        refine pieces_ok (acc ++ [c]) r (fun d hd' => ?_) (fun d hd' => hr d (.tail _ hd')) y hy
        rcases List.mem_append.mp hd' with h | h
        · exact ha d h
        · rw [List.mem_singleton.mp h]; exact hl
termination_by _ r => r.length
decreasing_by
  all_goals first
    | exact Nat.lt_succ_self _
    | exact Nat.lt_succ_of_le (List.dropWhile_sublist isDig).length_le
theorem pieces_len : ∀ (acc r : List Nat), ∀ y ∈ reSplit acc r, y.length ≤ acc.length + r.length
  | acc, [], y, hy => by
    rw [reSplit_nil] at hy
    rw [List.mem_singleton.mp hy]; simp
  | acc, c :: r, y, hy => by
    have h2 := (List.dropWhile_sublist (p := isDig) (l := r)).length_le
    have h3 := (List.takeWhile_sublist (p := isDig) (l := r)).length_le
    rw [reSplit] at hy
    simp only [List.length_cons]
    split at hy
    · rcases List.mem_cons.mp hy with rfl | hy
      · omega
      · rcases List.mem_cons.mp hy with rfl | hy
        · simp only [List.length_cons]; omega
        · have := pieces_len [] (r.dropWhile isDig) y hy
          simp only [List.length_nil] at this; omega
    · split at hy
      · rcases List.mem_cons.mp hy with rfl | hy
        · omega
        · rcases List.mem_cons.mp hy with rfl | hy
          · simp only [List.length_singleton]; omega
          · have := pieces_len [] r y hy
            simp only [List.length_nil] at this; omega
      · have := pieces_len (acc ++ [c]) r y hy
        simp only [List.length_append, List.length_singleton] at this; omega
termination_by _ r => r.length
decreasing_by
  all_goals first
    | exact Nat.lt_succ_self _
    | exact Nat.lt_succ_of_le (List.dropWhile_sublist isDig).length_le
def pieceTk (y : List Nat) : Option Tk := if y = [] then none else if isSep (y.headD 0) then none else if isDig (y.headD 0) then some (.num (digitsVal y : Nat)) else some (.txt (strOf y))
def toksOf (l : List Nat) : List Tk := (reSplit [] l).filterMap pieceTk
def sepS : Str := Str.ofString "._+-"
theorem sep_codes : sepS.cps.toList = [46, 95, 43, 45] := by decide
theorem isSep_mem {c : Nat} : isSep c = true ↔ c ∈ sepS.cps.toList := by
  rw [sep_codes]
  unfold isSep
  simp only [Bool.or_eq_true, beq_iff_eq, List.mem_cons, List.not_mem_nil, or_false]
  omega
theorem sep_contains {c : Nat} (h : isSep c = true) : Txt.contains sepS (strOf [c]) = true := by
  show (!(occurrences sepS ⟨#[c]⟩ 0 sepS.length 1).isEmpty) = true
  rw [StrLaws.found_one]; exact decide_eq_true (isSep_mem.mp h)
theorem contains_head {x : Str} {c : Nat} {r : List Nat} (h : Txt.contains x (strOf (c :: r)) = true) : c ∈ x.cps.toList := by
  obtain ⟨i, h1, h2⟩ := (StrLaws.found_iff x (strOf (c :: r))).mp h
  unfold subAt at h2
  have h3 := congrArg Array.toList (eq_of_beq h2)
  rw [Array.toList_extract] at h3
  have h4 : (strOf (c :: r)).cps.toList = c :: r := rfl
  rw [h4] at h3
  have h5 : c ∈ x.cps.toList.extract i (i + (strOf (c :: r)).length) := by rw [h3]; exact List.mem_cons_self ..
  unfold List.extract at h5
  exact List.mem_of_mem_drop (List.mem_of_mem_take h5)
theorem not_contains {y : List Nat} (hne : y ≠ []) (h : ∀ c ∈ y, isSep c = false) : Txt.contains sepS (strOf y) = false := by
  cases y with
  | nil => exact absurd rfl hne
  | cons c r =>
    cases q : Txt.contains sepS (strOf (c :: r)) with
    | false => rfl
    | true =>
      have := isSep_mem.mpr (contains_head q)
      rw [h c (List.mem_cons_self ..)] at this
      cases this
theorem dig_notSep {c : Nat} (h : isDig c = true) : isSep c = false := by
  unfold isDig at h
  unfold isSep
  simp only [Bool.and_eq_true, decide_eq_true_eq] at h
  simp only [Bool.or_eq_false_iff, beq_eq_false_iff_ne]
  omega
theorem let_notSep {c : Nat} (h : isLet c = true) : isSep c = false := by
  have := isLet_num h
  unfold isSep
  simp only [Bool.or_eq_false_iff, beq_eq_false_iff_ne]
  omega
theorem let_notDig {c : Nat} (h : isLet c = true) : isDig c = false := by
  have := isLet_num h
  unfold isDig
  simp only [Bool.and_eq_false_iff, decide_eq_false_iff_not]
  omega
theorem allDig {y : List Nat} (h : ∀ c ∈ y, isDig c = true) : AllDigits y := fun c hc => by
  have := h c hc
  unfold isDig at this
  simpa only [Bool.and_eq_true, decide_eq_true_eq] using this
theorem nil_contains : Txt.contains sepS (strOf []) = true := by decide +kernel
/-- the three kinds of a piece -/
theorem piece_cases {y : List Nat} (h : PieceOk y) :
    (Txt.contains sepS (strOf y) = true ∧ pieceTk y = none) ∨
    (Txt.contains sepS (strOf y) = false ∧ y ≠ [] ∧ AllDigits y ∧ pieceTk y = some (.num (digitsVal y : Nat))) ∨
    (Txt.contains sepS (strOf y) = false ∧ (∀ c ∈ y, isLet c = true) ∧ pieceTk y = some (.txt (strOf y))) := by
  rcases h with rfl | ⟨c, hc, rfl⟩ | ⟨hne, hd⟩ | ⟨hne, hl⟩
  · exact .inl ⟨nil_contains, rfl⟩
  · refine .inl ⟨sep_contains hc, ?_⟩
    unfold pieceTk
    rw [if_neg (by simp)]
    exact if_pos hc
  · refine .inr (.inl ⟨not_contains hne fun c hc => dig_notSep (hd c hc), hne, allDig hd, ?_⟩)
    unfold pieceTk
    rw [if_neg hne]
    cases y with
    | nil => exact absurd rfl hne
    | cons c r =>
      have h1 := hd c (List.mem_cons_self ..)
      rw [List.headD_cons, if_neg (by rw [dig_notSep h1]; exact Bool.false_ne_true), if_pos h1]
  · refine .inr (.inr ⟨not_contains hne fun c hc => let_notSep (hl c hc), hl, ?_⟩)
    unfold pieceTk
    rw [if_neg hne]
    cases y with
    | nil => exact absurd rfl hne
    | cons c r =>
      have h1 := hl c (List.mem_cons_self ..)
      rw [List.headD_cons, if_neg (by rw [let_notSep h1]; exact Bool.false_ne_true), if_neg (by rw [let_notDig h1]; exact Bool.false_ne_true)]
end Mine
end
noncomputable section
open PySem PySem.W PyProof.Rows
set_option pp.deepTerms false
set_option pp.maxSteps 2000
set_option maxRecDepth 100000
set_option maxHeartbeats 8000000
namespace Mine
theorem clause_hitK {prog : Program} {w : World} {A₀ : Around} {E : Value → Shared → Prop} {s' : Shared} {h₀ : Heap} {L a e : Addr} {m : Str → Option Value} {name : Str} {scope : Scope} {cd : Value} {news : List (Addr × Obj)}
    {b₀ : Stmt} {suite : List Stmt} {pos np : Pos} {rest : List ExceptHandler} {Q : Flow → Shared → Prop} {x : Str} {p : Program} {loose : List Str} {mean : ExcName → Option Value} {mg mb : Str → Option Value} {K : Frag} {fl : Value}
    (H : TT.HeldNA h₀ L s'.heap m e x.toString news fl) (X : K.In h₀) (T : Top p loose mean mg mb h₀)
    (k : ∀ h', Fr h₀ L h' m → News h₀ L h' news → wpAny (model prog w) ((A₀.deeper (envOf name scope L a cd)).mark (some (.ref e))) (execs (b₀ :: suite) (envOf name scope L a cd)) Q E { s' with heap := h' })
    (ex : nsIn K mainGlobals x = some none) (h3 : subB x.toString (.type x.toString) = some true := by decide +kernel) (hv : bootBuiltins x = some (.type x.toString) := by decide +kernel) (h1 : subB x.toString (.type "BaseException") = some true := by decide +kernel)
    (h2 : subB ((Manifest.find? x.toString).elim "type" fun y => y.metatype) (.type "tuple") = some false := by decide +kernel) (hn : x ≠ "__name__" := by decide)
    (hk : scope.kind = .function := by rfl) (hxk : (envOf name scope L a cd).kindOf x = some .globalImplicit := by rfl) (hdb : (x == ("__debug__" : Str)) = false := by decide)
    (hE : PassesOwnAt (model prog w) ((A₀.deeper (envOf name scope L a cd)).mark (some (.ref e))) (A₀.deeper (envOf name scope L a cd)) (envOf name scope L a cd) E := by passes_own) :
    wpAny (model prog w) (A₀.deeper (envOf name scope L a cd)) (handleBy (.ref e) (envOf name scope L a cd) (.ExceptHandler (some (.Name x np)) none (b₀ :: suite) pos :: rest)) Q E s' := by
  refine wpAny_handleBy_builtin (X := x.toString) (T := x.toString) (b := true) (isSubtype_of_subB h1) (isSubtype_of_subB h2) (isSubtype_of_subB h3) (wpAny_passesOwnAt hE (name_B H.held.fr X (topRead_of T) ex hv hn ⟨rfl, H.isA, ?_⟩ hk hxk hdb))
  rw [if_pos rfl]
  exact H.lands fun h' F' N' => wpAny_passesOwnAt hE (k h' F' N')
theorem wpC_callWith_type2 {M : Model} {A : Around} {E : Value → Shared → Prop} {s : Shared} {pos pos' : Pos} {T : String} {e1 e2 : PySem.Expr} {env : Env} {Q : Value → Shared → Prop}
    (hse : backTo pos' (starEach [e1, e2] env) = [(false, eval e1 env), (false, eval e2 env)])
    (h : wpAny M A (eval e1 env) (fun v1 s₁ => wpAny M A (eval e2 env) (fun v2 s₂ => wpC M A (call (.type T) [v1, v2]) Q E s₂) E s₁) E s) :
    wpC M A (callWith pos (.type T) [] (backTo pos' (starEach [e1, e2] env)) (backToKw pos' (keywordEach [] env))) Q E s := by
  rw [hse]
  exact wpC_callWith_type rfl (Calls.evalArgs_plain (Calls.spliced_cons (wpAny_mono h (fun v1 s₁ h₁ => Calls.spliced_cons (wpAny_mono h₁ (fun v2 s₂ h₂ => Calls.spliced_nil h₂) fun _ _ e => e)) fun _ _ e => e)))
theorem OutAre.append : ∀ {vs ws : List Value} {ts us : List Tk}, OutAre vs ts → OutAre ws us → OutAre (vs ++ ws) (ts ++ us)
  | _, _, _, _, .nil, k => k
  | _, _, _, _, .num n t u h, k => .num n t u (OutAre.append h k)
  | _, _, _, _, .txt s t u h, k => .txt s t u (OutAre.append h k)
theorem OutAre.length : ∀ {vs : List Value} {ts : List Tk}, OutAre vs ts → vs.length = 2 * ts.length
  | _, _, .nil => rfl
  | _, _, .num n t u h => by simp only [List.length_cons, OutAre.length h]; omega
  | _, _, .txt s t u h => by simp only [List.length_cons, OutAre.length h]; omega
theorem iteN {c a b : Prop} [Decidable c] (h : ¬ c) (k : b) : if c then a else b := by rw [if_neg h]; exact k
theorem iteY {c a b : Prop} [Decidable c] (h : c) (k : a) : if c then a else b := by rw [if_pos h]; exact k
section
variable {w : World} {p : Program} {loose : List Str} {mean : ExcName → Option Value} {mg mb : Str → Option Value}
  {dp un : Nat} {gd : Option (List Code)} {cn : Str} {cs : Scope} {a : Addr} {ccd : Value} {cl : List (Str × Addr)} {A₀ : Around} {base h₀ : Heap} {L : Addr} {m : Str → Option Value} {news : List (Addr × Obj)} {s : Shared} {Q E : Value → Shared → Prop}
theorem c_comparable {text : Str} {tt : Tok}
  (B : Below A₀ base [] h₀) (F : Fr h₀ L s.heap m) (X : (hd.heap_39 w.params).In h₀) (N : News h₀ L s.heap news) (T : Top p loose mean mg mb h₀) (hk : cs.kind = .function)
  (hz : text.cps.size ≤ 600) (hd : dp + 2 < recursionLimit)
  (hok : ∀ c ∈ text.cps.toList, okC c)
  (hret : ∀ r ys kc h' tk', OutAre ys (toksOf text.cps.toList) → Fr h₀ L h' m → News h₀ L h' ((r, W.listOf ys.toArray kc) :: news) → Q (.ref r) { s with heap := h', toks := tk' }) :
  wpC (model PySem.Challenge.rw_mq0112_01.row.prog w) (ktrTop dp un gd cn cs L a ccd cl []) (call (.ref 51) [.str text tt]) Q E s := by
  have P := patAt X
  revert X; k_fill; intro X
  refine wpC_call ?_
  k_dflt (refine' codeC_def (binds := [(Str.ofString "version", .str text tt)]) F X N T (env := envX cn cs L a ccd cl) rfl rfl hk ?ho ?hcd ?room ?bind ?loc ?_ ?c2 ?c3 ?c4 ?c5)
  (case ho => k_is)
  (case hcd => k_is)
  (case room => ktr_room)
  (case bind => exact BindsTo.of_eq rfl)
  (case loc => exact locs rfl)
  (case c2 => exact rfl)
  (case c3 => exact rfl)
  (case c4 => exact rfl)
  (case c5 => decide)
  intro oL h₁ C Fs hne F' N'
  refine wpC_execs_pre (pre := [_, _]) ?_
  clear F N
  (try ((show wpAny _ _ _ _ _ _); k_fold))
  repeat' ((fail_if_success (with_reducible show wpAny _ _ (pyIter _) _ _ _)); first | (k_unfold; (try dsimp only)) | walk1 | (dsimp only; walk1))
  rename_i tk1 h2 ra h3 hra h4 F4 N4
  (try dsimp only)
  refine wpC_execs_cons (wpC_For_led (h₀ := h₀) rfl rfl ?_)
  (try ((show wpAny _ _ _ _ _ _); k_fold))
  repeat' ((fail_if_success (with_reducible show wpAny _ _ (pyIter _) _ _ _)); first | (k_unfold; (try dsimp only)) | ((with_reducible show wpAny _ _ (getMethod (Value.ref _) _ _) _ _ _); with_reducible (((rename Fr _ _ _ _ => kF9); (with_reducible refine method_split (PatAt.keep (by assumption) (Fr.keep kF9)) ?_)))) | ((with_reducible show wpAny _ _ (call (Value.builtin "re.Pattern.split") _ _) _ _ _); with_reducible ((k_dflt (refine' call_split ?P ?F ?N ?z ?_; (case P => assumption); (case F => k_asm); (case N => k_asm); (case z => (exact Nat.le_trans (by assumption) (by decide))); k_whole); intro la vs h5 tk5 hvs hla F5 N5; (try k_sweep); (try dsimp only)))) | walk1 | (dsimp only; first | ((with_reducible show wpAny _ _ (getMethod (Value.ref _) _ _) _ _ _); with_reducible (((rename Fr _ _ _ _ => kF9); (with_reducible refine method_split (PatAt.keep (by assumption) (Fr.keep kF9)) ?_)))) | ((with_reducible show wpAny _ _ (call (Value.builtin "re.Pattern.split") _ _) _ _ _); with_reducible ((k_dflt (refine' call_split ?P ?F ?N ?z ?_; (case P => assumption); (case F => k_asm); (case N => k_asm); (case z => (exact Nat.le_trans (by assumption) (by decide))); k_whole); intro la vs h5 tk5 hvs hla F5 N5; (try k_sweep); (try dsimp only)))) | walk1))
  have hraL : (ra : Nat) ≠ L := Nat.ne_of_gt (hra _ (List.mem_append_right _ (List.mem_singleton.mpr rfl)))
  have hlaL : (la : Nat) ≠ L := Nat.ne_of_gt (hla _ (.tail _ (List.mem_append_right _ (List.mem_singleton.mpr rfl))))
  have hraN : ∀ p ∈ news, p.1 < ra := fun p hp => hra p (List.mem_append_left _ hp)
  have hlara : (ra : Nat) < la := hla _ (.head _)
  have hlen := Mine.StrsAre.length hvs
  rw [List.length_map] at hlen
  refine iter_ledC (vs := vs) (k := 0) (fun i m₁ news₁ => ∃ rv kr sl, Has m₁ [(Str.ofString "version", .str text tt), (Str.ofString "component_re", .ref 43), (Str.ofString "result", .ref ra)] ∧ 
    OutAre rv (((reSplit [] text.cps.toList).take i).filterMap pieceTk) ∧ TI.Frs [envX cn cs L a ccd cl] [(L, { oL with slots := sl })] ∧ news₁ = (la, W.listOf vs.toArray 0) :: (ra, W.listOf rv.toArray kr) :: (news ++ [(L, { oL with slots := sl })])) rfl ?_ F5 N5 ?_ ?_ ?_
  · rintro i m₁ news₁ ⟨rv, kr, sl, _, _, _, rfl⟩
    exact .head _
  · exact ⟨[], 0, oL.slots, ⟨rfl, rfl, rfl, trivial⟩, .nil, Fs, rfl⟩
  · clear F5 N5
    rintro i v m₁ news₁ h tk I oI hv ⟨rv, kr, sl, hm, hrv, Fs', rfl⟩ hneI F1 N1
    have F2 := Fr.turn F1 hm
    clear F1
    obtain ⟨y, hy⟩ : ∃ y, (reSplit [] text.cps.toList)[i]? = some y := by
      have h1 : i < vs.length := (List.getElem?_eq_some_iff.mp hv).1
      rw [hlen] at h1
      exact ⟨_, List.getElem?_eq_getElem h1⟩
    obtain ⟨u, hu⟩ : ∃ u, vs[i]? = some (.str (strOf y) u) := by
      obtain ⟨u, hu⟩ := Mine.StrsAre.get hvs (i := i) (by rw [List.length_map]; exact (List.getElem?_eq_some_iff.mp hy).1) (Str.ofString "")
      refine ⟨u, hu.trans ?_⟩
      rw [List.getD_eq_getElem?_getD, List.getElem?_map, hy]; rfl
    have hv' : v = .str (strOf y) u := Option.some.inj (hv.symm.trans hu)
    subst hv'
    have hym := List.mem_of_getElem? hy
    have hyl : y.length ≤ 600 := by
      have := pieces_len [] _ y hym
      have h2 : text.cps.toList.length = text.cps.size := Array.length_toList
      simp only [List.length_nil] at this; omega
    have hpt : ((reSplit [] text.cps.toList).take (i + 1)).filterMap pieceTk = ((reSplit [] text.cps.toList).take i).filterMap pieceTk ++ (pieceTk y).toList := by
      rw [List.take_add_one, hy, List.filterMap_append]
      cases h : pieceTk y <;> simp [h]
    have hIra : (I : Nat) ≠ ra := (hneI _ (.tail _ (.head _))).symm
    have hraAll : ∀ sl, ∀ p ∈ news ++ [(L, ({ oL with slots := sl } : Obj))], p.1 ≠ ra := fun sl p hp => by
      rcases List.mem_append.mp hp with hp | hp
      · exact Nat.ne_of_lt (hraN p hp)
      · rw [List.mem_singleton.mp hp]; exact hraL.symm
    have hrl : rv.length ≤ 2402 := by
      have h1 := reSplit_len [] text.cps.toList
      have h2 : text.cps.toList.length = text.cps.size := Array.length_toList
      have h3 := List.length_filterMap_le pieceTk ((reSplit [] text.cps.toList).take i)
      rw [List.length_take] at h3
      rw [hrv.length]; omega
    have hpc := piece_cases (pieces_ok [] _ (by simp) hok y hym)
    refine wpC_execs_cons (wpC_If (wpC.of ?_))
    (try ((show wpAny _ _ _ _ _ _); k_fold))
    repeat' ((fail_if_success (with_reducible show ite _ _ _)); first | (k_unfold; (try dsimp only)) | walk1 | (dsimp only; walk1))
    rcases hpc with ⟨hc, hp⟩ | ⟨hc, hne, hall, hp⟩ | ⟨hc, hlet, hp⟩
    · refine iteN (show ¬ ((!Txt.contains sepS (strOf y)) = true) from by rw [hc]; decide) ?_
      refine wpC_execs_nil (wpC_execs_nil ?_)
      refine TurnEnd.go (by assumption) (by assumption) (.head _) (news₂ := (la, W.listOf vs.toArray 0) :: (ra, W.listOf rv.toArray kr) :: (news ++ [(L, { oL with slots := sl })])) (fun p hp => .tail _ hp) hneI ⟨rv, kr, sl, ⟨rfl, rfl, rfl, trivial⟩, ?_, Fs', rfl⟩
      rw [hpt, hp]; simpa using hrv
    · refine iteY (show ((!Txt.contains sepS (strOf y)) = true) from by rw [hc]; rfl) ?_
      refine wpC.of ?_
      have hkN : y.length ≤ 640 := by omega
      (try ((show wpAny _ _ _ _ _ _); k_fold))
      repeat' ((fail_if_success (with_reducible show wpAny _ _ (pyIter _) _ _ _)); first | (k_unfold; (try dsimp only)) | ((with_reducible show wpAny _ _ (call (Value.type "int") _ _) _ _ _); with_reducible ((k_dflt (refine' int_digits ?z ?d ?n ?_; (case z => assumption); (case d => assumption); (case n => assumption); k_whole); (try dsimp only)))) | walk1 | (dsimp only; first | ((with_reducible show wpAny _ _ (call (Value.type "int") _ _) _ _ _); with_reducible ((k_dflt (refine' int_digits ?z ?d ?n ?_; (case z => assumption); (case d => assumption); (case n => assumption); k_whole); (try dsimp only)))) | walk1))
      rename_i tkA hA tkB hB da hC FC NC ltC
      have hdg : (strOf y).cps.toList = y := rfl
      refine' kup_extend (its := rv.toArray) FC NC (.head _) rfl ?ne1 (.tail (Nat.ne_of_gt ltC.2.2.1) (.tail hIra (.tail (Nat.ne_of_gt hlara) (.head (hraAll sl))))) ?hd1 ?hz1 ?hz12 ?_
      (case ne1 => exact Nat.succ_ne_zero _)
      (case hd1 => (simp [Builtin.List.listTooLong, sizeLine_eq]; omega))
      (case hz1 => (simp only [sizeLine_eq]; omega))
      (case hz12 => (simp only [sizeLine_eq, List.size_toArray, List.length_cons, List.length_nil]; omega))
      intro hD FD ND
      (try ((show wpAny _ _ _ _ _ _); k_fold))
      repeat' ((fail_if_success (with_reducible show wpAny _ _ (pyIter _) _ _ _)); first | (k_unfold; (try dsimp only)) | walk1 | (dsimp only; walk1))
      refine wpC_execs_nil ?_
      refine TurnEnd.go FD ND (.tail _ (.head _)) (news₂ := (la, W.listOf vs.toArray 0) :: (ra, W.listOf (rv ++ [_, _]).toArray (kr + 1)) :: (news ++ [(L, { oL with slots := sl })])) (fun p hp => .tail _ (.tail _ hp)) ?_ ⟨_, _, sl, ⟨rfl, rfl, rfl, trivial⟩, ?_, Fs', rfl⟩
      · intro p hp
        rcases List.mem_cons.mp hp with rfl | hp
        · exact hneI _ (.head _)
        · rcases List.mem_cons.mp hp with rfl | hp
          · exact hIra.symm
          · exact hneI p (.tail _ (.tail _ hp))
      · rw [hpt, hp]
        exact OutAre.append hrv (.num _ _ _ .nil)
    · refine iteY (show ((!Txt.contains sepS (strOf y)) = true) from by rw [hc]; rfl) ?_
      refine wpC_execs_cons (wpC_Try_except (wpC_execs_cons (wpC_Assign_Name (wpC_Call_Name ?_))))
      (try ((show wpAny _ _ _ _ _ _); k_fold))
      repeat' ((fail_if_success (with_reducible show wpAny _ _ (pyIter _) _ _ _)); first | (k_unfold; (try dsimp only)) | walk1 | (dsimp only; walk1))
      refine wpC_callWith_type2 rfl ?_
      (try ((show wpAny _ _ _ _ _ _); k_fold))
      repeat' ((fail_if_success (with_reducible show wpAny _ _ (pyIter _) _ _ _)); first | (k_unfold; (try dsimp only)) | walk1 | (dsimp only; walk1))
      refine int_refused rfl (by show (strOf y).cps.size ≤ 640; simp [strOf]; omega) hlet ?_
      intro hX tkX e hNew
      have hAll : TLg.AllNe L ((I, oI) :: (la, W.listOf vs.toArray 0) :: (ra, W.listOf rv.toArray kr) :: news) := TLgL.allNe_of (by
        intro p hp
        rcases List.mem_cons.mp hp with rfl | hp
        · exact (hneI _ (.tail _ (.tail _ (List.mem_append_right _ (List.mem_singleton.mpr rfl))))).symm
        · rcases List.mem_cons.mp hp with rfl | hp
          · exact hlaL
          · rcases List.mem_cons.mp hp with rfl | hp
            · exact hraL
            · exact hne p hp)
      refine TLg.noted_new1 (new := (I, oI) :: (la, W.listOf vs.toArray 0) :: (ra, W.listOf rv.toArray kr) :: news) rfl Fs' hNew F2 N1 hAll ?_
      intro hY sl2 Fs2 H2
      refine TT.HeldNA.land H2 ?_
      intro hZ H3
      refine clause_hitK H3 X T ?_ (ex := by k_is)
      intro hW F6 N6
      clear N1 F2 hNew H2 H3 Fs'
      (try ((show wpAny _ _ _ _ _ _); k_fold))
      repeat' ((fail_if_success (with_reducible show wpAny _ _ (pyIter _) _ _ _)); first | (k_unfold; (try dsimp only)) | walk1 | (dsimp only; walk1))
      rename_i tk7 tab7 look7 v7 hv7 h7 F7 N7
      have hv8 : PyProof.V.Flat v7 (stageD (strOf y)) := hv7
      rw [stageD_eq] at hv8
      obtain ⟨t8, rfl⟩ := PyProof.V.Flat.int_inv hv8
      clear hv7 hv8 look7 tab7
      replace N7 : News h₀ s.heap.objs.size h7 ((I, oI) :: (la, W.listOf vs.toArray 0) :: (ra, W.listOf rv.toArray kr) :: (news ++ [(L, { oL with slots := sl2 })])) := N7
      (try dsimp only)
      refine wpC.of ?_
      (try ((show wpAny _ _ _ _ _ _); k_fold))
      repeat' ((fail_if_success (with_reducible show wpAny _ _ (pyIter _) _ _ _)); first | (k_unfold; (try dsimp only)) | walk1 | (dsimp only; walk1))
      rename_i da hC FC NC ltC
      refine' kup_extend (its := rv.toArray) FC NC (.head _) rfl ?ne1 (.tail (Nat.ne_of_gt ltC.2.2.1) (.tail hIra (.tail (Nat.ne_of_gt hlara) (.head (hraAll sl2))))) ?hd1 ?hz1 ?hz12 ?_
      (case ne1 => exact Nat.succ_ne_zero _)
      (case hd1 => (simp [Builtin.List.listTooLong, sizeLine_eq]; omega))
      (case hz1 => (simp only [sizeLine_eq]; omega))
      (case hz12 => (simp only [sizeLine_eq, List.size_toArray, List.length_cons, List.length_nil]; omega))
      intro hD FD ND
      (try ((show wpAny _ _ _ _ _ _); k_fold))
      repeat' ((fail_if_success (with_reducible show wpAny _ _ (pyIter _) _ _ _)); first | (k_unfold; (try dsimp only)) | walk1 | (dsimp only; walk1))
      refine wpC_execs_nil ?_
      refine TurnEnd.go FD ND (.tail _ (.head _)) (news₂ := (la, W.listOf vs.toArray 0) :: (ra, W.listOf (rv ++ [_, _]).toArray (kr + 1)) :: (news ++ [(L, { oL with slots := sl2 })])) (fun p hp => .tail _ (.tail _ hp)) ?_ ⟨_, _, sl2, ⟨rfl, rfl, rfl, trivial⟩, ?_, Fs2, rfl⟩
      · intro p hp
        rcases List.mem_cons.mp hp with rfl | hp
        · exact hneI _ (.head _)
        · rcases List.mem_cons.mp hp with rfl | hp
          · exact hIra.symm
          · rcases List.mem_append.mp hp with hp | hp
            · exact hneI p (.tail _ (.tail _ (List.mem_append_left _ hp)))
            · have hL9 : (L : Nat) ≠ I := hneI (L, { oL with slots := sl }) (.tail _ (.tail _ (List.mem_append_right _ (List.mem_singleton.mpr rfl))))
              rw [List.mem_singleton.mp hp]
              exact hL9
      · rw [hpt, hp]
        exact OutAre.append hrv (.txt _ _ _ .nil)
  · clear F5 N5
    rintro m₁ news₁ h tk ⟨rv, kr, sl, hm, hrv, Fs', rfl⟩ F1 N1
    have F2 := Fr.has F1 hm
    clear F1
    dsimp only
    refine wpC.of ?_
    (try ((show wpAny _ _ _ _ _ _); k_fold))
    repeat' ((fail_if_success (with_reducible show wpAny _ _ (pyIter _) _ _ _)); first | (k_unfold; (try dsimp only)) | walk1 | (dsimp only; walk1))
    rw [hlen, List.take_length] at hrv
    dsimp only
    refine TLg.leave_back (new := (ra, W.listOf rv.toArray kr) :: news) (sl := sl) (s' := { s with heap := h, toks := tk }) C F2 (fun p hp => N1 p (.tail _ hp)) (TLgL.allNe_of (List.forall_mem_cons.mpr ⟨hraL, hne⟩)) ?_
    intro FE NE
    exact hret _ _ _ _ _ hrv FE NE
end
end Mine
end
noncomputable section
open PySem PySem.W PyProof.Rows PySem.Calls
open Sem (wp)
set_option maxRecDepth 100000
namespace Mine
namespace FF
theorem slot_next : Slot "filter" "__next__" "filter.__next__" :=
  .of (owner := "filter") (n := "__next__") (by rw [typeLookup_type, builtinLookup_eq_fast]; kernel_rfl) (by decide +kernel) (by decide +kernel) (by decide +kernel)
    (by first | exact .inl (by decide +kernel) | exact .inr (by decide +kernel)) (by rw [isSubtype_type]; kernel_rfl)
theorem slot_iter : Slot "filter" "__iter__" "filter.__iter__" :=
  .of (owner := "filter") (n := "__iter__") (by rw [typeLookup_type, builtinLookup_eq_fast]; kernel_rfl) (by decide +kernel) (by decide +kernel) (by decide +kernel)
    (by first | exact .inl (by decide +kernel) | exact .inr (by decide +kernel)) (by rw [isSubtype_type]; kernel_rfl)
theorem slot_init : Slot "filter" "__init__" "object.__init__" :=
  .of (owner := "object") (n := "__init__") (by rw [typeLookup_type, builtinLookup_eq_fast]; kernel_rfl) (by decide +kernel) (by decide +kernel) (by decide +kernel)
    (by first | exact .inl (by decide +kernel) | exact .inr (by decide +kernel)) (by rw [isSubtype_type]; kernel_rfl)
theorem entry_next : entryFor table "filter.__next__" = some Builtin.«filter.__next__» := entryFor_of_tree (by kernel_rfl)
theorem entry_iter : entryFor table "filter.__iter__" = some Builtin.«dict_keyiterator.__iter__» :=
  entryFor_alias (id' := "dict_keyiterator.__iter__") (by kernel_rfl) (by first | rfl | decide +kernel | (unfold String.splitOn; simp +decide [String.splitOnAux])) (by decide +kernel) (by kernel_rfl)
theorem entry_new : entryFor table "filter.__new__" = some Builtin.«filter.__new__» := entryFor_of_tree (by kernel_rfl)
theorem args_next (a : Value) : argsOk "filter.__next__" ⟨[a], []⟩ := by unfold argsOk; kernel_rfl
theorem args_iter (a : Value) : argsOk "filter.__iter__" ⟨[a], []⟩ := by unfold argsOk; kernel_rfl
theorem args_init (a b c : Value) : argsOk "object.__init__" ⟨[a, b, c], []⟩ := by unfold argsOk; kernel_rfl
theorem mro : mroOf (.type "filter") = pure [.type "filter", .type "object"] := by rw [mroOf_type]; kernel_rfl
theorem lookup_new : typeLookup (.type "filter") "__new__" = pure (some (.builtin "filter.__new__")) := by rw [typeLookup_type, builtinLookup_eq_fast]; kernel_rfl
theorem sub : isSubtype (.type "filter") (.type "filter") = pure true := by rw [isSubtype_type]; kernel_rfl
theorem called : TypeCalled "filter" "filter.__new__" "object.__init__" :=
  ⟨by decide +kernel, by decide +kernel, ⟨_, _, mro⟩, madeBy_type mro lookup_new (by decide +kernel), by decide +kernel, by rw [isSubtype_type]; kernel_rfl, slot_init⟩
theorem typeCall (a b : Value) : checkTypeCall "filter" ⟨[a, b], []⟩ = pure () := by kernel_rfl
theorem newCall (a b : Value) : checkBuiltinCall "filter.__new__" ⟨[.type "filter", a, b], []⟩ = pure () := by kernel_rfl
end FF
section
variable {prog : Program} {w : World} {A : Around} {E : Value → Shared → Prop} {s : Shared}
/-- a filter object by len over a tuple's iterator -/
abbrev IsFilt (h : Heap) (f it : Addr) : Prop := h.get? f = some { cls := .type "filter", data := .fields #[.builtin "len", .ref it] }
theorem filter_new_meets (t : Addr) (items : Array Value) : Meets (Builtin.«filter.__new__» ⟨[.type "filter", .builtin "len", .ref t], []⟩)
    (fun _ R s => s.heap.IsTuple t items ∧ R (.ok (.ret (.ref (s.heap.objs.size + 1)))) { s with heap := (s.heap.push { cls := .type "tuple_iterator", data := .fields #[.ref t, .int 0 0] }).push { cls := .type "filter", data := .fields #[.builtin "len", .ref s.heap.objs.size] } }) :=
  .of_wp fun prog w A R s h => by
    obtain ⟨ht, h⟩ := h
    have e1 : isType (Value.type "filter") = pure true := rfl
    unfold Builtin.«filter.__new__» Builtin.SmallTypes.newClass
    dsimp only
    refine wpAny_bind (wpAny_bind (wpAny_of_eq e1 ?_))
    rw [if_neg (by decide)]
    refine wpAny_bind (wpAny_of_eq FF.sub ?_)
    rw [if_neg (by decide)]
    refine wpAny_pure ?_
    dsimp only
    refine wpAny_bind ?_
    refine wpAny_of_eq (a := ()) rfl ?_
    refine wpAny_bind (wpAny_of_eq (a := ()) rfl ?_)
    refine wpAny_bind (wpAny_pyIter_tuple ht ?_)
    show wpAny _ _ (newObj (.type "filter") (.fields #[.builtin "len", .ref s.heap.objs.size]) >>= _) _ _ _
    refine wpAny_bind (wpAny_newObj_type ?_ (by size_fits))
    exact wpAny_pure ⟨_, rfl, by rw [Heap.size_push]; exact h⟩
theorem call_filter {t : Addr} {items : Array Value} {Q : Value → Shared → Prop} (ht : s.heap.IsTuple t items)
    (h : Q (.ref (s.heap.objs.size + 1)) { s with heap := (s.heap.push { cls := .type "tuple_iterator", data := .fields #[.ref t, .int 0 0] }).push { cls := .type "filter", data := .fields #[.builtin "len", .ref s.heap.objs.size] } }) :
    wpAny (model prog w) A (call (.type "filter") [.builtin "len", .ref t]) Q E s :=
  callType_new FF.called (by decide) (FF.typeCall _ _) (FF.newCall _ _) (fun obj => FF.args_init obj _ _) FF.entry_new (filter_new_meets t items)
    ⟨ht, ⟨_, by rw [← Heap.size_push s.heap]; exact Heap.get?_push_size _ rfl, rfl⟩, h⟩
theorem tnext_item {it t : Addr} {i : Nat} {items : Array Value} {x : Value} {Q : Option Value → Shared → Prop} (hit : s.heap.IsTupleIter it t i) (ht : s.heap.IsTuple t items) (hx : items[i]? = some x)
    (hQ : ∀ h', h'.IsTupleIter it t (i + 1) → Heap.SameBut it s.heap h' → Q (some x) { s with heap := h' }) : wpAny (model prog w) A (callSpecial? (.ref it) (Str.ofString "__next__")) Q E s := by
  obtain ⟨o, ho, hc, hd⟩ := id hit
  obtain ⟨ol, hol, _, nl, hdl⟩ := ht
  refine wpAny_callSpecial?_slot (name := Str.ofString "__next__") hit.typeIs F.slot_tuple_iterator_next
    (wpAny_call_entry F.slot_tuple_iterator_next hit.typeIs F.entry_tuple_iterator_next ?_ (F.args_tuple_iterator_next_1 _))
  show wpAny _ _ (field (.ref it) 0 >>= _) _ _ s
  refine wpAny_bind (wpAny_field ho hd (x := .ref t) rfl ?_)
  show wpAny _ _ (if (Value.ref t == Value.none) = true then _ else _) _ _ s
  rw [if_neg (show ¬ ((Value.ref t == Value.none) = true) from Bool.false_ne_true)]
  show wpAny _ _ (field (.ref it) 1 >>= _) _ _ s
  refine wpAny_bind (wpAny_field ho hd (x := .int i 0) rfl ?_)
  show wpAny _ _ (seqItems? (.ref t) >>= _) _ _ s
  refine wpAny_bind (wpAny_seqItems hol hdl ?_)
  simp only [Int.toNat_natCast, hx]
  refine wpAny_bind (wpAny_setField ho hd (by simp) (wpAny_pure ⟨x, rfl, hQ _ ?_ (Heap.SameBut.update ..)⟩))
  exact ⟨_, Heap.get?_update_self _ ho (Obj.isFreed_of_fields (Obj.data_mapFields hd _)), (Obj.cls_mapFields ..).trans hc, by
    rw [Obj.data_mapFields hd]; simp [rawInt]⟩
theorem tnext_end {it t : Addr} {i : Nat} {items : Array Value} {Q : Option Value → Shared → Prop} (hh : A.handled = none) (hit : s.heap.IsTupleIter it t i) (ht : s.heap.IsTuple t items) (hx : items[i]? = none)
    (hE : ∀ h' e, Heap.ExtBut it s.heap h' → (∃ o, h'.get? e = some o ∧ o.cls = .type "StopIteration") → E (.ref e) { s with heap := h' }) : wpAny (model prog w) A (callSpecial? (.ref it) (Str.ofString "__next__")) Q E s := by
  obtain ⟨o, ho, hc, hd⟩ := id hit
  obtain ⟨ol, hol, _, nl, hdl⟩ := ht
  refine wpAny_callSpecial?_slot (name := Str.ofString "__next__") hit.typeIs F.slot_tuple_iterator_next
    (wpAny_call_entry F.slot_tuple_iterator_next hit.typeIs F.entry_tuple_iterator_next ?_ (F.args_tuple_iterator_next_1 _))
  show wpAny _ _ (field (.ref it) 0 >>= _) _ _ s
  refine wpAny_bind (wpAny_field ho hd (x := .ref t) rfl ?_)
  show wpAny _ _ (if (Value.ref t == Value.none) = true then _ else _) _ _ s
  rw [if_neg (show ¬ ((Value.ref t == Value.none) = true) from Bool.false_ne_true)]
  show wpAny _ _ (field (.ref it) 1 >>= _) _ _ s
  refine wpAny_bind (wpAny_field ho hd (x := .int i 0) rfl ?_)
  show wpAny _ _ (seqItems? (.ref t) >>= _) _ _ s
  refine wpAny_bind (wpAny_seqItems hol hdl ?_)
  simp only [Int.toNat_natCast, hx]
  refine wpAny_bind (wpAny_rule (wpAny_bind (wpAny_setField ho hd (by simp) ?_)))
  show wpAny _ _ (newExc (.type "StopIteration") [] >>= _) _ _ _
  refine wpAny_bind ?_
  simp only [newExc, newTuple]
  refine wpAny_bind (wpAny_newObj_type ?_ (by size_fits))
  refine wpAny_bind (m := firstArgMember _ _) (wpAny_of_eq (a := Value.none) (by first | rfl | (simp only [firstArgMember]; rfl)) ?_)
  refine wpAny_newObj_type ?_ (by size_fits)
  simp only [raiseNew]
  refine wpAny_bind (wpAny_handled ?_)
  first | rw [show A.in1.handled = none from hh] | rw [hh]
  refine wpAny_bind (wpAny_pure (wpAny_throw ?_))
  exact hE _ _ (((Heap.SameBut.update ..).extBut.push _).push _) ⟨_, Heap.get?_push_size _ rfl, rfl⟩
end
end Mine
end
noncomputable section
open PySem PySem.W PyProof.Rows PySem.Calls
open Sem (wp)
set_option maxRecDepth 100000
namespace Mine
def keepV (v : Value) : Bool := match v with | .str x _ => x.length != 0 | _ => false
def TextV (v : Value) : Prop := ∃ x u, v = .str x u ∧ x.length < 2 ^ 60
section
variable {prog : Program} {w : World} {A : Around} {E : Value → Shared → Prop} {s : Shared}
theorem filt_code (hh : A.handled = none) {f it t : Addr} {items : List Value} {R : Result → Shared → Prop} (hfi : f ≠ it) (hti : t ≠ it) (htx : ∀ v ∈ items, TextV v) :
    ∀ (l : List Value) (i : Nat) (s : Shared), items.drop i = l → IsFilt s.heap f it → s.heap.IsTupleIter it t i → s.heap.IsTuple t items.toArray →
      (∀ v j h' tk, (items.drop i).filter keepV = v :: (items.drop (j + 1)).filter keepV → IsFilt h' f it → h'.IsTupleIter it t (j + 1) → h'.IsTuple t items.toArray → Heap.ExtBut it s.heap h' → R (.ok (.ret v)) { s with heap := h', toks := tk }) →
      (∀ h' e tk, (items.drop i).filter keepV = [] → Heap.ExtBut it s.heap h' → (∃ o, h'.get? e = some o ∧ o.cls = .type "StopIteration") → R (.error (.ref e)) { s with heap := h', toks := tk }) →
      codeAny (model prog w) A (.builtin "filter.__next__" ⟨[.ref f], []⟩) R s := by
  intro l
  induction l with
  | nil =>
    intro i s hl hf hit ht _ hend
    refine codeAny_builtin FF.entry_next ?_
    rw [Around.under_plainId (by decide +kernel)]
    show wpAny _ _ (field (.ref f) 0 >>= _) _ _ s
    refine wpAny_bind (wpAny_field hf rfl (x := .builtin "len") rfl ?_)
    refine wpAny_bind (wpAny_field hf rfl (x := .ref it) rfl ?_)
    refine wpAny_bind (tnext_end hh hit ht ?_ fun h' e hx ho => ?_)
    · have : items.length ≤ i := by
        rcases Nat.lt_or_ge i items.length with q | q
        · rw [List.drop_eq_getElem_cons q] at hl; cases hl
        · exact q
      rw [List.getElem?_toArray]; exact List.getElem?_eq_none this
    · exact hend h' e _ (by rw [hl]; rfl) hx ho
  | cons v r ih =>
    intro i s hl hf hit ht hitem hend
    have hlt : i < items.length := by
      rcases Nat.lt_or_ge i items.length with q | q
      · exact q
      · rw [List.drop_eq_nil_of_le q] at hl; cases hl
    have hv : items[i]? = some v := by
      have := congrArg (·[0]?) hl
      simpa using this
    have hr : items.drop (i + 1) = r := by
      have := congrArg (List.drop 1) hl
      simpa [Nat.add_comm] using this
    obtain ⟨x, u, rfl, hx⟩ := htx v (List.mem_of_getElem? hv)
    refine codeAny_builtin FF.entry_next ?_
    rw [Around.under_plainId (by decide +kernel)]
    show wpAny _ _ (field (.ref f) 0 >>= _) _ _ s
    refine wpAny_bind (wpAny_field hf rfl (x := .builtin "len") rfl ?_)
    refine wpAny_bind (wpAny_field hf rfl (x := .ref it) rfl ?_)
    refine wpAny_bind (tnext_item hit ht (by rw [List.getElem?_toArray]; exact hv) fun h' hit' hs' => ?_)
    dsimp only
    refine wpAny_bind (wpAny_holding ?_)
    rw [if_neg (by decide)]
    refine wpAny_bind (len_str (by omega) ?_)
    refine wpAny_holding ?_
    refine truthy_int ?_
    have hf' : IsFilt h' f it := hs'.extBut _ _ hfi hf
    have ht' : h'.IsTuple t items.toArray := ht.extBut hs'.extBut hti
    have hkv : keepV (.str x u) = ((x.length : Int) != 0) := by
      show (x.length != 0) = _
      by_cases q : x.length = 0
      · rw [q]; rfl
      · have h1 : (x.length != 0) = true := by simpa using q
        have h2 : ((x.length : Int) != 0) = true := by simp; omega
        rw [h1, h2]
    cases hk : ((x.length : Int) != 0)
    · rw [if_neg Bool.false_ne_true]
      have hfl : (items.drop i).filter keepV = (items.drop (i + 1)).filter keepV := by
        rw [hl, hr, List.filter_cons, hkv, hk]; rfl
      refine wpAny_pure ⟨plainId_quiet (by decide +kernel) _, ih (i + 1) _ hr hf' hit' ht' (fun v j h2 tk e1 e2 e3 e4 e5 => ?_) fun h2 e tk e1 e2 e3 => ?_⟩
      · exact hitem v j h2 tk (hfl.trans e1) e2 e3 e4 fun b o hb q => e5 b o hb (hs'.extBut b o hb q)
      · exact hend h2 e tk (hfl.trans e1) (fun b o hb q => e2 b o hb (hs'.extBut b o hb q)) e3
    · rw [if_pos rfl]
      refine wpAny_pure (hitem _ i h' _ ?_ hf' hit' ht' hs'.extBut)
      rw [hl, hr, List.filter_cons, hkv, hk]; rfl
theorem filt_next (hh : A.handled = none) {f it t : Addr} {items : List Value} {Q : Option Value → Shared → Prop} (hfi : f ≠ it) (hti : t ≠ it) (htx : ∀ v ∈ items, TextV v) {i : Nat}
    (hf : IsFilt s.heap f it) (hit : s.heap.IsTupleIter it t i) (ht : s.heap.IsTuple t items.toArray)
    (hitem : ∀ v j h' tk, (items.drop i).filter keepV = v :: (items.drop (j + 1)).filter keepV → IsFilt h' f it → h'.IsTupleIter it t (j + 1) → h'.IsTuple t items.toArray → Heap.ExtBut it s.heap h' → Q (some v) { s with heap := h', toks := tk })
    (hend : ∀ h' tk, (items.drop i).filter keepV = [] → Heap.ExtBut it s.heap h' → Q none { s with heap := h', toks := tk }) :
    wpAny (model prog w) A (pyNext (.ref f)) Q E s := by
  have hT : s.TypeIs (.ref f) "filter" := ⟨_, hf, rfl⟩
  unfold pyNext
  refine wpAny_bind (wpAny_attempt (wpAny_callSpecial?_slot (name := Str.ofString "__next__") hT FF.slot_next (wpAny_call (codeAny_call_builtin_code (plainId_quiet FF.slot_next.plain _)
    (FF.slot_next.check _ _ _ _ _ _ _ _ hT (FF.args_next _) (filt_code hh hfi hti htx _ i s rfl hf hit ht (fun v j h' tk e1 e2 e3 e4 e5 => ?_) fun h' e tk e1 e2 e3 => ?_))))))
  · exact wpAny_pure (hitem v j h' tk e1 e2 e3 e4 e5)
  · obtain ⟨o, ho, hc⟩ := e3
    exact wpAny_bind (wpAny_isInstance (T := "StopIteration") (b := true) ⟨o, ho, hc⟩ isSubtype_stop (wpAny_pure (hend h' tk e1 e2)))
/-- the walk over a filter object -/
theorem Walks.filt (hh : A.handled = none) (f it t : Addr) (hfi : f ≠ it) (hti : t ≠ it) (items : List Value) (htx : ∀ v ∈ items, TextV v) :
    Walks prog w A f [f, it, t] [it] (items.filter keepV).length (fun k v => (items.filter keepV)[k]? = some v)
      (fun k h => IsFilt h f it ∧ h.IsTuple t items.toArray ∧ ∃ i, h.IsTupleIter it t i ∧ (items.drop i).filter keepV = (items.filter keepV).drop k) where
  sub := fun b hb => by rw [List.mem_singleton.mp hb]; exact .tail _ (.head _)
  frame := fun k h h' st hk => by
    obtain ⟨h1, h2, i, h3, h4⟩ := st
    exact ⟨hk _ (.head _) _ h1, h2.at fun o e => hk t (.tail _ (.tail _ (.head _))) o e, i, h3.at fun o e => hk it (.tail _ (.head _)) o e, h4⟩
  item := fun k s Q E hi st hQ => by
    obtain ⟨h1, h2, i, h3, h4⟩ := st
    refine filt_next hh hfi hti htx h1 h3 h2 (fun v j h' tk e1 e2 e3 e4 e5 => ?_) fun h' tk e1 _ => ?_
    · rw [h4] at e1
      rw [List.drop_eq_getElem_cons hi] at e1
      injection e1 with e6 e7
      refine hQ v h' tk ?_ ⟨e2, e4, j + 1, e3, e7.symm⟩ fun b o hb q => e5 b o (fun h => hb (by rw [h]; exact .head _)) q
      rw [← e6]; exact List.getElem?_eq_getElem hi
    · rw [h4] at e1
      rw [List.drop_eq_getElem_cons hi] at e1
      cases e1
  done := fun s Q E st hQ => by
    obtain ⟨h1, h2, i, h3, h4⟩ := st
    refine filt_next hh hfi hti htx h1 h3 h2 (fun v j h' tk e1 e2 e3 e4 e5 => ?_) fun h' tk e1 e2 => ?_
    · rw [h4, List.drop_length] at e1
      cases e1
    · exact hQ h' tk fun b o hb q => e2 b o (fun h => hb (by rw [h]; exact .head _)) q
  self := fun k s Q E st hQ => by
    obtain ⟨h1, h2, i, h3, h4⟩ := st
    have hT : s.TypeIs (.ref f) "filter" := ⟨_, h1, rfl⟩
    refine wpAny_pyIter_slot hT FF.slot_iter (wpAny_call_entry FF.slot_iter hT FF.entry_iter ?_ (FF.args_iter _))
    show wpAny _ _ (ret (.ref f)) _ _ s
    exact wpAny_pure ⟨_, rfl, "filter", _, hT, FF.slot_next.lookup, hQ⟩
end
end Mine
end
noncomputable section
open PySem PySem.W PyProof.Rows PySem.Calls
open Sem (wp)
set_option maxRecDepth 100000
namespace Mine
abbrev tabO (pt : Array Value) : Obj := { cls := .none, data := .fields pt }
theorem tab_is {w : World} {h₀ h : Heap} {pt : Array Value} (X : (hd.heap_39 w.params).In h₀) (k : ∀ b o, h₀.get? b = some o → h.get? b = some o) (e : h.get? 53 = some (tabO pt)) (ht : TriplesOk pt.toList) :
    h.IsCode 57 53 pt ∧ h.TableAt 57 53 pt := by
  have e1 := k 57 _ (X 57 _ rfl)
  exact ⟨⟨_, _, _, _, _, _, _, _, _, _, e1, rfl, rfl, rfl, rfl, rfl, rfl, e, rfl, ht, by decide⟩, ⟨_, _, e1, rfl, rfl, rfl⟩, e⟩
section
variable {prog : Program} {w : World} {A : Around} {E : Value → Shared → Prop} {s : Shared}
theorem genCode_K {M : Model} {env : Env} {c P : Addr} {ps : Array Value} {pos : Pos} {qualname : Str} {scope : Scope} {Q : Value → Shared → Prop} (hc : env.code = .ref c) (hok : s.heap.IsCode c P ps) (htab : s.heap.TableAt c P ps)
    (hQ : ∀ code h' tk more, Heap.ExtBut P s.heap h' → h'.get? P = some (tabO (ps ++ more)) → TriplesOk (ps ++ more).toList → s.heap.objs.size ≤ h'.objs.size → Q code { s with heap := h', toks := tk }) :
    wpAny M A (genexprCode env pos qualname scope) Q E s := by
  cases hf : codeAmong pos ps.toList with
  | some c' =>
    obtain ⟨o, vs, file, tf, flags, tg, inF, text, tt, op, ho, hd, h11, h2, h7, h9, h10, hop, hpd, htr, hne⟩ := id hok
    exact wpAny_genexprCode_hit hc hok hf (hQ c' s.heap s.toks #[] (Heap.ExtBut.refl _ _) (by simpa using htab.2) (by simpa using htr) (Nat.le_refl _))
  | none =>
    refine wpAny_genexprCodeX hc hok htab hf fun c' h' tk hs h1 h2 hok' _ ht' _ => ?_
    obtain ⟨o, vs, file, tf, flags, tg, inF, text, tt, op, ho, hd, h11, h2', h7, h9, h10, hop, hpd, htr, hne⟩ := id hok'
    exact hQ _ h' tk _ hs ht'.2 htr (Nat.le_of_lt (Nat.lt_of_le_of_lt h1 h2))
/-- a generator of texts at hand -/
inductive GenJ (prog : Program) (w : World) (A : Around) (a : Addr) (g : Heap) (L : Addr) (m : Str → Option Value) (news : List (Addr × Obj)) (n : Nat) (P : Nat → Value → Prop) (s : Shared) : Prop
  | mk (fp wr : List Addr) (G : Array GenState → Array GenState → Prop) (St : Nat → Shared → Prop) (P₀ : Nat → Value → Prop) (h1 : WalksS prog w A.in1.in1 a fp wr G n P₀ St) (h2 : ∀ k y, P₀ k y → P k y) (h3 : ∀ i s, St i s → s.TypeIs (.ref a) "generator") (h4 : St 0 s) (h5 : ∀ b ∈ fp, b < s.heap.objs.size) (h6 : a ∈ fp)
    (h7 : ∀ s', Moved wr G s s' → Fr g L s'.heap m ∧ News g L s'.heap news ∧ AllBare s'.gens) : GenJ prog w A a g L m news n P s
/-- what the generator expression asks of its source, here a filter object -/
inductive FiltPost (prog : Program) (w : World) (A : Around) (Q : Value → Shared → Prop) (xv : Value) (s₁ : Shared) : Prop
  | mk (f it t : Addr) (items : List Value) (g : Heap) (L : Addr) (m mg : Str → Option Value) (news : List (Addr × Obj)) (pt : Array Value) (bm : Addr) (ob : Obj)
    (h1 : xv = .ref f) (h2 : IsFilt s₁.heap f it) (h3 : s₁.heap.IsTupleIter it t 0) (h4 : s₁.heap.IsTuple t items.toArray) (h5 : f ≠ it) (h6 : t ≠ it) (h7 : ∀ v ∈ items, ∃ x u, v = .str x u ∧ x.length ≤ 1000)
    (h8 : Fr g L s₁.heap m) (h9 : News g L s₁.heap ((53, tabO pt) :: news)) (h10 : ∀ p ∈ news, p.1 ≠ it ∧ p.1 ≠ 53) (h11 : it ≠ L) (h12 : g.get? it = none) (h13 : @Ne Nat it 53) (h14 : @Ne Nat f 53) (h15 : @Ne Nat t 53) (h16 : g.NoLimit) (h17 : s₁.heap.IsCode 57 53 pt) (h18 : s₁.heap.TableAt 57 53 pt)
    (h19 : BMod g mainGlobals mg bm ob) (h20 : AllBare s₁.gens)
    (h21 : ∀ a h' tk gens' more, Fr g L h' m → News g L h' ((53, tabO (pt ++ more)) :: news) → TriplesOk (pt ++ more).toList → AllBare gens' →
      GenJ prog w A a g L m ((53, tabO (pt ++ more)) :: news) (items.filter keepV).length (fun k y => ∃ x u u', (items.filter keepV)[k]? = some (.str x u) ∧ y = .str (Txt.strip x) u') { s₁ with heap := h', toks := tk, gens := gens' } →
      Q (.ref a) { s₁ with heap := h', toks := tk, gens := gens' }) : FiltPost prog w A Q xv s₁
theorem gen_text {env : Env} {iter : PySem.Expr} {x : Str} {px p1 p2 p3 : Pos} {scope : Scope} {cl : List (Str × Addr)} {pos : Pos} {Q : Value → Shared → Prop}
    (hcode : env.code = .ref 57) (hglob : env.globals = mainGlobals)
    (hh : A.handled = none) (hco : scope.isCoroutine = false) (hclos : closureFor scope env = pure cl) (hcell : ∀ y ∈ scope.names, y.2 ≠ .cell) (h0 : scope.names.lookup (".0" : Str) = some NameKind.local)
    (hx : scope.names.lookup x = some .local) (hkind : scope.kind = .function) (hroom : A.depth < recursionLimit)
    (h : wpAny (model prog w) A (eval iter env) (FiltPost prog w A Q) E s)
    (hs : ∀ x, genFold iter env x = pure x) (hdb : (x == ("__debug__" : Str)) = false) (hline : (p2.endLine == p3.line) = true) :
    wpAny (model prog w) A (eval (.GeneratorExp (.Call (.Attribute (.Name x p1) (Str.ofString "strip") p2) [] [] p3) [⟨.Name x px, iter, [], 0⟩] scope pos) env) Q E s := by
  refine wpAny_GeneratorExp_walksQ hh hco hclos hcell h0 hx hkind hroom (wpAny_mono h (fun xv s₁ h₁ => ?_) fun _ _ e => e) hs
  obtain ⟨f, it, t, items, g, L, m, mg, news, pt, bm, ob, rfl, hf, hit, ht, hfi, hti, htx, F, N, hni, hiL, hgi, hi53, hf53, ht53, hlim, hok, htab, BM, hbare, hQ⟩ := h₁
  have htx' : ∀ v ∈ items, TextV v := fun v hv => let ⟨x, u, e, hx⟩ := htx v hv; ⟨x, u, e, by omega⟩
  refine (Walks.filt (prog := prog) (w := w) hh f it t hfi hti items htx').self 0 s₁ _ _ ⟨hf, ht, 0, hit, rfl⟩ ?_
  refine ⟨hlim.keeps F.keep, genCode_K hcode hok htab fun code h' tk more hx' h53 htr hsz => ?_⟩
  have h53g : g.get? 53 = none := (N _ (.head _)).2.2
  have keepg : ∀ b o, g.get? b = some o → h'.get? b = some o := fun b o e => hx' b o (fun q => by rw [q, h53g] at e; cases e) (F.keep b o e)
  have h53L : (53 : Addr) ≠ L := (N _ (.head _)).2.1
  have F' : Fr g L h' m := ⟨F.ns.at' fun o e => hx' _ _ (Ne.symm h53L) e, keepg, F.above⟩
  have N' : News g L h' ((53, tabO (pt ++ more)) :: news) := fun p hp => by
    rcases List.mem_cons.mp hp with rfl | hp
    · exact ⟨h53, h53L, h53g⟩
    · exact ⟨hx' _ _ (hni p hp).2 (N p (.tail _ hp)).1, (N p (.tail _ hp)).2⟩
  refine wpAny_builtinsFor (m := mg) (bm := bm) (o := ob) (by rw [hglob]; exact BM.ns.keeps keepg) BM.name BM.ne (keepg _ _ BM.obj) BM.cls BM.dict BM.data ?_
  have hf' : IsFilt h' f it := hx' _ _ hf53 hf
  have hit' : h'.IsTupleIter it t 0 := hit.at fun o e => hx' _ _ hi53 e
  have ht' : h'.IsTuple t items.toArray := ht.at fun o e => hx' _ _ ht53 e
  have hcs : cStatics ≠ it := fun q => by
    obtain ⟨mc, hns, _⟩ := hlim
    obtain ⟨o, es, ep, ho, _⟩ := hns
    rw [q, hgi] at ho; cases ho
  refine ⟨f, [f, it, t], [it], (items.filter keepV).length, (fun k v => (items.filter keepV)[k]? = some v),
    (fun k h => IsFilt h f it ∧ h.IsTuple t items.toArray ∧ ∃ i, h.IsTupleIter it t i ∧ (items.drop i).filter keepV = (items.filter keepV).drop k), (fun _ => true),
    (fun k y => ∃ x u u', (items.filter keepV)[k]? = some (.str x u) ∧ y = .str (Txt.strip x) u'), rfl, fun A' hA' => Walks.filt hA' f it t hfi hti items htx', ⟨hf', ht', 0, hit', rfl⟩, ?_, hlim.keeps keepg, ?_, ?_, ?_⟩
  · intro b hb
    obtain ⟨oi, hoi, _⟩ := hit'
    obtain ⟨ot, hot, _⟩ := ht'
    rcases List.mem_cons.mp hb with rfl | hb
    · exact Heap.lt_size hf'
    · rcases List.mem_cons.mp hb with rfl | hb
      · exact Heap.lt_size hoi
      · rw [List.mem_singleton.mp hb]; exact Heap.lt_size hot
  · intro hm; exact hcs (List.mem_singleton.mp hm)
  · intro href _
    refine ⟨fun A' E' i v s₂ m₂ hA hP hns hm hk => wpAny_pure ⟨rfl, s₂.heap, s₂.toks, rfl, fun _ _ e => e⟩, fun A' E' i v s₂ m₂ hA hP hpz hns hm hk => ?_⟩
    obtain ⟨xx, u, rfl, hxl⟩ := htx v (List.mem_filter.mp (List.mem_of_getElem? hP)).1
    refine Call_method0 rfl hline (wpAny_Name (wpAny_loadName_local hkind (by show scope.names.lookup x = _; exact hx) hns hm ?_) hdb)
    refine SB.strip (fun t' k => ⟨⟨xx, u, t', hP, rfl⟩, s₂.heap, k, rfl, fun _ _ e => e⟩) (by rw [sizeLine_eq]; omega)
  · intro a h₅ tk₅ gs hgs hCa hz₅ hk₅ W hst
    have hp : passing (fun _ => true) (items.filter keepV).length 0 = List.range (items.filter keepV).length := by simp [passing]
    rw [hp, List.length_range] at W
    have hltC : ∀ b o, h'.get? b = some o → b ≠ h'.objs.size := fun b o e => Nat.ne_of_lt (Heap.lt_size e)
    have F5 : Fr g L h₅ m := ⟨F'.ns.at' fun o e => hk₅ _ _ e, fun b o e => hk₅ _ _ (F'.keep b o e), F'.above⟩
    have N5 : News g L h₅ ((53, tabO (pt ++ more)) :: news) := fun p hp => ⟨hk₅ _ _ (N' p hp).1, (N' p hp).2⟩
    have hb5 : AllBare (s₁.gens.push gs) := hbare.push hgs
    have hLn : ∀ o, h'.get? L = some o → L ∉ [h'.objs.size, it] := fun o e hm => by
      rcases List.mem_cons.mp hm with q | hm
      · exact hltC _ _ e q
      · exact hiL (List.mem_singleton.mp hm).symm
    refine hQ a h₅ tk₅ _ more F5 N5 htr hb5 ⟨_, _, _, _, _, W.in4_2, ?_, ?_, hst, ?_, .head _, ?_⟩
    · rintro k y ⟨i, hi, x, u, u', e1, e2⟩
      have : i = k := by
        obtain ⟨h1, h2⟩ := List.getElem?_eq_some_iff.mp hi
        rw [List.getElem_range] at h2; exact h2.symm
      subst this
      exact ⟨x, u, u', e1, e2⟩
    · intro i s' st
      obtain ⟨o, nm, qn, ho, hc, _⟩ := st.1
      exact ⟨o, ho, hc⟩
    · intro b hb
      show b < h₅.objs.size
      rw [hz₅]
      rcases List.mem_cons.mp hb with rfl | hb
      · exact Nat.lt_succ_self _
      · rcases List.mem_cons.mp hb with rfl | hb
        · exact Nat.lt_succ_of_lt hCa
        · exact Nat.lt_succ_of_lt (Nat.lt_trans (List.mem_range.mp hb) hCa)
    · intro s' hm
      have up : ∀ b o, b ≠ h'.objs.size → b ≠ it → h₅.get? b = some o → s'.heap.get? b = some o := fun b o h1 h2 e => hm.heap b o (fun hmem => by
        rcases List.mem_cons.mp hmem with q | hmem
        · exact h1 q
        · exact h2 (List.mem_singleton.mp hmem)) e
      have hL' : ∀ o, h₅.get? L = some o → s'.heap.get? L = some o := fun o e => by
        refine up L o ?_ (Ne.symm hiL) e
        obtain ⟨oL, _, _, hoL, _⟩ := F'.ns
        exact hltC _ _ hoL
      refine ⟨⟨F5.ns.at' hL', fun b o e => up b o (hltC _ _ (F'.keep b o e)) (fun q => by rw [q, hgi] at e; cases e) (F5.keep b o e), F5.above⟩, fun p hp => ⟨up _ _ (hltC _ _ (N' p hp).1) ?_ (N5 p hp).1, (N5 p hp).2⟩, GenOnlyQ.bare hm.gens hb5⟩
      rcases List.mem_cons.mp hp with rfl | hp
      · exact Ne.symm hi53
      · exact (hni p hp).1
theorem join_text {sep : Str} {t : Tok} {a : Addr} {g : Heap} {L : Addr} {m : Str → Option Value} {news : List (Addr × Obj)} {vals : List Value} {Q : Value → Shared → Prop}
    (G : GenJ prog w A a g L m news vals.length (fun k y => ∃ x u u', vals[k]? = some (.str x u) ∧ y = .str (Txt.strip x) u') s) {xs : List Str} (hxs : StrsAre vals xs)
    (hz : JoinOk sep (xs.map Txt.strip) = true) (hn : vals.length ≤ 1000)
    (h : ∀ h' tk gens' t', Fr g L h' m → News g L h' news → AllBare gens' → Q (.str (Txt.join sep (xs.map Txt.strip)) t') { s with heap := h', toks := tk, gens := gens' }) :
    wpAny (model prog w) A (call (.builtin "str.join") [.str sep t, .ref a]) Q E s := by
  obtain ⟨fp, wr, GG, St, P₀, W, hP, hT, hst, hfp, hI, hmv⟩ := G
  refine SC.joinGen W hT hst hfp hI (fun i v hv => let ⟨x, u, u', _, e⟩ := hP i v hv; ⟨_, _, e⟩) (fun s' l hm hl => ?_) (by rw [sizeLine_eq]; omega)
  have e : l.map (·.1) = xs.map Txt.strip := by
    obtain ⟨hsz, hat⟩ := hl
    have hlen : l.length = vals.length := by simpa [strValues] using hsz
    refine List.ext_getElem? fun k => ?_
    rw [List.getElem?_map, List.getElem?_map]
    have hxl := Mine.StrsAre.length hxs
    cases q : l[k]? with
    | none =>
      have h1 : l.length ≤ k := List.getElem?_eq_none_iff.mp q
      rw [List.getElem?_eq_none (by omega)]; rfl
    | some p =>
      have hlt : k < l.length := (List.getElem?_eq_some_iff.mp q).1
      have h1 : ((strValues l).toArray : Array Value)[k]? = some (.str p.1 p.2) := by
        rw [List.getElem?_toArray]; unfold strValues; rw [List.getElem?_map, q]; rfl
      obtain ⟨x, u, u', e1, e2⟩ := hP k _ (hat k _ h1)
      injection e2 with e3 e4
      obtain ⟨t', e5⟩ := Mine.StrsAre.get hxs (i := k) (by omega) (Str.ofString "")
      rw [e1] at e5
      injection e5 with e5
      injection e5 with e5 e6
      rw [List.getD_eq_getElem?_getD, List.getElem?_eq_getElem (by omega)] at e5
      rw [List.getElem?_eq_getElem (by omega)]
      show some p.1 = some (Txt.strip _)
      rw [e3, e5]; rfl
  rw [e]
  refine ⟨hz, fun t' k => ?_⟩
  obtain ⟨F, N, hb⟩ := hmv s' hm
  have es : s' = { s with heap := s'.heap, toks := s'.toks, gens := s'.gens } := by
    have h1 := hm.drawn
    have h2 := hm.os
    cases s'; cases s; simp_all
  have := h s'.heap k s'.gens t' F N hb
  rw [es]
  exact this
end
end Mine
end
noncomputable section
open PySem PySem.W PyProof.Rows PySem.Builtin PySem.Builtin.Str
namespace Mine
theorem strip_le (x : Str) : (Txt.strip x).length ≤ x.length := by
  unfold Txt.strip Txt.stripBy
  split
  · exact Nat.le_refl _
  · unfold PySem.stripped
    show ((x.cps.extract _ _).size) ≤ x.cps.size
    rw [Array.size_extract]; omega
theorem foldl_join (sep : Str) : ∀ (l : List Str) (a : Nat), l.foldl (fun n y => n + y.length + sep.length) a = a + (l.map Str.length).sum + l.length * sep.length
  | [], a => by simp
  | y :: r, a => by
    rw [List.foldl_cons, foldl_join sep r]
    simp only [List.map_cons, List.sum_cons, List.length_cons, Nat.add_mul, Nat.one_mul]; omega
theorem joinOk_small {sep : Str} {ys : List Str} (h1 : (ys.map Str.length).sum ≤ 1000) (h2 : ys.length ≤ 100) (h3 : sep.length ≤ 1) : JoinOk sep ys = true := by
  unfold JoinOk
  rw [List.foldl_toArray, foldl_join]
  have : ys.length * sep.length ≤ 100 * 1 := Nat.mul_le_mul h2 h3
  unfold tooLong
  rw [sizeLine_eq]
  simp only [Bool.not_eq_true', decide_eq_false_iff_not]; omega
theorem strip_sum : ∀ (l : List Str), ((l.map Txt.strip).map Str.length).sum ≤ (l.map Str.length).sum
  | [] => Nat.le_refl _
  | x :: r => by
    simp only [List.map_cons, List.sum_cons]
    have := strip_le x
    have := strip_sum r
    omega
def keepS (x : Str) : Bool := x.length != 0
theorem filter_sum (p : Str → Bool) : ∀ (l : List Str), ((l.filter p).map Str.length).sum ≤ (l.map Str.length).sum
  | [] => Nat.le_refl _
  | x :: r => by
    rw [List.filter_cons]
    have := filter_sum p r
    split
    · simp only [List.map_cons, List.sum_cons]; omega
    · simp only [List.map_cons, List.sum_cons]; omega
end Mine
end
noncomputable section
open PySem PySem.W PyProof.Rows
namespace Mine
section
variable {prog : Program} {w : World} {A : Around} {E : Value → Shared → Prop} {s : Shared} {env : Env} {h₀ : Heap} {test : PySem.Expr} {body : List Stmt} {Q : Flow → Shared → Prop}
/-- as while_led; the tokens never fall below the start's -/
theorem while_ledT {pos : Pos} {n : Nat} {m₀ : Str → Option Value} {news : List (Addr × Obj)} (J : Nat → (Str → Option Value) → List (Addr × Obj) → Prop)
    (F : Fr h₀ env.locals s.heap m₀) (N : News h₀ env.locals s.heap news) (hj : J n m₀ news)
    (turn : ∀ n m₁ news₁ h tk, s.toks ≤ tk → J n m₁ news₁ → Fr h₀ env.locals h m₁ → News h₀ env.locals h news₁ →
      wpAny (model prog w) A (isTrue test env (eval test env)) (fun b s₂ => WhlIf b (wpAny (model prog w) A (execs body env) (WEnd h₀ env.locals J n s Q) E s₂) (Q .next s₂)) E { s with heap := h, toks := tk })
    (hE : PassesOwn (model prog w) A env E) :
    wpAny (model prog w) A (exec (.While test body [] pos) env) Q E s := by
  refine wpAny_While ?_
  refine codeAny_whileLoop (fun n s' => ∃ m₁ news₁ h tk, s' = { s with heap := h, toks := tk } ∧ s.toks ≤ tk ∧ Fr h₀ env.locals h m₁ ∧ News h₀ env.locals h news₁ ∧ J n m₁ news₁) ?_ n ⟨m₀, news, s.heap, s.toks, rfl, Nat.le_refl _, F, N, hj⟩
  rintro n s' ⟨m₁, news₁, h, tk, rfl, htk, F₁, N₁, hJ⟩
  refine wpAny_passesOwn hE (wpAny_mono (wpAny_toks_of (n := s.toks) htk (turn n m₁ news₁ h tk htk hJ F₁ N₁)) (fun b s₂ h₂ => ?_) fun _ _ e => e.2)
  obtain ⟨htk₂, h₂⟩ := h₂
  cases b with
  | false =>
    unfold WhlIf at h₂
    rw [if_neg Bool.false_ne_true] at h₂
    simp only [Bool.false_eq_true, if_false]
    exact wpAny_execs_nil h₂
  | true =>
    unfold WhlIf at h₂
    rw [if_pos rfl] at h₂
    simp only [if_true]
    refine wpAny_passesOwn hE (wpAny_mono (wpAny_toks_of (n := s.toks) htk₂ h₂) (fun f s₃ h₃ => ?_) fun _ _ e => e.2)
    obtain ⟨htk₃, h₃⟩ := h₃
    cases f with
    | next =>
      obtain ⟨k, h', tk', m₂, news₂, hk, rfl, F₂, N₂, hJ₂⟩ := h₃
      exact ⟨k, hk, m₂, news₂, h', tk', rfl, htk₃, F₂, N₂, hJ₂⟩
    | cont =>
      obtain ⟨k, h', tk', m₂, news₂, hk, rfl, F₂, N₂, hJ₂⟩ := h₃
      exact ⟨k, hk, m₂, news₂, h', tk', rfl, htk₃, F₂, N₂, hJ₂⟩
    | brk => exact h₃
    | ret v => exact h₃
end
/-- a halt for the walk at a statement's end -/
def Bar (P : Prop) : Prop := P
theorem bar {P : Prop} (h : P) : Bar P := h
theorem stmt_bar {M : Model} {A : Around} {env : Env} {E : Value → Shared → Prop} {s : Shared} {st : Stmt} {rest : List Stmt} {Q : Flow → Shared → Prop} {n : Nat} (hn : n ≤ s.toks)
    (h : wpAny M A (exec st env) (fun f s' => Bar (n ≤ s'.toks → match f with | .next => wpAny M A (execs rest env) Q E s' | f => Q f s')) E s) : wpAny M A (execs (st :: rest) env) Q E s :=
  wpAny_execs_cons (wpAny_mono (wpAny_toks_of hn h) (fun f s' x => x.2 x.1) fun _ _ x => x.2)
open PySem.Builtin PySem.Builtin.Str in
theorem replace_le {x y z : Str} (h : z.length ≤ y.length) : (Txt.replace x y z).length ≤ x.length := by
  unfold Txt.replace
  split
  · exact Nat.le_refl _
  · have hy : (glued y (partsBetween x (occurrences x y 0 x.length (x.length + 1)) y.length)).length = x.length := by rw [StrLaws.glued_between_self]
    rw [size_glued, length_partsBetween, Nat.add_sub_cancel] at hy
    rw [size_glued, length_partsBetween, Nat.add_sub_cancel]
    have : (occurrences x y 0 x.length (x.length + 1)).length * z.length ≤ (occurrences x y 0 x.length (x.length + 1)).length * y.length := Nat.mul_le_mul_left _ h
    omega
open PySem.Builtin PySem.Builtin.Str in
theorem replace_lt {x y z : Str} (h : z.length < y.length) (hne : Txt.replace x y z ≠ x) : (Txt.replace x y z).length < x.length := by
  unfold Txt.replace at hne ⊢
  split at hne
  · exact absurd rfl hne
  · rename_i hc
    rw [if_neg hc]
    have hy : (glued y (partsBetween x (occurrences x y 0 x.length (x.length + 1)) y.length)).length = x.length := by rw [StrLaws.glued_between_self]
    rw [size_glued, length_partsBetween, Nat.add_sub_cancel] at hy
    rw [size_glued, length_partsBetween, Nat.add_sub_cancel]
    have h1 : 0 < (occurrences x y 0 x.length (x.length + 1)).length := by
      simp only [Bool.or_eq_true, not_or, List.isEmpty_iff] at hc
      exact List.length_pos_iff.mpr hc.1
    have : (occurrences x y 0 x.length (x.length + 1)).length * z.length < (occurrences x y 0 x.length (x.length + 1)).length * y.length := Nat.mul_lt_mul_of_pos_left h h1
    omega
inductive DashIter (p : Str) : Str → Prop
  | refl : DashIter p p
  | step {q : Str} : DashIter p q → DashIter p (Txt.replace q (Str.ofString "--") (Str.ofString "-"))
theorem wpC_with_toks {α : Type} {M : Model} {A : Around} {s : Shared} {t : Sem α} {Q : α → Shared → Prop} {E : Value → Shared → Prop} {n : Nat} (hn : n ≤ s.toks)
    (h : wpC M A t (fun a s' => n ≤ s'.toks → Q a s') (fun e s' => n ≤ s'.toks → E e s') s) : wpC M A t Q E s :=
  fun Γ p hΓ hC => Sem.wp_mono M Γ t (fun _ _ _ x => x.2 x.1) (fun _ _ _ x => x.2 x.1) p s (Sem.wp_toks M Γ n t _ _ p s hn (h Γ p hΓ hC))
end Mine
end
noncomputable section
open PySem PySem.W PyProof.Rows PySem.Builtin PySem.Builtin.Str
namespace Mine
theorem item_last {q : Str} (hne : q.length ≠ 0) (h : (Txt.item q (-1) == Str.ofString "-") = true) : q.cps.toList = q.cps.toList.dropLast ++ [45] := by
  have e := eq_of_beq h
  have hl : q.cps.toList.length = q.length := Array.length_toList
  have hne' : q.cps.toList ≠ [] := fun e => hne (by rw [← hl, e]; rfl)
  have hlast := List.dropLast_concat_getLast hne'
  have hc : (Txt.charAt q (-1)).getD 0 = q.cps.toList.getLast hne' := by
    have h1 : seqIndex? (-1) q.length = some (q.length - 1) := by
      unfold seqIndex?
      simp
      omega
    unfold Txt.charAt
    rw [h1]
    show (q.cps[q.length - 1]?).getD 0 = _
    rw [List.getLast_eq_getElem, ← Array.getElem?_toList, List.getElem?_eq_getElem (by omega)]
    simp [hl]
  have h2 : (⟨#[(Txt.charAt q (-1)).getD 0]⟩ : Str) = Str.ofString "-" := e
  have h3 : (Txt.charAt q (-1)).getD 0 = 45 := by
    have h4 : Str.ofString "-" = ⟨#[45]⟩ := by decide +kernel
    rw [h4] at h2
    injection h2 with h2
    have := congrArg (fun a : Array Nat => a.toList.headD 0) h2
    simpa using this
  rw [hc] at h3
  rw [← h3]
  exact hlast.symm
theorem slice_init (q : Str) : (Txt.slice q none (some (-1))).cps.toList = q.cps.toList.dropLast := by
  have e : Txt.slice q none (some (-1)) = StrLaws.sliceText q (some ((0 : Nat) : Int)) (some ((q.length - 1 : Nat) : Int)) := by
    show StrLaws.sliceText q none (some (-1)) = _
    unfold StrLaws.sliceText
    have h1 : max (0 : Int) (min (-1 + (q.length : Int)) q.length) = max (0 : Int) (min ((q.length - 1 : Nat) : Int) q.length) := by omega
    have h2 : ¬ (((q.length - 1 : Nat) : Int) < 0) := by omega
    have h3 : max (0 : Int) (min 0 (q.length : Int)) = 0 := by omega
    have key : strSliceIndices none (some (-1)) 1 q.length = strSliceIndices (some ((0 : Nat) : Int)) (some ((q.length - 1 : Nat) : Int)) 1 q.length := by
      simp only [strSliceIndices, h2, show (1 : Int) > 0 from by decide, if_true, if_false, show ((-1 : Int) < 0) from by decide, h1, show ¬ (((0 : Nat) : Int) < 0) from by decide]
      simp [h3]
    rw [key]
  rw [e, StrLaws.sliceText_nat q (by omega) (by omega)]
  have hl : q.cps.toList.length = q.length := Array.length_toList
  rw [List.dropLast_eq_take, hl]
  simp
def repl9 (p : Str) : Str :=
  Txt.replace (Txt.replace (Txt.replace (Txt.replace (Txt.replace (Txt.replace (Txt.replace (Txt.replace (Txt.replace p (Str.ofString " ") (Str.ofString "_")) (Str.ofString "/") (Str.ofString "-")) (Str.ofString "\\") (Str.ofString "-"))
    (Str.ofString ":") (Str.ofString "-")) (Str.ofString ";") (Str.ofString "-")) (Str.ofString "\"") (Str.ofString "-")) (Str.ofString "(") (Str.ofString "-")) (Str.ofString ")") (Str.ofString "-")) (Str.ofString "unknown") (Str.ofString "")
/-- what _platform makes of the texts xs -/
def PlatIs (xs : List Str) (r : Str) : Prop :=
  ∃ p j, DashIter (repl9 (Txt.join (Str.ofString "-") ((xs.filter keepS).map Txt.strip))) p ∧ p.cps.toList = r.cps.toList ++ List.replicate j 45 ∧ r.length ≤ 300
end Mine
end
noncomputable section
open PySem PySem.W PyProof.Rows PySem.Calls
set_option pp.deepTerms false
set_option pp.maxSteps 2000
set_option maxRecDepth 100000
set_option maxHeartbeats 8000000
namespace Mine
section
variable {prog : Program} {w : World} {A A₀ : Around} {s : Shared} {K : Frag} {L : Addr} {h₀ base : Heap} {m mg mb : Str → Option Value} {news : List (Addr × Obj)} {p : Program} {loose : List Str} {mean : ExcName → Option Value}
/-- entering a def of star arguments alone -/
theorem code_star {env : Env} {outer : List Env} {R : Result → Shared → Prop} {name qual : Str} {params : Arguments} {body : List Stmt} {scope : Scope} {dV kV doc pm cdv ct oc : Value} {an od : Option Addr} {osl : Array (Option Value)} {f : Addr} {args : Args} {vs : List Value} {x : Str}
    (B : Below A₀ base outer h₀) (F : Fr h₀ L s.heap m) (X₀ : K.In h₀) (N : News h₀ L s.heap news) (T : Top p loose mean mg mb h₀) (hA : A.frames = some (env :: outer)) (hf : env.frame = some L) (hke : env.scope.kind = .function)
    (ho : K.lookup f = some ⟨oc, od, .func (fnOf name qual params body scope dV kV doc pm an cdv ct), osl⟩) (hcd : codeIn K cdv qual = true) (hroom : A.depth < recursionLimit)
    (hb : bindArgs (fnOf name qual params body scope dV kV doc pm an cdv ct) args = (newTuple vs >>= fun t => pure [(x, t)])) (hz : vs.length ≤ 1000) (hloc : scope.names.lookup x = some .local)
    (h : ∀ D g L' h₁ tk₁, (∀ p ∈ news, p.1 < D) → Fr h₀ L g m → Fr g L' h₁ (fun y => [(x, Value.ref D)].reverse.lookup y) → News g L' h₁ ((D, ({ cls := .type "tuple", data := .seq vs.toArray } : Obj)) :: news) → Below A base (env :: outer) g → K.In g → Top p loose mean mg mb g → s.toks ≤ tk₁ →
      wpAny (model prog w) (A.deeper (envOf qual scope L' f cdv)) (execs body (envOf qual scope L' f cdv))
        (fun fl s' => LeaveK h₀ L m g R (match fl with | .ret v => v | _ => .none) s')
        (fun e s' => wpAny (model prog w) (A.deeper (envOf qual scope L' f cdv)) (leaving (envOf qual scope L' f cdv) e) (fun _ s'' => R (.error e) s'') (fun e' s'' => R (.error e') s'') s')
        { s with heap := h₁, toks := tk₁ })
    (hco : scope.isCoroutine = false) (hgen : scope.isGenerator = false) (hk : scope.kind = .function)
    (hcell : ∀ x ∈ scope.names, x.2 ≠ .cell) : codeAny (model prog w) A (.call (.ref f) args) R s := by
  refine codeAny_call_function (fd := fnOf name qual params body scope dV kV doc pm an cdv ct) (body := body) hroom ((X₀.keeps F.keep) _ _ ho) rfl hco hgen rfl (codeRec_of (X₀.keeps F.keep) hcd) ?_
  rw [hb]
  refine wpAny_bind (kup_newTuple F N (fun D h' F' N' l => wpAny_pure ?_) (by rw [sizeLine_eq]; omega))
  exact kp_frame (cl := []) (s := { s with heap := h' }) B F' N' T.nolimit hA hf hke (fun y hy => by rw [List.mem_singleton.mp hy]; exact hloc)
    (fun g L' h₁ FG FL NG BG st => h D g L' h₁ _ l FG FL NG BG (X₀.keeps st) (T.keeps st) (Nat.le_add_right _ _)) hcell hk
end
section
variable {w : World} {p : Program} {loose : List Str} {mean : ExcName → Option Value} {mg mb : Str → Option Value}
  {dp un : Nat} {gd : Option (List Code)} {cn : Str} {cs : Scope} {a : Addr} {ccd : Value} {cl : List (Str × Addr)} {outer : List Env} {A₀ : Around} {base h₀ : Heap} {L : Addr} {m : Str → Option Value} {news : List (Addr × Obj)} {s : Shared} {Q E : Value → Shared → Prop}
theorem strsAre_mem : ∀ {vs : List Value} {xs : List Str}, StrsAre vs xs → ∀ v ∈ vs, ∃ x u, v = .str x u ∧ x ∈ xs
  | _, _, .nil, _, h => nomatch h
  | _, _, .cons y t h, v, hv => by
    rcases List.mem_cons.mp hv with rfl | hv
    · exact ⟨y, t, rfl, .head _⟩
    · obtain ⟨x, u, e, hx⟩ := strsAre_mem h v hv
      exact ⟨x, u, e, .tail _ hx⟩
theorem strsAre_filter : ∀ {vs : List Value} {xs : List Str}, StrsAre vs xs → StrsAre (vs.filter keepV) (xs.filter keepS)
  | _, _, .nil => .nil
  | _, _, .cons y t h => by
    rw [List.filter_cons, List.filter_cons]
    show StrsAre (if (y.length != 0) = true then _ else _) (if (y.length != 0) = true then _ else _)
    split
    · exact .cons y t (strsAre_filter h)
    · exact strsAre_filter h
theorem mem_le_sum : ∀ {xs : List Str} {x : Str}, x ∈ xs → x.length ≤ (xs.map Str.length).sum
  | y :: r, x, h => by
    simp only [List.map_cons, List.sum_cons]
    rcases List.mem_cons.mp h with rfl | h
    · omega
    · have := mem_le_sum h; omega
theorem join_small {sep : Str} {ys : List Str} (h1 : (ys.map Str.length).sum ≤ 200) (h2 : ys.length ≤ 20) (h3 : sep.length ≤ 1 := by decide) : (Txt.join sep ys).length ≤ 300 := by
  show (PySem.Builtin.Str.glued sep ys).length ≤ 300
  rw [size_glued]
  have : (ys.length - 1) * sep.length ≤ 20 * 1 := Nat.mul_le_mul (by omega) h3
  have e : (ys.map (fun x => x.length)).sum = (ys.map Str.length).sum := rfl
  omega
theorem filtPost_intro {prog : Program} {A : Around} {Q : Value → Shared → Prop} {D : Addr} {g : Heap} {L : Addr} {m : Str → Option Value} {news : List (Addr × Obj)} {pt : Array Value} {items : List Value}
    (F : Fr g L s.heap m) (N : News g L s.heap ((D, ({ cls := .type "tuple", data := .seq items.toArray } : Obj)) :: (53, tabO pt) :: news)) (hD : ∀ p ∈ (53, tabO pt) :: news, p.1 < D) (X : (hd.heap_39 w.params).In g) (T : Top p loose mean mg mb g)
    (htx : ∀ v ∈ items, ∃ x u, v = .str x u ∧ x.length ≤ 1000) (htr : TriplesOk pt.toList) (hbare : AllBare s.gens) (hn53 : ∀ p ∈ news, p.1 ≠ 53)
    (h : ∀ a h' tk gens' more, Fr g L h' m → News g L h' ((53, tabO (pt ++ more)) :: (D, ({ cls := .type "tuple", data := .seq items.toArray } : Obj)) :: news) → TriplesOk (pt ++ more).toList → AllBare gens' →
      GenJ prog w A a g L m ((53, tabO (pt ++ more)) :: (D, ({ cls := .type "tuple", data := .seq items.toArray } : Obj)) :: news) (items.filter keepV).length (fun k y => ∃ x u u', (items.filter keepV)[k]? = some (.str x u) ∧ y = .str (Txt.strip x) u') { s with heap := h', toks := tk, gens := gens' } →
      Q (.ref a) { s with heap := h', toks := tk, gens := gens' }) :
    FiltPost prog w A Q (.ref (s.heap.objs.size + 1)) { s with heap := (s.heap.push { cls := .type "tuple_iterator", data := .fields #[.ref D, .int 0 0] }).push { cls := .type "filter", data := .fields #[.builtin "len", .ref s.heap.objs.size] } } := by
  have ND := N _ (.head _)
  have N53 := N _ (.tail _ (.head _))
  have hDlt : D < s.heap.objs.size := Heap.lt_size ND.1
  have h53lt : 53 < s.heap.objs.size := Heap.lt_size N53.1
  have up : ∀ b o, s.heap.get? b = some o → ((s.heap.push { cls := .type "tuple_iterator", data := .fields #[.ref D, .int 0 0] }).push { cls := .type "filter", data := .fields #[.builtin "len", .ref s.heap.objs.size] }).get? b = some o :=
    fun b o e => Heap.get?_push_of_some _ (Heap.get?_push_of_some _ e)
  have F' := F.keeps up
  have hgi : g.get? s.heap.objs.size = none := not_base F
  obtain ⟨bm, ob, BM⟩ := bmod_of_top T
  have htab := tab_is (w := w) (h₀ := g) (h := (s.heap.push { cls := .type "tuple_iterator", data := .fields #[.ref D, .int 0 0] }).push { cls := .type "filter", data := .fields #[.builtin "len", .ref s.heap.objs.size] }) X F'.keep (up _ _ N53.1) htr
  refine ⟨s.heap.objs.size + 1, s.heap.objs.size, D, items, g, L, m, mg, (D, { cls := .type "tuple", data := .seq items.toArray }) :: news, pt, bm, ob, rfl, ?_, ?_, ⟨_, up _ _ ND.1, rfl, _, rfl⟩, Nat.succ_ne_self _, Nat.ne_of_lt hDlt, htx, F', ?_, ?_, ?_, hgi, Nat.ne_of_gt h53lt, ?_, Nat.ne_of_gt (hD _ (.head _)), T.nolimit, htab.1, htab.2, BM, hbare, ?_⟩
  · rw [← Heap.size_push s.heap]; exact Heap.get?_push_size _ rfl
  · exact ⟨_, Heap.get?_push_of_some _ (Heap.get?_push_size _ rfl), rfl, rfl⟩
  · intro q hq
    refine ⟨up _ _ (N q ?_).1, (N q ?_).2⟩ <;>
    · rcases List.mem_cons.mp hq with rfl | hq
      · exact .tail _ (.head _)
      · rcases List.mem_cons.mp hq with rfl | hq
        · exact .head _
        · exact .tail _ (.tail _ hq)
  · intro q hq
    rcases List.mem_cons.mp hq with rfl | hq
    · exact ⟨Nat.ne_of_lt hDlt, Nat.ne_of_gt (hD _ (.head _))⟩
    · exact ⟨Nat.ne_of_lt (Heap.lt_size (N q (.tail _ (.tail _ hq))).1), hn53 q hq⟩
  · exact Ne.symm (Nat.ne_of_lt F.ns.lt)
  · omega
  · exact fun a h' tk gens' more F1 N1 t1 b1 G1 => h a h' tk gens' more F1 N1 t1 b1 G1
theorem c_platform {xs : List Str} {v : Value} {vs : List Value} {pt : Array Value}
  (B : Below A₀ base outer h₀) (F : Fr h₀ L s.heap m) (X : (hd.heap_39 w.params).In h₀) (N : News h₀ L s.heap ((53, tabO pt) :: news)) (T : Top p loose mean mg mb h₀) (hk : cs.kind = .function)
  (hvs : StrsAre (v :: vs) xs) (hn : xs.length ≤ 20) (hlen : (xs.map Str.length).sum ≤ 200) (htr : TriplesOk pt.toList) (hbare : AllBare s.gens) (hpos : 1 ≤ s.toks) (hn53 : ∀ p ∈ news, p.1 ≠ 53)
  (hd : dp + 6 < recursionLimit)
  (hret : ∀ r t h' tk' gens' more, PlatIs xs r → Fr h₀ L h' m → News h₀ L h' ((53, tabO (pt ++ more)) :: news) → TriplesOk (pt ++ more).toList → AllBare gens' → Q (.str r t) { s with heap := h', toks := tk', gens := gens' }) :
  wpAny (model PySem.Challenge.rw_mq0112_01.row.prog w) (ktrTop dp un gd cn cs L a ccd cl outer) (call (.ref 58) (v :: vs)) Q E s := by
  revert X; k_fill; intro X
  refine wpAny_call ?_
  have hvl := Mine.StrsAre.length hvs
  k_dflt (refine' code_star (env := envX cn cs L a ccd cl) (vs := v :: vs) (x := Str.ofString "args") B F X N T ?kA ?kF hk ?ho ?hcd ?room ?hb ?hz ?loc ?_ ?c2 ?c3 ?c4 ?c5)
  (case kA => exact rfl)
  (case kF => exact rfl)
  (case ho => k_is)
  (case hcd => k_is)
  (case room => ktr_room)
  (case hb => rfl)
  (case hz => omega)
  (case loc => exact rfl)
  (case c2 => exact rfl)
  (case c3 => exact rfl)
  (case c4 => exact rfl)
  (case c5 => decide)
  intro D g L' h₁ tk₁ hD FG F' N' B' X' T' htk
  clear F N X T B
  dsimp only
  refine stmt_bar (n := 1) (show 1 ≤ tk₁ by omega) ?_
  repeat' ((fail_if_success (with_reducible show wpAny _ _ (pyIter _) _ _ _)); first | (k_unfold; (try dsimp only)) | ((with_reducible show wpAny _ _ (eval (Expr.GeneratorExp _ _ _ _) _) _ _ _); with_reducible ((k_here; k_dflt (refine' gen_text ?g1 ?g2 ?g3 ?g4 ?g5 ?g6 ?g7 ?g8 ?g9 ?g10 ?_ ?g11 ?g12 ?g13; (case g1 => rfl); (case g2 => rfl); (case g3 => rfl); (case g4 => rfl); (case g5 => rfl); (case g6 => decide); (case g7 => rfl); (case g8 => rfl); (case g9 => rfl); (case g10 => ktr_room); (case g11 => (intro _; rfl)); (case g12 => decide); (case g13 => rfl))))) | ((with_reducible show wpAny _ _ (call (Value.type "filter") _ _) _ _ _); with_reducible ((k_here; (rename News _ _ _ _ => fN9); k_dflt (refine' call_filter (items := (_ : List Value).toArray) ⟨_, (fN9 _ (List.Mem.head _)).1, rfl, _, rfl⟩ ?_)))) | walk1 | (dsimp only; first | ((with_reducible show wpAny _ _ (eval (Expr.GeneratorExp _ _ _ _) _) _ _ _); with_reducible ((k_here; k_dflt (refine' gen_text ?g1 ?g2 ?g3 ?g4 ?g5 ?g6 ?g7 ?g8 ?g9 ?g10 ?_ ?g11 ?g12 ?g13; (case g1 => rfl); (case g2 => rfl); (case g3 => rfl); (case g4 => rfl); (case g5 => rfl); (case g6 => decide); (case g7 => rfl); (case g8 => rfl); (case g9 => rfl); (case g10 => ktr_room); (case g11 => (intro _; rfl)); (case g12 => decide); (case g13 => rfl))))) | ((with_reducible show wpAny _ _ (call (Value.type "filter") _ _) _ _ _); with_reducible ((k_here; (rename News _ _ _ _ => fN9); k_dflt (refine' call_filter (items := (_ : List Value).toArray) ⟨_, (fN9 _ (List.Mem.head _)).1, rfl, _, rfl⟩ ?_)))) | walk1))
  have htx : ∀ v' ∈ v :: vs, ∃ x u, v' = .str x u ∧ x.length ≤ 1000 := by
    intro v' hv'
    obtain ⟨x, u, e, hx⟩ := strsAre_mem hvs v' hv'
    exact ⟨x, u, e, Nat.le_trans (mem_le_sum hx) (by omega)⟩
  rename News g L' _ _ => N3
  rename Fr g L' _ _ => F3
  refine filtPost_intro F3 N3 hD X' T' htx htr hbare hn53 ?_
  clear F3 N3
  intro a1 h2 tk2 gens2 more F2 N2 tr2 b2 G2
  have hxs := strsAre_filter hvs
  have hjo : JoinOk (Str.ofString "-") ((xs.filter keepS).map Txt.strip) = true := joinOk_small (Nat.le_trans (strip_sum _) (Nat.le_trans (filter_sum _ _) (by omega))) (by rw [List.length_map]; exact Nat.le_trans (List.length_filter_le _ _) (by omega)) (by decide)
  have hvn : ((v :: vs).filter keepV).length ≤ 1000 := Nat.le_trans (List.length_filter_le _ _) (by omega)
  repeat' ((fail_if_success (with_reducible show wpAny _ _ (pyIter _) _ _ _)); first | (k_unfold; (try dsimp only)) | ((with_reducible show wpAny _ _ (call (Value.builtin "str.join") _ _) _ _ _); with_reducible ((k_here; (rename GenJ _ _ _ _ _ _ _ _ _ _ _ => gJ9); k_dflt (refine' join_text gJ9 ?x ?j ?n ?_; (case x => assumption); (case j => assumption); (case n => assumption); k_whole); clear gJ9; intro h9 tk9 g9 t9 F9 N9 b9; (try k_sweep); (try dsimp only)))) | walk1 | (dsimp only; first | ((with_reducible show wpAny _ _ (call (Value.builtin "str.join") _ _) _ _ _); with_reducible ((k_here; (rename GenJ _ _ _ _ _ _ _ _ _ _ _ => gJ9); k_dflt (refine' join_text gJ9 ?x ?j ?n ?_; (case x => assumption); (case j => assumption); (case n => assumption); k_whole); clear gJ9; intro h9 tk9 g9 t9 F9 N9 b9; (try k_sweep); (try dsimp only)))) | walk1))
  have hp0 : (Txt.join (Str.ofString "-") ((xs.filter keepS).map Txt.strip)).length ≤ 300 := join_small (Nat.le_trans (strip_sum _) (Nat.le_trans (filter_sum _ _) hlen)) (by rw [List.length_map]; exact Nat.le_trans (List.length_filter_le _ _) hn)
  generalize hq0 : Txt.join (Str.ofString "-") ((xs.filter keepS).map Txt.strip) = p0 at *
  clear hjo hvn hxs
  refine bar ?_
  intro hk1
  dsimp only at hk1 ⊢
  refine stmt_bar (n := 1) (by assumption) ?_
  repeat' ((fail_if_success (with_reducible show wpAny _ _ (pyIter _) _ _ _)); first | (k_unfold; (try dsimp only)) | ((with_reducible show wpAny _ _ (call (Value.builtin "str.replace") _ _) _ _ _); with_reducible ((k_here; k_dflt (refine' SC.replaceW ?hu ?hv ?huv ?hyz ?hx ?hz ?_; (case hu => first | omega | ((show @Ne Nat _ _); omega)); (case hv => first | omega | ((show @Ne Nat _ _); omega)); (case huv => first | omega | ((show @Ne Nat _ _); omega)); (case hyz => decide); (case hx => omega); (case hz => decide)); intro t9 k9; (try dsimp only)))) | walk1 | (dsimp only; first | ((with_reducible show wpAny _ _ (call (Value.builtin "str.replace") _ _) _ _ _); with_reducible ((k_here; k_dflt (refine' SC.replaceW ?hu ?hv ?huv ?hyz ?hx ?hz ?_; (case hu => first | omega | ((show @Ne Nat _ _); omega)); (case hv => first | omega | ((show @Ne Nat _ _); omega)); (case huv => first | omega | ((show @Ne Nat _ _); omega)); (case hyz => decide); (case hx => omega); (case hz => decide)); intro t9 k9; (try dsimp only)))) | walk1))
  have hp1 := Nat.le_trans (replace_le (x := p0) (y := Str.ofString " ") (z := Str.ofString "_") (by decide)) hp0
  generalize hq1 : Txt.replace p0 (Str.ofString " ") (Str.ofString "_") = p1 at *
  refine bar ?_
  intro hk2
  dsimp only at hk2 ⊢
  clear hk1
  refine stmt_bar (n := 1) (by assumption) ?_
  repeat' ((fail_if_success (with_reducible show wpAny _ _ (pyIter _) _ _ _)); first | (k_unfold; (try dsimp only)) | ((with_reducible show wpAny _ _ (call (Value.builtin "str.replace") _ _) _ _ _); with_reducible ((k_here; k_dflt (refine' SC.replaceW ?hu ?hv ?huv ?hyz ?hx ?hz ?_; (case hu => first | omega | ((show @Ne Nat _ _); omega)); (case hv => first | omega | ((show @Ne Nat _ _); omega)); (case huv => first | omega | ((show @Ne Nat _ _); omega)); (case hyz => decide); (case hx => omega); (case hz => decide)); intro t9 k9; (try dsimp only)))) | walk1 | (dsimp only; first | ((with_reducible show wpAny _ _ (call (Value.builtin "str.replace") _ _) _ _ _); with_reducible ((k_here; k_dflt (refine' SC.replaceW ?hu ?hv ?huv ?hyz ?hx ?hz ?_; (case hu => first | omega | ((show @Ne Nat _ _); omega)); (case hv => first | omega | ((show @Ne Nat _ _); omega)); (case huv => first | omega | ((show @Ne Nat _ _); omega)); (case hyz => decide); (case hx => omega); (case hz => decide)); intro t9 k9; (try dsimp only)))) | walk1))
  have hp2 := Nat.le_trans (replace_le (x := p1) (y := Str.ofString "/") (z := Str.ofString "-") (by decide)) hp1
  generalize hq2 : Txt.replace p1 (Str.ofString "/") (Str.ofString "-") = p2 at *
  refine bar ?_
  intro hk3
  dsimp only at hk3 ⊢
  clear hk2
  refine stmt_bar (n := 1) (by assumption) ?_
  repeat' ((fail_if_success (with_reducible show wpAny _ _ (pyIter _) _ _ _)); first | (k_unfold; (try dsimp only)) | ((with_reducible show wpAny _ _ (call (Value.builtin "str.replace") _ _) _ _ _); with_reducible ((k_here; k_dflt (refine' SC.replaceW ?hu ?hv ?huv ?hyz ?hx ?hz ?_; (case hu => first | omega | ((show @Ne Nat _ _); omega)); (case hv => first | omega | ((show @Ne Nat _ _); omega)); (case huv => first | omega | ((show @Ne Nat _ _); omega)); (case hyz => decide); (case hx => omega); (case hz => decide)); intro t9 k9; (try dsimp only)))) | walk1 | (dsimp only; first | ((with_reducible show wpAny _ _ (call (Value.builtin "str.replace") _ _) _ _ _); with_reducible ((k_here; k_dflt (refine' SC.replaceW ?hu ?hv ?huv ?hyz ?hx ?hz ?_; (case hu => first | omega | ((show @Ne Nat _ _); omega)); (case hv => first | omega | ((show @Ne Nat _ _); omega)); (case huv => first | omega | ((show @Ne Nat _ _); omega)); (case hyz => decide); (case hx => omega); (case hz => decide)); intro t9 k9; (try dsimp only)))) | walk1))
  have hp3 := Nat.le_trans (replace_le (x := p2) (y := Str.ofString "\\") (z := Str.ofString "-") (by decide)) hp2
  generalize hq3 : Txt.replace p2 (Str.ofString "\\") (Str.ofString "-") = p3 at *
  refine bar ?_
  intro hk4
  dsimp only at hk4 ⊢
  clear hk3
  refine stmt_bar (n := 1) (by assumption) ?_
  repeat' ((fail_if_success (with_reducible show wpAny _ _ (pyIter _) _ _ _)); first | (k_unfold; (try dsimp only)) | ((with_reducible show wpAny _ _ (call (Value.builtin "str.replace") _ _) _ _ _); with_reducible ((k_here; k_dflt (refine' SC.replaceW ?hu ?hv ?huv ?hyz ?hx ?hz ?_; (case hu => first | omega | ((show @Ne Nat _ _); omega)); (case hv => first | omega | ((show @Ne Nat _ _); omega)); (case huv => first | omega | ((show @Ne Nat _ _); omega)); (case hyz => decide); (case hx => omega); (case hz => decide)); intro t9 k9; (try dsimp only)))) | walk1 | (dsimp only; first | ((with_reducible show wpAny _ _ (call (Value.builtin "str.replace") _ _) _ _ _); with_reducible ((k_here; k_dflt (refine' SC.replaceW ?hu ?hv ?huv ?hyz ?hx ?hz ?_; (case hu => first | omega | ((show @Ne Nat _ _); omega)); (case hv => first | omega | ((show @Ne Nat _ _); omega)); (case huv => first | omega | ((show @Ne Nat _ _); omega)); (case hyz => decide); (case hx => omega); (case hz => decide)); intro t9 k9; (try dsimp only)))) | walk1))
  have hp4 := Nat.le_trans (replace_le (x := p3) (y := Str.ofString ":") (z := Str.ofString "-") (by decide)) hp3
  generalize hq4 : Txt.replace p3 (Str.ofString ":") (Str.ofString "-") = p4 at *
  refine bar ?_
  intro hk5
  dsimp only at hk5 ⊢
  clear hk4
  refine stmt_bar (n := 1) (by assumption) ?_
  repeat' ((fail_if_success (with_reducible show wpAny _ _ (pyIter _) _ _ _)); first | (k_unfold; (try dsimp only)) | ((with_reducible show wpAny _ _ (call (Value.builtin "str.replace") _ _) _ _ _); with_reducible ((k_here; k_dflt (refine' SC.replaceW ?hu ?hv ?huv ?hyz ?hx ?hz ?_; (case hu => first | omega | ((show @Ne Nat _ _); omega)); (case hv => first | omega | ((show @Ne Nat _ _); omega)); (case huv => first | omega | ((show @Ne Nat _ _); omega)); (case hyz => decide); (case hx => omega); (case hz => decide)); intro t9 k9; (try dsimp only)))) | walk1 | (dsimp only; first | ((with_reducible show wpAny _ _ (call (Value.builtin "str.replace") _ _) _ _ _); with_reducible ((k_here; k_dflt (refine' SC.replaceW ?hu ?hv ?huv ?hyz ?hx ?hz ?_; (case hu => first | omega | ((show @Ne Nat _ _); omega)); (case hv => first | omega | ((show @Ne Nat _ _); omega)); (case huv => first | omega | ((show @Ne Nat _ _); omega)); (case hyz => decide); (case hx => omega); (case hz => decide)); intro t9 k9; (try dsimp only)))) | walk1))
  have hp5 := Nat.le_trans (replace_le (x := p4) (y := Str.ofString ";") (z := Str.ofString "-") (by decide)) hp4
  generalize hq5 : Txt.replace p4 (Str.ofString ";") (Str.ofString "-") = p5 at *
  refine bar ?_
  intro hk6
  dsimp only at hk6 ⊢
  clear hk5
  refine stmt_bar (n := 1) (by assumption) ?_
  repeat' ((fail_if_success (with_reducible show wpAny _ _ (pyIter _) _ _ _)); first | (k_unfold; (try dsimp only)) | ((with_reducible show wpAny _ _ (call (Value.builtin "str.replace") _ _) _ _ _); with_reducible ((k_here; k_dflt (refine' SC.replaceW ?hu ?hv ?huv ?hyz ?hx ?hz ?_; (case hu => first | omega | ((show @Ne Nat _ _); omega)); (case hv => first | omega | ((show @Ne Nat _ _); omega)); (case huv => first | omega | ((show @Ne Nat _ _); omega)); (case hyz => decide); (case hx => omega); (case hz => decide)); intro t9 k9; (try dsimp only)))) | walk1 | (dsimp only; first | ((with_reducible show wpAny _ _ (call (Value.builtin "str.replace") _ _) _ _ _); with_reducible ((k_here; k_dflt (refine' SC.replaceW ?hu ?hv ?huv ?hyz ?hx ?hz ?_; (case hu => first | omega | ((show @Ne Nat _ _); omega)); (case hv => first | omega | ((show @Ne Nat _ _); omega)); (case huv => first | omega | ((show @Ne Nat _ _); omega)); (case hyz => decide); (case hx => omega); (case hz => decide)); intro t9 k9; (try dsimp only)))) | walk1))
  have hp6 := Nat.le_trans (replace_le (x := p5) (y := Str.ofString "\"") (z := Str.ofString "-") (by decide)) hp5
  generalize hq6 : Txt.replace p5 (Str.ofString "\"") (Str.ofString "-") = p6 at *
  refine bar ?_
  intro hk7
  dsimp only at hk7 ⊢
  clear hk6
  refine stmt_bar (n := 1) (by assumption) ?_
  repeat' ((fail_if_success (with_reducible show wpAny _ _ (pyIter _) _ _ _)); first | (k_unfold; (try dsimp only)) | ((with_reducible show wpAny _ _ (call (Value.builtin "str.replace") _ _) _ _ _); with_reducible ((k_here; k_dflt (refine' SC.replaceW ?hu ?hv ?huv ?hyz ?hx ?hz ?_; (case hu => first | omega | ((show @Ne Nat _ _); omega)); (case hv => first | omega | ((show @Ne Nat _ _); omega)); (case huv => first | omega | ((show @Ne Nat _ _); omega)); (case hyz => decide); (case hx => omega); (case hz => decide)); intro t9 k9; (try dsimp only)))) | walk1 | (dsimp only; first | ((with_reducible show wpAny _ _ (call (Value.builtin "str.replace") _ _) _ _ _); with_reducible ((k_here; k_dflt (refine' SC.replaceW ?hu ?hv ?huv ?hyz ?hx ?hz ?_; (case hu => first | omega | ((show @Ne Nat _ _); omega)); (case hv => first | omega | ((show @Ne Nat _ _); omega)); (case huv => first | omega | ((show @Ne Nat _ _); omega)); (case hyz => decide); (case hx => omega); (case hz => decide)); intro t9 k9; (try dsimp only)))) | walk1))
  have hp7 := Nat.le_trans (replace_le (x := p6) (y := Str.ofString "(") (z := Str.ofString "-") (by decide)) hp6
  generalize hq7 : Txt.replace p6 (Str.ofString "(") (Str.ofString "-") = p7 at *
  refine bar ?_
  intro hk8
  dsimp only at hk8 ⊢
  clear hk7
  refine stmt_bar (n := 1) (by assumption) ?_
  repeat' ((fail_if_success (with_reducible show wpAny _ _ (pyIter _) _ _ _)); first | (k_unfold; (try dsimp only)) | ((with_reducible show wpAny _ _ (call (Value.builtin "str.replace") _ _) _ _ _); with_reducible ((k_here; k_dflt (refine' SC.replaceW ?hu ?hv ?huv ?hyz ?hx ?hz ?_; (case hu => first | omega | ((show @Ne Nat _ _); omega)); (case hv => first | omega | ((show @Ne Nat _ _); omega)); (case huv => first | omega | ((show @Ne Nat _ _); omega)); (case hyz => decide); (case hx => omega); (case hz => decide)); intro t9 k9; (try dsimp only)))) | walk1 | (dsimp only; first | ((with_reducible show wpAny _ _ (call (Value.builtin "str.replace") _ _) _ _ _); with_reducible ((k_here; k_dflt (refine' SC.replaceW ?hu ?hv ?huv ?hyz ?hx ?hz ?_; (case hu => first | omega | ((show @Ne Nat _ _); omega)); (case hv => first | omega | ((show @Ne Nat _ _); omega)); (case huv => first | omega | ((show @Ne Nat _ _); omega)); (case hyz => decide); (case hx => omega); (case hz => decide)); intro t9 k9; (try dsimp only)))) | walk1))
  have hp8 := Nat.le_trans (replace_le (x := p7) (y := Str.ofString ")") (z := Str.ofString "-") (by decide)) hp7
  generalize hq8 : Txt.replace p7 (Str.ofString ")") (Str.ofString "-") = p8 at *
  refine bar ?_
  intro hk9
  dsimp only at hk9 ⊢
  clear hk8
  refine stmt_bar (n := 1) (by assumption) ?_
  repeat' ((fail_if_success (with_reducible show wpAny _ _ (pyIter _) _ _ _)); first | (k_unfold; (try dsimp only)) | ((with_reducible show wpAny _ _ (call (Value.builtin "str.replace") _ _) _ _ _); with_reducible ((k_here; k_dflt (refine' SC.replaceW ?hu ?hv ?huv ?hyz ?hx ?hz ?_; (case hu => first | omega | ((show @Ne Nat _ _); omega)); (case hv => first | omega | ((show @Ne Nat _ _); omega)); (case huv => first | omega | ((show @Ne Nat _ _); omega)); (case hyz => decide); (case hx => omega); (case hz => decide)); intro t9 k9; (try dsimp only)))) | walk1 | (dsimp only; first | ((with_reducible show wpAny _ _ (call (Value.builtin "str.replace") _ _) _ _ _); with_reducible ((k_here; k_dflt (refine' SC.replaceW ?hu ?hv ?huv ?hyz ?hx ?hz ?_; (case hu => first | omega | ((show @Ne Nat _ _); omega)); (case hv => first | omega | ((show @Ne Nat _ _); omega)); (case huv => first | omega | ((show @Ne Nat _ _); omega)); (case hyz => decide); (case hx => omega); (case hz => decide)); intro t9 k9; (try dsimp only)))) | walk1))
  have hp9 := Nat.le_trans (replace_le (x := p8) (y := Str.ofString "unknown") (z := Str.ofString "") (by decide)) hp8
  generalize hq9 : Txt.replace p8 (Str.ofString "unknown") (Str.ofString "") = p9 at *
  refine bar ?_
  intro hk10
  dsimp only at hk10 ⊢
  clear hk9
  rename Fr g L' _ _ => F4
  rename News g L' _ _ => N4
  refine stmt_bar (n := 1) (by assumption) ?_
  refine while_ledT (n := p9.length) (fun n m₁ news₁ => ∃ p t, Has m₁ [(Str.ofString "platform", .str p t)] ∧ DashIter p9 p ∧ p.length = n ∧ p.length ≤ 300 ∧
    news₁ = (53, tabO (pt ++ more)) :: (D, ({ cls := .type "tuple", data := .seq (v :: vs).toArray } : Obj)) :: news) F4 N4 ⟨p9, _, ⟨rfl, trivial⟩, .refl, rfl, hp9, rfl⟩ ?_ ?_
  · clear F4 N4
    rintro n m₁ news₁ h tk htk3 ⟨p, t, hm, hit, hlen1, hp, rfl⟩ F1 N1
    have F2 := Fr.has F1 hm
    clear F1
    dsimp only at htk3
    have hk11 : 1 ≤ tk := by omega
    repeat' ((fail_if_success (with_reducible show wpAny _ _ (pyIter _) _ _ _)); first | (k_unfold; (try dsimp only)) | ((with_reducible show wpAny _ _ (call (Value.builtin "str.replace") _ _) _ _ _); with_reducible ((k_here; k_dflt (refine' SC.replaceW ?hu ?hv ?huv ?hyz ?hx ?hz ?_; (case hu => first | omega | ((show @Ne Nat _ _); omega)); (case hv => first | omega | ((show @Ne Nat _ _); omega)); (case huv => first | omega | ((show @Ne Nat _ _); omega)); (case hyz => decide); (case hx => omega); (case hz => decide)); intro t9 k9; (try dsimp only)))) | walk1 | (dsimp only; first | ((with_reducible show wpAny _ _ (call (Value.builtin "str.replace") _ _) _ _ _); with_reducible ((k_here; k_dflt (refine' SC.replaceW ?hu ?hv ?huv ?hyz ?hx ?hz ?_; (case hu => first | omega | ((show @Ne Nat _ _); omega)); (case hv => first | omega | ((show @Ne Nat _ _); omega)); (case huv => first | omega | ((show @Ne Nat _ _); omega)); (case hyz => decide); (case hx => omega); (case hz => decide)); intro t9 k9; (try dsimp only)))) | walk1))
    · rename_i heq
      have hfix : Txt.replace p (Str.ofString "--") (Str.ofString "-") = p := eq_of_beq heq
      dsimp only
      refine bar ?_
      intro hk12
      dsimp only at hk12 ⊢
      rename Fr g L' _ _ => F5
      rename News g L' _ _ => N5
      refine stmt_bar (n := 1) (by assumption) ?_
      refine while_ledT (n := p.length) (fun n m₁ news₁ => ∃ q t j, Has m₁ [(Str.ofString "platform", .str q t)] ∧ p.cps.toList = q.cps.toList ++ List.replicate j 45 ∧ q.length = n ∧ q.length ≤ 300 ∧
        news₁ = (53, tabO (pt ++ more)) :: (D, ({ cls := .type "tuple", data := .seq (v :: vs).toArray } : Obj)) :: news) F5 N5 ⟨p, _, 0, ⟨rfl, trivial⟩, by simp, rfl, hp, rfl⟩ ?_ ?_
      · clear F5 N5 F2 N1
        rintro n2 m₂ news₂ hA tkA htkA ⟨q, t2, j, hm2, hpq, hlen2, hq, rfl⟩ F6 N6
        have F7 := Fr.has F6 hm2
        clear F6
        dsimp only at htkA
        repeat' ((fail_if_success (with_reducible show wpAny _ _ (pyIter _) _ _ _)); first | (k_unfold; (try dsimp only)) | walk1 | (dsimp only; walk1))
        · rename_i hq0 hil hi1 t9' hsl hF8 FF8 NN8
          have hlast := item_last (q := q) (by omega) (by assumption)
          have hini := slice_init q
          have hlen9 : (Txt.slice q none (some (-1))).length + 1 = q.length := by
            have h1 := congrArg List.length hini
            have h2 := congrArg List.length hlast
            have h3 : (Txt.slice q none (some (-1))).cps.toList.length = (Txt.slice q none (some (-1))).length := Array.length_toList
            have h4 : q.cps.toList.length = q.length := Array.length_toList
            rw [List.length_append, List.length_singleton] at h2
            omega
          refine WEnd.go (k := (Txt.slice q none (some (-1))).length) (by assumption) (by assumption) (by omega) (fun p hp => hp) ⟨_, _, j + 1, ⟨rfl, trivial⟩, ?_, rfl, by omega, rfl⟩
          rw [hini, hpq]
          conv => lhs; rw [hlast]
          rw [List.append_assoc]; rfl
        · refine bar ?_
          intro hk13
          dsimp only
          repeat' ((fail_if_success (with_reducible show wpAny _ _ (pyIter _) _ _ _)); first | (k_unfold; (try dsimp only)) | walk1 | (dsimp only; walk1))
          dsimp only
          rename Fr g L' _ _ => F9
          rename News g L' _ _ => N9
          have h9e : p9 = repl9 p0 := by rw [← hq9, ← hq8, ← hq7, ← hq6, ← hq5, ← hq4, ← hq3, ← hq2, ← hq1]; rfl
          refine leaveK_ F9 N9 fun FE NE => ?_
          exact hret q t2 _ _ _ more ⟨p, j, by rw [hq0, ← h9e]; exact hit, hpq, hq⟩ FE (fun z hz => NE z (by
            rcases List.mem_cons.mp hz with rfl | hz
            · exact .head _
            · exact .tail _ (.tail _ hz))) tr2 (by assumption)
        · refine bar ?_
          intro hk13
          dsimp only
          repeat' ((fail_if_success (with_reducible show wpAny _ _ (pyIter _) _ _ _)); first | (k_unfold; (try dsimp only)) | walk1 | (dsimp only; walk1))
          dsimp only
          rename Fr g L' _ _ => F9
          rename News g L' _ _ => N9
          have h9e : p9 = repl9 p0 := by rw [← hq9, ← hq8, ← hq7, ← hq6, ← hq5, ← hq4, ← hq3, ← hq2, ← hq1]; rfl
          refine leaveK_ F9 N9 fun FE NE => ?_
          exact hret q t2 _ _ _ more ⟨p, j, by rw [hq0, ← h9e]; exact hit, hpq, hq⟩ FE (fun z hz => NE z (by
            rcases List.mem_cons.mp hz with rfl | hz
            · exact .head _
            · exact .tail _ (.tail _ hz))) tr2 (by assumption)
      · passes_own
    · rename_i heq hF hFF hNN
      refine WEnd.go (k := (Txt.replace p (Str.ofString "--") (Str.ofString "-")).length) (by assumption) (by assumption) ?_ (fun p hp => hp) ⟨_, _, ⟨rfl, trivial⟩, .step hit, rfl, Nat.le_trans (replace_le (by decide)) hp, rfl⟩
      rw [← hlen1]
      exact replace_lt (by decide) (fun e => by rw [e, beq_self_eq_true] at heq; cases heq)
  · passes_own
end
end Mine
end
noncomputable section
open PySem PySem.W PyProof.Rows PySem.Calls
set_option maxRecDepth 100000
set_option maxHeartbeats 8000000
namespace Mine
theorem plat_rec : ((recsOf hd.view_39).find? (fun e => e.name == Str.ofString "_platform")).isSome = true := by decide +kernel
theorem tab_start {w : World} {loose : List Str} {mean : ExcName → Option Value} {mg mb : Str → Option Value} {h : Heap} (T : Top hd.view_39 loose mean mg mb h) (X : (hd.heap_39 w.params).In h) :
    h.get? 53 = some (tabO #[]) := by
  obtain ⟨d, hf⟩ := Option.isSome_iff_exists.mp plat_rec
  have hm : mg (Str.ofString "_platform") = some (.ref 58) := mg_of X T.g rfl
  obtain ⟨c, P, hc, BB⟩ := based_of_top T hf hm (X 58 _ rfl) rfl
  have hc' : c = 57 := by injection hc with e; exact e.symm
  subst hc'
  obtain ⟨⟨o, vs, e1, e2, e3, e4⟩, e5⟩ : h.TableAt 57 P #[] := BB.tab
  have e6 := X 57 _ rfl
  rw [e6] at e1
  cases e1
  cases e3
  have e7 : P = 53 := by
    injection e4 with e; injection e with e; exact e.symm
  subst e7
  exact e5
theorem tab_code {w : World} {loose : List Str} {mean : ExcName → Option Value} {mg mb : Str → Option Value} {h : Heap} (T : Top hd.view_39 loose mean mg mb h) (X : (hd.heap_39 w.params).In h) :
    isCodeTable h 53 := by
  obtain ⟨d, hf⟩ := Option.isSome_iff_exists.mp plat_rec
  have hm : mg (Str.ofString "_platform") = some (.ref 58) := mg_of X T.g rfl
  obtain ⟨c, P, hc, BB⟩ := based_of_top T hf hm (X 58 _ rfl) rfl
  have hc' : c = 57 := by injection hc with e; exact e.symm
  subst hc'
  have e9 := BB.tab
  obtain ⟨⟨o, vs, e1, e2, e3, e4⟩, e5⟩ : h.TableAt 57 P #[] := BB.tab
  have e6 := X 57 _ rfl
  rw [e6] at e1
  cases e1
  cases e3
  have e7 : P = 53 := by
    injection e4 with e; injection e with e; exact e.symm
  subst e7
  exact e9.isCodeTable
/-- a program that fixes nothing of the heap -/
noncomputable def p₀ : Program := { main := { body := [.ImportFrom (some (Str.ofString "sys")) [] none ⟨0, 0, 0, 0⟩], scope := hd.view_39.main.scope, futureAnnotations := false, file := Str.ofString "" }, modules := [], parses := [], absent := [] }
noncomputable def looseBig (p : Program) (loose : List Str) : List Str := loose ++ ((recsOf p).map (·.name) ++ ((litsOf p).map (·.1) ++ (clssOf p loose).map (·.name)))
theorem hide_ext (h : Heap) (a : Addr) : Heap.ExtBut a h (h.hide a) := fun b o hb e => (Heap.hide_ne h hb).trans e
theorem top_hide {p : Program} {loose : List Str} {mean : ExcName → Option Value} {mg mb : Str → Option Value} {h : Heap} (T : Top p loose mean mg mb h) (e : h.get? 53 = some (tabO #[])) :
    Top p₀ (looseBig p loose) mean mg mb (h.hide 53) where
  g := T.g.extBut (hide_ext h 53) (by decide)
  b := T.b.extBut (hide_ext h 53) (by decide)
  nolimit := T.nolimit.extBut (hide_ext h 53) (by decide)
  nodigits := let ⟨mc, h1, h2⟩ := T.nodigits; ⟨mc, h1.extBut (hide_ext h 53) (by decide), h2⟩
  fn := fun d hd => nomatch (show d ∈ [] from hd)
  own := fun d hd => nomatch (show d ∈ [] from hd)
  const := fun x d hd => nomatch (show none = some d from hd)
  free := fun x h1 h2 _ _ _ => by
    unfold looseBig at h2
    simp only [List.mem_append, not_or] at h2
    exact T.free x h1 h2.1 h2.2.1 h2.2.2.1 h2.2.2.2
  builtins := T.builtins
  tab := fun d hd => nomatch (show d ∈ [] from hd)
  bmain := by
    obtain ⟨bm, ob, h1, h2, h3, h4, r⟩ := T.bmain
    refine ⟨bm, ob, h1, h2, hide_ext h 53 _ _ (fun q => ?_) h3, h4, r⟩
    subst q
    rw [e] at h3
    cases h3
    cases h4
  seer := fun hi => nomatch (show false = true from hi)
theorem in_hide {w : World} {h : Heap} (X : (hd.heap_39 w.params).In h) : (hd.heap_39 w.params).In (h.hide 53) := fun a o ha =>
  hide_ext h 53 _ _ (fun q => by subst q; exact nomatch (show none = some o from ha)) (X a o ha)
theorem fr_hide {h h' : Heap} {L : Addr} {m : Str → Option Value} (F : Fr h L h' m) : Fr (h.hide 53) L h' m :=
  ⟨F.ns, fun b o e => F.keep b o (Heap.of_hide e), by rw [Heap.hide_size]; exact F.above⟩
theorem news_hide {h h' : Heap} {L : Addr} {m : Str → Option Value} {news : List (Addr × Obj)} (F : Fr h L h' m) (N : News h L h' news) (e : h.get? 53 = some (tabO #[])) : News (h.hide 53) L h' ((53, tabO #[]) :: news) := fun p hp => by
  rcases List.mem_cons.mp hp with rfl | hp
  · exact ⟨F.keep _ _ e, Nat.ne_of_lt (Nat.lt_of_lt_of_le (Heap.lt_size e) F.above), Heap.hide_self _ _⟩
  · obtain ⟨h1, h2, h3⟩ := N p hp
    refine ⟨h1, h2, ?_⟩
    cases q : (h.hide 53).get? p.1 with
    | none => rfl
    | some o => rw [Heap.of_hide q] at h3; cases h3
theorem list_hide {h : Heap} {a : Addr} {vs : Array Value} (x : h.IsList a vs) (e : h.get? 53 = some (tabO #[])) : (h.hide 53).IsList a vs := by
  obtain ⟨o, h1, h2, r⟩ := x
  refine ⟨o, hide_ext h 53 _ _ (fun q => ?_) h1, h2, r⟩
  subst q
  rw [e] at h1
  cases h1
  cases h2
theorem post_true (as bs : List WData) : PySem.Challenge.rw_mq0112_01.row.claim.post as (.bool true) bs = true := by
  show (WShape.has [] (.bool true) .bool && WTm.holds [] (.eq .res (.lit (.bool true))) { args := as, res := some (.bool true), after := bs }) = true
  have h1 : WShape.has [] (.bool true) .bool = true := by decide +kernel
  rw [h1, Bool.true_and]
  simp [WTm.holds, WTm.value, W.same]
theorem raises_none (as : List WData) : ∀ cls, PySem.Challenge.rw_mq0112_01.row.claim.raises as cls = false := fun _ => rfl
theorem old_hide {h₀ h : Heap} {L : Addr} {m : Str → Option Value} {pt : Array Value} (F : Fr (h₀.hide 53) L h m) (e0 : h₀.get? 53 = some (tabO #[])) (ec : isCodeTable h₀ 53) (e1 : h.get? 53 = some (tabO pt)) : OldK h₀ h := by
  have hk : ∀ b o, b ≠ 53 → h₀.get? b = some o → h.get? b = some o := fun b o hb e => F.keep b o (hide_ext h₀ 53 b o hb e)
  constructor
  · intro b o e
    by_cases hb : b = 53
    · subst hb
      rw [e0] at e
      cases e
      exact .inr (.inl ⟨ec, rfl, #[], pt, rfl, by rw [e1]; simp [tabO]⟩)
    · exact .inl (hk b o hb e)
  · intro b o e
    by_cases hb : b = 53
    · subst hb; exact ⟨_, e1⟩
    · exact ⟨o, hk b o hb e⟩
end Mine
end
noncomputable section
open PySem PySem.W PyProof.Rows
namespace Mine
def sig (k : Nat) : Nat := signsS.cps.toList.getD k 0
def vv (c : Nat) : Int := Int.fmod (idxOf c) 64
def inS (c : Nat) : Prop := c ∈ signsS.cps.toList
def beta (c : Nat) : Nat := if c = 42 then 43 else if c = 33 then 47 else c
theorem sig_in : ∀ k : Nat, k < 64 → sig k ∈ signsS.cps.toList := by decide +kernel
theorem sig_vv : ∀ k : Nat, k < 64 → vv (sig k) = (k : Int) := by decide +kernel
theorem signAt_sig : ∀ k : Nat, k < 64 → signAt (k : Int) = ⟨#[sig k]⟩ := by decide +kernel
theorem vv_in : ∀ c ∈ signsS.cps.toList, 0 ≤ vv c ∧ vv c < 64 ∧ b64Of (vv c) = (beta c : Int) := by decide +kernel
theorem in_eq : ∀ c ∈ signsS.cps.toList, c ∈ signsEq.cps.toList ∧ c ≠ 61 := by decide +kernel
theorem vv_61 : vv 61 = 0 := by decide +kernel
theorem fmod_nat (x : Int) (m : Nat) (hm : 0 < m) : ∃ k : Nat, k < m ∧ Int.fmod x (m : Int) = (k : Int) := by
  have h1 := Int.fmod_nonneg_of_pos x (show (0 : Int) < m by omega)
  have h2 := Int.fmod_lt_of_pos x (show (0 : Int) < m by omega)
  exact ⟨(Int.fmod x m).toNat, by omega, by omega⟩
/-- a text of whole fours -/
inductive Quads : List Nat → Nat → Prop
  | nil : Quads [] 0
  | duo {a b c : Nat} : inS a → inS b → inS c → vv c % 4 = 0 → Quads [a, b, c, 61] 1
  | lone {a b : Nat} : inS a → inS b → vv b % 16 = 0 → Quads [a, b, 61, 61] 1
  | cons {a b c d : Nat} {l : List Nat} {n : Nat} : inS a → inS b → inS c → inS d → Quads l n → Quads (a :: b :: c :: d :: l) (n + 1)
theorem Quads.length : ∀ {l : List Nat} {n : Nat}, Quads l n → l.length = 4 * n
  | _, _, .nil => rfl
  | _, _, .duo _ _ _ _ => rfl
  | _, _, .lone _ _ _ => rfl
  | _, _, .cons _ _ _ _ h => by simp only [List.length_cons, h.length]; omega
theorem Quads.signs : ∀ {l : List Nat} {n : Nat}, Quads l n → ∀ x ∈ l, x = 61 ∨ inS x
  | _, _, .nil => fun _ h => nomatch h
  | _, _, .duo ha hb hc _ => fun x h => by
    simp only [List.mem_cons, List.not_mem_nil, or_false] at h
    rcases h with rfl | rfl | rfl | rfl
    · exact .inr ha
    · exact .inr hb
    · exact .inr hc
    · exact .inl rfl
  | _, _, .lone ha hb _ => fun x h => by
    simp only [List.mem_cons, List.not_mem_nil, or_false] at h
    rcases h with rfl | rfl | rfl | rfl
    · exact .inr ha
    · exact .inr hb
    · exact .inl rfl
    · exact .inl rfl
  | _, _, .cons ha hb hc hd hl => fun x h => by
    simp only [List.mem_cons] at h
    rcases h with rfl | rfl | rfl | rfl | h
    · exact .inr ha
    · exact .inr hb
    · exact .inr hc
    · exact .inr hd
    · exact hl.signs x h
theorem cnt_in {c : Nat} (h : inS c) (l : List Nat) : cnt 61 (c :: l) = cnt 61 l := by
  rw [cnt_cons, if_neg (in_eq c h).2]; omega
theorem Quads.cnt : ∀ {l : List Nat} {n : Nat}, Quads l n → 0 ≤ cnt 61 l ∧ cnt 61 l ≤ 2 * n
  | _, _, .nil => ⟨Int.le_refl _, Int.le_refl _⟩
  | _, _, .duo ha hb hc _ => by rw [cnt_in ha, cnt_in hb, cnt_in hc, cnt_cons, cnt_nil, if_pos rfl]; omega
  | _, _, .lone ha hb _ => by rw [cnt_in ha, cnt_in hb, cnt_cons, cnt_cons, cnt_nil, if_pos rfl]; omega
  | _, _, .cons ha hb hc hd hl => by
    have := hl.cnt
    rw [cnt_in ha, cnt_in hb, cnt_in hc, cnt_in hd]; omega
theorem quads_app {t : List Nat} {k : Nat} (ht : Quads t k) : ∀ (m : Nat) (l : List Nat), l.length = 4 * m → (∀ c ∈ l, inS c) → Quads (l ++ t) (m + k)
  | 0, l, h, _ => by
    cases l with
    | nil => rw [Nat.zero_add]; exact ht
    | cons c r => simp at h
  | m + 1, l, h, hs => by
    match l, h, hs with
    | [], h, _ => simp at h
    | [_], h, _ => simp at h; omega
    | [_, _], h, _ => simp at h; omega
    | [_, _, _], h, _ => simp at h; omega
    | a :: b :: c :: d :: l, h, hs =>
      have hl : l.length = 4 * m := by simp only [List.length_cons] at h; omega
      have := quads_app ht m l hl fun x hx => hs x (.tail _ (.tail _ (.tail _ (.tail _ hx))))
      rw [show m + 1 + k = (m + k) + 1 by omega]
      exact .cons (hs a (.head _)) (hs b (.tail _ (.head _))) (hs c (.tail _ (.tail _ (.head _)))) (hs d (.tail _ (.tail _ (.tail _ (.head _))))) this
/-! ## the page is whole fours -/
theorem str_codes (x y : Str) : (x ++ y).cps.toList = x.cps.toList ++ y.cps.toList := by rw [Str.cps_append, Array.toList_append]
theorem sign_in (x : Int) : ∃ k, k < 64 ∧ (signAt (Int.fmod x 64)).cps.toList = [sig k] := by
  obtain ⟨k, hk, e⟩ := fmod_nat x 64 (by decide)
  refine ⟨k, hk, ?_⟩
  have e' : Int.fmod x 64 = (k : Int) := e
  rw [e', signAt_sig k hk]
theorem getD_in {xs : List Str} (h : ∀ y ∈ xs, ∀ c ∈ y.cps.toList, inS c) (i : Nat) : ∀ c ∈ (xs.getD i (Str.ofString "")).cps.toList, inS c := by
  rw [List.getD_eq_getElem?_getD]
  cases q : xs[i]? with
  | none => exact fun c hc => nomatch hc
  | some y => exact h y (List.mem_of_getElem? q)
theorem words_in : ∀ y ∈ wordsL, ∀ c ∈ y.cps.toList, c ∈ signsS.cps.toList := by decide +kernel
theorem seps_in : ∀ y ∈ sepsL, ∀ c ∈ y.cps.toList, c ∈ signsS.cps.toList := by decide +kernel
theorem head_in : ∀ c ∈ (Str.ofString "1*1!rc").cps.toList, c ∈ signsS.cps.toList := by decide +kernel
theorem wordAt_in (x : Int) : ∀ c ∈ (wordAt x).cps.toList, inS c := by
  refine getD_in (fun y hy => ?_) _
  rcases List.mem_append.mp hy with hy | hy
  · exact words_in y hy
  · rw [List.mem_singleton.mp hy]
    obtain ⟨k, hk, e⟩ := sign_in (Int.fdiv x 72)
    intro c hc
    rw [e] at hc
    rw [List.mem_singleton.mp hc]
    exact sig_in k hk
theorem sepAt_in (x : Int) : ∀ c ∈ (sepAt x).cps.toList, inS c := getD_in seps_in _
theorem drawn_in : ∀ (ns : List Int) (st : Str × List Int), (∀ c ∈ st.1.cps.toList, inS c) → ∀ c ∈ (ns.foldl drawStep st).1.cps.toList, inS c
  | [], _, h => h
  | x :: r, st, h => drawn_in r (drawStep st x) fun c hc => by
    have e : (drawStep st x).1.cps.toList = st.1.cps.toList ++ (wordAt x).cps.toList ++ (sepAt x).cps.toList := by
      show (st.1 ++ wordAt x ++ sepAt x).cps.toList = _
      rw [str_codes, str_codes]
    rw [e] at hc
    rcases List.mem_append.mp hc with hc | hc
    · rcases List.mem_append.mp hc with hc | hc
      · exact h c hc
      · exact wordAt_in x c hc
    · exact sepAt_in x c hc
theorem drawText_in (ns : List Int) : ∀ c ∈ (drawText ns).cps.toList, inS c := drawn_in ns _ head_in
theorem stars_codes (k : Nat) (h : k < 4) : (Txt.mul (Str.ofString "*") (k : Int)).cps.toList = List.replicate k 42 := by
  have key : ∀ k : Nat, k < 4 → (Txt.mul (Str.ofString "*") (k : Int)).cps.toList = List.replicate k 42 := by decide +kernel
  exact key k h
theorem star_in : inS 42 := (show 42 ∈ signsS.cps.toList by decide +kernel)
theorem duo_quads (rest : Int) : Quads (drawDuo rest).cps.toList 1 := by
  obtain ⟨a, ha, ea⟩ := sign_in rest
  obtain ⟨b, hb, eb⟩ := sign_in (Int.fdiv rest 64)
  obtain ⟨c, hc, ec⟩ := fmod_nat (Int.fdiv rest 4096) 16 (by decide)
  have ec' : Int.fmod (Int.fdiv rest 4096) 16 * 4 = ((4 * c : Nat) : Int) := by
    have : Int.fmod (Int.fdiv rest 4096) 16 = (c : Int) := ec
    rw [this]; omega
  unfold drawDuo
  rw [str_codes, str_codes, str_codes, ea, eb, ec', signAt_sig (4 * c) (by omega), show (Str.ofString "=").cps.toList = [61] from by decide]
  refine .duo (sig_in a ha) (sig_in b hb) (sig_in _ (by omega)) ?_
  rw [sig_vv _ (by omega)]; omega
theorem lone_quads (rest : Int) : Quads (drawLone rest).cps.toList 1 := by
  obtain ⟨a, ha, ea⟩ := sign_in rest
  obtain ⟨c, hc, ec⟩ := fmod_nat (Int.fdiv rest 64) 4 (by decide)
  have ec' : Int.fmod (Int.fdiv rest 64) 4 * 16 = ((16 * c : Nat) : Int) := by
    have : Int.fmod (Int.fdiv rest 64) 4 = (c : Int) := ec
    rw [this]; omega
  unfold drawLone
  rw [str_codes, str_codes, ea, ec', signAt_sig (16 * c) (by omega), show (Str.ofString "==").cps.toList = [61, 61] from by decide]
  refine .lone (sig_in a ha) (sig_in _ (by omega)) ?_
  rw [sig_vv _ (by omega)]; omega
theorem end_quads (total : Int) : ∃ k, k ≤ 1 ∧ Quads (drawEnd total).cps.toList k := by
  obtain ⟨k, hk, e⟩ := fmod_nat total 3 (by decide)
  have e' : (Int.fmod total 3).toNat = k := by
    have : Int.fmod total 3 = (k : Int) := e
    rw [this]; omega
  unfold drawEnd
  rw [e']
  match k, hk with
  | 0, _ => exact ⟨0, by omega, .nil⟩
  | 1, _ => exact ⟨1, by omega, duo_quads _⟩
  | 2, _ => exact ⟨1, by omega, lone_quads _⟩
theorem page_quads (ns : List Int) (total : Int) (h : ns.length ≤ 10) : ∃ n, n ≤ 24 ∧ Quads (drawPage ns total).cps.toList n := by
  obtain ⟨k, hk, hq⟩ := end_quads total
  obtain ⟨p, hp, ep⟩ := fmod_nat (-((drawText ns).length : Int)) 4 (by decide)
  have ep' : Int.fmod (-((drawText ns).length : Int)) 4 = (p : Int) := ep
  have hlen := drawText_len ns
  have hl : (drawText ns).cps.toList.length = (drawText ns).length := Array.length_toList
  obtain ⟨m, hm⟩ : ∃ m, (drawText ns).length + p = 4 * m := by
    refine ⟨((drawText ns).length + p) / 4, ?_⟩
    rw [Int.fmod_eq_emod_of_nonneg _ (by decide)] at ep'
    omega
  refine ⟨m + k, by omega, ?_⟩
  unfold drawPage
  rw [str_codes, str_codes, ep', stars_codes p hp]
  refine quads_app hq m _ (by rw [List.length_append, List.length_replicate, hl, hm]) fun c hc => ?_
  rcases List.mem_append.mp hc with hc | hc
  · exact drawText_in ns c hc
  · rw [List.eq_of_mem_replicate hc]; exact star_in
/-! ## base 64 gives it back -/
noncomputable def octL : List Nat → Nat → List Int
  | _, 0 => []
  | l, n + 1 => trip (quad (l.take 4)) ++ octL (l.drop 4) n
theorem octs_L (l : List Nat) : ∀ n o, ((List.range n).flatMap fun j => trip (quad ((l.drop (o + 4 * j)).take 4))) = octL (l.drop o) n
  | 0, _ => rfl
  | n + 1, o => by
    rw [List.range_succ_eq_map, List.flatMap_cons, List.flatMap_map]
    show _ = trip (quad ((l.drop o).take 4)) ++ octL ((l.drop o).drop 4) n
    rw [List.drop_drop, ← octs_L l n (o + 4)]
    have e : (fun j => trip (quad ((l.drop (o + 4 * Nat.succ j)).take 4))) = fun j => trip (quad ((l.drop (o + 4 + 4 * j)).take 4)) := by
      funext j
      rw [show o + 4 * Nat.succ j = o + 4 + 4 * j by omega]
    rw [e]; rfl
theorem octs_text (text : Str) (n : Nat) : octs text n = octL text.cps.toList n := by
  have := octs_L text.cps.toList n 0
  rw [List.drop_zero] at this
  rw [← this]
  unfold octs quadAt
  simp only [Nat.zero_add]
theorem quad4 (a b c d : Nat) : quad [a, b, c, d] = 64 * (64 * (64 * vv a + vv b) + vv c) + vv d := by
  unfold quad
  simp only [List.foldl_cons, List.foldl_nil]
  show 64 * (64 * (64 * (64 * 0 + vv a) + vv b) + vv c) + vv d = _
  omega
theorem trip_val {A B C D : Int} (hA : 0 ≤ A ∧ A < 64) (hB : 0 ≤ B ∧ B < 64) (hC : 0 ≤ C ∧ C < 64) (hD : 0 ≤ D ∧ D < 64) :
    trip (64 * (64 * (64 * A + B) + C) + D) = [4 * A + B / 16, B % 16 * 16 + C / 4, C % 4 * 64 + D] := by
  unfold trip
  rw [Int.fdiv_eq_ediv_of_nonneg _ (by decide), Int.fdiv_eq_ediv_of_nonneg _ (by decide), Int.fmod_eq_emod_of_nonneg _ (by decide), Int.fmod_eq_emod_of_nonneg _ (by decide)]
  have e1 : (64 * (64 * (64 * A + B) + C) + D) / 65536 = 4 * A + B / 16 := by omega
  have e2 : (64 * (64 * (64 * A + B) + C) + D) / 256 % 256 = B % 16 * 16 + C / 4 := by omega
  have e3 : (64 * (64 * (64 * A + B) + C) + D) % 256 = C % 4 * 64 + D := by omega
  rw [e1, e2, e3]
theorem enc3 {A B C D v : Int} {out : List Int} (hA : 0 ≤ A ∧ A < 64) (hB : 0 ≤ B ∧ B < 64) (hC : 0 ≤ C ∧ C < 64) (hD : 0 ≤ D ∧ D < 64) :
    [4 * A + B / 16, B % 16 * 16 + C / 4, C % 4 * 64 + D].foldl encStep (out, 0, v) = (out ++ [A, B, C, D], 0, C % 4 * 64 + D) := by
  show (((out ++ [(4 * A + B / 16) / 4]) ++ [(4 * A + B / 16) % 4 * 16 + (B % 16 * 16 + C / 4) / 16]) ++ [(B % 16 * 16 + C / 4) % 16 * 4 + (C % 4 * 64 + D) / 64, (C % 4 * 64 + D) % 64], 0, C % 4 * 64 + D) = _
  have e1 : (4 * A + B / 16) / 4 = A := by omega
  have e2 : (4 * A + B / 16) % 4 * 16 + (B % 16 * 16 + C / 4) / 16 = B := by omega
  have e3 : (B % 16 * 16 + C / 4) % 16 * 4 + (C % 4 * 64 + D) / 64 = C := by omega
  have e4 : (C % 4 * 64 + D) % 64 = D := by omega
  rw [e1, e2, e3, e4]
  simp
theorem octL_len : ∀ (l : List Nat) (n : Nat), (octL l n).length = 3 * n
  | _, 0 => rfl
  | l, n + 1 => by
    show (trip _ ++ octL _ n).length = _
    rw [List.length_append, octL_len]
    simp [trip]; omega
def encEnd (st : List Int × Nat × Int) : List Int := st.1.map b64Of ++ encTail st.2.1 st.2.2
def betaI (c : Nat) : Int := (beta c : Int)
theorem quads_enc : ∀ {l : List Nat} {n : Nat}, Quads l n → ∀ (out : List Int) (v : Int), encEnd (((octL l n).take ((3 * n : Nat) - cnt 61 l).toNat).foldl encStep (out, 0, v)) = out.map b64Of ++ l.map betaI
  | _, _, .nil, out, v => by
    show out.map b64Of ++ encTail 0 v = _
    unfold encTail
    rw [if_pos rfl]; rfl
  | _, _, .duo (a := a) (b := b) (c := c) ha hb hc h4, out, v => by
    have va := vv_in a ha
    have vb := vv_in b hb
    have vc := vv_in c hc
    have hn : ((3 * 1 : Nat) - cnt 61 [a, b, c, 61]).toNat = 2 := by rw [cnt_in ha, cnt_in hb, cnt_in hc, cnt_cons, cnt_nil, if_pos rfl]; rfl
    rw [hn]
    show encEnd (((trip (quad [a, b, c, 61]) ++ octL [] 0).take 2).foldl encStep (out, 0, v)) = _
    rw [quad4, trip_val ⟨va.1, va.2.1⟩ ⟨vb.1, vb.2.1⟩ ⟨vc.1, vc.2.1⟩ (by rw [vv_61]; decide)]
    show encEnd ((out ++ [(4 * vv a + vv b / 16) / 4]) ++ [(4 * vv a + vv b / 16) % 4 * 16 + (vv b % 16 * 16 + vv c / 4) / 16], 2, vv b % 16 * 16 + vv c / 4) = _
    have e1 : (4 * vv a + vv b / 16) / 4 = vv a := by omega
    have e2 : (4 * vv a + vv b / 16) % 4 * 16 + (vv b % 16 * 16 + vv c / 4) / 16 = vv b := by omega
    have e3 : (vv b % 16 * 16 + vv c / 4) % 16 * 4 = vv c := by omega
    rw [e1, e2]
    show (out ++ [vv a] ++ [vv b]).map b64Of ++ [b64Of ((vv b % 16 * 16 + vv c / 4) % 16 * 4), 61] = _
    rw [e3]
    simp only [List.map_append, List.map_cons, List.map_nil, va.2.2, vb.2.2, vc.2.2, List.append_assoc]
    rfl
  | _, _, .lone (a := a) (b := b) ha hb h16, out, v => by
    have va := vv_in a ha
    have vb := vv_in b hb
    have hn : ((3 * 1 : Nat) - cnt 61 [a, b, 61, 61]).toNat = 1 := by rw [cnt_in ha, cnt_in hb, cnt_cons, cnt_cons, cnt_nil, if_pos rfl]; rfl
    rw [hn]
    show encEnd (((trip (quad [a, b, 61, 61]) ++ octL [] 0).take 1).foldl encStep (out, 0, v)) = _
    rw [quad4, trip_val ⟨va.1, va.2.1⟩ ⟨vb.1, vb.2.1⟩ (by rw [vv_61]; decide) (by rw [vv_61]; decide)]
    show encEnd (out ++ [(4 * vv a + vv b / 16) / 4], 1, 4 * vv a + vv b / 16) = _
    have e1 : (4 * vv a + vv b / 16) / 4 = vv a := by omega
    have e3 : (4 * vv a + vv b / 16) % 4 * 16 = vv b := by omega
    rw [e1]
    show (out ++ [vv a]).map b64Of ++ [b64Of ((4 * vv a + vv b / 16) % 4 * 16), 61, 61] = _
    rw [e3]
    simp only [List.map_append, List.map_cons, List.map_nil, va.2.2, vb.2.2, List.append_assoc]
    rfl
  | _, _, .cons (a := a) (b := b) (c := c) (d := d) (l := l) (n := n) ha hb hc hd hl, out, v => by
    have va := vv_in a ha
    have vb := vv_in b hb
    have vc := vv_in c hc
    have vd := vv_in d hd
    have hcnt := hl.cnt
    have hn : ((3 * (n + 1) : Nat) - cnt 61 (a :: b :: c :: d :: l)).toNat = 3 + ((3 * n : Nat) - cnt 61 l).toNat := by
      rw [cnt_in ha, cnt_in hb, cnt_in hc, cnt_in hd]; omega
    rw [hn]
    show encEnd (((trip (quad [a, b, c, d]) ++ octL l n).take (3 + ((3 * n : Nat) - cnt 61 l).toNat)).foldl encStep (out, 0, v)) = _
    rw [quad4, trip_val ⟨va.1, va.2.1⟩ ⟨vb.1, vb.2.1⟩ ⟨vc.1, vc.2.1⟩ ⟨vd.1, vd.2.1⟩, List.take_append, List.take_of_length_le (by simp only [List.length_cons, List.length_nil]; omega), List.foldl_append, enc3 ⟨va.1, va.2.1⟩ ⟨vb.1, vb.2.1⟩ ⟨vc.1, vc.2.1⟩ ⟨vd.1, vd.2.1⟩]
    have e0 : 3 + ((3 * n : Nat) - cnt 61 l).toNat - [4 * vv a + vv b / 16, vv b % 16 * 16 + vv c / 4, vv c % 4 * 64 + vv d].length = ((3 * n : Nat) - cnt 61 l).toNat := by
      simp only [List.length_cons, List.length_nil]; omega
    rw [e0, quads_enc hl]
    simp only [List.map_append, List.map_cons, List.map_nil, va.2.2, vb.2.2, vc.2.2, vd.2.2, List.append_assoc]
    rfl
theorem page_enc {text : Str} {n : Nat} (h : Quads text.cps.toList n) : encOut (octets text n) = text.cps.toList.map betaI := by
  have := quads_enc h [] 0
  unfold octets
  rw [octs_text, show Str.ofString "=" = ⟨#[61]⟩ from by decide +kernel, count_is]
  exact this
end Mine
end
noncomputable section
open PySem PySem.W PyProof.Rows
namespace Mine
structure PageOk (page : Str) (n : Nat) : Prop where
  len : page.length = 4 * n
  small : n ≤ 24
  signs : ∀ c ∈ page.cps.toList, c ∈ signsEq.cps.toList
  cnt0 : 0 ≤ Txt.count page (Str.ofString "=")
  cnt : Txt.count page (Str.ofString "=") ≤ 3 * n
theorem page_ok (ns : List Int) (total : Int) (h : ns.length ≤ 10) : ∃ n, PageOk (drawPage ns total) n := by
  obtain ⟨n, hn, hq⟩ := page_quads ns total h
  have hc := hq.cnt
  have he : Txt.count (drawPage ns total) (Str.ofString "=") = cnt 61 (drawPage ns total).cps.toList := by
    rw [show Str.ofString "=" = ⟨#[61]⟩ from by decide +kernel, count_is]; rfl
  refine ⟨n, ?_, hn, fun c hcm => ?_, ?_, ?_⟩
  · have h1 := hq.length
    rw [Array.length_toList] at h1
    exact h1
  · rcases hq.signs c hcm with rfl | h
    · exact (show 61 ∈ signsEq.cps.toList by decide +kernel)
    · exact (in_eq c h).1
  · rw [he]; exact hc.1
  · rw [he]; omega
def bList (cuts : List Int) (len : Int) : List (Int × Int) := (0 :: cuts).zip (cuts ++ [len])
/-- the places of pieces of these lengths, from o on -/
noncomputable def segs : Nat → List Nat → List (Int × Int)
  | _, [] => []
  | o, l :: r => ((o : Int), ((o + l : Nat) : Int)) :: segs (o + l) r
theorem segs_length : ∀ (o : Nat) (ls : List Nat), (segs o ls).length = ls.length
  | _, [] => rfl
  | o, l :: r => by simp only [segs, List.length_cons, segs_length]
abbrev pieceOf (x : Str) (fb : Int × Int) : Str := Txt.slice x (some fb.1) (some fb.2)
noncomputable def Up : Nat → List Nat → Nat → Prop
  | o, [], len => o ≤ len
  | o, c :: r, len => o ≤ c ∧ Up c r len
theorem Up.snoc : ∀ {o : Nat} {cs : List Nat} {len len' : Nat}, Up o cs len → len ≤ len' → Up o (cs ++ [len']) len'
  | _, [], _, _, h, hl => ⟨Nat.le_trans h hl, Nat.le_refl _⟩
  | _, _ :: _, _, _, h, hl => ⟨h.1, Up.snoc h.2 hl⟩
theorem Up.mono : ∀ {o : Nat} {cs : List Nat} {len len' : Nat}, Up o cs len → len ≤ len' → Up o cs len'
  | _, [], _, _, h, hl => Nat.le_trans h hl
  | _, _ :: _, _, _, h, hl => ⟨h.1, Up.mono h.2 hl⟩
theorem up_segs : ∀ (cs : List Nat) (o len : Nat), Up o cs len → ∃ ls, ((o : Int) :: cs.map (fun (x : Nat) => (x : Int))).zip (cs.map (fun (x : Nat) => (x : Int)) ++ [(len : Int)]) = segs o ls ∧ o + ls.sum = len ∧ ls.length = cs.length + 1
  | [], o, len, h => by
    have h' : o ≤ len := h
    refine ⟨[len - o], ?_, by simp; omega, rfl⟩
    show [((o : Int), (len : Int))] = [((o : Int), ((o + (len - o) : Nat) : Int))]
    rw [show o + (len - o) = len by omega]
  | c :: r, o, len, h => by
    obtain ⟨ls, h1, h2, h3⟩ := up_segs r c len h.2
    have hc : o + (c - o) = c := by have := h.1; omega
    refine ⟨(c - o) :: ls, ?_, ?_, by simp [h3]⟩
    · show ((o : Int), (c : Int)) :: (((c : Int) :: r.map (fun (x : Nat) => (x : Int))).zip (r.map (fun (x : Nat) => (x : Int)) ++ [(len : Int)])) = ((o : Int), ((o + (c - o) : Nat) : Int)) :: segs (o + (c - o)) ls
      rw [h1, hc]
    · rw [List.sum_cons]; omega
theorem drawn_up : ∀ (ns : List Int) (st : Str × List Int) (cs : List Nat), st.2 = cs.map (fun (x : Nat) => (x : Int)) → Up 0 cs st.1.length → ∃ cs', (ns.foldl drawStep st).2 = cs'.map (fun (x : Nat) => (x : Int)) ∧ Up 0 cs' (ns.foldl drawStep st).1.length
  | [], st, cs, h1, h2 => ⟨cs, h1, h2⟩
  | x :: r, st, cs, h1, h2 => by
    have hl : st.1.length ≤ (st.1 ++ wordAt x ++ sepAt x).length := by rw [Str.length_append, Str.length_append]; omega
    by_cases q : Int.fmod (Int.fdiv x 18) 4 = 3
    · refine drawn_up r (drawStep st x) (cs ++ [(st.1 ++ wordAt x ++ sepAt x).length]) ?_ ?_
      · unfold drawStep
        rw [if_pos q]
        show st.2 ++ [((st.1 ++ wordAt x ++ sepAt x).length : Int)] = _
        rw [h1, List.map_append]; rfl
      · exact Up.snoc h2 hl
    · refine drawn_up r (drawStep st x) cs ?_ (Up.mono h2 hl)
      unfold drawStep
      rw [if_neg q]
      exact h1
theorem bounds_ok (ns : List Int) (total : Int) (h : ns.length ≤ 10) : ∃ ls, bList (drawCuts ns) (drawPage ns total).length = segs 0 ls ∧ ls.sum = (drawPage ns total).length ∧ ls.length ≤ 12 := by
  obtain ⟨cs, h1, h2⟩ := drawn_up ns (Str.ofString "1*1!rc", [6]) [6] rfl ⟨by decide +kernel, by show 6 ≤ (Str.ofString "1*1!rc").length; decide +kernel⟩
  have hl : (drawText ns).length ≤ (drawPage ns total).length := by
    unfold drawPage
    rw [Str.length_append, Str.length_append]; omega
  obtain ⟨ls, q1, q2, q3⟩ := up_segs cs 0 (drawPage ns total).length (Up.mono h2 hl)
  have hcl := drawCuts_len ns
  have h1' : drawCuts ns = cs.map (fun (x : Nat) => (x : Int)) := h1
  refine ⟨ls, ?_, by omega, ?_⟩
  · unfold bList
    rw [h1']; exact q1
  · rw [h1', List.length_map] at hcl; omega
theorem slice_len (x : Str) (a l : Nat) : (pieceOf x ((a : Int), ((a + l : Nat) : Int))).length ≤ l := by
  have e := slice_nat x (a := a) (b := a + l) (by omega)
  show (Txt.slice x (some (a : Int)) (some ((a + l : Nat) : Int))).length ≤ l
  rw [e]
  show ((x.cps.toList.drop a).take (a + l - a)).toArray.size ≤ l
  rw [List.size_toArray, List.length_take]; omega
theorem pieces_sum {x : Str} : ∀ {ls : List Nat} {o : Nat}, o + ls.sum ≤ x.length → (((segs o ls).map (pieceOf x)).map Str.length).sum ≤ ls.sum
  | [], _, _ => Nat.le_refl _
  | l :: r, o, h => by
    rw [List.sum_cons] at h ⊢
    have h1 := slice_len x o l
    have h2 := pieces_sum (x := x) (ls := r) (o := o + l) (by omega)
    show ((pieceOf x ((o : Int), ((o + l : Nat) : Int)) :: (segs (o + l) r).map (pieceOf x)).map Str.length).sum ≤ _
    rw [List.map_cons, List.sum_cons]
    omega
theorem piece_len {x : Str} (fb : Int × Int) : (pieceOf x fb).length ≤ x.length := Txt.slice_le x _ _
theorem segs_get : ∀ (ls : List Nat) (o k l : Nat), ls[k]? = some l → ∃ a : Nat, (segs o ls)[k]? = some ((a : Int), ((a + l : Nat) : Int))
  | [], _, _, _, h => by simp at h
  | m :: r, o, 0, l, h => by
    have : m = l := by simpa using h
    subst this
    exact ⟨o, rfl⟩
  | m :: r, o, k + 1, l, h => segs_get r (o + m) k l (by simpa using h)
theorem range_sum : ∀ (ls : List Nat) (f : Nat → Str), (∀ k l, ls[k]? = some l → (f k).length ≤ l) → (((List.range ls.length).map f).map Str.length).sum ≤ ls.sum
  | [], _, _ => Nat.le_refl _
  | l :: r, f, h => by
    rw [List.length_cons, List.range_succ_eq_map, List.map_cons, List.map_map, List.map_cons, List.sum_cons, List.sum_cons]
    have h1 := h 0 l rfl
    have h2 := range_sum r (f ∘ Nat.succ) fun k m hk => h (k + 1) m (by simpa using hk)
    omega
def menuS : Str := Str.ofString ".+-_/\\:;\"( )"
def menuAt (j : Nat) : Nat := menuS.cps.toList.getD j 0
abbrev sgn (j : Nat) : Str := ⟨#[menuAt j]⟩
theorem menu_get {j : Nat} (h : j < 12) : menuS.cps[j]? = some (menuAt j) := by
  unfold menuAt
  have : ∀ j, j < 12 → menuS.cps[j]? = some (menuS.cps.toList.getD j 0) := by decide
  exact this j h
theorem menu_lt {j : Nat} (h : j < 12) : menuAt j < 128 := (show ∀ j, j < 12 → menuAt j < 128 by decide) j h
theorem menu_no {j : Nat} (h : j < 12) : (Str.ofString "*" == sgn j) = false ∧ (Str.ofString "!" == sgn j) = false := (show ∀ j, j < 12 → (Str.ofString "*" == sgn j) = false ∧ (Str.ofString "!" == sgn j) = false by decide) j h
def writing (page : Str) (sh j : Nat) : Str := Txt.replace (Txt.replace page (Str.ofString "*") (sgn j)) (Str.ofString "!") (sgn ((j + sh) % 12))
/-- the piece taken in step k of turn i -/
def takenAt (page : Str) (sh : Nat) (bs : List (Int × Int)) (i k : Nat) : Str := pieceOf (writing page sh ((2 * i + k + sh) % 12)) (bs.getD k (0, 0))
theorem taken_sum {page : Str} {sh i : Nat} {ls : List Nat} : (((List.range (segs 0 ls).length).map (takenAt page sh (segs 0 ls) i)).map Str.length).sum ≤ ls.sum := by
  rw [segs_length]
  refine range_sum ls _ fun k l hk => ?_
  obtain ⟨a, ha⟩ := segs_get ls 0 k l hk
  unfold takenAt
  rw [List.getD_eq_getElem?_getD, ha]
  exact slice_len _ a l
theorem octets_ok (text : Str) (n : Nat) : (∀ k ∈ octets text n, 0 ≤ k ∧ k < 256) ∧ (octets text n).length ≤ 3 * n := by
  refine ⟨fun k hk => octs_range text n k (List.mem_of_mem_take hk), ?_⟩
  unfold octets
  rw [List.length_take, octs_len]
  exact Nat.min_le_right _ _
end Mine
end
noncomputable section
open PySem PySem.W PyProof.Rows PySem.Calls PySem.Spec
set_option maxRecDepth 100000
set_option maxHeartbeats 2000000
namespace Mine
abbrev tup2 (v₁ v₂ : Value) : Obj := { cls := .type "tuple", data := .seq [v₁, v₂].toArray }
/-- a list's items: tuples of two, item by item from two lists -/
def Pairs (led : List (Addr × Obj)) (xs zs ys : List Value) (i : Nat) : Prop :=
  ys.length = i ∧ ∀ j, j < i → ∃ t v₁ v₂, ys[j]? = some (.ref t) ∧ xs[j]? = some v₁ ∧ zs[j]? = some v₂ ∧ (t, tup2 v₁ v₂) ∈ led
section
variable {prog : Program} {w : World} {A : Around} {E : Value → Shared → Prop} {s : Shared} {h₀ : Heap} {L : Addr} {m : Str → Option Value} {env : Env}
def ZipFin (h₀ : Heap) (L : Addr) (m : Str → Option Value) (y : Str) (xs zs : List Value) (s₁ : Shared) (Q : Flow → Shared → Prop) (news : List (Addr × Obj)) : Prop :=
  ∀ (D : Addr) (ys : List Value) (tups : List (Addr × Obj)) (h' : Heap) (tk : Nat), Pairs tups xs zs ys (min xs.length zs.length) → (∀ p ∈ news, p.1 < D) → Fr h₀ L h' (fun q => if q = y then some (.ref D) else m q) → News h₀ L h' ((D, LCg.lst ys) :: (tups ++ news)) → (∀ p ∈ tups, D < p.1) →
    Q .next { s₁ with heap := h', toks := tk }
def ZipSt (z TI TO i1 i2 l1 l2 : Addr) (xs zs : Array Value) (i : Nat) (h : Heap) : Prop :=
  IsZip h z TI TO .none ∧ IsPair h TI (.ref i1) (.ref i2) ∧ (∃ a b, IsPair h TO a b) ∧ h.IsListIter i1 l1 i ∧ h.IsListIter i2 l2 i ∧ h.IsList l1 xs ∧ h.IsList l2 zs
inductive ZipSrc (A : Around) (h₀ : Heap) (L : Addr) (m : Str → Option Value) (y : Str) (Q : Flow → Shared → Prop) (xv : Value) (s₁ : Shared) : Prop
  | mk (z TI TO i1 i2 l1 l2 : Addr) (xs zs : List Value) (news : List (Addr × Obj)) (h1 : xv = .ref z) (h2 : A.handled = none) (h3 : ZipApart z TI TO i1 i2 l1 l2) (h4 : ZipSt z TI TO i1 i2 l1 l2 xs.toArray zs.toArray 0 s₁.heap) (h5 : Fr h₀ L s₁.heap m) (h6 : News h₀ L s₁.heap news)
    (h7 : ∀ b ∈ [z, TI, TO, i1, i2, l1, l2], b < s₁.heap.objs.size) (h8 : ∀ b ∈ [z, TO, i1, i2], h₀.get? b = none ∧ b ≠ L) (h9 : ∀ p ∈ news, p.1 ∉ [z, TO, i1, i2]) (h10 : min xs.length zs.length ≤ sizeLine) (h11 : ZipFin h₀ L m y xs zs s₁ Q news) : ZipSrc A h₀ L m y Q xv s₁
inductive InvZ (h₀ : Heap) (L : Addr) (m : Str → Option Value) (D C z TI TO i1 i2 l1 l2 : Addr) (xs zs : List Value) (news : List (Addr × Obj)) (n : Nat) (s₁ : Shared) (k : Nat) (s' : Shared) : Prop
  | mk (h' : Heap) (tk i : Nat) (ys : List Value) (m' : Str → Option Value) (tups : List (Addr × Obj)) (h1 : s' = { s₁ with heap := h', toks := tk }) (h2 : i ≤ n) (h3 : k = n + 1 - i) (h4 : ZipSt z TI TO i1 i2 l1 l2 xs.toArray zs.toArray i h') (h5 : Fr h₀ L h' m) (h6 : h'.Ns C m') (h7 : News h₀ L h' ((D, LCg.lst ys) :: (tups ++ news)))
    (h8 : ∀ p ∈ tups, (C : Nat) < p.1) (h9 : Pairs tups xs zs ys i) : InvZ h₀ L m D C z TI TO i1 i2 l1 l2 xs zs news n s₁ k s'
theorem Assign_zip {elt iter : PySem.Expr} {x x₂ y : Str} {px px₂ tp py : Pos} {tk} {scope : Scope} {cl : List (Str × Addr)} {pos spos : Pos} {Q : Flow → Shared → Prop} (_F₀ : Fr h₀ L s.heap m) (hLe : env.locals = L)
    (hsw : swapsWith (.ListComp elt [⟨.Tuple [.Name x px, .Name x₂ px₂] tk tp, iter, [], 0⟩] scope pos) (some (.Name y py)) spos.line env = pure true)
    (hclos : closureFor scope env = pure cl) (hcell : ∀ z ∈ scope.names, z.2 ≠ .cell) (hkind : scope.kind = .function)
    (hnames : ∀ z ∈ scope.names, z.2 = .local → scope.names.lookup z.1 = some .local) (hx : scope.names.lookup x = some .local) (hx₂ : scope.names.lookup x₂ = some .local) (hxx : x ≠ x₂)
    (hy : env.kindOf y = some .local) (hp : (env.scope.kind == .class || (env.scope.kind == .module && env.locals != env.globals)) = false)
    (helt : ∀ (C : Addr) (m₂ : Str → Option Value) (v₁ v₂ : Value) (s₃ : Shared) (Q' : Value → Shared → Prop) (E' : Value → Shared → Prop), s₃.heap.Ns C m₂ → m₂ x = some v₁ → m₂ x₂ = some v₂ → (∀ tk', Q' (.ref s₃.heap.objs.size) { s₃ with heap := s₃.heap.push (tup2 v₁ v₂), toks := tk' }) →
      wpAny (model prog w) A (eval elt (compEnvC scope cl C env)) Q' E' s₃)
    (h : wpAny (model prog w) A (eval iter env) (ZipSrc A h₀ L m y Q) E s)
    (hs : ∀ x, foldedSetIterable iter env x = pure x := by intro _; rfl) :
    wpAny (model prog w) A (exec (.Assign [.Name y py] (.ListComp elt [⟨.Tuple [.Name x px, .Name x₂ px₂] tk tp, iter, [], 0⟩] scope pos) spos) env) Q E s := by
  subst hLe
  clear _F₀
  rw [exec_Assign_Name_used _ _ _ _ hsw]
  refine wpAny_bind (wpAny_standAt (wpAny_bind ?_))
  show wpAny _ A (do let _ ← comprehension (.ListComp elt [⟨.Tuple [.Name x px, .Name x₂ px₂] tk tp, iter, [], 0⟩] scope pos) scope env _ (newList []) false (eval iter env) (some (assign (.Name y py) env))) _ _ s
  refine wpAny_bind (wpAny_mono (wpAny_comprehension_free (use := some (assign (.Name y py) env)) (Q := fun _ s' => Q .next s') rfl hs hclos hkind hnames
    (wpAny_mono h (fun xv s₁ h₁ => ?_) fun _ _ e => e)) (fun _ s' hq => wpAny_pure (wpAny_pure hq)) fun _ _ e => e)
  obtain ⟨z, TI, TO, i1, i2, l1, l2, xs, zs, news, rfl, hh, ZA, hst, F, N, hfp, hwr, hnw, hsz, fin⟩ := h₁
  refine wpAny_pyIter_zip hst.1 ?_
  have W := KTurns.ofWalksU (elts := [.Name x px, .Name x₂ px₂]) (k := tk) (pos := tp) (WalksT.zip2 (prog := prog) (w := w) hh z TI TO i1 i2 l1 l2 ZA xs.toArray zs.toArray).toU
  have hn : min xs.toArray.size zs.toArray.size = min xs.length zs.length := by simp
  generalize hnn : min xs.toArray.size zs.toArray.size = n at W
  rw [hn] at hnn
  rw [hnn] at hsz
  have hLw : env.locals ∉ [z, TO, i1, i2] := fun hm => (hwr _ hm).2 rfl
  have old : ∀ b o, h₀.get? b = some o → b ∉ [z, TO, i1, i2] := fun b o e hb => by rw [(hwr b hb).1] at e; cases e
  refine wpAny_newObj_type (wpAny_newFunctionEnv hcell (by intro y hy; simp at hy) (fun h₁ hns₁ hsb₁ => ?_) hkind)
  dsimp only at hns₁ hsb₁ ⊢
  generalize hH2 : s₁.heap.push { cls := .type "list", dict := none, data := .seq ([] : List Value).toArray } = H2 at hns₁ hsb₁ ⊢
  have hC : H2.objs.size = s₁.heap.objs.size + 1 := by rw [← hH2, Heap.size_push]
  have hDC : s₁.heap.objs.size ≠ H2.objs.size := by rw [hC]; exact Nat.ne_of_lt (Nat.lt_succ_self _)
  have below : ∀ b, b < s₁.heap.objs.size → b ≠ H2.objs.size ∧ b ≠ s₁.heap.objs.size := fun b hb => ⟨by rw [hC]; exact Nat.ne_of_lt (Nat.lt_succ_of_lt hb), Nat.ne_of_lt hb⟩
  have hDf : s₁.heap.objs.size ∉ [z, TI, TO, i1, i2, l1, l2] := fun hm => Nat.lt_irrefl _ (hfp _ hm)
  have hCf : H2.objs.size ∉ [z, TI, TO, i1, i2, l1, l2] := fun hm => by have := hfp _ hm; rw [hC] at this; exact Nat.lt_irrefl _ (Nat.lt_of_succ_lt this)
  have wrf : ∀ b ∈ [z, TO, i1, i2], b ∈ [z, TI, TO, i1, i2, l1, l2] := W.sub
  have hDw : s₁.heap.objs.size ∉ [z, TO, i1, i2] := fun hm => hDf (wrf _ hm)
  have hCw : H2.objs.size ∉ [z, TO, i1, i2] := fun hm => hCf (wrf _ hm)
  have older : ∀ b o, s₁.heap.get? b = some o → h₁.get? b = some o := fun b o e => hsb₁.extBut b o (below b (Heap.lt_size e)).1 (Heap.get?_push_of_some _ (hH2 ▸ Heap.get?_push_of_some _ e))
  have hacc : h₁.get? s₁.heap.objs.size = some (LCg.lst []) := hsb₁.extBut _ _ hDC (Heap.get?_push_of_some _ (hH2 ▸ Heap.get?_push_size _ rfl))
  have fresh : ∀ a, s₁.heap.objs.size ≤ a → s₁.heap.get? a = none := fun a ha => by
    cases e : s₁.heap.get? a with
    | none => rfl
    | some o' => exact absurd (Heap.lt_size e) (Nat.not_lt.mpr ha)
  have fresh₀ : ∀ a, s₁.heap.objs.size ≤ a → h₀.get? a = none := fun a ha => by
    cases e : h₀.get? a with
    | none => rfl
    | some o' => have := F.keep a o' e; rw [fresh a ha] at this; cases this
  have hD₀ : h₀.get? s₁.heap.objs.size = none := fresh₀ _ (Nat.le_refl _)
  have hC₀ : h₀.get? H2.objs.size = none := fresh₀ _ (by rw [hC]; exact Nat.le_succ _)
  have hLlt : env.locals < s₁.heap.objs.size := F.ns.lt
  have hDL : s₁.heap.objs.size ≠ env.locals := Ne.symm (below _ hLlt).2
  have hCL : H2.objs.size ≠ env.locals := Ne.symm (below _ hLlt).1
  have hH1 : h₁.objs.size ≥ H2.objs.size + 1 := hns₁.lt
  have loop : ∀ R : Result → Shared → Prop, (∀ ys tups m' h₂ tk₂, Pairs tups xs zs ys n → (∀ p ∈ tups, (s₁.heap.objs.size : Nat) < p.1) → Fr h₀ env.locals h₂ m → h₂.Ns H2.objs.size m' → News h₀ env.locals h₂ ((s₁.heap.objs.size, LCg.lst ys) :: (tups ++ news)) →
      (∀ p ∈ (s₁.heap.objs.size, LCg.lst ys) :: (tups ++ news), p.1 ≠ H2.objs.size) → R (.ok .next) { s₁ with heap := h₂, toks := tk₂ }) → ∀ s₃ : Shared, s₃ = { s₁ with heap := h₁, toks := s₁.toks + ([] : List (Str × Value)).length } →
      codeAny (model prog w) A (.compLoop (.ListComp elt [⟨.Tuple [.Name x px, .Name x₂ px₂] tk tp, iter, [], 0⟩] scope pos) 0 (.ref z) (.ref s₁.heap.objs.size) (compEnvC scope cl H2.objs.size env)) R s₃ := by
    rintro R hR s₃ rfl
    refine LCp.codeAny_compLoop_pair
      (InvZ h₀ env.locals m s₁.heap.objs.size H2.objs.size z TI TO i1 i2 l1 l2 xs zs news n s₁) ?_ (n + 1)
      ⟨h₁, _, 0, [], _, [], rfl, Nat.zero_le _, rfl, W.frame _ _ _ hst fun b _ o e => older b o e, F.keeps older, hns₁, fun p hp => ?_, (fun p hp => nomatch hp), ⟨rfl, fun j hj => absurd hj (Nat.not_lt_zero _)⟩⟩
    · rintro k s' ⟨h', tk', i, ys, m', tups, rfl, hi, rfl, hst', F', hn', N', htup, hys⟩
      have offw : ∀ p ∈ (s₁.heap.objs.size, LCg.lst ys) :: (tups ++ news), p.1 ∉ [z, TO, i1, i2] := fun p hp => by
        rcases List.mem_cons.mp hp with rfl | hp
        · exact hDw
        · rcases List.mem_append.mp hp with hp | hp
          · intro hm
            have h1 := hfp _ (wrf _ hm)
            have h2 := htup p hp
            rw [hC] at h2
            exact Nat.lt_irrefl _ (Nat.lt_trans h1 (Nat.lt_of_succ_lt h2))
          · exact hnw p hp
      have offC : ∀ p ∈ (s₁.heap.objs.size, LCg.lst ys) :: (tups ++ news), p.1 ≠ H2.objs.size := fun p hp => by
        rcases List.mem_cons.mp hp with rfl | hp
        · exact hDC
        · rcases List.mem_append.mp hp with hp | hp
          · exact Nat.ne_of_gt (htup p hp)
          · exact (below _ (Heap.lt_size (N p hp).1)).1
      have step : ∀ h₂ : Heap, (∀ b o, b ∉ [z, TO, i1, i2] → h'.get? b = some o → h₂.get? b = some o) → Fr h₀ env.locals h₂ m ∧ h₂.Ns H2.objs.size m' ∧ News h₀ env.locals h₂ ((s₁.heap.objs.size, LCg.lst ys) :: (tups ++ news)) := fun h₂ hk₂ =>
        ⟨⟨F'.ns.at fun o e => hk₂ _ o hLw e, fun b o e => hk₂ b o (old b o e) (F'.keep b o e), F'.above⟩, hn'.at fun o e => hk₂ _ o hCw e, fun p hp => ⟨hk₂ _ _ (offw p hp) (N' p hp).1, (N' p hp).2⟩⟩
      by_cases hlt : i < n
      · refine W.item i _ _ _ hlt hst' fun v h₂ tk₂ hMd hk₂ => ?_
        refine W.go i v _ _ _ hMd fun h₃ hP hst₃ hk₃ => ?_
        obtain ⟨T, vals, rfl, ⟨v₁, v₂, hv₁, hv₂, rfl⟩, hT⟩ := hP
        obtain ⟨F₃, hn₃, N₃⟩ := step h₃ fun b o hb e => hk₃ b o hb (hk₂ b o hb e)
        dsimp only at hst₃ hT ⊢
        refine assign_Tuple_tuple hh hT rfl rfl fun h₅ he => ?_
        have he' : ∀ b o, h₃.get? b = some o → h₅.get? b = some o := fun b o e => he b o (Nat.ne_of_lt (Heap.lt_size e)) e
        refine assignInOrder_cons (wpAny_assign_Name (wpAny_storeName_local (lookup_relabel_local hx) (hn₃.at fun o e => he' _ o e) (fun h₆ hn₆ hs₆ => ?_) (by simp [compEnvC, relabel, hkind])))
        refine assignInOrder_cons (wpAny_assign_Name (wpAny_storeName_local (lookup_relabel_local hx₂) hn₆ (fun h₇ hn₇ hs₇ => ?_) (by simp [compEnvC, relabel, hkind])))
        refine assignInOrder_nil ?_
        have old3 : ∀ b o, b ≠ H2.objs.size → h₃.get? b = some o → h₇.get? b = some o := fun b o hb e => hs₇.extBut b o hb (hs₆.extBut b o hb (he' b o e))
        have hst₇ := W.frame _ _ _ hst₃ fun b hb o e => old3 b o (fun q => hCf (by rw [← q]; exact hb)) e
        have F₇ : Fr h₀ env.locals h₇ m := ((F₃.keeps he').change hs₆ hCL hC₀).change hs₇ hCL hC₀
        have N₇ : News h₀ env.locals h₇ ((s₁.heap.objs.size, LCg.lst ys) :: (tups ++ news)) := fun p hp => ⟨old3 _ _ (offC p hp) (N₃ p hp).1, (N₃ p hp).2⟩
        refine helt _ _ v₁ v₂ _ _ _ hn₇ (by simp [hxx]) (by simp) fun tk₈ => ?_
        dsimp only
        have up : ∀ b o, h₇.get? b = some o → (h₇.push (tup2 v₁ v₂)).get? b = some o := fun b o e => Heap.get?_push_of_some _ e
        refine append_at (hsz := by show ys.toArray.size ≤ sizeLine; rw [List.size_toArray, hys.1]; exact Nat.le_trans hi hsz) (up _ _ (N₇ _ (.head _)).1) fun h₈ hs₈ hD₈ => ?_
        have hTn : h₀.get? h₇.objs.size = none := by
          cases q : h₀.get? h₇.objs.size with
          | none => rfl
          | some o => exact absurd (Heap.lt_size (F₇.keep _ _ q)) (Nat.lt_irrefl _)
        have hCT : (H2.objs.size : Nat) < h₇.objs.size := hn₇.lt
        have hTL : h₇.objs.size ≠ env.locals := Ne.symm (Nat.ne_of_lt F₇.ns.lt)
        have hTD : h₇.objs.size ≠ s₁.heap.objs.size := Ne.symm (Nat.ne_of_lt (Heap.lt_size (N₇ _ (.head _)).1))
        refine ⟨n + 1 - (i + 1), by omega, h₈, tk₈, i + 1, ys ++ [.ref h₇.objs.size], _, (h₇.objs.size, tup2 v₁ v₂) :: tups, rfl, hlt, rfl, W.frame _ _ _ (W.frame _ _ _ hst₇ fun b _ o e => up b o e) fun b hb o e => hs₈.extBut b o (fun q => hDf (q ▸ hb)) e, (F₇.keeps up).change hs₈ hDL hD₀,
          (hn₇.at fun o e => up _ o e).sameBut hs₈ (Ne.symm hDC), fun p hp => ?_, ?_, ?_, ?_⟩
        · rcases List.mem_cons.mp hp with rfl | hp
          · exact ⟨hD₈.trans (congrArg some (LCg.lst_snoc ys _)), hDL, hD₀⟩
          · rcases List.mem_cons.mp hp with rfl | hp
            · exact ⟨hs₈.extBut _ _ hTD (Heap.get?_push_size _ rfl), hTL, hTn⟩
            · have hq := N₇ p (.tail _ hp)
              refine ⟨hs₈.extBut _ _ ?_ (up _ _ hq.1), hq.2⟩
              rcases List.mem_append.mp hp with hp | hp
              · have h2 := htup p hp
                rw [hC] at h2
                exact Nat.ne_of_gt (Nat.lt_of_succ_lt h2)
              · exact (below _ (Heap.lt_size (N p hp).1)).2
        · intro p hp
          rcases List.mem_cons.mp hp with rfl | hp
          · exact hCT
          · exact htup p hp
        · rw [List.length_append, hys.1]; rfl
        · intro j hj
          by_cases hji : j < i
          · obtain ⟨t, w₁, w₂, h1, h2, h3, h4⟩ := hys.2 j hji
            exact ⟨t, w₁, w₂, by rw [List.getElem?_append_left (by rw [hys.1]; exact hji)]; exact h1, h2, h3, .tail _ h4⟩
          · have : j = i := by omega
            subst this
            refine ⟨h₇.objs.size, v₁, v₂, ?_, by simpa using hv₁, by simpa using hv₂, .head _⟩
            rw [List.getElem?_append_right (by rw [hys.1]; exact Nat.le_refl _), hys.1, Nat.sub_self]; rfl
      · obtain rfl : i = n := Nat.le_antisymm hi (Nat.not_lt.mp hlt)
        refine W.done _ _ _ hst' fun h₂ tk₂ hk₂ => ?_
        obtain ⟨F₂, hn₂, N₂⟩ := step h₂ hk₂
        refine hR ys tups m' h₂ tk₂ hys (fun p hp => ?_) F₂ hn₂ N₂ offC
        have h2 := htup p hp
        rw [hC] at h2
        exact Nat.lt_of_succ_lt h2
    · rcases List.mem_cons.mp hp with rfl | hp
      · exact ⟨hacc, hDL, hD₀⟩
      · exact ⟨older _ _ (N p hp).1, (N p hp).2⟩
  refine codeAny_compStart_list (loop _ ?hR _ rfl) (wpAny_pyIter_zip (W.frame _ _ _ hst fun b _ o e => older b o e).1 (loop _ ?hR _ rfl))
  intro ys tups m' h₂ tk₂ hys htup F₂ hn₂ N₂ offC
  show wpAny _ A (assign (.Name y py) env (.ref s₁.heap.objs.size)) _ _ _
  refine wpAny_assign_Name (wpAny_storeName_local hy F₂.ns (fun h₃ hn₃ hs₃ => ?_) hp)
  have F₃ := F₂.set hn₃ hs₃
  refine ⟨m', hn₂.sameBut hs₃ hCL, fun h₄ hs₄ => ?_⟩
  exact fin _ ys tups h₄ _ (by rw [hnn]; exact hys) (fun p hp => Heap.lt_size (N p hp).1) (F₃.change hs₄ hCL hC₀) (fun p hp => ⟨hs₄.extBut _ _ (offC p hp) (hs₃.extBut _ _ (N₂ p hp).2.1 (N₂ p hp).1), (N₂ p hp).2⟩) htup
theorem zip_src {y : Str} {Q : Flow → Shared → Prop} {l1 l2 : Addr} {k1 k2 : Nat} {xs zs : List Value} {news : List (Addr × Obj)} (hh : A.handled = none) (F : Fr h₀ L s.heap m) (N : News h₀ L s.heap news)
    (h1 : (l1, W.listOf xs.toArray k1) ∈ news) (h2 : (l2, W.listOf zs.toArray k2) ∈ news) (hsz : min xs.length zs.length ≤ sizeLine) (fin : ∀ h', ZipFin h₀ L m y xs zs { s with heap := h' } Q news) :
    wpAny (model prog w) A (call (.type "zip") [.ref l1, .ref l2]) (ZipSrc A h₀ L m y Q) E s := by
  have hax1 := N _ h1
  have hax2 := N _ h2
  have hlt1 : l1 < s.heap.objs.size := Heap.lt_size hax1.1
  have hlt2 : l2 < s.heap.objs.size := Heap.lt_size hax2.1
  have hLs : L < s.heap.objs.size := F.ns.lt
  have hl1 : s.heap.IsList l1 xs.toArray := ⟨_, hax1.1, rfl, _, rfl⟩
  have hl2 : s.heap.IsList l2 zs.toArray := ⟨_, hax2.1, rfl, _, rfl⟩
  have D : ZipApart (s.heap.objs.size + 4) (s.heap.objs.size + 2) (s.heap.objs.size + 3) s.heap.objs.size (s.heap.objs.size + 1) l1 l2 := ktu_apart _ _ _ hlt1 hlt2
  refine call_zip_2 hl1 hl2 fun h' hz hTI hTO hi1 hi2 hs5 hk => ?_
  refine ⟨_, _, _, _, _, _, _, xs, zs, news, rfl, hh, D, ⟨hz, hTI, ⟨_, _, hTO⟩, hi1, hi2, hl1.at fun o e => hk _ _ e, hl2.at fun o e => hk _ _ e⟩, F.keeps hk, N.grown hk, ?_, ?_, ?_, hsz, fin h'⟩
  · intro b hb
    show b < h'.objs.size
    rw [hs5]
    have hb' : b = s.heap.objs.size + 4 ∨ b = s.heap.objs.size + 2 ∨ b = s.heap.objs.size + 3 ∨ b = s.heap.objs.size ∨ b = s.heap.objs.size + 1 ∨ b = l1 ∨ b = l2 := by simpa using hb
    rcases hb' with rfl | rfl | rfl | rfl | rfl | rfl | rfl
    · exact Nat.lt_succ_self _
    · exact Nat.add_lt_add_left (by decide) _
    · exact Nat.add_lt_add_left (by decide) _
    · exact Nat.lt_add_of_pos_right (by decide)
    · exact Nat.add_lt_add_left (by decide) _
    · exact Nat.lt_of_lt_of_le hlt1 (Nat.le_add_right _ _)
    · exact Nat.lt_of_lt_of_le hlt2 (Nat.le_add_right _ _)
  · intro b hb
    have hb' : b = s.heap.objs.size + 4 ∨ b = s.heap.objs.size + 3 ∨ b = s.heap.objs.size ∨ b = s.heap.objs.size + 1 := by simpa using hb
    have hge : s.heap.objs.size ≤ b := by
      rcases hb' with rfl | rfl | rfl | rfl
      · exact Nat.le_add_right _ _
      · exact Nat.le_add_right _ _
      · exact Nat.le_refl _
      · exact Nat.le_add_right _ _
    exact ⟨ktu_new F hge, Nat.ne_of_gt (Nat.lt_of_lt_of_le hLs hge)⟩
  · intro p hp hb
    have hb' : p.1 = s.heap.objs.size + 4 ∨ p.1 = s.heap.objs.size + 3 ∨ p.1 = s.heap.objs.size ∨ p.1 = s.heap.objs.size + 1 := by simpa using hb
    have hlp := Heap.lt_size (N p hp).1
    rcases hb' with e | e | e | e
    · exact ktu_ne 4 hlp e
    · exact ktu_ne 3 hlp e
    · exact Nat.ne_of_lt hlp e
    · exact ktu_ne 1 hlp e
/-- the element: a tuple of the two names -/
theorem elt_pair {scope : Scope} {cl : List (Str × Addr)} {C : Addr} {m₂ : Str → Option Value} {v₁ v₂ : Value} {x x₂ : Str} {p1 p2 pos : Pos} {k : Nat} {Q : Value → Shared → Prop} (hn : s.heap.Ns C m₂) (h1 : m₂ x = some v₁) (h2 : m₂ x₂ = some v₂)
    (hx : scope.names.lookup x = some .local) (hx₂ : scope.names.lookup x₂ = some .local) (hk : scope.kind = .function) (d1 : (x == ("__debug__" : Str)) = false) (d2 : (x₂ == ("__debug__" : Str)) = false) (h : ∀ tk', Q (.ref s.heap.objs.size) { s with heap := s.heap.push (tup2 v₁ v₂), toks := tk' }) :
    wpAny (model prog w) A (eval (.Tuple [.Name x p1, .Name x₂ p2] k pos) (compEnvC scope cl C env)) Q E s := by
  refine wpAny_Tuple ?_
  refine spliced_cons (wpAny_Name (wpAny_loadName_local (by simp [compEnvC, relabel, hk]) (lookup_relabel_local hx) hn h1 ?_) d1)
  refine spliced_cons (wpAny_Name (wpAny_loadName_local (by simp [compEnvC, relabel, hk]) (lookup_relabel_local hx₂) hn h2 ?_) d2)
  refine spliced_nil ⟨by simp [sizeLine_eq], h _⟩
end
end Mine
end
noncomputable section
open PySem PySem.W PyProof.Rows PySem.Calls PySem.Spec
set_option maxRecDepth 100000
set_option maxHeartbeats 2000000
namespace Mine
section
variable {prog : Program} {w : World} {A : Around} {h₀ : Heap} {L : Addr} {m : Str → Option Value} {env : Env} {elt : PySem.Expr} {x x₂ : Str} {scope : Scope} {cl : List (Str × Addr)} {s : Shared} {S : List (Addr × Obj) → Prop} {P : Nat → Value → Prop} {Fin : List Value → List (Addr × Obj) → Prop} {news : List (Addr × Obj)}
theorem compP_rest {n : Nat} (R : Nat → Value → Prop)
    (turn : ∀ i v, i < n → P i v → ∃ (t : Addr) (ot : Obj) (v₁ v₂ : Value) (nt : Nat), v = .ref t ∧ (t, ot) ∈ news ∧ ot.cls = .type "tuple" ∧ ot.data = .seq #[v₁, v₂] nt ∧
      ∀ I oI C oC D m₂ ys h tk (E' : Value → Shared → Prop), LCg.NsObj oC m₂ → m₂ x = some v₁ → m₂ x₂ = some v₂ → Fr h₀ L h m → News h₀ L h ((I, oI) :: (C, oC) :: (D, LCg.lst ys) :: news) → LCg.Off3 I C D news → ((@Ne Nat I C) ∧ (@Ne Nat I D) ∧ (@Ne Nat C D)) →
      wpAny (model prog w) A (eval elt (compEnvC scope cl C env)) (LCg.CompEnd h₀ L m { s with heap := h, toks := tk } I oI C oC D (LCg.lst ys) S (fun y news' => news' = news ∧ R i y)) E' { s with heap := h, toks := tk })
    (fin : ∀ ys : List Value, ys.length = n → (∀ i y, ys[i]? = some y → R i y) → Fin ys news) : LCp.CompRestP prog w A h₀ L m env elt x x₂ scope cl s S P Fin n 0 [] news := by
  have key : ∀ (j i : Nat) (ys : List Value), i + j = n → ys.length = i → (∀ i y, ys[i]? = some y → R i y) → LCp.CompRestP prog w A h₀ L m env elt x x₂ scope cl s S P Fin j i ys news := by
    intro j
    induction j with
    | zero =>
      intro i ys hi hl hy
      exact LCp.CompRestP.zero (fin ys (by omega) hy)
    | succ j ih =>
      intro i ys hi hl hy
      refine LCp.CompRestP.succ ?_
      intro v hv
      obtain ⟨t, ot, v₁, v₂, nt, e1, e2, e3, e4, k⟩ := turn i v (by omega) hv
      refine ⟨t, ot, v₁, v₂, nt, e1, e2, e3, e4, ?_⟩
      intro I oI C oC D m₂ h tk E' hC hx hx2 F N off ne
      refine wpAny_mono (k I oI C oC D m₂ ys h tk E' hC hx hx2 F N off ne) (fun y s₂ hq => ?_) fun _ _ e => e
      obtain ⟨h', tk', nw, e, F', N', off', hS, hn, hR⟩ := hq
      rw [hn] at N' off' hS
      refine ⟨h', tk', news, e, F', N', off', hS, ?_⟩
      refine ih (i + 1) _ (by omega) (by simp [hl]) ?_
      intro k z hk
      by_cases hlt : k < ys.length
      · rw [List.getElem?_append_left hlt] at hk; exact hy k z hk
      · rw [List.getElem?_append_right (by omega)] at hk
        have h0 : k - ys.length = 0 := by
          rcases Nat.eq_zero_or_pos (k - ys.length) with e | e
          · exact e
          · rw [List.getElem?_eq_none (by simp; omega)] at hk; cases hk
        rw [h0] at hk
        cases hk
        have : k = i := by omega
        rw [this]; exact hR
  exact key n 0 [] (by omega) rfl (fun i y h => by simp at h)
end
/-- a list of tuples of two ints -/
structure BoundsAre (led : List (Addr × Obj)) (ys : List Value) (bs : List (Int × Int)) : Prop where
  len : ys.length = bs.length
  at' : ∀ {j : Nat} {f b : Int}, bs[j]? = some (f, b) → ∃ t u1 u2, ys[j]? = some (.ref t) ∧ (t, tup2 (.int f u1) (.int b u2)) ∈ led
theorem intsAre_get : ∀ {vs : List Value} {ns : List Int}, IntsAre vs ns → ∀ {i : Nat} {x : Int}, ns[i]? = some x → ∃ t, vs[i]? = some (.int x t)
  | _, _, .nil, i, x, h => by simp at h
  | _, _, .cons n t r, 0, x, h => by
    have e : n = x := by simpa using h
    subst e
    exact ⟨t, rfl⟩
  | _, _, .cons n t r, i + 1, x, h => by
    obtain ⟨t', e⟩ := intsAre_get r (i := i) (x := x) (by simpa using h)
    exact ⟨t', by simpa using e⟩
theorem bounds_of {led : List (Addr × Obj)} {xs zs ys : List Value} {as bs : List Int} (hx : IntsAre xs as) (hz : IntsAre zs bs) (h : Pairs led xs zs ys (min xs.length zs.length)) : BoundsAre led ys (as.zip bs) where
  len := by rw [h.1, List.length_zip, hx.length, hz.length]
  at' := by
    intro j f b hj
    have h1 : as[j]? = some f ∧ bs[j]? = some b := by
      rw [List.getElem?_zip_eq_some] at hj
      exact hj
    obtain ⟨t1, e1⟩ := intsAre_get hx h1.1
    obtain ⟨t2, e2⟩ := intsAre_get hz h1.2
    have hj' : j < min xs.length zs.length := by
      have l1 := (List.getElem?_eq_some_iff.mp e1).1
      have l2 := (List.getElem?_eq_some_iff.mp e2).1
      omega
    obtain ⟨t, v₁, v₂, q1, q2, q3, q4⟩ := h.2 j hj'
    rw [e1] at q2
    rw [e2] at q3
    cases q2
    cases q3
    exact ⟨t, t1, t2, q1, q4⟩
theorem strsAre_of {α : Type} {f : α → Str} : ∀ {ys : List Value} {bs : List α}, ys.length = bs.length → (∀ (i : Nat) (y : Value), ys[i]? = some y → ∃ b t, bs[i]? = some b ∧ y = .str (f b) t) → StrsAre ys (bs.map f)
  | [], [], _, _ => .nil
  | [], _ :: _, h, _ => by simp at h
  | _ :: _, [], h, _ => by simp at h
  | y :: ys, b :: bs, h, k => by
    obtain ⟨b', t, e1, e2⟩ := k 0 y rfl
    have e3 : b = b' := by simpa using e1
    subst e3
    subst e2
    exact .cons _ _ (strsAre_of (by simpa using h) fun i z hz => by
      obtain ⟨c, t', q1, q2⟩ := k (i + 1) z (by simpa using hz)
      exact ⟨c, t', by simpa using q1, q2⟩)
theorem intsAre_of : ∀ {ys : List Value} {bs : List Int}, ys.length = bs.length → (∀ (i : Nat) (y : Value), ys[i]? = some y → ∃ b t, bs[i]? = some b ∧ y = .int b t) → IntsAre ys bs
  | [], [], _, _ => .nil
  | [], _ :: _, h, _ => by simp at h
  | _ :: _, [], h, _ => by simp at h
  | y :: ys, b :: bs, h, k => by
    obtain ⟨b', t, e1, e2⟩ := k 0 y rfl
    have e3 : b = b' := by simpa using e1
    subst e3
    subst e2
    exact .cons _ _ (intsAre_of (by simpa using h) fun i z hz => by
      obtain ⟨c, t', q1, q2⟩ := k (i + 1) z (by simpa using hz)
      exact ⟨c, t', by simpa using q1, q2⟩)
theorem strsAre_snoc : ∀ {vs : List Value} {xs : List Str}, StrsAre vs xs → ∀ (x : Str) (t : Tok), StrsAre (vs ++ [.str x t]) (xs ++ [x])
  | _, _, .nil, x, t => .cons x t .nil
  | _, _, .cons n u r, x, t => .cons n u (strsAre_snoc r x t)
theorem intsAre_snoc : ∀ {vs : List Value} {ns : List Int}, IntsAre vs ns → ∀ (x : Int) (t : Tok), IntsAre (vs ++ [.int x t]) (ns ++ [x])
  | _, _, .nil, x, t => .cons x t .nil
  | _, _, .cons n u r, x, t => .cons n u (intsAre_snoc r x t)
end Mine
end
noncomputable section
open PySem PySem.W PyProof.Rows PySem.Calls PySem.Spec
set_option maxRecDepth 100000
set_option maxHeartbeats 2000000
namespace Mine
section
variable {prog : Program} {w : World} {A : Around} {E : Value → Shared → Prop} {s : Shared} {h₀ : Heap} {L : Addr} {m : Str → Option Value} {env : Env}
theorem strItemI {value slice : PySem.Expr} {x : Str} {t u : Tok} {idx : Int} {pl c : Nat} {Q : Value → Shared → Prop} (hi : idx = (pl : Nat)) (hc : x.cps[pl]? = some c) (hz : x.length < 2 ^ 60) (h : ∀ t' tk, Q (.str ⟨#[c]⟩ t') { s with toks := tk })
    (hs : subscripted slice false (.str x t) (.int idx u) = operate [.str x t, .int idx u] (getItem (.str x t) (.int idx u)) := by with_unfolding_all rfl)
    (ht : ∀ r, letTemporaryGo value (.str x t) r = pure () := by intro _; with_unfolding_all rfl) :
    wpAny (model prog w) A (subscriptTail value slice (.str x t) (.int idx u)) Q E s := by
  subst hi
  exact strItemK hc hz h hs ht
theorem strItemT {value slice : PySem.Expr} {x : Str} {t u : Tok} {idx : Int} {pl c : Nat} {Q : Value → Shared → Prop} (hi : idx = (pl : Nat)) (hc : x.cps[pl]? = some c) (hz : x.length < 2 ^ 60) (h : Q (.str ⟨#[c]⟩ s.toks) { s with toks := s.toks + 1 })
    (hs : subscripted slice false (.str x t) (.int idx u) = operate [.str x t, .int idx u] (getItem (.str x t) (.int idx u)) := by with_unfolding_all rfl)
    (ht : ∀ r, letTemporaryGo value (.str x t) r = pure () := by intro _; with_unfolding_all rfl) :
    wpAny (model prog w) A (subscriptTail value slice (.str x t) (.int idx u)) Q E s := by
  subst hi
  have hlt : pl < x.length := (Array.getElem?_eq_some_iff.mp hc).1
  have h1 : fitsSsize (pl : Int) = true := by
    unfold fitsSsize
    rw [decide_eq_false (by omega), decide_eq_false (by omega)]; rfl
  have h2 : Txt.item x (pl : Int) = ⟨#[c]⟩ := item_meets (by omega) (n := c) (by simpa using hc)
  have h3 : (1 ≤ (Txt.item x (pl : Int)).length ∧ (Txt.item x (pl : Int)).length ≤ 1) → Q (.str (Txt.item x (pl : Int)) s.toks) { s with toks := s.toks + 1 } := fun _ => by rw [h2]; exact h
  exact item_str (value := value) (i := (pl : Int)) h1 (by omega) (by omega) h3 hs ht
theorem replaceT {x y z : Str} {t u v : Tok} {Q : Value → Shared → Prop} (hn : 1 ≤ s.toks) (hu : u ≠ 0) (hv : v ≠ 0) (huv : u ≠ v) (hyz : (y == z) = false) (hx : x.length ≤ 1048576) (hz : z.length ≤ 14)
    (hq : ∀ t' k, 1 ≤ k → Q (.str (Txt.replace x y z) t') { s with toks := k }) : wpAny (model prog w) A (call (.builtin "str.replace") [.str x t, .str y u, .str z v]) Q E s :=
  wpAny_with_toks (n := 1) hn (SC.replaceW hu hv huv hyz hx hz fun t' k hk => hq t' k hk)
theorem itemRowI {value slice : PySem.Expr} {l : Addr} {vs : List Value} {k : Nat} {idx : Int} {pl : Nat} {u : Tok} {v : Value} {news : List (Addr × Obj)} {Q : Value → Shared → Prop} (hi : idx = (pl : Nat)) (N : News h₀ L s.heap news) (hl : (l, W.listOf vs.toArray k) ∈ news) (hz : vs.length ≤ 400)
    (hx : vs[pl]? = some v) (h : Q v s)
    (hs : subscripted slice false (.ref l) (.int idx u) = operate [.ref l, .int idx u] (getItem (.ref l) (.int idx u)) := by with_unfolding_all rfl) :
    wpAny (model prog w) A (subscriptTail value slice (.ref l) (.int idx u)) Q E s := by
  subst hi
  exact itemRow N hl hz hx h hs
def PairIn (t : Addr) (v₁ v₂ : Value) (led : List (Addr × Obj)) : Prop := (t, tup2 v₁ v₂) ∈ led
/-- an item of a tuple of two -/
theorem itemPair {value slice : PySem.Expr} {t : Addr} {v₁ v₂ v : Value} {idx : Int} {pl : Nat} {u : Tok} {news : List (Addr × Obj)} {Q : Value → Shared → Prop} (hi : idx = (pl : Nat)) (N : News h₀ L s.heap news) (hl : PairIn t v₁ v₂ news)
    (hx : [v₁, v₂][pl]? = some v) (h : Q v s)
    (hs : subscripted slice false (.ref t) (.int idx u) = operate [.ref t, .int idx u] (getItem (.ref t) (.int idx u)) := by with_unfolding_all rfl) :
    wpAny (model prog w) A (subscriptTail value slice (.ref t) (.int idx u)) Q E s := by
  subst hi
  have ht : s.heap.IsTuple t #[v₁, v₂] := ⟨_, (N _ hl).1, rfl, _, rfl⟩
  have hlt : pl < 2 := (List.getElem?_eq_some_iff.mp hx).1
  exact tail_any ht.typeIs F.slot_tuple_getitem.lookup (getItem_tuple ht (by omega) (by omega) (seqIndex_of (by omega) (by simp; omega)) (x := v) (by simpa using hx) h) hs
/-- a comprehension over any walk whose iterator is one object -/
def SrcW (prog : Program) (w : World) (A : Around) (h₀ : Heap) (L : Addr) (m : Str → Option Value) (env : Env) (elt : PySem.Expr) (x : Str) (scope : Scope) (cl : List (Str × Addr)) (Fin : Shared → List Value → List (Addr × Obj) → Prop) (it : Value) (s₂ : Shared) : Prop :=
  ∃ (I : Addr) (n : Nat) (P : Nat → Value → Prop) (St : Nat → Heap → Prop) (news : List (Addr × Obj)), it = .ref I ∧ Walks prog w A I [I] [I] n P St ∧ n ≤ sizeLine ∧ (∀ i h, St i h → ∃ o, h.get? I = some o) ∧ St 0 s₂.heap ∧
    Fr h₀ L s₂.heap m ∧ News h₀ L s₂.heap news ∧ I ≠ L ∧ h₀.get? I = none ∧ (∀ p ∈ news, p.1 ≠ I) ∧ LCg.CompRest prog w A h₀ L m env elt x scope cl s₂ (fun _ => True) P (Fin s₂) n 0 [] news
theorem ListComp_W {elt iter : PySem.Expr} {x : Str} {px : Pos} {scope : Scope} {cl : List (Str × Addr)} {pos : Pos} {Q : Value → Shared → Prop} (_F₀ : Fr h₀ L s.heap m)
    (hclos : closureFor scope env = pure cl) (hcell : ∀ y ∈ scope.names, y.2 ≠ .cell) (hkind : scope.kind = .function)
    (hnames : ∀ y ∈ scope.names, y.2 = .local → scope.names.lookup y.1 = some .local) (hx : scope.names.lookup x = some .local)
    (h : wpAny (model prog w) A (eval iter env) (fun xv s₁ => wpAny (model prog w) A (pyIter xv) (SrcW prog w A h₀ L m env elt x scope cl (fun s₂ => LCg.FinE h₀ L m s₂ Q)) E s₁) E s)
    (hs : ∀ x, foldedSetIterable iter env x = pure x := by intro _; rfl) :
    wpAny (model prog w) A (eval (.ListComp elt [⟨.Name x px, iter, [], 0⟩] scope pos) env) Q E s := by
  rw [eval_ListComp]
  refine wpAny_comprehension_free (use := none) rfl hs hclos hkind hnames (wpAny_mono h (fun xv s₁ h₁ => wpAny_mono h₁ (fun it s₂ h₂ => ?_) fun _ _ e => e) fun _ _ e => e)
  obtain ⟨I, n, P, St, news, rfl, W, hsz, hIo, hst, F, N, hIL, hI₀, off, R⟩ := h₂
  refine LCg.block_U W hsz hIo (fun i h h' o nw st e e' _ _ _ => W.frame i h h' st fun b hb o' eo => ?_) hcell hkind hx hst (fun b hb => ?_) F N hIL.symm hI₀ off trivial R ?_
  · rw [List.mem_singleton.mp hb] at eo ⊢
    rw [e] at eo
    rw [e', ← eo]
  · rw [List.mem_singleton.mp hb]
    obtain ⟨o, e⟩ := hIo _ _ hst
    exact Heap.lt_size e
  · intro D C h tk m' ys news' F' N' o1 hn hC₀ hD₀ hCL hDL hCD offC fin
    refine ⟨m', hn, fun h'' hs'' => fin D h'' tk (F'.change hs'' hCL hC₀) (fun p hp => ?_) o1⟩
    refine ⟨hs''.extBut _ _ ?_ (N' p hp).1, (N' p hp).2⟩
    rcases List.mem_cons.mp hp with rfl | hp
    · exact Ne.symm hCD
    · exact offC p hp
theorem src_str {elt : PySem.Expr} {x : Str} {scope : Scope} {cl : List (Str × Addr)} {Fin : Shared → List Value → List (Addr × Obj) → Prop} {t : Str} {u : Tok} {news : List (Addr × Obj)} (hh : A.handled = none) (F : Fr h₀ L s.heap m) (N : News h₀ L s.heap news) (hsz : t.cps.size ≤ sizeLine)
    (h : ∀ g, LCg.CompRest prog w A h₀ L m env elt x scope cl { s with heap := g } (fun _ => True) (SignAt t) (Fin { s with heap := g }) t.cps.size 0 [] news) :
    wpAny (model prog w) A (pyIter (.str t u)) (SrcW prog w A h₀ L m env elt x scope cl Fin) E s := by
  have go : ∀ (o : Obj) (St : Nat → Heap → Prop), (∀ i h, St i h → ∃ o, h.get? s.heap.objs.size = some o) → Walks prog w A s.heap.objs.size [s.heap.objs.size] [s.heap.objs.size] t.cps.size (SignAt t) St → St 0 (s.heap.push o) →
      SrcW prog w A h₀ L m env elt x scope cl Fin (.ref s.heap.objs.size) { s with heap := s.heap.push o } := fun o St hlive W st =>
    ⟨_, _, _, _, news, rfl, W, hsz, hlive, st, F.push _, N.grown (fun _ _ e => Heap.get?_push_of_some _ e), Nat.ne_of_gt F.ns.lt, not_base F, led_lt N, h _⟩
  cases ha : t.cps.all (· < 128)
  · exact wpAny_pyIter_wide ha (go _ _ (fun i h st => let ⟨o, ho, _⟩ := st; ⟨o, ho⟩) (Walks.strWide hh _ t u) ⟨_, Heap.get?_push_size _ rfl, rfl, rfl⟩)
  · exact wpAny_pyIter_ascii ha (go _ _ (fun i h st => let ⟨o, ho, _⟩ := st; ⟨o, ho⟩) (Walks.strAscii hh _ t u) ⟨_, Heap.get?_push_size _ rfl, rfl, rfl⟩)
theorem src_bytes {elt : PySem.Expr} {x : Str} {scope : Scope} {cl : List (Str × Addr)} {Fin : Shared → List Value → List (Addr × Obj) → Prop} {b : Array UInt8} {u : Tok} {news : List (Addr × Obj)} (hh : A.handled = none) (F : Fr h₀ L s.heap m) (N : News h₀ L s.heap news) (hsz : b.size ≤ sizeLine)
    (h : ∀ g, LCg.CompRest prog w A h₀ L m env elt x scope cl { s with heap := g } (fun _ => True) (fun i v => ∃ c t, b[i]? = some c ∧ v = .int (c.toNat : Int) t) (Fin { s with heap := g }) b.size 0 [] news) :
    wpAny (model prog w) A (pyIter (.bytes b u)) (SrcW prog w A h₀ L m env elt x scope cl Fin) E s := by
  refine KBw.pyIter_bytes ?_
  exact ⟨_, _, _, _, news, rfl, KBw.walks hh _ b u, hsz, fun i h st => let ⟨o, ho, _⟩ := st; ⟨o, ho⟩, ⟨_, Heap.get?_push_size _ rfl, rfl, rfl⟩, F.push _, N.grown (fun _ _ e => Heap.get?_push_of_some _ e), Nat.ne_of_gt F.ns.lt, not_base F, led_lt N, h _⟩
end
/-- a list of texts of one sign each, or of any, from its places -/
theorem encOut_len (ds : List Int) : (encOut ds).length ≤ 2 * ds.length + 4 := by
  have h1 : ∀ (l : List Int) (st : List Int × Nat × Int), (l.foldl encStep st).1.length ≤ st.1.length + 2 * l.length := by
    intro l
    induction l with
    | nil => intro st; simp
    | cons b l ih =>
      intro st
      have h2 : (encStep st b).1.length ≤ st.1.length + 2 := by
        unfold encStep
        split <;> simp
      have h3 := ih (encStep st b)
      simp only [List.foldl_cons, List.length_cons]
      omega
  have h4 := h1 ds ([], 0, 0)
  have h5 : ∀ r v, (encTail r v).length ≤ 4 := by
    intro r v
    unfold encTail
    split
    · exact Nat.zero_le _
    · split
      · exact (show 3 ≤ 4 by decide)
      · exact (show 2 ≤ 4 by decide)
  unfold encOut
  rw [List.length_append, List.length_map]
  have h6 := h5 (encFold ds).2.1 (encFold ds).2.2
  unfold encFold at h6 ⊢
  simp only [List.length_nil] at h4
  omega
end Mine
end
noncomputable section
open PySem PySem.W PyProof.Rows PySem.Calls
set_option maxRecDepth 100000
namespace Mine
/-- how a turn ends, when the generators may have grown -/
def TurnEndG (h₀ : Heap) (L : Addr) (Jn : (Str → Option Value) → List (Addr × Obj) → Prop) (I : Addr) (oI : Obj) (s₁ : Shared) (Q : Flow → Shared → Prop) (f : Flow) (s₂ : Shared) : Prop :=
  match f with
  | .ret v => Q (.ret v) s₂
  | .brk => Q .next s₂
  | _ => ∃ h' tk gs m₂ news₂, s₂ = { s₁ with heap := h', toks := tk, gens := gs } ∧ AllBare gs ∧ Fr h₀ L h' m₂ ∧ News h₀ L h' ((I, oI) :: news₂) ∧ (∀ p ∈ news₂, p.1 ≠ I) ∧ Jn m₂ news₂
theorem TurnEndG.go {h₀ : Heap} {L : Addr} {Jn : (Str → Option Value) → List (Addr × Obj) → Prop} {I : Addr} {oI : Obj} {s₁ : Shared} {Q : Flow → Shared → Prop} {h' : Heap} {tk : Nat} {gs} {m₂ : Str → Option Value} {ledger news₂ : List (Addr × Obj)}
    (hb : AllBare gs) (F : Fr h₀ L h' m₂) (N : News h₀ L h' ledger) (hI : (I, oI) ∈ ledger) (hsub : ∀ p ∈ news₂, p ∈ ledger) (hne : ∀ p ∈ news₂, p.1 ≠ I) (hj : Jn m₂ news₂) :
    TurnEndG h₀ L Jn I oI s₁ Q .next { s₁ with heap := h', toks := tk, gens := gs } :=
  ⟨h', tk, gs, m₂, news₂, rfl, hb, F, fun p hp => N p (by rcases List.mem_cons.mp hp with rfl | hp; exact hI; exact hsub p hp), hne, hj⟩
section
variable {prog : Program} {w : World} {A : Around} {E : Value → Shared → Prop} {s : Shared} {env : Env} {h₀ : Heap} {x : Str} {body : List Stmt} {Q : Flow → Shared → Prop} {n₀ : Nat}
inductive LoopG (prog : Program) (w : World) (A : Around) (h₀ : Heap) (env : Env) (x : Str) (body : List Stmt) (Q : Flow → Shared → Prop) (n₀ : Nat) (it : Value) (s₂ : Shared) : Prop
  | mk (I : Addr) (fp : List Addr) (n : Nat) (P : Nat → Value → Prop) (St : Nat → Heap → Prop) (m : Str → Option Value) (news : List (Addr × Obj)) (oI : Obj) (J : Nat → (Str → Option Value) → List (Addr × Obj) → Prop)
    (h1 : it = .ref I) (h2 : Walks prog w A I fp [I] n P St) (h3 : ∀ i h, St i h → ∃ o, h.get? I = some o) (h4 : St 0 s₂.heap) (h5 : ∀ i h h' oI i₂ m₂ news₂, St i h → h.get? I = some oI → News h₀ env.locals h' ((I, oI) :: news₂) → J i₂ m₂ news₂ → St i h')
    (h6 : Fr h₀ env.locals s₂.heap m) (h7 : News h₀ env.locals s₂.heap ((I, oI) :: news)) (h8 : ∀ p ∈ news, p.1 ≠ I) (h9 : J 0 m news) (h10 : AllBare s₂.gens) (h11 : n₀ ≤ s₂.toks)
    (h12 : ∀ i v m₁ news₁ h tk gs oI, i < n → P i v → J i m₁ news₁ → (∀ p ∈ news₁, p.1 ≠ I) → n₀ ≤ tk → AllBare gs → Fr h₀ env.locals h (fun y => if y = x then some v else m₁ y) → News h₀ env.locals h ((I, oI) :: news₁) →
      wpC (model prog w) A (execs body env) (TurnEndG h₀ env.locals (J (i + 1)) I oI { s₂ with heap := h, toks := tk, gens := gs } Q) (fun _ _ => False) { s₂ with heap := h, toks := tk, gens := gs })
    (h13 : ∀ m₁ news₁ h tk gs, J n m₁ news₁ → n₀ ≤ tk → AllBare gs → Fr h₀ env.locals h m₁ → News h₀ env.locals h news₁ → Q .next { s₂ with heap := h, toks := tk, gens := gs }) :
    LoopG prog w A h₀ env x body Q n₀ it s₂
inductive InvG (h₀ : Heap) (L : Addr) (I : Addr) (St : Nat → Heap → Prop) (J : Nat → (Str → Option Value) → List (Addr × Obj) → Prop) (n₀ n : Nat) (s₂ : Shared) (k : Nat) (s' : Shared) : Prop
  | mk (h' : Heap) (tk : Nat) (gs : Array GenState) (m' : Str → Option Value) (news' : List (Addr × Obj)) (oI : Obj) (i : Nat) (h1 : s' = { s₂ with heap := h', toks := tk, gens := gs }) (h2 : n₀ ≤ tk) (h3 : AllBare gs) (h4 : St i h') (h5 : Fr h₀ L h' m') (h6 : News h₀ L h' ((I, oI) :: news'))
    (h7 : ∀ p ∈ news', p.1 ≠ I) (h8 : J i m' news') (h9 : i ≤ n) (h10 : k = n + 1 - i) : InvG h₀ L I St J n₀ n s₂ k s'
theorem wpC_For_G {px pos : Pos} {iter : PySem.Expr} (n₀ : Nat) (hx : env.kindOf x = some .local) (hp : (env.scope.kind == .class || (env.scope.kind == .module && env.locals != env.globals)) = false)
    (h : wpAny (model prog w) A (eval iter env) (fun xv s₁ => wpAny (model prog w) A (pyIter xv) (fun it s₂ => LoopG prog w A h₀ env x body Q n₀ it s₂) E s₁) E s)
    (hs : ∀ x, foldedSetIterable iter env x = pure x := by intro _; rfl) :
    wpC (model prog w) A (exec (.For (.Name x px) iter body [] pos) env) Q E s := by
  refine wpC_For (wpAny_mono h (fun xv s₁ h₁ => wpAny_mono h₁ (fun it s₂ h₂ => ?_) fun _ _ e => e) fun _ _ e => e) hs
  obtain ⟨I, fp, n, P, St, m, news, oI, J, rfl, W, hlive, hst, hkeep, F, N, hne, hj, hb0, ht0, step, hQ⟩ := h₂
  refine codeC_forLoop
    (InvG h₀ env.locals I St J n₀ n s₂) ?_ (n + 1)
    ⟨s₂.heap, s₂.toks, s₂.gens, m, news, oI, 0, rfl, ht0, hb0, hst, F, N, hne, hj, Nat.zero_le _, rfl⟩
  rintro k s' ⟨h', tk, gs, m', news', oI', i, rfl, htk, hb, hst', F', N', hne', hJ, hi, rfl⟩
  have hLI : env.locals ≠ I := Ne.symm (N' _ (.head _)).2.1
  have hI₀ := (N' _ (.head _)).2.2
  have next : ∀ h₁ : Heap, (∀ b o, b ∉ [I] → h'.get? b = some o → h₁.get? b = some o) → Fr h₀ env.locals h₁ m' ∧ News h₀ env.locals h₁ news' := fun h₁ hk₁ =>
    ⟨LCg.fr_but F' hk₁ hLI hI₀, fun p hp => ⟨hk₁ _ _ (by simpa using hne' p hp) (N' p (.tail _ hp)).1, (N' p (.tail _ hp)).2⟩⟩
  refine wpAny_with_toks (n := n₀) htk ?_
  by_cases hlt : i < n
  · refine W.item i _ _ _ hlt hst' fun v h₁ tk₁ hP hst₁ hk₁ => ?_
    intro htk₁
    dsimp only at htk₁
    obtain ⟨F₁, N₁⟩ := next h₁ hk₁
    refine wpAny_assign_Name (wpAny_storeName_local hx F₁.ns (fun h₂ hn₂ hs₂ => ?_) hp)
    have F₂ := F₁.set hn₂ hs₂
    obtain ⟨o₁, ho₁⟩ := hlive _ _ hst₁
    have ho₂ : h₂.get? I = some o₁ := hs₂.extBut _ _ (Ne.symm hLI) ho₁
    have N₂ : News h₀ env.locals h₂ ((I, o₁) :: news') := fun p hp => by
      rcases List.mem_cons.mp hp with rfl | hp
      · exact ⟨ho₂, Ne.symm hLI, hI₀⟩
      · exact N₁.set hs₂ p hp
    have htk₂ : n₀ ≤ tk₁ + 1 := Nat.le_succ_of_le htk₁
    refine wpC_with_toks (n := n₀) htk₂ ((step i v m' news' h₂ _ gs o₁ hlt hP hJ hne' htk₂ hb F₂ N₂).mono (fun f s₃ h₃ => ?_) fun _ _ e => e.elim)
    intro htk₃
    have N₁' : News h₀ env.locals h₁ ((I, o₁) :: news') := fun p hp => by
      rcases List.mem_cons.mp hp with rfl | hp
      · exact ⟨ho₁, Ne.symm hLI, hI₀⟩
      · exact N₁ p hp
    have fin : ∀ s₃ : Shared, n₀ ≤ s₃.toks → (∃ h' tk gs' m₂ news₂, s₃ = { ({ s₂ with heap := h₂, toks := tk₁ + 1, gens := gs } : Shared) with heap := h', toks := tk, gens := gs' } ∧ AllBare gs' ∧ Fr h₀ env.locals h' m₂ ∧ News h₀ env.locals h' ((I, o₁) :: news₂) ∧ (∀ p ∈ news₂, p.1 ≠ I) ∧ J (i + 1) m₂ news₂) →
        ∃ k', k' < n + 1 - i ∧ InvG h₀ env.locals I St J n₀ n s₂ k' s₃ := by
      rintro s₃ ht₃ ⟨h₃', tk₃, gs₃, m₂, news₂, rfl, hb₃, F₃, N₃, ha₃, hJ₃⟩
      exact ⟨n + 1 - (i + 1), by omega, h₃', tk₃, gs₃, m₂, news₂, o₁, i + 1, rfl, ht₃, hb₃, hkeep _ _ _ _ _ _ _ hst₁ ho₁ N₃ hJ₃, F₃, N₃, ha₃, hJ₃, hlt, rfl⟩
    cases f with
    | ret v => exact h₃
    | brk => exact h₃
    | cont => exact fin _ htk₃ h₃
    | next => exact fin _ htk₃ h₃
  · have hin : i = n := by omega
    subst hin
    refine W.done _ _ _ hst' fun h₁ tk₁ hk₁ => ?_
    intro htk₁
    obtain ⟨F₁, N₁⟩ := next h₁ hk₁
    exact hQ m' news' h₁ tk₁ gs hJ htk₁ hb F₁ N₁
theorem wpC_For_GB {px pos : Pos} {iter : PySem.Expr} {n₀ : Nat} (hn : n₀ ≤ s.toks) (hx : env.kindOf x = some .local) (hp : (env.scope.kind == .class || (env.scope.kind == .module && env.locals != env.globals)) = false)
    (h : wpAny (model prog w) A (eval iter env) (fun xv s₁ => Bar (n₀ ≤ s₁.toks → wpAny (model prog w) A (pyIter xv) (fun it s₂ => LoopG prog w A h₀ env x body Q n₀ it s₂) E s₁)) E s)
    (hs : ∀ x, foldedSetIterable iter env x = pure x := by intro _; rfl) :
    wpC (model prog w) A (exec (.For (.Name x px) iter body [] pos) env) Q E s :=
  wpC_For_G n₀ hx hp (wpAny_mono (wpAny_toks_of hn h) (fun _ _ x => x.2 x.1) fun _ _ x => x.2) hs
theorem iter_rangeG {r : Addr} {a b c : Int} {t u v : Tok} {n : Nat} {m₀ : Str → Option Value} {news : List (Addr × Obj)} (J : Nat → (Str → Option Value) → List (Addr × Obj) → Prop)
    (hh : A.handled = none) (hr : IsRange s.heap r a b c t u v) (hsmall : Builtin.Range.small a b c = true) (hn : Builtin.Range.rangeSize a b c = (n : Int)) (F : Fr h₀ env.locals s.heap m₀) (N : News h₀ env.locals s.heap news) (hj : J 0 m₀ news) (hb : AllBare s.gens) (ht : n₀ ≤ s.toks)
    (turn : ∀ i t' m₁ news₁ h tk gs I oI, i < n → J i m₁ news₁ → (∀ p ∈ news₁, p.1 ≠ I) → n₀ ≤ tk → AllBare gs → Fr h₀ env.locals h (fun y => if y = x then some (.int (a + (i : Nat) * c) t') else m₁ y) → News h₀ env.locals h ((I, oI) :: news₁) →
      wpC (model prog w) A (execs body env) (TurnEndG h₀ env.locals (J (i + 1)) I oI { s with heap := h, toks := tk, gens := gs } Q) (fun _ _ => False) { s with heap := h, toks := tk, gens := gs })
    (done : ∀ m₁ news₁ h tk gs, J n m₁ news₁ → n₀ ≤ tk → AllBare gs → Fr h₀ env.locals h m₁ → News h₀ env.locals h news₁ → Q .next { s with heap := h, toks := tk, gens := gs }) :
    wpAny (model prog w) A (pyIter (.ref r)) (fun it s₂ => LoopG prog w A h₀ env x body Q n₀ it s₂) E s := by
  refine wpAny_pyIter_range hr hsmall ?_
  refine ⟨s.heap.objs.size, _, n, _, _, m₀, news, { cls := .type "range_iterator", data := .fields #[rawInt a, rawInt (Builtin.Range.rangeSize a b c), rawInt c] }, J, rfl, Walks.range hh _ a c n, ?_, ?_, ?_, F.push _, ?_, led_lt N, hj, hb, ht, ?_, ?_⟩
  · intro i h st; exact ⟨_, st⟩
  · show IsRangeIter _ _ _ _ _
    rw [hn]; simpa using Heap.get?_push_size _ rfl
  · intro i h h' oI i₂ m₂ news₂ st hoI N' hJ
    have st' : h.get? s.heap.objs.size = some _ := st
    rw [hoI] at st'
    have h1 := (N' _ (.head _)).1
    dsimp only at h1
    show h'.get? s.heap.objs.size = some _
    rw [h1, st']
  · intro p hp
    rcases List.mem_cons.mp hp with rfl | hp
    · exact ⟨Heap.get?_push_size _ rfl, Ne.symm (Nat.ne_of_lt F.ns.lt), not_base F⟩
    · exact ⟨Heap.get?_push_of_some _ (N p hp).1, (N p hp).2⟩
  · rintro i v' m₁ news₁ h tk gs oI hi ⟨t', rfl⟩ hJ hne' htk hb' F' N'
    exact turn i t' m₁ news₁ h tk gs _ oI hi hJ hne' htk hb' F' N'
  · intro m₁ news₁ h tk gs hJ htk hb' F' N'
    exact done m₁ news₁ h tk gs hJ htk hb' F' N'
theorem wpC_callWith_fn1 {M : Model} {pos pos' : Pos} {a : Addr} {o : Obj} {fd : FuncData} {e : PySem.Expr} {Q : Value → Shared → Prop}
    (hse : backTo pos' (starEach [e] env) = [(false, eval e env)])
    (h : wpAny M A (eval e env) (fun v s₁ => (s₁.heap.get? a = some o ∧ o.data = .func fd) ∧ wpC M A (call (.ref a) [v]) Q E s₁) E s) :
    wpC M A (callWith pos (.ref a) [] (backTo pos' (starEach [e] env)) (backToKw pos' (keywordEach [] env))) Q E s := by
  rw [hse]
  exact wpC_callWith_function (Calls.evalArgs_plain (Calls.spliced_cons (wpAny_mono h (fun v s₁ h₁ => Calls.spliced_nil h₁) fun _ _ e => e)))
theorem wpC_callWith_fnK {M : Model} {pos pos' : Pos} {a L : Addr} {o : Obj} {fd : FuncData} {e : PySem.Expr} {Q : Value → Shared → Prop}
    (hse : backTo pos' (starEach [e] env) = [(false, eval e env)]) (ho : h₀.get? a = some o) (hd : o.data = .func fd)
    (h : wpAny M A (eval e env) (fun v s₁ => (∃ m, Fr h₀ L s₁.heap m) ∧ wpC M A (call (.ref a) [v]) Q E s₁) E s) :
    wpC M A (callWith pos (.ref a) [] (backTo pos' (starEach [e] env)) (backToKw pos' (keywordEach [] env))) Q E s :=
  wpC_callWith_fn1 hse (wpAny_mono h (fun _ _ x => ⟨⟨x.1.elim fun _ F => F.keep _ _ ho, hd⟩, x.2⟩) fun _ _ e => e)
/-- behind a constant's assignment the tokens are above 0 -/
theorem const_bar {M : Model} {px cp pos : Pos} {v : Str} {k : Nat} (h : wpAny M A (storeName env x (.str v s.toks)) (fun _ s' => Bar (1 ≤ s'.toks → Q .next s')) E { s with toks := s.toks + 1 })
    (hs : swapsWith (.Constant (.str v) k cp) (some (.Name x px)) pos.line env = pure false := by rfl) :
    wpAny M A (exec (.Assign [.Name x px] (.Constant (.str v) k cp) pos) env) Q E s :=
  wpAny_Assign_Name (Calls.Constant_str (wpAny_mono (wpAny_toks_of (n := 1) (Nat.le_add_left _ _) h) (fun _ _ x => x.2 x.1) fun _ _ x => x.2)) hs
end
end Mine
end
noncomputable section
open PySem PySem.W PyProof.Rows PySem.NumText PySem.Builtin PySem.Builtin.Str
namespace Mine
/-- replacing on lists of codes, from the left -/
noncomputable def repF (y z : List Nat) : Nat → List Nat → List Nat
  | 0, _ => []
  | n + 1, l => match l with
    | [] => []
    | c :: r => if (c :: r).take y.length = y then z ++ repF y z n (r.drop (y.length - 1)) else c :: repF y z n r
def rep (y z l : List Nat) : List Nat := repF y z l.length l
theorem repF_fuel {y z : List Nat} (n : Nat) : ∀ (m : Nat) (l : List Nat), l.length ≤ n → l.length ≤ m → repF y z n l = repF y z m l := by
  induction n with
  | zero =>
    intro m l h _
    cases l with
    | nil => cases m <;> rfl
    | cons c r => exact absurd h (Nat.not_succ_le_zero _)
  | succ n ih =>
    intro m l h h2
    cases l with
    | nil => cases m <;> rfl
    | cons c r =>
      cases m with
      | zero => exact absurd h2 (Nat.not_succ_le_zero _)
      | succ m =>
        have h := Nat.le_of_succ_le_succ h
        have h2 := Nat.le_of_succ_le_succ h2
        show (if _ then _ else _) = (if _ then _ else _)
        rw [ih m (r.drop (y.length - 1)) (Nat.le_trans (drop_le6 r _) h) (Nat.le_trans (drop_le6 r _) h2), ih m r h h2]
theorem rep_nil {y z : List Nat} : rep y z [] = [] := rfl
theorem rep_cons {y z : List Nat} (c : Nat) (r : List Nat) : rep y z (c :: r) = if (c :: r).take y.length = y then z ++ rep y z (r.drop (y.length - 1)) else c :: rep y z r := by
  unfold rep
  rw [repF_fuel (r.drop (y.length - 1)).length r.length _ (Nat.le_refl _) (drop_le6 r _)]
  rfl
theorem rep_hit {y z l : List Nat} (hy : 1 ≤ y.length) (h : l.take y.length = y) : rep y z l = z ++ rep y z (l.drop y.length) := by
  cases l with
  | nil => have := congrArg List.length h; simp at this; omega
  | cons c r =>
    rw [rep_cons, if_pos h]
    obtain ⟨k, hk⟩ : ∃ k, y.length = k + 1 := ⟨y.length - 1, by omega⟩
    rw [hk]; rfl
theorem rep_miss {y z l : List Nat} {c : Nat} (h : (c :: l).take y.length ≠ y) : rep y z (c :: l) = c :: rep y z l := by rw [rep_cons, if_neg h]
theorem rep_free {y z l : List Nat} {n : Nat} : ∀ {k a : Nat}, n = l.length → a + k ≤ n → (∀ i, a ≤ i → i < a + k → (l.drop i).take y.length ≠ y) → rep y z (l.drop a) = (l.drop a).take k ++ rep y z (l.drop (a + k))
  | 0, a, _, _, _ => by simp
  | k + 1, a, hn, ha, h => by
    have e : l.drop a = l[a]'(by omega) :: l.drop (a + 1) := List.drop_eq_getElem_cons (by omega)
    have h0 := h a (Nat.le_refl _) (by omega)
    rw [e] at h0 ⊢
    rw [rep_miss h0, rep_free (k := k) (a := a + 1) hn (by omega) (fun i h1 h2 => h i (by omega) (by omega)), List.take_succ_cons, show a + 1 + k = a + (k + 1) by omega]
    rfl
theorem rep_parts {x y z : Str} (hy : 1 ≤ y.length) : ∀ (cuts : List Nat) (a f : Nat), a ≤ x.length → StrLaws.ChainG x y x.length a cuts f → (∀ k, f ≤ k → ¬ StrLaws.At x y x.length k) →
    (Str.join z (StrLaws.partsFrom x y.length a cuts)).cps.toList = rep y.cps.toList z.cps.toList (x.cps.toList.drop a) := by
  have hl : x.cps.toList.length = x.length := Array.length_toList
  have hyl : y.cps.toList.length = y.length := Array.length_toList
  have hno : ∀ k, ¬ StrLaws.At x y x.length k → (x.cps.toList.drop k).take y.cps.toList.length ≠ y.cps.toList := by
    intro k hk he
    refine hk ⟨?_, ?_⟩
    · have := congrArg List.length he
      rw [List.length_take, List.length_drop] at this
      omega
    · rw [StrLaws.subAt_eq, ← hyl, he]; exact beq_self_eq_true _
  intro cuts
  induction cuts with
  | nil =>
    intro a f ha hc hf
    have e : f = a := hc
    subst e
    show (strSub x f x.length).cps.toList = _
    rw [StrLaws.strSub_toList, rep_free (k := x.length - f) (a := f) hl.symm (by omega) (fun i h1 _ => hno i (hf i h1)), show f + (x.length - f) = x.length by omega, List.drop_of_length_le (l := x.cps.toList) (i := x.length) (by omega), rep_nil, List.append_nil]
  | cons c r ih =>
    intro a f ha hc hf
    obtain ⟨h1, h2, h3, h4⟩ := hc
    have hcl : c + y.length ≤ x.length := h2.1
    have ih := ih (c + y.length) f hcl h4 hf
    obtain ⟨p, q, hpq⟩ := StrLaws.partsFrom_ne x y.length (c + y.length) r
    have hj : Str.join z (StrLaws.partsFrom x y.length a (c :: r)) = strSub x a c ++ z ++ Str.join z (StrLaws.partsFrom x y.length (c + y.length) r) := by
      show Str.join z (strSub x a c :: StrLaws.partsFrom x y.length (c + y.length) r) = _
      rw [hpq]; rfl
    rw [hj, Str.cps_append, Str.cps_append, Array.toList_append, Array.toList_append, ih, StrLaws.strSub_toList,
      rep_free (k := c - a) (a := a) hl.symm (by omega) (fun i q1 q2 => hno i (h3 i q1 (by omega))), show a + (c - a) = c by omega]
    have hh : (x.cps.toList.drop c).take y.cps.toList.length = y.cps.toList := by
      have := h2.2
      rw [StrLaws.subAt_eq] at this
      rw [hyl]; exact eq_of_beq this
    rw [rep_hit (by omega) hh, List.drop_drop, hyl, List.append_assoc]
theorem replace_rep {x y z : Str} (hy : 1 ≤ y.length) : (Txt.replace x y z).cps.toList = rep y.cps.toList z.cps.toList x.cps.toList := by
  obtain ⟨f, hG, hn⟩ := StrLaws.occ_tight x y hy
  have key := rep_parts (z := z) hy _ 0 f (Nat.zero_le _) hG hn
  rw [List.drop_zero] at key
  unfold Txt.replace
  have h0 : (y.length == 0) = false := beq_eq_false_iff_ne.mpr (by omega)
  rw [h0, Bool.false_and, Bool.or_false]
  split
  · rename_i he
    rw [List.isEmpty_iff.mp he] at key
    rw [← key]
    show _ = (strSub x 0 x.length).cps.toList
    rw [StrLaws.sub_whole]
  · rw [StrLaws.glued_eq_join, StrLaws.partsBetween_eq]
    exact key
theorem rep_one (c d : Nat) : ∀ l : List Nat, rep [c] [d] l = l.map fun k => if k = c then d else k
  | [] => rep_nil
  | k :: r => by
    by_cases h : k = c
    · subst h
      rw [rep_hit (by simp) (by simp)]
      simp [rep_one k d r]
    · rw [rep_miss (by simpa using h), rep_one c d r, List.map_cons, if_neg h]
theorem replace_map (x : Str) (c d : Nat) : (Txt.replace x ⟨#[c]⟩ ⟨#[d]⟩).cps.toList = x.cps.toList.map fun k => if k = c then d else k := by
  rw [replace_rep (x := x) (y := ⟨#[c]⟩) (z := ⟨#[d]⟩) (Nat.le_refl 1)]
  exact rep_one c d _
/-- what a code does to the row -/
def stepG (st : Nat × List Tk) (c : Nat) : Nat × List Tk := if isDig c then (2, putNum st.1 st.2 (digVal c)) else if isLet c then (1, putTxt st.1 st.2 ⟨#[c]⟩) else (0, st.2)
abbrev unkL : List Nat := unkS.cps.toList
abbrev rmU (l : List Nat) : List Nat := rep unkL [] l
def walkG (l : List Nat) (st : Nat × List Tk) : Nat × List Tk := (rmU l).foldl stepG st
/-- a sign of the page -/
def pageC (c : Nat) : Prop := isDig c = true ∨ isLet c = true ∨ c = 42 ∨ c = 33
theorem isDig_num {c : Nat} : isDig c = true ↔ 48 ≤ c ∧ c ≤ 57 := by
  unfold isDig
  simp only [Bool.and_eq_true, decide_eq_true_eq]
theorem has_one (x : Str) (c : Nat) : Txt.contains x ⟨#[c]⟩ = decide (c ∈ x.cps.toList) := StrLaws.found_one x c
theorem star_codes : starS.cps.toList = [42, 33] := by decide
theorem dig_codes : digS.cps.toList = [48, 49, 50, 51, 52, 53, 54, 55, 56, 57] := by decide
theorem unk_codes : unkL = [117, 110, 107, 110, 111, 119, 110] := by decide
theorem cls_dig : ∀ c, c < 128 → isDig c = true → decide (c ∈ [42, 33]) = false ∧ decide (c ∈ [48, 49, 50, 51, 52, 53, 54, 55, 56, 57]) = true := by decide +kernel
theorem cls_let : ∀ c, c < 128 → isLet c = true → decide (c ∈ [42, 33]) = false ∧ decide (c ∈ [48, 49, 50, 51, 52, 53, 54, 55, 56, 57]) = false ∧ isDig c = false := by decide +kernel
theorem stepU_G {c kind : Nat} {acc : List Tk} (h : pageC c) : stepU kind acc c = stepG (kind, acc) c := by
  unfold stepU stepG
  rw [has_one, has_one, star_codes, dig_codes]
  rcases h with h | h | h | h
  · obtain ⟨h1, h2⟩ := cls_dig c (Nat.lt_of_le_of_lt (isDig_num.mp h).2 (by decide)) h
    rw [h1, h2, h]; rfl
  · have hc : c < 128 := by have := isLet_num h; omega
    obtain ⟨h1, h2, h3⟩ := cls_let c hc h
    rw [h1, h2, h3, h]; rfl
  · subst h; rfl
  · subst h; rfl
theorem walkU_G : ∀ (n : Nat) (l : List Nat), l.length ≤ n → (∀ c ∈ l, pageC c) → ∀ kind acc, walkU l kind acc = (walkG l (kind, acc)).2 := by
  intro n
  induction n with
  | zero => intro l hl _ kind acc; cases l with
    | nil => rfl
    | cons c r => simp at hl
  | succ n ih =>
    intro l hl hc kind acc
    cases l with
    | nil => rfl
    | cons c r =>
      have h7 : unkL.length = 7 := by decide
      by_cases hu : (c :: r).take 7 = unkL
      · rw [walkU_lost hu, ih _ (by rw [List.length_drop]; simp only [List.length_cons] at hl ⊢; omega) (fun d hd => hc d (List.mem_of_mem_drop hd))]
        unfold walkG
        have := rep_hit (z := []) (l := c :: r) (y := unkL) (by rw [h7]; decide) (by rw [h7]; exact hu)
        show _ = (List.foldl stepG (kind, acc) (rep unkL [] (c :: r))).2
        rw [this, h7]; rfl
      · rw [walkU_step rfl hu, stepU_G (hc c (.head _)), ih r (by simp only [List.length_cons] at hl; omega) (fun d hd => hc d (.tail _ hd))]
        unfold walkG
        show _ = (List.foldl stepG (kind, acc) (rep unkL [] (c :: r))).2
        rw [rep_miss (by rw [h7]; exact hu)]
        rfl
/-- a code that parts -/
def sepC (c : Nat) : Prop := isDig c = false ∧ isLet c = false
theorem stepG_sep {c : Nat} {st : Nat × List Tk} (h : sepC c) : stepG st c = (0, st.2) := by
  unfold stepG; rw [h.1, h.2]; rfl
theorem unk_let : ∀ c ∈ unkL, isLet c = true := by decide
theorem rmU_sep {s : Nat} (hs : sepC s) (v : List Nat) : rmU (s :: v) = s :: rmU v := by
  refine rep_miss fun h => ?_
  have h7 : unkL.length = 7 := by decide
  have : s ∈ unkL := by rw [← h, h7]; exact List.mem_cons_self ..
  have := unk_let s this
  rw [hs.2] at this; cases this
theorem rmU_app {s : Nat} (hs : sepC s) (v : List Nat) : ∀ (n : Nat) (u : List Nat), u.length ≤ n → rmU (u ++ s :: v) = rmU u ++ s :: rmU v := by
  have h7 : unkL.length = 7 := by decide
  intro n
  induction n with
  | zero => intro u hu; cases u with
    | nil => show rmU (s :: v) = rep _ _ [] ++ _; rw [rep_nil, rmU_sep hs]; rfl
    | cons c r => simp at hu
  | succ n ih =>
    intro u hu
    cases u with
    | nil => show rmU (s :: v) = rep _ _ [] ++ _; rw [rep_nil, rmU_sep hs]; rfl
    | cons c r =>
      simp only [List.length_cons] at hu
      by_cases hk : (c :: r ++ s :: v).take 7 = unkL
      · have hlen : 7 ≤ (c :: r).length := by
          rcases Nat.lt_or_ge (c :: r).length 7 with hlt | h
          · exfalso
            have hm : s ∈ (c :: r ++ s :: v).take 7 := by
              rw [List.take_append]
              refine List.mem_append_right _ ?_
              obtain ⟨k, hk⟩ : ∃ k, 7 - (c :: r).length = k + 1 := ⟨7 - (c :: r).length - 1, by omega⟩
              rw [hk, List.take_succ_cons]; exact List.mem_cons_self ..
            rw [hk] at hm
            have := unk_let s hm
            rw [hs.2] at this; cases this
          · exact h
        have hk' : (c :: r).take 7 = unkL := by
          rw [List.take_append_of_le_length hlen] at hk; exact hk
        show rep unkL [] (c :: r ++ s :: v) = rep unkL [] (c :: r) ++ _
        rw [rep_hit (by rw [h7]; decide) (by rw [h7]; exact hk), rep_hit (l := c :: r) (by rw [h7]; decide) (by rw [h7]; exact hk'), h7, List.drop_append_of_le_length hlen]
        exact ih _ (by rw [List.length_drop]; simp only [List.length_cons]; omega)
      · have hk' : (c :: r).take 7 ≠ unkL := by
          intro h
          refine hk ?_
          have hlen : 7 ≤ (c :: r).length := by
            have := congrArg List.length h
            rw [h7, List.length_take] at this; omega
          rw [List.take_append_of_le_length hlen]; exact h
        show rep unkL [] (c :: (r ++ s :: v)) = rep unkL [] (c :: r) ++ _
        rw [rep_miss (by rw [h7]; exact hk), rep_miss (by rw [h7]; exact hk')]
        exact congrArg (c :: ·) (ih r (by omega))
theorem walkG_app {s : Nat} (hs : sepC s) (u v : List Nat) (st : Nat × List Tk) : walkG (u ++ s :: v) st = walkG v (0, (walkG u st).2) := by
  unfold walkG
  rw [rmU_app hs v _ u (Nat.le_refl _), List.foldl_append, List.foldl_cons, stepG_sep hs]
theorem walkG_nil (st : Nat × List Tk) : walkG [] st = st := by unfold walkG rmU; rw [rep_nil]; rfl
theorem walkG_sep {s : Nat} (hs : sepC s) (v : List Nat) (acc : List Tk) : walkG (s :: v) (0, acc) = walkG v (0, acc) := by
  have := walkG_app hs [] v (0, acc)
  rw [walkG_nil] at this; exact this
theorem walkG_seps {v : List Nat} {acc : List Tk} : ∀ (u : List Nat), (∀ c ∈ u, sepC c) → walkG (u ++ v) (0, acc) = walkG v (0, acc)
  | [], _ => rfl
  | s :: u, h => by rw [List.cons_append, walkG_sep (h s (.head _)), walkG_seps u fun c hc => h c (.tail _ hc)]
theorem walkG_tail {u : List Nat} {st : Nat × List Tk} : ∀ (v : List Nat), (∀ c ∈ v, sepC c) → (walkG (u ++ v) st).2 = (walkG u st).2
  | [], _ => by rw [List.append_nil]
  | s :: v, h => by
    rw [walkG_app (h s (.head _))]
    have := walkG_seps (v := []) (acc := (walkG u st).2) v fun c hc => h c (.tail _ hc)
    rw [List.append_nil] at this
    rw [this, walkG_nil]
/-- a map that keeps what counts -/
def Keeps (σ : Nat → Nat) (c : Nat) : Prop := ((isDig c = true ∨ isLet c = true) → σ c = c) ∧ (sepC c → sepC (σ c))
theorem not_sep {c : Nat} (h : ¬ sepC c) : isDig c = true ∨ isLet c = true := by
  cases h1 : isDig c with
  | true => exact .inl rfl
  | false => cases h2 : isLet c with
    | true => exact .inr rfl
    | false => exact absurd ⟨h1, h2⟩ h
theorem keeps_unk {σ : Nat → Nat} : ∀ {l m : List Nat}, (∀ c ∈ l, Keeps σ c) → (∀ c ∈ m, isLet c = true) → (l.map σ = m ↔ l = m)
  | [], m, _, _ => by simp [eq_comm]
  | c :: l, [], _, _ => by simp
  | c :: l, d :: m, h, hm => by
    have ih := keeps_unk (l := l) (m := m) (fun c hc => h c (.tail _ hc)) fun c hc => hm c (.tail _ hc)
    have hk := h c (.head _)
    have hd := hm d (.head _)
    have e : σ c = d ↔ c = d := by
      constructor
      · intro q
        by_cases hs : sepC c
        · have := (hk.2 hs).2
          rw [q, hd] at this; cases this
        · rw [← hk.1 (not_sep hs)]; exact q
      · rintro rfl; exact hk.1 (.inr hd)
    rw [List.map_cons, List.cons.injEq, List.cons.injEq, ih, e]
theorem walkG_map {σ : Nat → Nat} : ∀ (n : Nat) (l : List Nat), l.length ≤ n → (∀ c ∈ l, Keeps σ c) → ∀ st, walkG (l.map σ) st = walkG l st := by
  have h7 : unkL.length = 7 := by decide
  intro n
  induction n with
  | zero => intro l hl _ st; cases l with
    | nil => rfl
    | cons c r => simp at hl
  | succ n ih =>
    intro l hl hc st
    cases l with
    | nil => rfl
    | cons c r =>
      simp only [List.length_cons] at hl
      have hiff := keeps_unk (σ := σ) (l := (c :: r).take 7) (m := unkL) (fun d hd => hc d (List.mem_of_mem_take hd)) unk_let
      rw [List.map_take] at hiff
      by_cases hk : (c :: r).take 7 = unkL
      · unfold walkG
        show List.foldl stepG st (rep unkL [] ((c :: r).map σ)) = List.foldl stepG st (rep unkL [] (c :: r))
        rw [rep_hit (by rw [h7]; decide) (by rw [h7]; exact hiff.mpr hk), rep_hit (l := c :: r) (by rw [h7]; decide) (by rw [h7]; exact hk), h7, ← List.map_drop]
        exact ih _ (by rw [List.length_drop]; simp only [List.length_cons]; omega) (fun d hd => hc d (List.mem_of_mem_drop hd)) st
      · have hk' : (σ c :: r.map σ).take 7 ≠ unkL := fun q => hk (hiff.mp q)
        unfold walkG
        show List.foldl stepG st (rep unkL [] (σ c :: r.map σ)) = List.foldl stepG st (rep unkL [] (c :: r))
        rw [rep_miss (by rw [h7]; exact hk'), rep_miss (by rw [h7]; exact hk), List.foldl_cons, List.foldl_cons]
        have hs : stepG st (σ c) = stepG st c := by
          by_cases hq : sepC c
          · rw [stepG_sep hq, stepG_sep ((hc c (.head _)).2 hq)]
          · rw [(hc c (.head _)).1 (not_sep hq)]
        rw [hs]
        exact ih r (by omega) (fun d hd => hc d (.tail _ hd)) _
end Mine
end
noncomputable section
open PySem PySem.W PyProof.Rows
namespace Mine
abbrev oneOf (c : UInt8) : Str := ⟨#[c.toNat]⟩
/-- what b64encode gives with two altchars -/
abbrev encAs (page : Str) (n : Nat) (a b : Nat) : Array UInt8 := transOf (transTab #[43, 47] (byteArr [(a : Int), (b : Int)])) (byteArr (encOut (octets page n)))
theorem ident_get {c : Nat} (h : c < 256) : ident256[c]? = some c.toUInt8 := by
  unfold ident256
  rw [Array.getElem?_map, Array.getElem?_range, if_pos h]; rfl
theorem tab_get {a b c : Nat} {x : UInt8} (h : c < 256) : (transTab #[43, 47] (byteArr [(a : Int), (b : Int)])).getD c x = if c = 47 then b.toUInt8 else if c = 43 then a.toUInt8 else c.toUInt8 := by
  have e : transTab #[43, 47] (byteArr [(a : Int), (b : Int)]) = (ident256.setIfInBounds 43 a.toUInt8).setIfInBounds 47 b.toUInt8 := rfl
  have hs : ident256.size = 256 := by unfold ident256; simp
  rw [e, Array.getD_eq_getD_getElem?, Array.getElem?_setIfInBounds, Array.size_setIfInBounds, hs]
  by_cases h1 : 47 = c
  · subst h1; simp
  · rw [if_neg h1, if_neg (fun q => h1 q.symm), Array.getElem?_setIfInBounds, hs]
    by_cases h2 : 43 = c
    · subst h2; simp
    · rw [if_neg h2, if_neg (fun q => h2 q.symm), ident_get h]; rfl
theorem u8_nat {k : Nat} (h : k < 256) : k.toUInt8.toNat = k := by
  rw [Nat.toUInt8, UInt8.toNat_ofNat']; omega
theorem menu_no33 : ∀ j, j < 12 → menuAt j ≠ 33 := by decide
theorem in_lt : ∀ c ∈ signsEq.cps.toList, c < 128 ∧ c ≠ 43 ∧ c ≠ 47 := by decide +kernel
def sigma (a b c : Nat) : Nat := if (if c = 42 then a else c) = 33 then b else if c = 42 then a else c
theorem writes_map (x : Str) (i j : Nat) : (Txt.replace (Txt.replace x (Str.ofString "*") (sgn i)) (Str.ofString "!") (sgn j)).cps.toList = x.cps.toList.map (sigma (menuAt i) (menuAt j)) := by
  rw [show Str.ofString "*" = ⟨#[42]⟩ from by decide +kernel, show Str.ofString "!" = ⟨#[33]⟩ from by decide +kernel]
  show (Txt.replace (Txt.replace x ⟨#[42]⟩ ⟨#[menuAt i]⟩) ⟨#[33]⟩ ⟨#[menuAt j]⟩).cps.toList = _
  rw [replace_map, replace_map, List.map_map]
  rfl
theorem base64_ok {ns : List Int} {total : Int} {n i j : Nat} (h : ns.length ≤ 10) (hp : (drawPage ns total).length = 4 * n) (hi : i < 12) (hj : j < 12) (hij : i ≠ j) :
    Txt.join (Str.ofString "") ((encAs (drawPage ns total) n (menuAt i) (menuAt j)).toList.map oneOf) = Txt.replace (Txt.replace (drawPage ns total) (Str.ofString "*") (sgn i)) (Str.ofString "!") (sgn j) := by
  obtain ⟨m, _, hq⟩ := page_quads ns total h
  have hl := hq.length
  rw [Array.length_toList] at hl
  have hmn : m = n := by
    have h1 : (drawPage ns total).cps.size = (drawPage ns total).length := rfl
    omega
  subst hmn
  have he := page_enc hq
  have hcodes : (encAs (drawPage ns total) m (menuAt i) (menuAt j)).toList.map oneOf = ((drawPage ns total).cps.toList.map (sigma (menuAt i) (menuAt j))).map fun k => (⟨#[k]⟩ : Str) := by
    show (transOf (transTab #[43, 47] (byteArr [(menuAt i : Int), (menuAt j : Int)])) (byteArr (encOut (octets (drawPage ns total) m)))).toList.map oneOf = _
    rw [he]
    unfold transOf
    rw [Array.toList_map, List.map_map, List.map_map]
    show ((drawPage ns total).cps.toList.map betaI |>.map fun k => k.toNat.toUInt8).map _ = _
    rw [List.map_map, List.map_map]
    refine List.map_congr_left fun c hc => ?_
    have hcS : c ∈ signsEq.cps.toList := by
      rcases hq.signs c hc with rfl | h
      · exact (show 61 ∈ signsEq.cps.toList by decide +kernel)
      · exact (in_eq c h).1
    have hc1 := in_lt c hcS
    have hb : beta c < 256 := by unfold beta; split; omega; split <;> omega
    have hmi := menu_lt hi
    have hmj := menu_lt hj
    have hm3 := menu_no33 i hi
    show (⟨#[((transTab #[43, 47] (byteArr [(menuAt i : Int), (menuAt j : Int)])).getD ((betaI c).toNat.toUInt8).toNat ((betaI c).toNat.toUInt8)).toNat]⟩ : Str) = ⟨#[sigma (menuAt i) (menuAt j) c]⟩
    have e1 : (betaI c).toNat = beta c := rfl
    rw [e1, u8_nat hb, tab_get hb]
    congr 2
    unfold beta sigma
    by_cases h1 : c = 42
    · subst h1
      rw [if_pos rfl, if_neg (show ¬ (43 = 47) by decide), if_pos rfl, if_pos rfl, if_neg hm3, u8_nat (by omega)]
    · rw [if_neg h1, if_neg h1]
      by_cases h2 : c = 33
      · subst h2
        rw [if_pos rfl, if_pos rfl, if_pos rfl, u8_nat (by omega)]
      · rw [if_neg h2, if_neg h2, if_neg hc1.2.2, if_neg hc1.2.1, u8_nat (by omega)]
  rw [hcodes]
  show Builtin.Str.glued (Str.ofString "") _ = _
  rw [StrLaws.glued_eq_join, show Str.ofString "" = ⟨#[]⟩ from by decide +kernel, join_ones]
  apply Str.ext'
  apply Array.toList_inj.mp
  rw [writes_map]
theorem encAs_size {page : Str} {n a b : Nat} : (encAs page n a b).size = (encOut (octets page n)).length := by
  unfold encAs transOf
  rw [Array.size_map]
  exact byteArr_size _
end Mine
end
noncomputable section
open PySem PySem.W PyProof.Rows PySem.NumText PySem.Builtin PySem.Builtin.Str
namespace Mine
theorem sep45 : sepC 45 := ⟨by decide, by decide⟩
theorem dash_fold : ∀ (n : Nat) (l : List Nat), l.length ≤ n → ∀ st, (rep [45, 45] [45] l).foldl stepG st = l.foldl stepG st := by
  intro n
  induction n with
  | zero => intro l hl st; cases l with
    | nil => rw [rep_nil]
    | cons c r => simp at hl
  | succ n ih =>
    intro l hl st
    cases l with
    | nil => rw [rep_nil]
    | cons c r =>
      simp only [List.length_cons] at hl
      by_cases hk : (c :: r).take 2 = [45, 45]
      · cases r with
        | nil => simp at hk
        | cons d r =>
          have e : c = 45 ∧ d = 45 := by simpa using hk
          obtain ⟨rfl, rfl⟩ := e
          rw [rep_hit (y := [45, 45]) (by decide) hk]
          simp only [List.foldl_append, List.foldl_cons, List.foldl_nil, stepG_sep sep45]
          simp only [List.length_cons] at hl
          exact ih r (by omega) _
      · rw [rep_miss (y := [45, 45]) hk, List.foldl_cons, List.foldl_cons]
        exact ih r (by omega) _
theorem dash_str (q : Str) : (Txt.replace q (Str.ofString "--") (Str.ofString "-")).cps.toList = rep [45, 45] [45] q.cps.toList :=
  replace_rep (x := q) (y := Str.ofString "--") (z := Str.ofString "-") (by decide)
theorem dashIter_fold {p q : Str} (h : DashIter p q) (st : Nat × List Tk) : q.cps.toList.foldl stepG st = p.cps.toList.foldl stepG st := by
  induction h with
  | refl => rfl
  | step _ ih => rw [dash_str, dash_fold _ _ (Nat.le_refl _), ih]
theorem rep_mem {y z : List Nat} : ∀ (n : Nat) (l : List Nat), l.length ≤ n → ∀ c ∈ rep y z l, c ∈ l ∨ c ∈ z := by
  intro n
  induction n with
  | zero => intro l hl c hc; cases l with
    | nil => rw [rep_nil] at hc; cases hc
    | cons c r => simp at hl
  | succ n ih =>
    intro l hl c hc
    cases l with
    | nil => rw [rep_nil] at hc; cases hc
    | cons d r =>
      simp only [List.length_cons] at hl
      rw [rep_cons] at hc
      split at hc
      · rcases List.mem_append.mp hc with h | h
        · exact .inr h
        · rcases ih _ (by rw [List.length_drop]; omega) c h with h | h
          · exact .inl (.tail _ (List.mem_of_mem_drop h))
          · exact .inr h
      · rcases List.mem_cons.mp hc with rfl | h
        · exact .inl (.head _)
        · rcases ih r (by omega) c h with h | h
          · exact .inl (.tail _ h)
          · exact .inr h
theorem dashIter_mem {p q : Str} (h : DashIter p q) : ∀ c ∈ q.cps.toList, c ∈ p.cps.toList ∨ c = 45 := by
  induction h with
  | refl => exact fun c hc => .inl hc
  | step _ ih =>
    intro c hc
    rw [dash_str] at hc
    rcases rep_mem _ _ (Nat.le_refl _) c hc with h | h
    · exact ih c h
    · exact .inr (by simpa using h)
theorem seps_fold : ∀ (v : List Nat) (st : Nat × List Tk), (∀ c ∈ v, sepC c) → (v.foldl stepG st).2 = st.2
  | [], _, _ => rfl
  | s :: v, st, h => by
    rw [List.foldl_cons, stepG_sep (h s (.head _)), seps_fold v _ fun c hc => h c (.tail _ hc)]
/-! ## the tokens of a split text -/
theorem digVal_eq : ∀ c, c < 58 → 48 ≤ c → digVal c = ((c - 48 : Nat) : Int) := by decide +kernel
theorem digs_fold : ∀ (ds : List Nat) (n : Nat) (ts : List Tk), (∀ c ∈ ds, isDig c = true) → ds.foldl stepG (2, .num (n : Int) :: ts) = (2, .num ((ds.foldl (fun a c => a * 10 + (c - 48)) n : Nat) : Int) :: ts)
  | [], _, _, _ => rfl
  | c :: ds, n, ts, h => by
    have hc := h c (.head _)
    have hn := isDig_num.mp hc
    have e : stepG (2, .num (n : Int) :: ts) c = (2, .num ((n * 10 + (c - 48) : Nat) : Int) :: ts) := by
      unfold stepG
      rw [if_pos hc, digVal_eq c (by omega) hn.1]
      unfold putNum
      dsimp only
      rw [if_pos rfl]
      have : (10 * (n : Int) + ((c - 48 : Nat) : Int)) = ((n * 10 + (c - 48) : Nat) : Int) := by omega
      rw [this]
    rw [List.foldl_cons, List.foldl_cons, e, digs_fold ds _ ts fun d hd => h d (.tail _ hd)]
theorem dig_first {c k : Nat} {ts : List Tk} (hc : isDig c = true) (hk : k ≠ 2) : stepG (k, ts) c = (2, .num ((0 * 10 + (c - 48) : Nat) : Int) :: ts) := by
  have hn := isDig_num.mp hc
  unfold stepG
  rw [if_pos hc, digVal_eq c (by omega) hn.1]
  unfold putNum
  dsimp only
  rw [if_neg hk]
  have : (10 * (0 : Int) + ((c - 48 : Nat) : Int)) = ((0 * 10 + (c - 48) : Nat) : Int) := by omega
  rw [this]
def stOf (acc : List Nat) (k : Nat) (ts : List Tk) : Nat × List Tk := if acc = [] then (k, ts) else (1, .txt (strOf acc) :: ts)
theorem pieceTk_let {y : List Nat} (hne : y ≠ []) (hl : ∀ c ∈ y, isLet c = true) : pieceTk y = some (.txt (strOf y)) := by
  rcases piece_cases (.inr (.inr (.inr ⟨hne, hl⟩))) with ⟨h, _⟩ | ⟨_, _, h, _⟩ | ⟨_, _, h⟩
  · rw [not_contains hne fun c hc => let_notSep (hl c hc)] at h; cases h
  · exfalso
    cases y with
    | nil => exact hne rfl
    | cons c r =>
      have h1 := isLet_num (hl c (.head _))
      have h2 := h.head
      omega
  · exact h
theorem pieceTk_dig {y : List Nat} (hne : y ≠ []) (hl : ∀ c ∈ y, isDig c = true) : pieceTk y = some (.num (digitsVal y : Nat)) := by
  unfold pieceTk
  rw [if_neg hne]
  cases y with
  | nil => exact absurd rfl hne
  | cons c r =>
    have h1 := hl c (.head _)
    rw [List.headD_cons, if_neg (by rw [dig_notSep h1]; exact Bool.false_ne_true), if_pos h1]
theorem pieceTk_acc {acc : List Nat} {k : Nat} {ts : List Tk} (hl : ∀ c ∈ acc, isLet c = true) : (stOf acc k ts).2.reverse = ts.reverse ++ [acc].filterMap pieceTk := by
  unfold stOf
  by_cases h : acc = []
  · rw [if_pos h, h]; simp [pieceTk]
  · rw [if_neg h, List.filterMap_cons, pieceTk_let h hl]; simp
theorem stOf_kind {acc : List Nat} {k : Nat} {ts : List Tk} (h : acc = [] → k ≠ 2) : (stOf acc k ts).1 ≠ 2 := by
  unfold stOf
  by_cases q : acc = []
  · rw [if_pos q]; exact h q
  · rw [if_neg q]; exact fun e => by cases e
theorem dw_head (r : List Nat) : ∀ c, (r.dropWhile isDig).head? = some c → isDig c = false := by
  induction r with
  | nil => intro c h; cases h
  | cons d r ih =>
    intro c h
    rw [List.dropWhile_cons] at h
    split at h
    · exact ih c h
    · cases h; rename_i q; exact Bool.eq_false_iff.mpr q
theorem split_fold : ∀ (n : Nat) (r : List Nat), r.length ≤ n → ∀ (acc : List Nat) (k : Nat) (ts : List Tk), (∀ c ∈ acc, isLet c = true) → (∀ c ∈ r, okC c) → (acc = [] → k ≠ 1 ∧ (k = 2 → ∀ c, r.head? = some c → isDig c = false)) →
    (r.foldl stepG (stOf acc k ts)).2.reverse = ts.reverse ++ (reSplit acc r).filterMap pieceTk := by
  intro n
  induction n with
  | zero => intro r hr acc k ts ha _ _; cases r with
    | nil => rw [reSplit_nil]; exact pieceTk_acc ha
    | cons c r => simp at hr
  | succ n ih =>
    intro r hr acc k ts ha hok hk
    cases r with
    | nil => rw [reSplit_nil]; exact pieceTk_acc ha
    | cons c r =>
      simp only [List.length_cons] at hr
      by_cases hd : isDig c = true
      · rw [reSplit_dig hd, List.foldl_cons]
        have hk2 : (stOf acc k ts).1 ≠ 2 := stOf_kind fun q e => by
          have := (hk q).2 e c rfl
          rw [hd] at this; cases this
        have e0 : stepG (stOf acc k ts) c = (2, .num ((0 * 10 + (c - 48) : Nat) : Int) :: (stOf acc k ts).2) := dig_first (k := (stOf acc k ts).1) (ts := (stOf acc k ts).2) hd hk2
        have hsplit : r = r.takeWhile isDig ++ r.dropWhile isDig := (List.takeWhile_append_dropWhile).symm
        have e1 : r.foldl stepG (stepG (stOf acc k ts) c) = (r.dropWhile isDig).foldl stepG (2, .num ((digitsVal (c :: r.takeWhile isDig) : Nat) : Int) :: (stOf acc k ts).2) := by
          rw [e0]
          conv => lhs; rw [hsplit, List.foldl_append]
          rw [digs_fold _ _ _ fun d hd => tw_mem hd]
          rfl
        rw [e1]
        have := ih (r.dropWhile isDig) (by have := (List.dropWhile_sublist isDig (l := r)).length_le; omega) [] 2 (.num ((digitsVal (c :: r.takeWhile isDig) : Nat) : Int) :: (stOf acc k ts).2)
          (by simp) (fun d hd' => hok d (.tail _ ((List.dropWhile_sublist _).mem hd'))) (fun _ => ⟨by decide, fun _ d hd' => dw_head r d hd'⟩)
        rw [show stOf [] 2 (.num ((digitsVal (c :: r.takeWhile isDig) : Nat) : Int) :: (stOf acc k ts).2) = (2, .num ((digitsVal (c :: r.takeWhile isDig) : Nat) : Int) :: (stOf acc k ts).2) from rfl] at this
        rw [this, List.reverse_cons, pieceTk_acc ha]
        have hp : pieceTk (c :: r.takeWhile isDig) = some (.num (digitsVal (c :: r.takeWhile isDig) : Nat)) := pieceTk_dig (by simp) fun d hd' => by
          rcases List.mem_cons.mp hd' with rfl | h
          · exact hd
          · exact tw_mem h
        rw [show acc :: (c :: r.takeWhile isDig) :: reSplit [] (r.dropWhile isDig) = [acc] ++ ([c :: r.takeWhile isDig] ++ reSplit [] (r.dropWhile isDig)) from rfl, List.filterMap_append, List.filterMap_append]
        rw [show [c :: r.takeWhile isDig].filterMap pieceTk = [.num (digitsVal (c :: r.takeWhile isDig) : Nat)] by rw [List.filterMap_cons, hp]; rfl]
        simp
      · have hd' : isDig c = false := Bool.eq_false_iff.mpr hd
        by_cases hs : isSep c = true
        · rw [reSplit_sep hd' hs, List.foldl_cons]
          have hl : isLet c = false := by
            cases q : isLet c with
            | false => rfl
            | true => have := let_notSep q; rw [hs] at this; cases this
          rw [stepG_sep ⟨hd', hl⟩]
          have := ih r (by omega) [] 0 (stOf acc k ts).2 (by simp) (fun d h => hok d (.tail _ h)) (fun _ => ⟨by decide, fun h => by cases h⟩)
          rw [show stOf [] 0 (stOf acc k ts).2 = (0, (stOf acc k ts).2) from rfl] at this
          rw [this, pieceTk_acc ha, show acc :: [c] :: reSplit [] r = [acc] ++ ([[c]] ++ reSplit [] r) from rfl, List.filterMap_append, List.filterMap_append]
          have hp : [[c]].filterMap pieceTk = [] := by
            rw [List.filterMap_cons]
            have : pieceTk [c] = none := by unfold pieceTk; rw [if_neg (by simp)]; exact if_pos hs
            rw [this]; rfl
          rw [hp]; simp
        · have hl : isLet c = true := by
            rcases hok c (.head _) with h | h | h
            · exact absurd h hd
            · exact absurd h hs
            · exact h
          rw [reSplit, hd', Bool.eq_false_iff.mpr hs]
          simp only [Bool.false_eq_true, if_false]
          rw [List.foldl_cons]
          have e : stepG (stOf acc k ts) c = stOf (acc ++ [c]) k ts := by
            unfold stepG
            rw [hd', hl]
            simp only [Bool.false_eq_true, if_false, if_true]
            unfold stOf
            rw [if_neg (show acc ++ [c] ≠ [] by simp)]
            by_cases q : acc = []
            · subst q
              rw [if_pos rfl]
              unfold putTxt
              dsimp only
              rw [if_neg (hk rfl).1]
              rfl
            · rw [if_neg q]
              unfold putTxt
              dsimp only
              rw [if_pos rfl]
              congr 3
              apply Str.ext'
              apply Array.toList_inj.mp
              rw [Str.cps_append, Array.toList_append]
              simp [strOf]
          rw [e]
          exact ih r (by omega) (acc ++ [c]) k ts (fun d h => by
            rcases List.mem_append.mp h with h | h
            · exact ha d h
            · rw [List.mem_singleton.mp h]; exact hl) (fun d h => hok d (.tail _ h)) (fun q => absurd q (by simp))
theorem toksOf_G {l : List Nat} (h : ∀ c ∈ l, okC c) : toksOf l = (l.foldl stepG (0, [])).2.reverse := by
  have := split_fold l.length l (Nat.le_refl _) [] 0 [] (by simp) h (fun _ => ⟨by decide, fun h => by cases h⟩)
  rw [show stOf [] 0 [] = (0, []) from rfl] at this
  rw [this]; rfl
/-! ## strip -/
theorem space_sep {c : Nat} (h : Unicode.isSpace c = true) : sepC c := by
  have key : ∀ c, c < 128 → Unicode.isSpace c = true → isDig c = false ∧ isLet c = false := by decide +kernel
  by_cases hc : c < 128
  · exact key c hc h
  · refine ⟨Bool.eq_false_iff.mpr fun q => ?_, Bool.eq_false_iff.mpr fun q => ?_⟩
    · have := isDig_num.mp q; omega
    · have := isLet_num q; omega
theorem tw_all {p : Nat → Bool} : ∀ {l : List Nat} {x : Nat}, x ∈ l.takeWhile p → p x = true := tw_mem
theorem take_tw (p : Nat → Bool) : ∀ l : List Nat, l.take (l.takeWhile p).length = l.takeWhile p
  | [] => rfl
  | c :: l => by
    rw [List.takeWhile_cons]
    split
    · rw [List.length_cons, List.take_succ_cons, take_tw p l]
    · rfl
theorem strip_parts (x : Str) : ∃ a b, x.cps.toList = a ++ ((Txt.strip x).cps.toList ++ b) ∧ (∀ c ∈ a, sepC c) ∧ ∀ c ∈ b, sepC c := by
  unfold Txt.strip
  rw [PyProof.Rows.stripBy_eq, StrLaws.strSub_toList]
  have hl : x.cps.toList.length = x.length := Array.length_toList
  have elo : stripLo Unicode.isSpace true x = (x.cps.toList.takeWhile Unicode.isSpace).length := rfl
  generalize hlo : stripLo Unicode.isSpace true x = lo at elo ⊢
  have ehi : stripHi Unicode.isSpace true x lo = x.length - ((x.cps.toList.drop lo).reverse.takeWhile Unicode.isSpace).length := rfl
  generalize stripHi Unicode.isSpace true x lo = hi at ehi ⊢
  have hk := (List.takeWhile_sublist Unicode.isSpace (l := (x.cps.toList.drop lo).reverse)).length_le
  rw [List.length_reverse, List.length_drop] at hk
  have hlo' := (List.takeWhile_sublist Unicode.isSpace (l := x.cps.toList)).length_le
  refine ⟨x.cps.toList.take lo, (x.cps.toList.drop lo).drop (hi - lo), ?_, ?_, ?_⟩
  · rw [List.take_append_drop, List.take_append_drop]
  · intro c hc
    rw [elo, take_tw] at hc
    exact space_sep (tw_all hc)
  · intro c hc
    have e : (x.cps.toList.drop lo).drop (hi - lo) = ((x.cps.toList.drop lo).reverse.takeWhile Unicode.isSpace).reverse := by
      have h1 := take_tw Unicode.isSpace (x.cps.toList.drop lo).reverse
      rw [List.take_reverse] at h1
      rw [← h1, List.reverse_reverse, List.length_drop]
      congr 1
      omega
    rw [e] at hc
    exact space_sep (tw_all (List.mem_reverse.mp hc))
theorem walkG_strip (x : Str) (acc : List Tk) : (walkG (Txt.strip x).cps.toList (0, acc)).2 = (walkG x.cps.toList (0, acc)).2 := by
  obtain ⟨a, b, e, ha, hb⟩ := strip_parts x
  conv => rhs; rw [e]
  rw [walkG_seps a ha, walkG_tail b hb]
theorem strip_mem (x : Str) : ∀ c ∈ (Txt.strip x).cps.toList, c ∈ x.cps.toList := by
  obtain ⟨a, b, e, _, _⟩ := strip_parts x
  intro c hc
  rw [e]; exact List.mem_append_right _ (List.mem_append_left _ hc)
/-- the row of pieces -/
def rowG (xs : List (List Nat)) (acc : List Tk) : List Tk := xs.foldl (fun acc l => (walkG l (0, acc)).2) acc
theorem join_G : ∀ (xs : List Str) (acc : List Tk), (walkG (Str.join (Str.ofString "-") xs).cps.toList (0, acc)).2 = rowG (xs.map (·.cps.toList)) acc
  | [], acc => by
    show (walkG [] (0, acc)).2 = _
    rw [walkG_nil]; rfl
  | [x], acc => rfl
  | x :: y :: r, acc => by
    have e : (Str.join (Str.ofString "-") (x :: y :: r)).cps.toList = x.cps.toList ++ 45 :: (Str.join (Str.ofString "-") (y :: r)).cps.toList := by
      show (x ++ Str.ofString "-" ++ Str.join (Str.ofString "-") (y :: r)).cps.toList = _
      rw [Str.cps_append, Str.cps_append, Array.toList_append, Array.toList_append, show (Str.ofString "-").cps.toList = [45] from by decide]
      simp
    rw [e, walkG_app sep45, join_G (y :: r)]
    rfl
theorem join_mem : ∀ (xs : List Str) (c : Nat), c ∈ (Str.join (Str.ofString "-") xs).cps.toList → c = 45 ∨ ∃ x ∈ xs, c ∈ x.cps.toList
  | [], c, h => by cases h
  | [x], c, h => .inr ⟨x, .head _, h⟩
  | x :: y :: r, c, h => by
    have e : (Str.join (Str.ofString "-") (x :: y :: r)).cps.toList = x.cps.toList ++ 45 :: (Str.join (Str.ofString "-") (y :: r)).cps.toList := by
      show (x ++ Str.ofString "-" ++ Str.join (Str.ofString "-") (y :: r)).cps.toList = _
      rw [Str.cps_append, Str.cps_append, Array.toList_append, Array.toList_append, show (Str.ofString "-").cps.toList = [45] from by decide]
      simp
    rw [e] at h
    rcases List.mem_append.mp h with h | h
    · exact .inr ⟨x, .head _, h⟩
    · rcases List.mem_cons.mp h with h | h
      · exact .inl h
      · rcases join_mem (y :: r) c h with h | ⟨z, hz, h⟩
        · exact .inl h
        · exact .inr ⟨z, .tail _ hz, h⟩
theorem row_filter : ∀ (xs : List Str) (acc : List Tk), rowG (((xs.filter keepS).map Txt.strip).map (·.cps.toList)) acc = rowG (xs.map (·.cps.toList)) acc
  | [], acc => rfl
  | x :: r, acc => by
    rw [List.filter_cons]
    have ih := row_filter r
    split
    · rw [List.map_cons, List.map_cons, List.map_cons]
      show rowG _ (walkG (Txt.strip x).cps.toList (0, acc)).2 = rowG _ (walkG x.cps.toList (0, acc)).2
      rw [walkG_strip, ih]
    · rename_i h
      rw [ih, List.map_cons]
      show _ = rowG _ (walkG x.cps.toList (0, acc)).2
      have hx : x.cps.toList = [] := by
        have h1 : x.length = 0 := by unfold keepS at h; simpa using h
        have h2 : x.cps.toList.length = x.length := Array.length_toList
        exact List.length_eq_zero_iff.mp (by omega)
      rw [hx, walkG_nil]
end Mine
end
noncomputable section
open PySem PySem.W PyProof.Rows
namespace Mine
def rho1 (c d k : Nat) : Nat := if k = c then d else k
def rho (k : Nat) : Nat := rho1 41 45 (rho1 40 45 (rho1 34 45 (rho1 59 45 (rho1 58 45 (rho1 92 45 (rho1 47 45 (rho1 32 95 k)))))))
theorem repl9_codes (x : Str) : (repl9 x).cps.toList = rmU (x.cps.toList.map rho) := by
  unfold repl9
  rw [show Str.ofString " " = ⟨#[32]⟩ from by decide +kernel, show Str.ofString "_" = ⟨#[95]⟩ from by decide +kernel, show Str.ofString "/" = ⟨#[47]⟩ from by decide +kernel, show Str.ofString "-" = ⟨#[45]⟩ from by decide +kernel,
    show Str.ofString "\\" = ⟨#[92]⟩ from by decide +kernel, show Str.ofString ":" = ⟨#[58]⟩ from by decide +kernel, show Str.ofString ";" = ⟨#[59]⟩ from by decide +kernel, show Str.ofString "\"" = ⟨#[34]⟩ from by decide +kernel,
    show Str.ofString "(" = ⟨#[40]⟩ from by decide +kernel, show Str.ofString ")" = ⟨#[41]⟩ from by decide +kernel, replace_rep (y := Str.ofString "unknown") (z := Str.ofString "") (by decide +kernel)]
  rw [replace_map, replace_map, replace_map, replace_map, replace_map, replace_map, replace_map, replace_map]
  simp only [List.map_map]
  rfl
/-- a code of the pieces as they are taken -/
def takC (c : Nat) : Prop := isDig c = true ∨ isLet c = true ∨ c ∈ menuS.cps.toList ∨ c = 45
theorem takC_lt {c : Nat} (h : takC c) : c < 128 := by
  rcases h with h | h | h | h
  · have := isDig_num.mp h; omega
  · have := isLet_num h; omega
  · exact (show ∀ c ∈ menuS.cps.toList, c < 128 by decide +kernel) c h
  · omega
theorem rho_keeps {c : Nat} (h : c < 128) : Keeps rho c := by
  have key : ∀ c, c < 128 → ((isDig c = true ∨ isLet c = true) → rho c = c) ∧ ((isDig c = false ∧ isLet c = false) → (isDig (rho c) = false ∧ isLet (rho c) = false)) := by decide +kernel
  exact key c h
theorem rho_ok {c : Nat} (h : takC c) : okC (rho c) := by
  have key : ∀ c, c < 128 → (isDig c = true ∨ isLet c = true ∨ c ∈ menuS.cps.toList ∨ c = 45) → (isDig (rho c) = true ∨ isSep (rho c) = true ∨ isLet (rho c) = true) := by decide +kernel
  exact key c (takC_lt h) h
theorem sigma_keeps {a b c : Nat} (ha : a ∈ menuS.cps.toList) (hb : b ∈ menuS.cps.toList) (h : pageC c) : Keeps (sigma a b) c ∧ takC (sigma a b c) := by
  have hm : ∀ c ∈ menuS.cps.toList, (isDig c = false ∧ isLet c = false) ∧ c ≠ 33 := by decide +kernel
  have h1 := hm a ha
  have h2 := hm b hb
  by_cases e1 : c = 42
  · subst e1
    have e : sigma a b 42 = a := by unfold sigma; rw [if_pos rfl, if_neg h1.2]
    unfold Keeps
    rw [e]
    exact ⟨⟨fun q => absurd q (by decide), fun _ => h1.1⟩, .inr (.inr (.inl ha))⟩
  · by_cases e2 : c = 33
    · subst e2
      have e : sigma a b 33 = b := by unfold sigma; rw [if_neg (show ¬ ((33 : Nat) = 42) by decide), if_pos rfl]
      unfold Keeps
      rw [e]
      exact ⟨⟨fun q => absurd q (by decide), fun _ => h2.1⟩, .inr (.inr (.inl hb))⟩
    · have e : sigma a b c = c := by unfold sigma; rw [if_neg e1, if_neg e2]
      unfold Keeps
      rw [e]
      refine ⟨⟨fun _ => rfl, fun q => q⟩, ?_⟩
      rcases h with h | h | h | h
      · exact .inl h
      · exact .inr (.inl h)
      · exact absurd h e1
      · exact absurd h e2
theorem eq_pageC : ∀ c ∈ signsEq.cps.toList, pageC c := by
  have key : ∀ c ∈ signsEq.cps.toList, (isDig c = true ∨ isLet c = true ∨ c = 42 ∨ c = 33) := by decide +kernel
  exact key
theorem menu_mem {j : Nat} (h : j < 12) : menuAt j ∈ menuS.cps.toList := (show ∀ j, j < 12 → menuAt j ∈ menuS.cps.toList by decide +kernel) j h
/-- the codes of a piece -/
def cutL (l : List Nat) (a n : Nat) : List Nat := (l.drop a).take n
theorem piece_codes (x : Str) (a l : Nat) : (pieceOf x ((a : Int), ((a + l : Nat) : Int))).cps.toList = cutL x.cps.toList a l := by
  have e := slice_nat x (a := a) (b := a + l) (by omega)
  show (Txt.slice x (some (a : Int)) (some ((a + l : Nat) : Int))).cps.toList = _
  rw [e]
  show (x.cps.toList.drop a).take (a + l - a) = _
  rw [show a + l - a = l by omega]; rfl
theorem segs_all : ∀ (ls : List Nat) (o : Nat), ∀ fb ∈ segs o ls, ∃ a l : Nat, fb = ((a : Int), ((a + l : Nat) : Int))
  | [], _, fb, h => nomatch h
  | l :: r, o, fb, h => by
    rcases List.mem_cons.mp h with rfl | h
    · exact ⟨o, l, rfl⟩
    · exact segs_all r (o + l) fb h
theorem rowG_fold (xs : List (List Nat)) (acc : List Tk) : rowG xs acc = (xs.map fun l (a : List Tk) => (walkG l (0, a)).2).foldl (fun a g => g a) acc := by
  unfold rowG
  rw [List.foldl_map]
theorem rowAcc_G : ∀ (ps : List Str) (acc : List Tk), (∀ x ∈ ps, ∀ c ∈ x.cps.toList, pageC c) → ps.foldl (fun acc s => walkU s.cps.toList 0 acc) acc = rowG (ps.map (·.cps.toList)) acc
  | [], _, _ => rfl
  | x :: r, acc, h => by
    rw [List.foldl_cons, walkU_G _ _ (Nat.le_refl _) (h x (.head _)), rowAcc_G r _ fun y hy => h y (.tail _ hy)]
    rfl
theorem pieces_page {page : Str} {n : Nat} {ls : List Nat} (h : PageOk page n) : ∀ x ∈ (segs 0 ls).map (pieceOf page), ∀ c ∈ x.cps.toList, c ∈ signsEq.cps.toList := by
  intro x hx c hc
  obtain ⟨fb, hfb, rfl⟩ := List.mem_map.mp hx
  obtain ⟨a, l, rfl⟩ := segs_all ls 0 fb hfb
  rw [piece_codes] at hc
  exact h.signs c (List.mem_of_mem_drop (List.mem_of_mem_take hc))
/-- the law's own content: the tokens of the platform's text are those of the pieces of the page -/
theorem tokens_ok {ns : List Int} {total : Int} {sh i : Nat} {bs : List (Int × Int)} {rp : Str} (h : ns.length ≤ 10) (hs1 : 1 ≤ sh) (hs2 : sh ≤ 11) (hi : i < 6)
    (hb : bList (drawCuts ns) (drawPage ns total).length = bs) (hp : PlatIs ((List.range bs.length).map (takenAt (drawPage ns total) sh bs i)) rp) :
    (∀ c ∈ rp.cps.toList, okC c) ∧ toksOf rp.cps.toList = (rowAcc (bs.map (pieceOf (drawPage ns total)))).reverse := by
  obtain ⟨n, hpg⟩ := page_ok ns total h
  obtain ⟨ls, hls, _, _⟩ := bounds_ok ns total h
  rw [hb] at hls
  subst hls
  clear hb
  generalize drawPage ns total = page at *
  -- the pieces as they are taken
  have htak : ∀ k fb, (segs 0 ls)[k]? = some fb → ∃ σ : Nat → Nat, (takenAt page sh (segs 0 ls) i k).cps.toList = (pieceOf page fb).cps.toList.map σ ∧ ∀ c ∈ (pieceOf page fb).cps.toList, Keeps σ c ∧ takC (σ c) := by
    intro k fb hk
    have hmem : fb ∈ segs 0 ls := List.mem_of_getElem? hk
    obtain ⟨a, l, rfl⟩ := segs_all ls 0 fb hmem
    refine ⟨sigma (menuAt ((2 * i + k + sh) % 12)) (menuAt (((2 * i + k + sh) % 12 + sh) % 12)), ?_, fun c hc => ?_⟩
    · unfold takenAt
      rw [List.getD_eq_getElem?_getD, hk]
      show (pieceOf (writing page sh ((2 * i + k + sh) % 12)) ((a : Int), ((a + l : Nat) : Int))).cps.toList = _
      rw [piece_codes, piece_codes]
      unfold writing
      rw [writes_map]
      unfold cutL
      rw [← List.map_drop, ← List.map_take]
    · rw [piece_codes] at hc
      exact sigma_keeps (menu_mem (Nat.mod_lt _ (by decide))) (menu_mem (Nat.mod_lt _ (by decide))) (eq_pageC c (hpg.signs c (List.mem_of_mem_drop (List.mem_of_mem_take hc))))
  obtain ⟨p, j, hd, hpj, _⟩ := hp
  generalize hxs : (List.range (segs 0 ls).length).map (takenAt page sh (segs 0 ls) i) = xs at hd
  have hxc : ∀ x ∈ xs, ∀ c ∈ x.cps.toList, takC c := by
    intro x hx c hc
    rw [← hxs] at hx
    obtain ⟨k, hk, rfl⟩ := List.mem_map.mp hx
    obtain ⟨fb, hfb⟩ : ∃ fb, (segs 0 ls)[k]? = some fb := ⟨_, List.getElem?_eq_getElem (List.mem_range.mp hk)⟩
    obtain ⟨σ, e, hσ⟩ := htak k fb hfb
    rw [e] at hc
    obtain ⟨d, hd', rfl⟩ := List.mem_map.mp hc
    exact (hσ d hd').2
  have hrow : rowG (xs.map (·.cps.toList)) [] = rowAcc ((segs 0 ls).map (pieceOf page)) := by
    have hp0 := rowAcc_G ((segs 0 ls).map (pieceOf page)) [] fun x hx c hc => eq_pageC c (pieces_page hpg x hx c hc)
    unfold rowAcc
    rw [hp0, rowG_fold, rowG_fold, ← hxs]
    congr 1
    rw [List.map_map, List.map_map, List.map_map, List.map_map]
    refine List.ext_getElem? fun k => ?_
    rw [List.getElem?_map, List.getElem?_map]
    by_cases hk : k < (segs 0 ls).length
    · rw [List.getElem?_range hk, List.getElem?_eq_getElem hk]
      obtain ⟨σ, e, hσ⟩ := htak k _ (List.getElem?_eq_getElem hk)
      show some (fun (a : List Tk) => (walkG (takenAt page sh (segs 0 ls) i k).cps.toList (0, a)).2) = some fun (a : List Tk) => (walkG (pieceOf page (segs 0 ls)[k]).cps.toList (0, a)).2
      rw [e]
      congr 1
      funext a
      rw [walkG_map _ _ (Nat.le_refl _) fun c hc => (hσ c hc).1]
    · rw [List.getElem?_eq_none (by rw [List.length_range]; omega), List.getElem?_eq_none (by omega)]
      rfl
  -- the text before the unknowns go
  generalize hX : Txt.join (Str.ofString "-") ((xs.filter keepS).map Txt.strip) = X at hd
  have hXj : X = Str.join (Str.ofString "-") ((xs.filter keepS).map Txt.strip) := by
    rw [← hX]; exact StrLaws.glued_eq_join _ _
  have hXc : ∀ c ∈ X.cps.toList, takC c := by
    intro c hc
    rw [hXj] at hc
    rcases join_mem _ c hc with h | ⟨x, hx, h⟩
    · exact .inr (.inr (.inr h))
    · obtain ⟨y, hy, rfl⟩ := List.mem_map.mp hx
      exact hxc y (List.mem_filter.mp hy).1 c (strip_mem y c h)
  have hpc : ∀ c ∈ p.cps.toList, okC c := by
    intro c hc
    rcases dashIter_mem hd c hc with h | h
    · rw [repl9_codes] at h
      rcases rep_mem _ _ (Nat.le_refl _) c h with h | h
      · obtain ⟨d, hd', rfl⟩ := List.mem_map.mp h
        exact rho_ok (hXc d hd')
      · cases h
    · subst h; exact .inr (.inl (by decide))
  have hrc : ∀ c ∈ rp.cps.toList, okC c := fun c hc => hpc c (by rw [hpj]; exact List.mem_append_left _ hc)
  refine ⟨hrc, ?_⟩
  rw [toksOf_G hrc, ← hrow]
  congr 1
  have e1 : (rp.cps.toList.foldl stepG (0, [])).2 = (p.cps.toList.foldl stepG (0, [])).2 := by
    rw [hpj, List.foldl_append]
    exact (seps_fold _ _ fun c hc => by rw [List.eq_of_mem_replicate hc]; exact sep45).symm
  rw [e1, dashIter_fold hd, repl9_codes]
  show (walkG (X.cps.toList.map rho) (0, [])).2 = _
  rw [walkG_map _ _ (Nat.le_refl _) fun c hc => rho_keeps (takC_lt (hXc c hc)), hXj, join_G, row_filter]
theorem walkU_codes {B : Nat} : ∀ (n : Nat) (l : List Nat), l.length ≤ n → (∀ c ∈ l, c < B) → ∀ kind (acc : List Tk), (∀ x, Tk.txt x ∈ acc → ∀ c ∈ x.cps.toList, c < B) → ∀ x, Tk.txt x ∈ walkU l kind acc → ∀ c ∈ x.cps.toList, c < B := by
  intro n
  induction n with
  | zero => intro l hl _ kind acc ha; cases l with
    | nil => exact ha
    | cons c r => simp at hl
  | succ n ih =>
    intro l hl hc kind acc ha
    cases l with
    | nil => exact ha
    | cons c r =>
      simp only [List.length_cons] at hl
      by_cases hu : (c :: r).take 7 = unkS.cps.toList
      · rw [walkU_lost hu]
        exact ih _ (by rw [List.length_drop]; simp only [List.length_cons]; omega) (fun d hd => hc d (List.mem_of_mem_drop hd)) kind acc ha
      · rw [walkU_step rfl hu]
        refine ih r (by omega) (fun d hd => hc d (.tail _ hd)) _ _ ?_
        unfold stepU
        split
        · exact ha
        · split
          · intro x hx
            unfold putNum at hx
            dsimp only at hx
            split at hx
            · split at hx
              · rcases List.mem_cons.mp hx with h | h
                · cases h
                · exact ha x (.tail _ h)
              · exact ha x hx
            · rcases List.mem_cons.mp hx with h | h
              · cases h
              · exact ha x h
          · intro x hx
            unfold putTxt at hx
            dsimp only at hx
            split at hx
            · split at hx
              · rename_i y r' 
                rcases List.mem_cons.mp hx with h | h
                · cases h
                  intro d hd
                  rw [str_codes] at hd
                  rcases List.mem_append.mp hd with hd | hd
                  · exact ha y (.head _) d hd
                  · rw [List.mem_singleton.mp hd]; exact hc c (.head _)
                · exact ha x (.tail _ h)
              · exact ha x hx
            · rcases List.mem_cons.mp hx with h | h
              · cases h
                intro d hd
                rw [str_codes] at hd
                rcases List.mem_append.mp hd with hd | hd
                · cases hd
                · rw [List.mem_singleton.mp hd]; exact hc c (.head _)
              · exact ha x h
theorem rows_codes {B : Nat} : ∀ (ps : List Str) (acc : List Tk), (∀ x ∈ ps, ∀ c ∈ x.cps.toList, c < B) → (∀ x, Tk.txt x ∈ acc → ∀ c ∈ x.cps.toList, c < B) → ∀ x, Tk.txt x ∈ ps.foldl (fun acc s => walkU s.cps.toList 0 acc) acc → ∀ c ∈ x.cps.toList, c < B
  | [], _, _, ha => ha
  | y :: r, acc, h, ha => rows_codes r _ (fun x hx => h x (.tail _ hx)) (walkU_codes _ _ (Nat.le_refl _) (h y (.head _)) 0 acc ha)
theorem rows_strOk {ps : List Str} (h : ∀ x ∈ ps, ∀ c ∈ x.cps.toList, c < 128) : ∀ x, Tk.txt x ∈ (rowAcc ps).reverse → PyData.strOk x = true := by
  intro x hx
  have hc := rows_codes ps [] h (fun x hx => nomatch hx) x (List.mem_reverse.mp hx)
  unfold PyData.strOk
  rw [← Array.all_toList]
  exact List.all_eq_true.mpr fun c hcm => decide_eq_true (Nat.lt_trans (hc c hcm) (by decide))
theorem pieces_small {page : Str} {n : Nat} {bs : List (Int × Int)} {ls : List Nat} (h : PageOk page n) (hb : bs = segs 0 ls) : ∀ x ∈ bs.map (pieceOf page), ∀ c ∈ x.cps.toList, c < 128 := by
  subst hb
  exact fun x hx c hc => (in_lt c (pieces_page h x hx c hc)).1
end Mine
end
noncomputable section
open PySem PySem.W PyProof.Rows PySem.Calls PySem.Spec
set_option maxRecDepth 100000
namespace Mine
noncomputable def dataOf : List Tk → List PyData
  | [] => []
  | .num n :: r => .int 100 :: .int n :: dataOf r
  | .txt x :: r => .int (stageI x) :: .str x :: dataOf r
theorem out_carried : ∀ {ys : List Value} {ts : List Tk}, OutAre ys ts → CarriedAll ys (dataOf ts)
  | _, _, .nil => .nil
  | _, _, .num n t u r => .cons (.int _ t) (.cons (.int _ u) (out_carried r))
  | _, _, .txt x t u r => .cons (.int _ t) (.cons (.str _ u) (out_carried r))
theorem dataOf_can : ∀ ts : List Tk, (∀ x, Tk.txt x ∈ ts → PyData.strOk x = true) → PyData.canLayAll0 (dataOf ts) = true
  | [], _ => rfl
  | .num n :: r, h => by simp [dataOf, PyData.canLayAll0, PyData.canLay0, dataOf_can r fun x hx => h x (.tail _ hx)]
  | .txt x :: r, h => by simp [dataOf, PyData.canLayAll0, PyData.canLay0, h x (.head _), dataOf_can r fun x hx => h x (.tail _ hx)]
theorem dataOf_depth : ∀ ts : List Tk, PyData.depthAll (dataOf ts) = 0
  | [] => rfl
  | .num n :: r => by simp [dataOf, PyData.depthAll, PyData.depth, dataOf_depth r]
  | .txt x :: r => by simp [dataOf, PyData.depthAll, PyData.depth, dataOf_depth r]
theorem dataOf_shaped (ts : List Tk) (h : ∀ x, Tk.txt x ∈ ts → PyData.strOk x = true) : SeqAt.shaped (.list (dataOf ts)) = true := by
  simp [SeqAt.shaped, PyData.canLay0, PyData.depth, dataOf_can ts h, dataOf_depth]
section
variable {prog : Program} {w : World} {A : Around} {E : Value → Shared → Prop} {s : Shared} {a b : Addr} {xs ys : List Value} {ts : List Tk} {Q : Value → Shared → Prop}
theorem out_ne (ha : s.heap.IsList a xs.toArray) (hb : s.heap.IsList b ys.toArray) (hi : OutAre xs ts) (hj : OutAre ys ts) (hs : ∀ x, Tk.txt x ∈ ts → PyData.strOk x = true) (hu : A.units + 64 < cLine) (h : Q (.bool false) s) :
    wpAny (model prog w) A (compareOp .NotEq (.ref a) (.ref b)) Q E s :=
  ne_dataH (reads_newData ha (out_carried hi)) (reads_newData hb (out_carried hj)) (dataOf_shaped _ hs) (dataOf_shaped _ hs) hu (by
    rw [PySem.SeqAt.eqv_refl _ (by simp [PyData.canLay0, dataOf_can ts hs])]; exact h)
end
end Mine
end
noncomputable section
open PySem PySem.W PyProof.Rows PySem.Calls
set_option pp.deepTerms false
set_option pp.maxSteps 400
set_option maxRecDepth 100000
set_option maxHeartbeats 8000000
namespace Mine
theorem led_apart {h₀ h : Heap} {L a b : Addr} {o1 o2 : Obj} {led : List (Addr × Obj)} (N : News h₀ L h led) (h1 : (a, o1) ∈ led) (h2 : (b, o2) ∈ led) (hc : o1.cls ≠ o2.cls) : a ≠ b := by
  rintro rfl
  have e1 := (N _ h1).1
  have e2 := (N _ h2).1
  dsimp only at e1 e2
  rw [e1] at e2
  cases e2
  exact hc rfl
theorem law_holds : PySem.Challenge.rw_mq0112_01.Holds := hd (by
  k_fill
  intro w s₀ s₁ mg mb G Y fa o pm cd doc dV kV ho hdd hcd hD hmg hg args vals as hpre hlay hrd hwl hlo
  have KX := kIn_of Y
  refine Ground.open G ?_
  intro T B D TE TW
  wrow_args hpre hlay hrd hwl hlo
  have he := Dflts.none hD rfl; subst he
  have he := Dflts.noKw hD; subst he
  refine codeC_cellsN (by decide) ho (fd_plain hdd) (Top.nolimit T) hcd rfl (kinds_of (by kinds_ok)) (by decide) fun h₁ tk₁ cells F N0 X0 => ?_
  cells_open X0
  rename_i ns hs hlay0 hL1 hr1 hl2 a5 a4 ln vs a1 hl ra w1 r0 hvs hr2 hlen hct oc hoc
  have E53 := tab_start T KX
  have C53 := tab_code T KX
  have F1 := fr_hide F
  have N1 := news_hide F N0 E53
  have B1 := below_caller (s₁.heap.hide 53)
  have X1 := in_hide KX
  have T1 := top_hide T E53
  have hl1 := list_hide hl E53
  have h53 : 53 < s₁.heap.objs.size := Heap.lt_size E53
  obtain ⟨m0, F2⟩ : ∃ m0, Fr (s₁.heap.hide 53) s₁.heap.objs.size h₁ (over [(Str.ofString "script", .ref ln)] m0) := ⟨_, Fr.has F1 ⟨rfl, trivial⟩⟩
  have hoc' : oc.data = .cell none := hoc
  clear hoc F1 F N0 B D TE TW X0 hcd hmg hD ho hdd Y G KX T
  dsimp only
  clear hs hlay0 hL1 hr1 hl2 ra w1 r0 hr2 hct
  generalize hqg : s₁.heap.hide 53 = gr at F2 N1 B1 X1 T1 hl1
  generalize hqL : s₁.heap.objs.size = L at F2 N1 h53 ⊢
  clear hl
  generalize looseBig hd.view_39 (looseW hd.view_39 [Str.ofString "_twin_re_1", Str.ofString "_ver_stages", Str.ofString "b2a_base64", Str.ofString "b64encode"]) = loose at T1
  generalize ExcName.means s₀.heap = mean at T1
  refine wpC_gen fun qTop gQ0 => ?_
  refine wpC_execs_pre (pre := [_, _, _]) ?_
  k_fold
  repeat' ((fail_if_success (with_reducible show wpAny _ _ (pyIter _) _ _ _)); (fail_if_success (with_reducible show Bar _)); (fail_if_success (with_reducible show wpAny _ _ (subscriptTail (Expr.Subscript _ _ _) (Expr.Constant _ _ _) _ _) _ _ _)); (fail_if_success (with_reducible show wpAny _ _ (call (Value.builtin "list.append") _) _ _ _)); (fail_if_success (with_reducible show wpAny _ _ (eval (Expr.ListComp _ _ _ _) _) _ _ _)); (fail_if_success (with_reducible show wpAny _ _ (call (Value.type "zip") _) _ _ _)); first | (k_unfold; (try dsimp only)) | ((with_reducible show wpAny _ _ (call (Value.ref _) _ _) _ _ _); with_reducible ((k_here; (with_reducible show wpAny _ _ (call (Value.ref 102) _) _ _ _); k_dflt (refine' c_drawn ?k1s0a0 ?k2s0a0 ?k3s0a0 ?k4s0a0 ?k5s0a0 ?kKs0a0 ?kls0a0 ?kvs0a0 ?kns0a0 ?kds0a0 ?_; (case k1s0a0 => k_asm); (case k2s0a0 => k_asm); (case k3s0a0 => assumption); (case k4s0a0 => k_asm); (case k5s0a0 => k_asm); (case kKs0a0 => exact rfl); (case kls0a0 => k_mem); (case kvs0a0 => assumption); (case kns0a0 => (rw [List.length_take]; omega)); (case kds0a0 => ktr_room)); intro _ _ _ _ _ _ _ lt9 _ _ _ _; (try k_lt lt9); (try (revert lt9; intro _)); (try dsimp only); (try k_fold)))) | walk1 | (dsimp only; first | ((with_reducible show wpAny _ _ (call (Value.ref _) _ _) _ _ _); with_reducible ((k_here; (with_reducible show wpAny _ _ (call (Value.ref 102) _) _ _ _); k_dflt (refine' c_drawn ?k1s0a0 ?k2s0a0 ?k3s0a0 ?k4s0a0 ?k5s0a0 ?kKs0a0 ?kls0a0 ?kvs0a0 ?kns0a0 ?kds0a0 ?_; (case k1s0a0 => k_asm); (case k2s0a0 => k_asm); (case k3s0a0 => assumption); (case k4s0a0 => k_asm); (case k5s0a0 => k_asm); (case kKs0a0 => exact rfl); (case kls0a0 => k_mem); (case kvs0a0 => assumption); (case kns0a0 => (rw [List.length_take]; omega)); (case kds0a0 => ktr_room)); intro _ _ _ _ _ _ _ lt9 _ _ _ _; (try k_lt lt9); (try (revert lt9; intro _)); (try dsimp only); (try k_fold)))) | walk1))
  rename Fr gr L _ _ => F3
  rename News gr L _ _ => N3
  rename_i D1 ws1 hA hws1 hT10 hT10' ltD1 hB tkB tsum r1 ca cv kc tp hC tkC ltr1 hcv ltca hD
  (refine' storeX_C F3 N3 ?cA (.tail (Nat.ne_of_gt (Nat.lt_trans ltca.2.2 ltr1)) (.tail (Nat.ne_of_gt ltca.2.2) (.tail (Nat.ne_of_gt ltD1.2) (.tail (Nat.ne_of_lt (Nat.lt_succ_of_lt h53)) (.head (fun p hp => nomatch hp)))))) hoc' ?_ ?aA ?bA)
  (case aA => rfl)
  (case bA => rfl)
  (case cA => rfl)
  intro h4 oc4 F4 N4 hoc4
  clear F3 N3 hoc'
  have h10 : (ns.take 10).length ≤ 10 := List.length_take_le _ _
  obtain ⟨n, hpg⟩ := page_ok (ns.take 10) ns.sum h10
  have hpl := hpg.len
  have hpn := hpg.small
  have hn25 : n ≤ 25 := by omega
  have hpc := hpg.signs
  have hp0 := hpg.cnt0
  have hp3 := hpg.cnt
  have hcvl : cv.length ≤ 11 := by rw [hcv.length]; exact Nat.le_trans (drawCuts_len _) (by omega)
  generalize hqp : drawPage (ns.take 10) ns.sum = page at *
  repeat' ((fail_if_success (with_reducible show wpAny _ _ (pyIter _) _ _ _)); (fail_if_success (with_reducible show Bar _)); (fail_if_success (with_reducible show wpAny _ _ (subscriptTail (Expr.Subscript _ _ _) (Expr.Constant _ _ _) _ _) _ _ _)); (fail_if_success (with_reducible show wpAny _ _ (call (Value.builtin "list.append") _) _ _ _)); (fail_if_success (with_reducible show wpAny _ _ (eval (Expr.ListComp _ _ _ _) _) _ _ _)); (fail_if_success (with_reducible show wpAny _ _ (call (Value.type "zip") _) _ _ _)); first | (k_unfold; (try dsimp only)) | ((with_reducible show wpAny _ _ (call (Value.ref _) _ _) _ _ _); with_reducible ((k_here; (with_reducible show wpAny _ _ (call (Value.ref 109) _) _ _ _); k_dflt (refine' c_octets ?k1s1a0 ?k2s1a0 ?k3s1a0 ?k4s1a0 ?k5s1a0 ?kKs1a0 ?kls1a0 ?kns1a0 ?kcs1a0 ?k0s1a0 ?kts1a0 ?kds1a0 ?_; (case k1s1a0 => k_asm); (case k2s1a0 => k_asm); (case k3s1a0 => assumption); (case k4s1a0 => k_asm); (case k5s1a0 => k_asm); (case kKs1a0 => exact rfl); (case kls1a0 => assumption); (case kns1a0 => assumption); (case kcs1a0 => assumption); (case k0s1a0 => assumption); (case kts1a0 => assumption); (case kds1a0 => ktr_room)); intro _ _ _ _ _; (try dsimp only); (try k_fold)))) | ((with_reducible show wpAny _ _ (exec (Stmt.Assign _ _ _) _) _ _ _); with_reducible ((k_here; (with_reducible show wpAny _ _ (exec (Stmt.Assign _ (Expr.ListComp _ [⟨Expr.Tuple _ _ _, Expr.Call (Expr.Name (Str.ofString "zip") _) _ _ _, _, _⟩] _ _) _) _) _ _ _); k_dflt (refine' Assign_zip (by k_asm) (by rfl) (by with_unfolding_all rfl) (by with_unfolding_all rfl) (by decide) (by rfl) (by decide) (by rfl) (by rfl) (by decide) (by rfl) (by rfl) (fun C m₂ v₁ v₂ s₃ Q' E' hn h1 h2 k => elt_pair hn h1 h2 (by rfl) (by rfl) (by rfl) (by decide) (by decide) k) ?_)))) | ((with_reducible show wpAny _ _ (binaryOp _ (Value.ref _) (Value.ref _)) _ _ _); with_reducible ((k_here; k_dflt (refine' addK ?Fs1a2 ?Ns1a2 ?ls1a2 ?bs1a2 ?zs1a2 ?_; (case Fs1a2 => k_asm); (case Ns1a2 => k_asm); (case ls1a2 => k_mem); (case bs1a2 => k_mem); (case zs1a2 => (simp only [List.length_cons, List.length_nil]; rw [sizeLine_eq]; omega)); k_whole); intro _ _ l1 _ _; (try k_lt l1); (try (revert l1; intro _)); (try k_sweep); (try dsimp only)))) | ((with_reducible show wpAny _ _ (binaryOp _ (Value.ref _) (Value.ref _)) _ _ _); with_reducible ((k_here; k_dflt (refine' addK ?Fs1a3 ?Ns1a3 ?ls1a3 ?bs1a3 ?zs1a3 ?_; (case Fs1a3 => k_asm); (case Ns1a3 => k_asm); (case ls1a3 => k_mem); (case bs1a3 => k_mem); (case zs1a3 => (simp only [List.length_cons, List.length_nil]; rw [sizeLine_eq]; omega)); k_whole); intro _ _ l1 _ _; (try k_lt l1); (try (revert l1; intro _)); (try k_sweep); (try dsimp only)))) | walk1 | (dsimp only; first | ((with_reducible show wpAny _ _ (call (Value.ref _) _ _) _ _ _); with_reducible ((k_here; (with_reducible show wpAny _ _ (call (Value.ref 109) _) _ _ _); k_dflt (refine' c_octets ?k1s1a0 ?k2s1a0 ?k3s1a0 ?k4s1a0 ?k5s1a0 ?kKs1a0 ?kls1a0 ?kns1a0 ?kcs1a0 ?k0s1a0 ?kts1a0 ?kds1a0 ?_; (case k1s1a0 => k_asm); (case k2s1a0 => k_asm); (case k3s1a0 => assumption); (case k4s1a0 => k_asm); (case k5s1a0 => k_asm); (case kKs1a0 => exact rfl); (case kls1a0 => assumption); (case kns1a0 => assumption); (case kcs1a0 => assumption); (case k0s1a0 => assumption); (case kts1a0 => assumption); (case kds1a0 => ktr_room)); intro _ _ _ _ _; (try dsimp only); (try k_fold)))) | ((with_reducible show wpAny _ _ (exec (Stmt.Assign _ _ _) _) _ _ _); with_reducible ((k_here; (with_reducible show wpAny _ _ (exec (Stmt.Assign _ (Expr.ListComp _ [⟨Expr.Tuple _ _ _, Expr.Call (Expr.Name (Str.ofString "zip") _) _ _ _, _, _⟩] _ _) _) _) _ _ _); k_dflt (refine' Assign_zip (by k_asm) (by rfl) (by with_unfolding_all rfl) (by with_unfolding_all rfl) (by decide) (by rfl) (by decide) (by rfl) (by rfl) (by decide) (by rfl) (by rfl) (fun C m₂ v₁ v₂ s₃ Q' E' hn h1 h2 k => elt_pair hn h1 h2 (by rfl) (by rfl) (by rfl) (by decide) (by decide) k) ?_)))) | ((with_reducible show wpAny _ _ (binaryOp _ (Value.ref _) (Value.ref _)) _ _ _); with_reducible ((k_here; k_dflt (refine' addK ?Fs1a2 ?Ns1a2 ?ls1a2 ?bs1a2 ?zs1a2 ?_; (case Fs1a2 => k_asm); (case Ns1a2 => k_asm); (case ls1a2 => k_mem); (case bs1a2 => k_mem); (case zs1a2 => (simp only [List.length_cons, List.length_nil]; rw [sizeLine_eq]; omega)); k_whole); intro _ _ l1 _ _; (try k_lt l1); (try (revert l1; intro _)); (try k_sweep); (try dsimp only)))) | ((with_reducible show wpAny _ _ (binaryOp _ (Value.ref _) (Value.ref _)) _ _ _); with_reducible ((k_here; k_dflt (refine' addK ?Fs1a3 ?Ns1a3 ?ls1a3 ?bs1a3 ?zs1a3 ?_; (case Fs1a3 => k_asm); (case Ns1a3 => k_asm); (case ls1a3 => k_mem); (case bs1a3 => k_mem); (case zs1a3 => (simp only [List.length_cons, List.length_nil]; rw [sizeLine_eq]; omega)); k_whole); intro _ _ l1 _ _; (try k_lt l1); (try (revert l1; intro _)); (try k_sweep); (try dsimp only)))) | walk1))
  (refine' zip_src (A := ktrTop _ _ _ _ _ L fa cd _ _) ?h ?F ?N ?m1 ?m2 ?z ?_)
  (case h => rfl)
  (case F => k_asm)
  (case N => k_asm)
  (case m1 => k_mem)
  (case m2 => k_mem)
  (case z => (rw [sizeLine_eq]; simp only [List.length_cons, List.length_append, List.length_nil]; omega))
  intro g9 D9 ys9 tups9 h9 tk9 hys9 lt9 F9 N9 ltt9
  have h53D : (53 : Nat) < D9 := lt9 (53, tabO #[]) (by k_mem)
  have hLD : (L + 1 : Nat) < D9 := lt9 (L + 1, oc4) (by k_mem)
  have hbs : BoundsAre tups9 ys9 (bList (drawCuts (ns.take 10)) page.length) := bounds_of (.cons 0 _ hcv) (intsAre_snoc hcv _ _) hys9
  have N10 : News gr L h9 ((D9, LCg.lst ys9) :: (53, tabO #[]) :: (L + 1, oc4) :: tups9) := Mine.News.sub N9 (fun p hp => by
    rcases List.mem_cons.mp hp with rfl | hp
    · exact .head _
    · rcases List.mem_cons.mp hp with rfl | hp
      · exact .tail _ (List.mem_append_right _ (by k_mem))
      · rcases List.mem_cons.mp hp with rfl | hp
        · exact .tail _ (List.mem_append_right _ (by k_mem))
        · exact .tail _ (List.mem_append_left _ hp))
  clear N9 lt9 hys9 hcv ltr1 ltca hws1 ltD1
  dsimp only at F9
  obtain ⟨tD, m9, F10⟩ : ∃ tD m9, Fr gr L h9 (over [(Str.ofString "script", .ref ln), (Str.ofString "data", .bytes (byteArr (octets page n)) tD), (Str.ofString "bounds", .ref D9)] m9) := ⟨_, _, Fr.has F9 ⟨rfl, rfl, rfl, trivial⟩⟩
  clear F9
  generalize hbl : bList (drawCuts (ns.take 10)) page.length = bs at hbs
  repeat' ((fail_if_success (with_reducible show wpAny _ _ (pyIter _) _ _ _)); (fail_if_success (with_reducible show Bar _)); (fail_if_success (with_reducible show wpAny _ _ (subscriptTail (Expr.Subscript _ _ _) (Expr.Constant _ _ _) _ _) _ _ _)); (fail_if_success (with_reducible show wpAny _ _ (call (Value.builtin "list.append") _) _ _ _)); (fail_if_success (with_reducible show wpAny _ _ (eval (Expr.ListComp _ _ _ _) _) _ _ _)); (fail_if_success (with_reducible show wpAny _ _ (call (Value.type "zip") _) _ _ _)); first | (k_unfold; (try dsimp only)) | walk1 | (dsimp only; walk1))
  refine wpC_execs_pre (pre := [_]) ?_
  k_fold
  repeat' ((fail_if_success (with_reducible show wpAny _ _ (pyIter _) _ _ _)); (fail_if_success (with_reducible show Bar _)); (fail_if_success (with_reducible show wpAny _ _ (subscriptTail (Expr.Subscript _ _ _) (Expr.Constant _ _ _) _ _) _ _ _)); (fail_if_success (with_reducible show wpAny _ _ (call (Value.builtin "list.append") _) _ _ _)); (fail_if_success (with_reducible show wpAny _ _ (eval (Expr.ListComp _ _ _ _) _) _ _ _)); (fail_if_success (with_reducible show wpAny _ _ (call (Value.type "zip") _) _ _ _)); first | (k_unfold; (try dsimp only)) | walk1 | (dsimp only; walk1))
  refine LCp.ListComp_P (F₀ := F10) (by with_unfolding_all rfl) (by decide) (by rfl) (by decide) (by rfl) (by rfl) (by decide) ?_
  (first | walk1)
  refine LCp.SrcLP.ledger (by rfl) F10 N10 (List.Mem.head _) (by simp only [List.size_toArray, hbs.len, ← hbl, bList, List.length_zip, List.length_cons, List.length_append, List.length_nil, sizeLine_eq]; have := drawCuts_len (ns.take 10); omega) ?_
  intro gB
  refine compP_rest (fun i y => ∃ f b t', bs[i]? = some (f, b) ∧ y = .str (Txt.slice page (some f) (some b)) t') ?_ ?_
  · intro i v hi hv
    have hi' : i < bs.length := by simpa [hbs.len] using hi
    obtain ⟨⟨f, b⟩, hfb⟩ : ∃ fb, bs[i]? = some fb := ⟨_, List.getElem?_eq_getElem hi'⟩
    obtain ⟨t, u1, u2, q1, q2⟩ := hbs.at' hfb
    have hv' : v = .ref t := by
      have : ys9[i]? = some v := by simpa using hv
      rw [q1] at this
      exact (Option.some.inj this).symm
    refine ⟨t, _, _, _, _, hv', .tail _ (.tail _ (.tail _ q2)), rfl, rfl, ?_⟩
    intro I oI C oC D m₂ ys h tk E' hC hx hx2 F N off ne
    dsimp only
    clear F10 N10
    repeat' ((fail_if_success (with_reducible show LCg.CompEnd _ _ _ _ _ _ _ _ _ _ _ _ _ _)); first | (k_unfold; (try dsimp only)) | walk1 | (dsimp only; walk1))
    exact LCg.CompEnd.intro (by assumption) (by assumption) _ (fun _ hp => hp) off (.inr ⟨_, .head _, rfl, _, rfl⟩) ⟨rfl, f, b, _, hfb, rfl⟩
  · intro yp hyp hR
    have hps : StrsAre yp (bs.map (pieceOf page)) := strsAre_of (by simpa [hbs.len] using hyp) fun i y e => by
      obtain ⟨f, b, t', q1, q2⟩ := hR i y e
      exact ⟨(f, b), t', q1, q2⟩
    obtain ⟨ls, hls, hlsum, hlcnt⟩ := bounds_ok (ns.take 10) ns.sum h10
    rw [hqp, hbl] at hls
    rw [hqp] at hlsum
    have hsum200 : ((bs.map (pieceOf page)).map Str.length).sum ≤ 200 := by
      rw [hls]; exact Nat.le_trans (pieces_sum (by omega)) (by omega)
    have hl200 : ∀ x ∈ bs.map (pieceOf page), x.length ≤ 200 := fun x hx => by
      obtain ⟨fb, _, rfl⟩ := List.mem_map.mp hx
      exact Nat.le_trans (piece_len fb) (by omega)
    intro DP hP tkP FP NP offP
    clear F10 N10 hR
    dsimp only
    repeat' ((fail_if_success (with_reducible show wpAny _ _ (pyIter _) _ _ _)); (fail_if_success (with_reducible show Bar _)); (fail_if_success (with_reducible show wpAny _ _ (subscriptTail (Expr.Subscript _ _ _) (Expr.Constant _ _ _) _ _) _ _ _)); (fail_if_success (with_reducible show wpAny _ _ (call (Value.builtin "list.append") _) _ _ _)); (fail_if_success (with_reducible show wpAny _ _ (eval (Expr.ListComp _ _ _ _) _) _ _ _)); (fail_if_success (with_reducible show wpAny _ _ (call (Value.type "zip") _) _ _ _)); first | (k_unfold; (try dsimp only)) | ((with_reducible show wpAny _ _ (call (Value.ref _) _ _) _ _ _); with_reducible ((k_here; (with_reducible show wpAny _ _ (call (Value.ref 114) _) _ _ _); k_dflt (refine' c_list ?k1s6a0 ?k2s6a0 ?k3s6a0 ?k4s6a0 ?k5s6a0 ?kKs6a0 ?kls6a0 ?kvs6a0 ?kns6a0 ?kss6a0 ?kds6a0 ?_; (case k1s6a0 => k_asm); (case k2s6a0 => k_asm); (case k3s6a0 => assumption); (case k4s6a0 => k_asm); (case k5s6a0 => k_asm); (case kKs6a0 => exact rfl); (case kls6a0 => k_mem); (case kvs6a0 => assumption); (case kns6a0 => assumption); (case kss6a0 => assumption); (case kds6a0 => ktr_room)); intro _ _ _ _ _ _ _; (try dsimp only); (try k_fold)))) | walk1 | (dsimp only; first | ((with_reducible show wpAny _ _ (call (Value.ref _) _ _) _ _ _); with_reducible ((k_here; (with_reducible show wpAny _ _ (call (Value.ref 114) _) _ _ _); k_dflt (refine' c_list ?k1s6a0 ?k2s6a0 ?k3s6a0 ?k4s6a0 ?k5s6a0 ?kKs6a0 ?kls6a0 ?kvs6a0 ?kns6a0 ?kss6a0 ?kds6a0 ?_; (case k1s6a0 => k_asm); (case k2s6a0 => k_asm); (case k3s6a0 => assumption); (case k4s6a0 => k_asm); (case k5s6a0 => k_asm); (case kKs6a0 => exact rfl); (case kls6a0 => k_mem); (case kvs6a0 => assumption); (case kns6a0 => assumption); (case kss6a0 => assumption); (case kds6a0 => ktr_room)); intro _ _ _ _ _ _ _; (try dsimp only); (try k_fold)))) | walk1))
    refine wpC_execs_pre (pre := [_]) ?_
    k_fold
    refine wpAny_execs_cons (const_bar ?_)
    repeat' ((fail_if_success (with_reducible show wpAny _ _ (pyIter _) _ _ _)); (fail_if_success (with_reducible show Bar _)); (fail_if_success (with_reducible show wpAny _ _ (subscriptTail (Expr.Subscript _ _ _) (Expr.Constant _ _ _) _ _) _ _ _)); (fail_if_success (with_reducible show wpAny _ _ (call (Value.builtin "list.append") _) _ _ _)); (fail_if_success (with_reducible show wpAny _ _ (eval (Expr.ListComp _ _ _ _) _) _ _ _)); (fail_if_success (with_reducible show wpAny _ _ (call (Value.type "zip") _) _ _ _)); first | (k_unfold; (try dsimp only)) | walk1 | (dsimp only; walk1))
    refine bar ?_
    intro hk1
    dsimp only at hk1 ⊢
    refine wpAny_execs_nil ?_
    k_unfold
    dsimp only
    refine wpC_execs_pre (pre := [_, _]) ?_
    k_fold
    refine stmt_bar (n := 1) (by assumption) ?_
    repeat' ((fail_if_success (with_reducible show wpAny _ _ (pyIter _) _ _ _)); (fail_if_success (with_reducible show Bar _)); (fail_if_success (with_reducible show wpAny _ _ (subscriptTail (Expr.Subscript _ _ _) (Expr.Constant _ _ _) _ _) _ _ _)); (fail_if_success (with_reducible show wpAny _ _ (call (Value.builtin "list.append") _) _ _ _)); (fail_if_success (with_reducible show wpAny _ _ (eval (Expr.ListComp _ _ _ _) _) _ _ _)); (fail_if_success (with_reducible show wpAny _ _ (call (Value.type "zip") _) _ _ _)); first | (k_unfold; (try dsimp only)) | walk1 | (dsimp only; walk1))
    refine bar ?_
    intro hk2
    dsimp only at hk2 ⊢
    refine stmt_bar (n := 1) (by assumption) ?_
    repeat' ((fail_if_success (with_reducible show wpAny _ _ (pyIter _) _ _ _)); (fail_if_success (with_reducible show Bar _)); (fail_if_success (with_reducible show wpAny _ _ (subscriptTail (Expr.Subscript _ _ _) (Expr.Constant _ _ _) _ _) _ _ _)); (fail_if_success (with_reducible show wpAny _ _ (call (Value.builtin "list.append") _) _ _ _)); (fail_if_success (with_reducible show wpAny _ _ (eval (Expr.ListComp _ _ _ _) _) _ _ _)); (fail_if_success (with_reducible show wpAny _ _ (call (Value.type "zip") _) _ _ _)); first | (k_unfold; (try dsimp only)) | walk1 | (dsimp only; walk1))
    refine bar ?_
    intro hk3
    dsimp only at hk3 ⊢
    refine wpAny_execs_nil ?_
    k_unfold
    dsimp only
    rename_i dr dv hQ1 tkQ1 hdv q1 e1 hQ2 q2 e2 hQ3 hQ4 tkQ4 tQ4 hQ5 wr hQ6 hlw hX FX NX
    obtain ⟨sh, hsh, hsh1, hsh2⟩ : ∃ sh : Nat, 1 + ns.sum.fmod 11 = (sh : Int) ∧ 1 ≤ sh ∧ sh ≤ 11 := by
      have h1 := Int.fmod_nonneg_of_pos ns.sum (show (0 : Int) < 11 by decide)
      have h2 := Int.fmod_lt_of_pos ns.sum (show (0 : Int) < 11 by decide)
      exact ⟨(1 + ns.sum.fmod 11).toNat, by omega, by omega, by omega⟩
    obtain ⟨tS, tM, m10, F11⟩ : ∃ tS tM m10, Fr gr L hX (over [(Str.ofString "script", .ref ln), (Str.ofString "data", .bytes (byteArr (octets page n)) tD), (Str.ofString "bounds", .ref D9), (Str.ofString "due", .ref dr), (Str.ofString "menu", .str (Str.ofString ".+-_/\\:;\"( )") tM), (Str.ofString "shift", .int (sh : Nat) tS), (Str.ofString "writings", .ref wr)] m10) :=
      ⟨_, _, _, Fr.has FX ⟨rfl, rfl, rfl, rfl, rfl, by rw [← hsh]; rfl, rfl, trivial⟩⟩
    clear FX offP
    have N11 := Mine.News.sub NX (l := (wr, W.listOf [].toArray 0) :: (dr, W.listOf dv.toArray dv.length) :: (D9, LCg.lst ys9) :: (53, tabO #[]) :: (L + 1, oc4) :: tups9) (fun p hp => by
      rcases List.mem_cons.mp hp with rfl | hp
      · exact .head _
      · rcases List.mem_cons.mp hp with rfl | hp
        · exact .tail _ (.head _)
        · exact .tail _ (.tail _ (.tail _ hp)))
    generalize hmn : ([(Str.ofString "script", .ref ln), (Str.ofString "data", .bytes (byteArr (octets page n)) tD), (Str.ofString "bounds", .ref D9), (Str.ofString "due", .ref dr), (Str.ofString "menu", .str (Str.ofString ".+-_/\\:;\"( )") tM), (Str.ofString "shift", .int (sh : Nat) tS), (Str.ofString "writings", .ref wr)] : List (Str × Value)) = lawM at F11
    refine wpC_execs_cons (wpC_For_GB (h₀ := gr) hk3 rfl rfl ?_)
    repeat' ((fail_if_success (with_reducible show wpAny _ _ (pyIter _) _ _ _)); (fail_if_success (with_reducible show Bar _)); (fail_if_success (with_reducible show wpAny _ _ (subscriptTail (Expr.Subscript _ _ _) (Expr.Constant _ _ _) _ _) _ _ _)); (fail_if_success (with_reducible show wpAny _ _ (call (Value.builtin "list.append") _) _ _ _)); (fail_if_success (with_reducible show wpAny _ _ (eval (Expr.ListComp _ _ _ _) _) _ _ _)); (fail_if_success (with_reducible show wpAny _ _ (call (Value.type "zip") _) _ _ _)); first | (k_unfold; (try dsimp only)) | walk1 | (dsimp only; walk1))
    refine bar ?_
    intro hk4
    dsimp only at hk4 ⊢
    rename IsRange _ _ _ _ _ _ _ _ => hR
    rename Fr gr L _ _ => F12
    rename News gr L _ _ => N12
    refine iter_rangeG (n := 12) (fun i m₁ news₁ => ∃ wv kw, StrsAre wv ((List.range i).map (writing page sh)) ∧ Has m₁ lawM ∧
      news₁ = (wr, W.listOf wv.toArray kw) :: (dr, W.listOf dv.toArray dv.length) :: (D9, LCg.lst ys9) :: (53, tabO #[]) :: (L + 1, oc4) :: tups9) rfl hR (by decide) (by decide) F12 N12 ⟨[], 0, .nil, by rw [← hmn]; exact ⟨rfl, rfl, rfl, rfl, rfl, rfl, rfl, trivial⟩, rfl⟩ (fun y hy => by rw [hg] at hy; simp at hy) hk4 ?_ ?_
    · clear F12 N12 hR
      rintro i t' m₁ news₁ h tk gs I oI hi ⟨wv, kw, hwv, hm, rfl⟩ hne htk hbare F1 N1
      rw [← hmn] at hm
      have F2 := Fr.turn F1 hm
      clear F1
      have e0 : (0 + ((i : Nat) : Int) * 1) = ((i : Nat) : Int) := by omega
      rw [e0] at F2
      have hg1 : (Str.ofString ".+-_/\\:;\"( )").cps[i]? = some (menuAt i) := menu_get hi
      have hg2 : (Str.ofString ".+-_/\\:;\"( )").cps[(i + sh) % 12]? = some (menuAt ((i + sh) % 12)) := menu_get (Nat.mod_lt _ (by decide))
      have hgz : (Str.ofString ".+-_/\\:;\"( )").length < 2 ^ 60 := by decide
      have hgi : Int.fmod ((i : Int) + (sh : Int)) 12 = (((i + sh) % 12 : Nat) : Int) := by rw [Int.fmod_eq_emod_of_nonneg _ (by decide)]; omega
      refine wpC_gen fun qT1 gQ1 => ?_
      refine wpC.of ?_
      refine stmt_bar (n := 1) htk ?_
      repeat' ((fail_if_success (with_reducible show wpAny _ _ (pyIter _) _ _ _)); (fail_if_success (with_reducible show Bar _)); (fail_if_success (with_reducible show wpAny _ _ (subscriptTail (Expr.Subscript _ _ _) (Expr.Constant _ _ _) _ _) _ _ _)); (fail_if_success (with_reducible show wpAny _ _ (call (Value.builtin "list.append") _) _ _ _)); (fail_if_success (with_reducible show wpAny _ _ (eval (Expr.ListComp _ _ _ _) _) _ _ _)); (fail_if_success (with_reducible show wpAny _ _ (call (Value.type "zip") _) _ _ _)); first | (k_unfold; (try dsimp only)) | ((with_reducible show wpAny _ _ (subscriptTail (Expr.Name _ _) (Expr.Name _ _) (Value.str _ _) (Value.int _ _)) _ _ _); with_reducible ((with_unfolding_all refine' strItemK ?es11a0 ?zs11a0 ?_ ?hss11a0 ?hts11a0; (case es11a0 => assumption); (case zs11a0 => assumption); (case hss11a0 => with_unfolding_all rfl); (case hts11a0 => (intro _; with_unfolding_all rfl)); k_whole; intro _ _; (try dsimp only)))) | ((with_reducible show wpAny _ _ (subscriptTail (Expr.Name _ _) (Expr.BinOp _ _ _ _) (Value.str _ _) (Value.int _ _)) _ _ _); with_reducible ((with_unfolding_all refine' strItemI ?is11a1 ?es11a1 ?zs11a1 ?_ ?hss11a1 ?hts11a1; (case is11a1 => assumption); (case es11a1 => assumption); (case zs11a1 => assumption); (case hss11a1 => with_unfolding_all rfl); (case hts11a1 => (intro _; with_unfolding_all rfl)); k_whole; intro _ _; (try dsimp only)))) | walk1 | (dsimp only; first | ((with_reducible show wpAny _ _ (subscriptTail (Expr.Name _ _) (Expr.Name _ _) (Value.str _ _) (Value.int _ _)) _ _ _); with_reducible ((with_unfolding_all refine' strItemK ?es11a0 ?zs11a0 ?_ ?hss11a0 ?hts11a0; (case es11a0 => assumption); (case zs11a0 => assumption); (case hss11a0 => with_unfolding_all rfl); (case hts11a0 => (intro _; with_unfolding_all rfl)); k_whole; intro _ _; (try dsimp only)))) | ((with_reducible show wpAny _ _ (subscriptTail (Expr.Name _ _) (Expr.BinOp _ _ _ _) (Value.str _ _) (Value.int _ _)) _ _ _); with_reducible ((with_unfolding_all refine' strItemI ?is11a1 ?es11a1 ?zs11a1 ?_ ?hss11a1 ?hts11a1; (case is11a1 => assumption); (case es11a1 => assumption); (case zs11a1 => assumption); (case hss11a1 => with_unfolding_all rfl); (case hts11a1 => (intro _; with_unfolding_all rfl)); k_whole; intro _ _; (try dsimp only)))) | walk1))
      refine bar ?_
      intro hk5
      dsimp only at hk5 ⊢
      refine stmt_bar (n := 1) (by assumption) ?_
      repeat' ((fail_if_success (with_reducible show wpAny _ _ (pyIter _) _ _ _)); (fail_if_success (with_reducible show Bar _)); (fail_if_success (with_reducible show wpAny _ _ (subscriptTail (Expr.Subscript _ _ _) (Expr.Constant _ _ _) _ _) _ _ _)); (fail_if_success (with_reducible show wpAny _ _ (call (Value.builtin "list.append") _) _ _ _)); (fail_if_success (with_reducible show wpAny _ _ (eval (Expr.ListComp _ _ _ _) _) _ _ _)); (fail_if_success (with_reducible show wpAny _ _ (call (Value.type "zip") _) _ _ _)); first | (k_unfold; (try dsimp only)) | walk1 | (dsimp only; walk1))
      rename Fr gr L _ _ => F3
      rename News gr L _ _ => N3
      have hj12 : (i + sh) % 12 < 12 := Nat.mod_lt _ (by decide)
      have hpr : (({ cps := #[menuAt i] } : Str) ++ { cps := #[menuAt ((i + sh) % 12)] }).cps = #[menuAt i, menuAt ((i + sh) % 12)] := rfl
      refine ListComp_W F3 (by with_unfolding_all rfl) (by decide) (by rfl) (by decide) (by rfl) ?_
      (first | walk1)
      refine src_str rfl F3 N3 (by rw [sizeLine_eq, hpr]; exact (show 2 ≤ 16777216 by decide)) ?_
      intro gB2
      refine comp_rest (fun j y => ∃ c t, [(menuAt i : Int), (menuAt ((i + sh) % 12) : Int)][j]? = some c ∧ y = .int c t) ?_ ?_
      · rintro j v I' oI' C oC D m₂ ys h2 tk2 E' hj ⟨c, u, hc, rfl⟩ hC hx F N off ne'
        clear F3 N3 F2 N1
        rw [hpr] at hc
        have hc' : [(menuAt i : Int), (menuAt ((i + sh) % 12) : Int)][j]? = some ((c : Nat) : Int) := by
          have h1 : [menuAt i, menuAt ((i + sh) % 12)][j]? = some c := by simpa using hc
          have h2 := congrArg (Option.map (fun (x : Nat) => (x : Int))) h1
          rw [← List.getElem?_map] at h2
          exact h2
        dsimp only
        repeat' ((fail_if_success (with_reducible show LCg.CompEnd _ _ _ _ _ _ _ _ _ _ _ _ _ _)); first | (k_unfold; (try dsimp only)) | walk1 | (dsimp only; walk1))
        exact LCg.CompEnd.intro (by assumption) (by assumption) _ (fun _ hp => hp) off trivial ⟨rfl, _, _, hc', rfl⟩
      · intro yp hyp hR
        have hyi : IntsAre yp [(menuAt i : Int), (menuAt ((i + sh) % 12) : Int)] := intsAre_of (by rw [hyp, hpr]; rfl) hR
        have hrg : ∀ k ∈ [(menuAt i : Int), (menuAt ((i + sh) % 12) : Int)], 0 ≤ k ∧ k < 256 := by
          have h1 := menu_lt hi
          have h2 := menu_lt hj12
          intro k hk
          simp only [List.mem_cons, List.not_mem_nil, or_false] at hk
          rcases hk with rfl | rfl <;> omega
        have hok := octets_ok page n
        have hod := hok.1
        have hol : (octets page n).length ≤ 100 := Nat.le_trans hok.2 (by omega)
        have hoe : (encOut (octets page n)).length ≤ sizeLine := by rw [sizeLine_eq]; have := encOut_len (octets page n); omega
        intro DP2 hP2 tkP2 FP2 NP2 offP2
        clear F3 N3 hR F2 N1
        dsimp only
        repeat' ((fail_if_success (with_reducible show wpAny _ _ (pyIter _) _ _ _)); (fail_if_success (with_reducible show Bar _)); (fail_if_success (with_reducible show wpAny _ _ (subscriptTail (Expr.Subscript _ _ _) (Expr.Constant _ _ _) _ _) _ _ _)); (fail_if_success (with_reducible show wpAny _ _ (call (Value.builtin "list.append") _) _ _ _)); (fail_if_success (with_reducible show wpAny _ _ (eval (Expr.ListComp _ _ _ _) _) _ _ _)); (fail_if_success (with_reducible show wpAny _ _ (call (Value.type "zip") _) _ _ _)); first | (k_unfold; (try dsimp only)) | ((with_reducible show wpAny _ _ (call (Value.ref _) _ _) _ _ _); with_reducible ((k_here; (with_reducible show wpAny _ _ (call (Value.ref 88) _) _ _ _); k_dflt (refine' c_b64encode ?k1s15a0 ?k2s15a0 ?k3s15a0 ?k4s15a0 ?k5s15a0 ?kKs15a0 ?kls15a0 ?kvs15a0 ?kns15a0 ?kds15a0 ?_; (case k1s15a0 => k_asm); (case k2s15a0 => k_asm); (case k3s15a0 => assumption); (case k4s15a0 => k_asm); (case k5s15a0 => k_asm); (case kKs15a0 => exact rfl); (case kls15a0 => assumption); (case kvs15a0 => assumption); (case kns15a0 => assumption); (case kds15a0 => ktr_room)); intro _ _ _ _ _; (try dsimp only); (try k_fold)))) | walk1 | (dsimp only; first | ((with_reducible show wpAny _ _ (call (Value.ref _) _ _) _ _ _); with_reducible ((k_here; (with_reducible show wpAny _ _ (call (Value.ref 88) _) _ _ _); k_dflt (refine' c_b64encode ?k1s15a0 ?k2s15a0 ?k3s15a0 ?k4s15a0 ?k5s15a0 ?kKs15a0 ?kls15a0 ?kvs15a0 ?kns15a0 ?kds15a0 ?_; (case k1s15a0 => k_asm); (case k2s15a0 => k_asm); (case k3s15a0 => assumption); (case k4s15a0 => k_asm); (case k5s15a0 => k_asm); (case kKs15a0 => exact rfl); (case kls15a0 => assumption); (case kvs15a0 => assumption); (case kns15a0 => assumption); (case kds15a0 => ktr_room)); intro _ _ _ _ _; (try dsimp only); (try k_fold)))) | walk1))
        refine bar ?_
        intro hk6
        dsimp only at hk6 ⊢
        have hes : (encAs page n (menuAt i) (menuAt ((i + sh) % 12))).size ≤ 204 := by
          rw [encAs_size]; have := encOut_len (octets page n); omega
        have hij : i ≠ (i + sh) % 12 := by omega
        have hba : Txt.join (Str.ofString "") ((encAs page n (menuAt i) (menuAt ((i + sh) % 12))).toList.map oneOf) = writing page sh i := by
          have := base64_ok (ns := ns.take 10) (total := ns.sum) (n := n) h10 (by rw [hqp]; exact hpl) hi hj12 hij
          rw [hqp] at this
          exact this
        refine stmt_bar (n := 1) (by assumption) ?_
        repeat' ((fail_if_success (with_reducible show wpAny _ _ (pyIter _) _ _ _)); (fail_if_success (with_reducible show Bar _)); (fail_if_success (with_reducible show wpAny _ _ (subscriptTail (Expr.Subscript _ _ _) (Expr.Constant _ _ _) _ _) _ _ _)); (fail_if_success (with_reducible show wpAny _ _ (call (Value.builtin "list.append") _) _ _ _)); (fail_if_success (with_reducible show wpAny _ _ (eval (Expr.ListComp _ _ _ _) _) _ _ _)); (fail_if_success (with_reducible show wpAny _ _ (call (Value.type "zip") _) _ _ _)); first | (k_unfold; (try dsimp only)) | walk1 | (dsimp only; walk1))
        rename Fr gr L _ _ => F4
        rename News gr L _ _ => N4
        replace N4 := Mine.News.sub N4 (l := (I, oI) :: (wr, W.listOf wv.toArray kw) :: (dr, W.listOf dv.toArray dv.length) :: (D9, LCg.lst ys9) :: (53, tabO #[]) :: (L + 1, oc4) :: tups9) (fun p hp => .tail _ hp)
        generalize hen : encAs page n (menuAt i) (menuAt ((i + sh) % 12)) = enc at *
        change transOf (transTab #[43, 47] (byteArr [(menuAt i : Int), (menuAt ((i + sh) % 12) : Int)])) (byteArr (encOut (octets page n))) = enc at hen
        rw [hen] at F4
        refine ListComp_W F4 (by with_unfolding_all rfl) (by decide) (by rfl) (by decide) (by rfl) ?_
        (first | walk1)
        refine src_bytes rfl F4 N4 (by rw [sizeLine_eq]; omega) ?_
        intro gB3
        refine comp_rest (fun j y => ∃ c t, enc.toList[j]? = some c ∧ y = .str (oneOf c) t) ?_ ?_
        · rintro j v I' oI' C oC D m₂ ys h2 tk2 E' hj ⟨c, u, hc, rfl⟩ hC hx F N off ne'
          clear F4 N4
          have hc256 := UInt8.toNat_lt c
          dsimp only
          repeat' ((fail_if_success (with_reducible show LCg.CompEnd _ _ _ _ _ _ _ _ _ _ _ _ _ _)); first | (k_unfold; (try dsimp only)) | walk1 | (dsimp only; walk1))
          exact LCg.CompEnd.intro F N _ (fun _ hp => hp) off trivial ⟨rfl, c, _, (by simpa using hc), rfl⟩
        · intro yq hyq hRq
          have hysq : StrsAre yq.toArray.toList (enc.toList.map oneOf) := by
            rw [List.toList_toArray]
            exact strsAre_of (by rw [hyq, Array.length_toList]) hRq
          have hjs : ((enc.toList.map oneOf).map (·.length)).sum + (enc.toList.map oneOf).length * 64 ≤ 16777216 := by
            have h1 : ∀ l : List UInt8, ((l.map oneOf).map (·.length)).sum = l.length := by
              intro l
              induction l with
              | nil => rfl
              | cons c l ih => simp only [List.map_cons, List.sum_cons, List.length_cons, ih]; exact Nat.add_comm _ _
            rw [h1, List.length_map, Array.length_toList]; omega
          intro DP3 hP3 tkP3 FP3 NP3 offP3
          clear F4 N4 hRq
          dsimp only
          repeat' ((fail_if_success (with_reducible show wpAny _ _ (pyIter _) _ _ _)); (fail_if_success (with_reducible show Bar _)); (fail_if_success (with_reducible show wpAny _ _ (subscriptTail (Expr.Subscript _ _ _) (Expr.Constant _ _ _) _ _) _ _ _)); (fail_if_success (with_reducible show wpAny _ _ (call (Value.builtin "list.append") _) _ _ _)); (fail_if_success (with_reducible show wpAny _ _ (eval (Expr.ListComp _ _ _ _) _) _ _ _)); (fail_if_success (with_reducible show wpAny _ _ (call (Value.type "zip") _) _ _ _)); first | (k_unfold; (try dsimp only)) | ((with_reducible show wpAny _ _ (call (Value.builtin "str.join") _ _) _ _ _); with_reducible ((k_here; k_dflt (refine' join_listC (led_list ?Ns19a0 ?ls19a0) ?is19a0 ?ss19a0 ?ks19a0 ?_; (case Ns19a0 => k_asm); (case ls19a0 => k_mem); (case is19a0 => assumption); (case ss19a0 => decide); (case ks19a0 => assumption)); intro _ _; (try dsimp only)))) | walk1 | (dsimp only; first | ((with_reducible show wpAny _ _ (call (Value.builtin "str.join") _ _) _ _ _); with_reducible ((k_here; k_dflt (refine' join_listC (led_list ?Ns19a0 ?ls19a0) ?is19a0 ?ss19a0 ?ks19a0 ?_; (case Ns19a0 => k_asm); (case ls19a0 => k_mem); (case is19a0 => assumption); (case ss19a0 => decide); (case ks19a0 => assumption)); intro _ _; (try dsimp only)))) | walk1))
          rw [hba]
          have hwrest := allLt_ne (l := (dr, W.listOf dv.toArray dv.length) :: (D9, LCg.lst ys9) :: (53, tabO #[]) :: (L + 1, oc4) :: tups9) (d := wr) ⟨hlw.1, hlw.2.2⟩
          have hwl := Mine.StrsAre.length hwv
          rw [List.length_map, List.length_range] at hwl
          refine' append_K FP3 (Mine.News.sub NP3 fun p hp => .tail _ hp) ?k3 ?_ ?z
          (case k3 => exact .tail (hne _ (.head _)).symm (.head hwrest))
          (case z => (rw [List.size_toArray, sizeLine_eq]; omega))
          intro hP5 FP5 NP5
          rw [List.push_toArray] at NP5
          clear FP3 NP3 hysq hjs
          refine bar ?_
          intro hk7
          dsimp only at hk7 ⊢
          obtain ⟨tW, NP6⟩ : ∃ tW, News gr L hP5 ((I, oI) :: (wr, W.listOf (wv ++ [Value.str (writing page sh i) tW]).toArray (kw + 1)) :: (dr, W.listOf dv.toArray dv.length) :: (D9, LCg.lst ys9) :: (53, tabO #[]) :: (L + 1, oc4) :: tups9) := ⟨_, NP5⟩
          clear NP5
          have hxi : (wv ++ [Value.str (writing page sh i) tW])[i]? = some (Value.str (writing page sh i) tW) := by
            rw [List.getElem?_append_right (by omega), hwl, Nat.sub_self]; rfl
          have hwz : (wv ++ [Value.str (writing page sh i) tW]).length ≤ 400 := by rw [List.length_append, hwl]; simp; omega
          have hp0' : (({ cps := #[menuAt i] } : Str) ++ { cps := #[menuAt ((i + sh) % 12)] }).cps[0]? = some (menuAt i) := rfl
          have hp1' : (({ cps := #[menuAt i] } : Str) ++ { cps := #[menuAt ((i + sh) % 12)] }).cps[1]? = some (menuAt ((i + sh) % 12)) := rfl
          have hpz : (({ cps := #[menuAt i] } : Str) ++ { cps := #[menuAt ((i + sh) % 12)] }).length < 2 ^ 60 := (show 2 < 2 ^ 60 by decide)
          have hno1 := (menu_no hi).1
          have hno2 := (menu_no hj12).2
          have hpgz : page.length ≤ 1048576 := by omega
          have hpgz2 : (Txt.replace page (Str.ofString "*") (sgn i)).length ≤ 1048576 := Nat.le_trans (replace_le (show 1 ≤ 1 by decide)) hpgz
          refine wpAny_execs_cons ?_
          repeat' ((fail_if_success (with_reducible show wpAny _ _ (pyIter _) _ _ _)); (fail_if_success (with_reducible show Bar _)); (fail_if_success (with_reducible show wpAny _ _ (subscriptTail (Expr.Subscript _ _ _) (Expr.Constant _ _ _) _ _) _ _ _)); (fail_if_success (with_reducible show wpAny _ _ (call (Value.builtin "list.append") _) _ _ _)); (fail_if_success (with_reducible show wpAny _ _ (eval (Expr.ListComp _ _ _ _) _) _ _ _)); (fail_if_success (with_reducible show wpAny _ _ (call (Value.type "zip") _) _ _ _)); first | (k_unfold; (try dsimp only)) | ((with_reducible show wpAny _ _ (subscriptTail (Expr.Name _ _) (Expr.Name _ _) (Value.ref _) (Value.int _ _)) _ _ _); with_reducible ((with_unfolding_all refine' itemRow ?Ns20a0 ?ls20a0 ?zs20a0 ?hxs20a0 ?_ ?hss20a0; (case Ns20a0 => k_asm); (case ls20a0 => k_mem); (case zs20a0 => assumption); (case hxs20a0 => assumption); (case hss20a0 => with_unfolding_all rfl); k_whole))) | ((with_reducible show wpAny _ _ (subscriptTail (Expr.Name _ _) (Expr.Constant _ _ _) (Value.str _ _) (Value.int _ _)) _ _ _); with_reducible ((k_here; with_unfolding_all first | (refine' strItemT (pl := 0) ?is20a1 ?es20a1 ?zs20a1 ?_ ?hss20a1 ?hts20a1; (case is20a1 => rfl); (case es20a1 => assumption); (case zs20a1 => assumption); (case hss20a1 => with_unfolding_all rfl); (case hts20a1 => (intro _; with_unfolding_all rfl)); k_whole; (try dsimp only)) | (refine' strItemT (pl := 1) ?is20a1 ?es20a1 ?zs20a1 ?_ ?hss20a1 ?hts20a1; (case is20a1 => rfl); (case es20a1 => assumption); (case zs20a1 => assumption); (case hss20a1 => with_unfolding_all rfl); (case hts20a1 => (intro _; with_unfolding_all rfl)); k_whole; (try dsimp only))))) | ((with_reducible show wpAny _ _ (call (Value.builtin "str.replace") _ _) _ _ _); with_reducible ((k_here; k_dflt (refine' replaceT ?hns20a2 ?hus20a2 ?hvs20a2 ?huvs20a2 ?hyzs20a2 ?hxs20a2 ?hzs20a2 ?_; (case hns20a2 => first | omega | (dsimp only; omega) | exact Nat.le_add_left _ _); (case hus20a2 => first | omega | ((show @Ne Nat _ _); omega)); (case hvs20a2 => first | omega | ((show @Ne Nat _ _); omega)); (case huvs20a2 => first | omega | ((show @Ne Nat _ _); omega)); (case hyzs20a2 => assumption); (case hxs20a2 => first | assumption | omega); (case hzs20a2 => exact (show 1 ≤ 14 by decide))); intro _ _ _; (try dsimp only)))) | ((with_reducible show wpAny _ _ (subscriptTail (Expr.Name _ _) (Expr.Constant _ _ _) (Value.str _ _) (Value.int _ _)) _ _ _); with_reducible ((k_here; with_unfolding_all first | (refine' strItemT (pl := 0) ?is20a3 ?es20a3 ?zs20a3 ?_ ?hss20a3 ?hts20a3; (case is20a3 => rfl); (case es20a3 => assumption); (case zs20a3 => assumption); (case hss20a3 => with_unfolding_all rfl); (case hts20a3 => (intro _; with_unfolding_all rfl)); k_whole; (try dsimp only)) | (refine' strItemT (pl := 1) ?is20a3 ?es20a3 ?zs20a3 ?_ ?hss20a3 ?hts20a3; (case is20a3 => rfl); (case es20a3 => assumption); (case zs20a3 => assumption); (case hss20a3 => with_unfolding_all rfl); (case hts20a3 => (intro _; with_unfolding_all rfl)); k_whole; (try dsimp only))))) | ((with_reducible show wpAny _ _ (call (Value.builtin "str.replace") _ _) _ _ _); with_reducible ((k_here; k_dflt (refine' replaceT ?hns20a4 ?hus20a4 ?hvs20a4 ?huvs20a4 ?hyzs20a4 ?hxs20a4 ?hzs20a4 ?_; (case hns20a4 => first | omega | (dsimp only; omega) | exact Nat.le_add_left _ _); (case hus20a4 => first | omega | ((show @Ne Nat _ _); omega)); (case hvs20a4 => first | omega | ((show @Ne Nat _ _); omega)); (case huvs20a4 => first | omega | ((show @Ne Nat _ _); omega)); (case hyzs20a4 => assumption); (case hxs20a4 => first | assumption | omega); (case hzs20a4 => exact (show 1 ≤ 14 by decide))); intro _ _ _; (try dsimp only)))) | walk1 | (dsimp only; first | ((with_reducible show wpAny _ _ (subscriptTail (Expr.Name _ _) (Expr.Name _ _) (Value.ref _) (Value.int _ _)) _ _ _); with_reducible ((with_unfolding_all refine' itemRow ?Ns20a0 ?ls20a0 ?zs20a0 ?hxs20a0 ?_ ?hss20a0; (case Ns20a0 => k_asm); (case ls20a0 => k_mem); (case zs20a0 => assumption); (case hxs20a0 => assumption); (case hss20a0 => with_unfolding_all rfl); k_whole))) | ((with_reducible show wpAny _ _ (subscriptTail (Expr.Name _ _) (Expr.Constant _ _ _) (Value.str _ _) (Value.int _ _)) _ _ _); with_reducible ((k_here; with_unfolding_all first | (refine' strItemT (pl := 0) ?is20a1 ?es20a1 ?zs20a1 ?_ ?hss20a1 ?hts20a1; (case is20a1 => rfl); (case es20a1 => assumption); (case zs20a1 => assumption); (case hss20a1 => with_unfolding_all rfl); (case hts20a1 => (intro _; with_unfolding_all rfl)); k_whole; (try dsimp only)) | (refine' strItemT (pl := 1) ?is20a1 ?es20a1 ?zs20a1 ?_ ?hss20a1 ?hts20a1; (case is20a1 => rfl); (case es20a1 => assumption); (case zs20a1 => assumption); (case hss20a1 => with_unfolding_all rfl); (case hts20a1 => (intro _; with_unfolding_all rfl)); k_whole; (try dsimp only))))) | ((with_reducible show wpAny _ _ (call (Value.builtin "str.replace") _ _) _ _ _); with_reducible ((k_here; k_dflt (refine' replaceT ?hns20a2 ?hus20a2 ?hvs20a2 ?huvs20a2 ?hyzs20a2 ?hxs20a2 ?hzs20a2 ?_; (case hns20a2 => first | omega | (dsimp only; omega) | exact Nat.le_add_left _ _); (case hus20a2 => first | omega | ((show @Ne Nat _ _); omega)); (case hvs20a2 => first | omega | ((show @Ne Nat _ _); omega)); (case huvs20a2 => first | omega | ((show @Ne Nat _ _); omega)); (case hyzs20a2 => assumption); (case hxs20a2 => first | assumption | omega); (case hzs20a2 => exact (show 1 ≤ 14 by decide))); intro _ _ _; (try dsimp only)))) | ((with_reducible show wpAny _ _ (subscriptTail (Expr.Name _ _) (Expr.Constant _ _ _) (Value.str _ _) (Value.int _ _)) _ _ _); with_reducible ((k_here; with_unfolding_all first | (refine' strItemT (pl := 0) ?is20a3 ?es20a3 ?zs20a3 ?_ ?hss20a3 ?hts20a3; (case is20a3 => rfl); (case es20a3 => assumption); (case zs20a3 => assumption); (case hss20a3 => with_unfolding_all rfl); (case hts20a3 => (intro _; with_unfolding_all rfl)); k_whole; (try dsimp only)) | (refine' strItemT (pl := 1) ?is20a3 ?es20a3 ?zs20a3 ?_ ?hss20a3 ?hts20a3; (case is20a3 => rfl); (case es20a3 => assumption); (case zs20a3 => assumption); (case hss20a3 => with_unfolding_all rfl); (case hts20a3 => (intro _; with_unfolding_all rfl)); k_whole; (try dsimp only))))) | ((with_reducible show wpAny _ _ (call (Value.builtin "str.replace") _ _) _ _ _); with_reducible ((k_here; k_dflt (refine' replaceT ?hns20a4 ?hus20a4 ?hvs20a4 ?huvs20a4 ?hyzs20a4 ?hxs20a4 ?hzs20a4 ?_; (case hns20a4 => first | omega | (dsimp only; omega) | exact Nat.le_add_left _ _); (case hus20a4 => first | omega | ((show @Ne Nat _ _); omega)); (case hvs20a4 => first | omega | ((show @Ne Nat _ _); omega)); (case huvs20a4 => first | omega | ((show @Ne Nat _ _); omega)); (case hyzs20a4 => assumption); (case hxs20a4 => first | assumption | omega); (case hzs20a4 => exact (show 1 ≤ 14 by decide))); intro _ _ _; (try dsimp only)))) | walk1))
          · exfalso
            rename (_ != _) = true => hx9
            change (writing page sh i != writing page sh i) = true at hx9
            rw [bne_self_eq_false] at hx9
            exact Bool.noConfusion hx9
          · refine gQ1 _ _ (TurnEndG.go hbare FP5 NP6 (.head _) (fun p hp => .tail _ hp) ?_ ⟨_, kw + 1, ?_, by rw [← hmn]; exact ⟨rfl, rfl, rfl, rfl, rfl, rfl, rfl, trivial⟩, rfl⟩)
            · intro p hp
              rcases List.mem_cons.mp hp with rfl | hp
              · exact hne (wr, W.listOf wv.toArray kw) (.head _)
              · exact hne p (.tail _ hp)
            · rw [List.range_succ, List.map_append]
              exact strsAre_snoc hwv _ _
    · clear F12 N12 hR
      rintro m₁ news₁ h tk gs ⟨wv, kw, hwv, hm, rfl⟩ htk hbare F1 N1
      have F2 := Fr.has F1 hm
      clear F1
      rw [← hmn] at F2
      dsimp only
      refine wpC_execs_cons (wpC_For_GB (h₀ := gr) htk rfl rfl ?_)
      repeat' ((fail_if_success (with_reducible show wpAny _ _ (pyIter _) _ _ _)); (fail_if_success (with_reducible show Bar _)); (fail_if_success (with_reducible show wpAny _ _ (subscriptTail (Expr.Subscript _ _ _) (Expr.Constant _ _ _) _ _) _ _ _)); (fail_if_success (with_reducible show wpAny _ _ (call (Value.builtin "list.append") _) _ _ _)); (fail_if_success (with_reducible show wpAny _ _ (eval (Expr.ListComp _ _ _ _) _) _ _ _)); (fail_if_success (with_reducible show wpAny _ _ (call (Value.type "zip") _) _ _ _)); first | (k_unfold; (try dsimp only)) | walk1 | (dsimp only; walk1))
      refine bar ?_
      intro hk8
      dsimp only at hk8 ⊢
      rename IsRange _ _ _ _ _ _ _ _ => hR
      rename Fr gr L _ _ => F12
      rename News gr L _ _ => N12
      have F13 : Fr gr L _ _ := F12
      have N13 : News gr L _ _ := N12
      have hdr53 : (dr : Nat) ≠ 53 := led_apart N13 (.tail _ (.head _)) (.tail _ (.tail _ (.tail _ (.head _)))) (by simp)
      have hlys : ys9.length ≤ 100 := by rw [hbs.len, hls, segs_length]; omega
      have hb53 : ∀ p ∈ (wr, W.listOf wv.toArray kw) :: (dr, W.listOf dv.toArray dv.length) :: (D9, LCg.lst ys9) :: (L + 1, oc4) :: tups9, p.1 ≠ 53 := by
        intro p hp
        rcases List.mem_cons.mp hp with rfl | hp
        · exact Nat.ne_of_gt hlw.2.2.2.1
        rcases List.mem_cons.mp hp with rfl | hp
        · exact hdr53
        rcases List.mem_cons.mp hp with rfl | hp
        · exact Nat.ne_of_gt h53D
        rcases List.mem_cons.mp hp with rfl | hp
        · exact Nat.ne_of_gt (Nat.lt_succ_of_lt h53)
        · exact Nat.ne_of_gt (Nat.lt_trans h53D (ltt9 p hp))
      have N14 := Mine.News.sub N13 (l := (53, tabO #[]) :: (wr, W.listOf wv.toArray kw) :: (dr, W.listOf dv.toArray dv.length) :: (D9, LCg.lst ys9) :: (L + 1, oc4) :: tups9) (fun p hp => by
        rcases List.mem_cons.mp hp with rfl | hp
        · exact .tail _ (.tail _ (.tail _ (.head _)))
        rcases List.mem_cons.mp hp with rfl | hp
        · exact .head _
        rcases List.mem_cons.mp hp with rfl | hp
        · exact .tail _ (.head _)
        rcases List.mem_cons.mp hp with rfl | hp
        · exact .tail _ (.tail _ (.head _))
        · exact .tail _ (.tail _ (.tail _ (.tail _ hp))))
      generalize hbase : ((wr, W.listOf wv.toArray kw) :: (dr, W.listOf dv.toArray dv.length) :: (D9, LCg.lst ys9) :: (L + 1, oc4) :: tups9 : List (Addr × Obj)) = base2 at hb53 N14
      have htr0 : TriplesOk (#[] : Array Value).toList := trivial
      refine iter_rangeG (n := 6) (fun i m₁ news₁ => ∃ pt, Has m₁ lawM ∧ TriplesOk pt.toList ∧ news₁ = (53, tabO pt) :: base2) rfl hR (by decide) (by decide) F13 N14 ⟨#[], by rw [← hmn]; exact ⟨rfl, rfl, rfl, rfl, rfl, rfl, rfl, trivial⟩, htr0, rfl⟩ hbare hk8 ?_ ?_
      · clear F12 N12 F13 N13 N14 hR
        rintro i t' m₁ news₁ h tk gs I oI hi ⟨pt, hm, htr, rfl⟩ hne htk hbare F1 N1
        refine wpC_gen fun qT2 gQ2 => ?_
        replace F1 : Fr gr L _ _ := F1
        replace N1 : News gr L _ _ := N1
        subst hbase
        rw [← hmn] at hm
        have F2 := Fr.turn F1 hm
        clear F1
        have e0 : (0 + ((i : Nat) : Int) * 1) = ((i : Nat) : Int) := by omega
        rw [e0] at F2
        refine wpC_execs_pre (pre := [_]) ?_
        k_fold
        refine stmt_bar (n := 1) htk ?_
        repeat' ((fail_if_success (with_reducible show wpAny _ _ (pyIter _) _ _ _)); (fail_if_success (with_reducible show Bar _)); (fail_if_success (with_reducible show wpAny _ _ (subscriptTail (Expr.Subscript _ _ _) (Expr.Constant _ _ _) _ _) _ _ _)); (fail_if_success (with_reducible show wpAny _ _ (call (Value.builtin "list.append") _) _ _ _)); (fail_if_success (with_reducible show wpAny _ _ (eval (Expr.ListComp _ _ _ _) _) _ _ _)); (fail_if_success (with_reducible show wpAny _ _ (call (Value.type "zip") _) _ _ _)); first | (k_unfold; (try dsimp only)) | walk1 | (dsimp only; walk1))
        refine bar ?_
        intro hk9
        dsimp only at hk9 ⊢
        refine wpAny_execs_nil ?_
        k_unfold
        dsimp only
        rename_i ta hQ7 hlta hX7 FX7 NX7
        refine wpC_execs_cons (wpC_For_GB (h₀ := gr) hk9 rfl rfl ?_)
        repeat' ((fail_if_success (with_reducible show wpAny _ _ (pyIter _) _ _ _)); (fail_if_success (with_reducible show Bar _)); (fail_if_success (with_reducible show wpAny _ _ (subscriptTail (Expr.Subscript _ _ _) (Expr.Constant _ _ _) _ _) _ _ _)); (fail_if_success (with_reducible show wpAny _ _ (call (Value.builtin "list.append") _) _ _ _)); (fail_if_success (with_reducible show wpAny _ _ (eval (Expr.ListComp _ _ _ _) _) _ _ _)); (fail_if_success (with_reducible show wpAny _ _ (call (Value.type "zip") _) _ _ _)); first | (k_unfold; (try dsimp only)) | ((with_reducible show wpAny _ _ (call (Value.builtin "len") _ _) _ _ _); with_reducible ((k_here; (with_reducible show wpAny _ _ (call (Value.builtin "len") [Value.ref _]) _ _ _); k_dflt (refine' lenK ?Ns23a0 ?ls23a0 ?zs23a0 ?_; (case Ns23a0 => k_asm); (case ls23a0 => k_mem); (case zs23a0 => omega); k_whole); intro _ _; (try dsimp only)))) | walk1 | (dsimp only; first | ((with_reducible show wpAny _ _ (call (Value.builtin "len") _ _) _ _ _); with_reducible ((k_here; (with_reducible show wpAny _ _ (call (Value.builtin "len") [Value.ref _]) _ _ _); k_dflt (refine' lenK ?Ns23a0 ?ls23a0 ?zs23a0 ?_; (case Ns23a0 => k_asm); (case ls23a0 => k_mem); (case zs23a0 => omega); k_whole); intro _ _; (try dsimp only)))) | walk1))
        refine bar ?_
        intro hk10
        dsimp only at hk10 ⊢
        rename IsRange _ _ _ _ _ _ _ _ => hR2
        rename Fr gr L _ _ => F14
        rename News gr L _ _ => N15
        generalize hmt : ([(Str.ofString "script", .ref ln), (Str.ofString "data", .bytes (byteArr (octets page n)) tD), (Str.ofString "bounds", .ref D9), (Str.ofString "due", .ref dr), (Str.ofString "menu", .str (Str.ofString ".+-_/\\:;\"( )") tM), (Str.ofString "shift", .int (sh : Nat) tS), (Str.ofString "writings", .ref wr), (Str.ofString "turn", .int (i : Nat) t'), (Str.ofString "taken", .ref ta)] : List (Str × Value)) = lawT
        have hjt : Has (fun y => if y = Str.ofString "taken" then some (Value.ref ta) else if y = Str.ofString "turn" then some (Value.int (i : Nat) t') else over [(Str.ofString "script", .ref ln), (Str.ofString "data", .bytes (byteArr (octets page n)) tD), (Str.ofString "bounds", .ref D9), (Str.ofString "due", .ref dr), (Str.ofString "menu", .str (Str.ofString ".+-_/\\:;\"( )") tM), (Str.ofString "shift", .int (sh : Nat) tS), (Str.ofString "writings", .ref wr)] m₁ y) lawT := by
          rw [← hmt]; exact ⟨rfl, rfl, rfl, rfl, rfl, rfl, rfl, rfl, rfl, trivial⟩
        refine iter_rangeG (n := ys9.length) (fun k m₁ news₁ => ∃ tv kt, StrsAre tv ((List.range k).map (takenAt page sh bs i)) ∧ Has m₁ lawT ∧ news₁ = (ta, W.listOf tv.toArray kt) :: (I, oI) :: (53, tabO pt) :: (wr, W.listOf wv.toArray kw) :: (dr, W.listOf dv.toArray dv.length) :: (D9, LCg.lst ys9) :: (L + 1, oc4) :: tups9) rfl hR2
          (small_one (by omega) (by omega) (by omega) (by omega)) (by rw [rangeSize_nat]; omega) F14 N15 ⟨[], 0, .nil, hjt, rfl⟩ hbare hk10 ?_ ?_
        · clear F14 N15 hR2 hjt
          rintro k u' m₂ news₂ h2 tk2 gs2 I2 oI2 hk ⟨tv, kt, htv, hm2, rfl⟩ hne2 htk2 hbare2 F3 N3
          replace F3 : Fr gr L _ _ := F3
          replace N3 : News gr L _ _ := N3
          rw [← hmt] at hm2
          have F4 := Fr.turn F3 hm2
          clear F3
          have e1 : (0 + ((k : Nat) : Int) * 1) = ((k : Nat) : Int) := by omega
          rw [e1] at F4
          have hkb : k < bs.length := by rw [← hbs.len]; exact hk
          obtain ⟨⟨f, b⟩, hfb⟩ : ∃ fb, bs[k]? = some fb := ⟨_, List.getElem?_eq_getElem hkb⟩
          obtain ⟨t, u1, u2, q1, q2⟩ := hbs.at' hfb
          have hgi2 : Int.fmod ((2 * (i : Int) + (k : Int)) + (sh : Int)) 12 = (((2 * i + k + sh) % 12 : Nat) : Int) := by rw [Int.fmod_eq_emod_of_nonneg _ (by decide)]; omega
          obtain ⟨tq, hq⟩ : ∃ tq, wv[(2 * i + k + sh) % 12]? = some (.str (writing page sh ((2 * i + k + sh) % 12)) tq) := by
            obtain ⟨tq, hq⟩ := Mine.StrsAre.get hwv (i := (2 * i + k + sh) % 12) (by rw [List.length_map, List.length_range]; exact Nat.mod_lt _ (by decide)) (Str.ofString "")
            refine ⟨tq, hq.trans ?_⟩
            rw [List.getD_eq_getElem?_getD, List.getElem?_map, List.getElem?_range (Nat.mod_lt _ (by decide))]; rfl
          have hwz : wv.length ≤ 400 := by rw [Mine.StrsAre.length hwv, List.length_map, List.length_range]; decide
          have hyz : ys9.length ≤ 400 := by omega
          have hwlen : (writing page sh ((2 * i + k + sh) % 12)).length ≤ 100 := Nat.le_trans (Nat.le_trans (replace_le (show 1 ≤ 1 by decide)) (replace_le (show 1 ≤ 1 by decide))) (by omega)
          have hq2 : PairIn t (.int f u1) (.int b u2) (List.cons (I2, oI2) <| (ta, W.listOf tv.toArray kt) :: (I, oI) :: (53, tabO pt) :: (wr, W.listOf wv.toArray kw) :: (dr, W.listOf dv.toArray dv.length) :: (D9, LCg.lst ys9) :: (L + 1, oc4) :: tups9) :=
            .tail _ (.tail _ (.tail _ (.tail _ (.tail _ (.tail _ (.tail _ (.tail _ q2)))))))
          refine wpC_gen fun qT3 gQ3 => ?_
          refine wpC.of ?_
          repeat' ((fail_if_success (with_reducible show wpAny _ _ (pyIter _) _ _ _)); (fail_if_success (with_reducible show Bar _)); (fail_if_success (with_reducible show wpAny _ _ (subscriptTail (Expr.Subscript _ _ _) (Expr.Constant _ _ _) _ _) _ _ _)); (fail_if_success (with_reducible show wpAny _ _ (call (Value.builtin "list.append") _) _ _ _)); (fail_if_success (with_reducible show wpAny _ _ (eval (Expr.ListComp _ _ _ _) _) _ _ _)); (fail_if_success (with_reducible show wpAny _ _ (call (Value.type "zip") _) _ _ _)); first | (k_unfold; (try dsimp only)) | ((with_reducible show wpAny _ _ (subscriptTail (Expr.Name _ _) (Expr.BinOp _ _ _ _) (Value.ref _) (Value.int _ _)) _ _ _); with_reducible ((with_unfolding_all refine' itemRowI ?is24a0 ?Ns24a0 ?ls24a0 ?zs24a0 ?hxs24a0 ?_ ?hss24a0; (case is24a0 => assumption); (case Ns24a0 => k_asm); (case ls24a0 => k_mem); (case zs24a0 => assumption); (case hxs24a0 => assumption); (case hss24a0 => with_unfolding_all rfl); k_whole))) | ((with_reducible show wpAny _ _ (subscriptTail (Expr.Name _ _) (Expr.Name _ _) (Value.ref _) (Value.int _ _)) _ _ _); with_reducible ((with_unfolding_all refine' itemRow ?Ns24a1 ?ls24a1 ?zs24a1 ?hxs24a1 ?_ ?hss24a1; (case Ns24a1 => k_asm); (case ls24a1 => k_mem); (case zs24a1 => assumption); (case hxs24a1 => assumption); (case hss24a1 => with_unfolding_all rfl); k_whole))) | walk1 | (dsimp only; first | ((with_reducible show wpAny _ _ (subscriptTail (Expr.Name _ _) (Expr.BinOp _ _ _ _) (Value.ref _) (Value.int _ _)) _ _ _); with_reducible ((with_unfolding_all refine' itemRowI ?is24a0 ?Ns24a0 ?ls24a0 ?zs24a0 ?hxs24a0 ?_ ?hss24a0; (case is24a0 => assumption); (case Ns24a0 => k_asm); (case ls24a0 => k_mem); (case zs24a0 => assumption); (case hxs24a0 => assumption); (case hss24a0 => with_unfolding_all rfl); k_whole))) | ((with_reducible show wpAny _ _ (subscriptTail (Expr.Name _ _) (Expr.Name _ _) (Value.ref _) (Value.int _ _)) _ _ _); with_reducible ((with_unfolding_all refine' itemRow ?Ns24a1 ?ls24a1 ?zs24a1 ?hxs24a1 ?_ ?hss24a1; (case Ns24a1 => k_asm); (case ls24a1 => k_mem); (case zs24a1 => assumption); (case hxs24a1 => assumption); (case hss24a1 => with_unfolding_all rfl); k_whole))) | walk1))
          refine' itemPair (pl := 0) ?i ?N hq2 ?x ?_ ?hs
          (case hs => with_unfolding_all rfl)
          (case N => k_asm)
          (case i => rfl)
          (case x => rfl)
          dsimp only
          repeat' ((fail_if_success (with_reducible show wpAny _ _ (pyIter _) _ _ _)); (fail_if_success (with_reducible show Bar _)); (fail_if_success (with_reducible show wpAny _ _ (subscriptTail (Expr.Subscript _ _ _) (Expr.Constant _ _ _) _ _) _ _ _)); (fail_if_success (with_reducible show wpAny _ _ (call (Value.builtin "list.append") _) _ _ _)); (fail_if_success (with_reducible show wpAny _ _ (eval (Expr.ListComp _ _ _ _) _) _ _ _)); (fail_if_success (with_reducible show wpAny _ _ (call (Value.type "zip") _) _ _ _)); first | (k_unfold; (try dsimp only)) | ((with_reducible show wpAny _ _ (subscriptTail (Expr.Name _ _) (Expr.Name _ _) (Value.ref _) (Value.int _ _)) _ _ _); with_reducible ((with_unfolding_all refine' itemRow ?Ns25a0 ?ls25a0 ?zs25a0 ?hxs25a0 ?_ ?hss25a0; (case Ns25a0 => k_asm); (case ls25a0 => k_mem); (case zs25a0 => assumption); (case hxs25a0 => assumption); (case hss25a0 => with_unfolding_all rfl); k_whole))) | walk1 | (dsimp only; first | ((with_reducible show wpAny _ _ (subscriptTail (Expr.Name _ _) (Expr.Name _ _) (Value.ref _) (Value.int _ _)) _ _ _); with_reducible ((with_unfolding_all refine' itemRow ?Ns25a0 ?ls25a0 ?zs25a0 ?hxs25a0 ?_ ?hss25a0; (case Ns25a0 => k_asm); (case ls25a0 => k_mem); (case zs25a0 => assumption); (case hxs25a0 => assumption); (case hss25a0 => with_unfolding_all rfl); k_whole))) | walk1))
          refine' itemPair (pl := 1) ?i1 ?N1 hq2 ?x1 ?_ ?hs1
          (case hs1 => with_unfolding_all rfl)
          (case N1 => k_asm)
          (case i1 => rfl)
          (case x1 => rfl)
          dsimp only
          repeat' ((fail_if_success (with_reducible show wpAny _ _ (pyIter _) _ _ _)); (fail_if_success (with_reducible show Bar _)); (fail_if_success (with_reducible show wpAny _ _ (subscriptTail (Expr.Subscript _ _ _) (Expr.Constant _ _ _) _ _) _ _ _)); (fail_if_success (with_reducible show wpAny _ _ (call (Value.builtin "list.append") _) _ _ _)); (fail_if_success (with_reducible show wpAny _ _ (eval (Expr.ListComp _ _ _ _) _) _ _ _)); (fail_if_success (with_reducible show wpAny _ _ (call (Value.type "zip") _) _ _ _)); first | (k_unfold; (try dsimp only)) | walk1 | (dsimp only; walk1))
          rename Fr gr L _ _ => FA
          rename News gr L _ _ => NA
          have hrest := allLt_ne (l := (I, oI) :: (53, tabO pt) :: (wr, W.listOf wv.toArray kw) :: (dr, W.listOf dv.toArray dv.length) :: (D9, LCg.lst ys9) :: (L + 1, oc4) :: tups9) (d := ta) hlta
          have htl := Mine.StrsAre.length htv
          rw [List.length_map, List.length_range] at htl
          refine' append_K FA NA ?k3 ?_ ?z
          (case k3 => exact .tail (hne2 (ta, W.listOf tv.toArray kt) (.head _)).symm (.head hrest))
          (case z => (rw [List.size_toArray, sizeLine_eq]; omega))
          intro hP9 FP9 NP9
          rw [List.push_toArray] at NP9
          clear FA NA
          repeat' ((fail_if_success (with_reducible show wpAny _ _ (pyIter _) _ _ _)); (fail_if_success (with_reducible show Bar _)); (fail_if_success (with_reducible show wpAny _ _ (subscriptTail (Expr.Subscript _ _ _) (Expr.Constant _ _ _) _ _) _ _ _)); (fail_if_success (with_reducible show wpAny _ _ (call (Value.builtin "list.append") _) _ _ _)); (fail_if_success (with_reducible show wpAny _ _ (eval (Expr.ListComp _ _ _ _) _) _ _ _)); (fail_if_success (with_reducible show wpAny _ _ (call (Value.type "zip") _) _ _ _)); first | (k_unfold; (try dsimp only)) | walk1 | (dsimp only; walk1))
          rename Fr gr L _ _ => FB
          rename News gr L _ _ => NB
          refine gQ3 _ _ (TurnEndG.go hbare2 FB NB (.head _) (fun p hp => .tail _ hp) ?_ ⟨_, kt + 1, ?_, by rw [← hmt]; exact ⟨rfl, rfl, rfl, rfl, rfl, rfl, rfl, rfl, rfl, trivial⟩, rfl⟩)
          · intro p hp
            rcases List.mem_cons.mp hp with rfl | hp
            · exact hne2 (ta, W.listOf tv.toArray kt) (.head _)
            · exact hne2 p (.tail _ hp)
          · rw [List.range_succ, List.map_append]
            have e9 : takenAt page sh bs i k = Txt.slice (writing page sh ((2 * i + k + sh) % 12)) (some f) (some b) := by
              unfold takenAt
              rw [List.getD_eq_getElem?_getD, hfb]; rfl
            show StrsAre _ (_ ++ [takenAt page sh bs i k])
            rw [e9]
            exact strsAre_snoc htv _ _
        · clear F14 N15 hR2 hjt
          rintro m₂ news₂ h2 tk2 gs2 ⟨tv, kt, htv, hm2, rfl⟩ htk2 hbare2 F3 N3
          replace F3 : Fr gr L _ _ := F3
          replace N3 : News gr L _ _ := N3
          have F4 := Fr.has F3 hm2
          clear F3
          rw [← hmt] at F4
          dsimp only
          refine wpC_execs_cons (wpC_IfC (wpC_isTrue_Compare1 (wpC_Call_Name ?_)))
          repeat' ((fail_if_success (with_reducible show wpAny _ _ (pyIter _) _ _ _)); (fail_if_success (with_reducible show Bar _)); (fail_if_success (with_reducible show wpAny _ _ (subscriptTail (Expr.Subscript _ _ _) (Expr.Constant _ _ _) _ _) _ _ _)); (fail_if_success (with_reducible show wpAny _ _ (call (Value.builtin "list.append") _) _ _ _)); (fail_if_success (with_reducible show wpAny _ _ (eval (Expr.ListComp _ _ _ _) _) _ _ _)); (fail_if_success (with_reducible show wpAny _ _ (call (Value.type "zip") _) _ _ _)); first | (k_unfold; (try dsimp only)) | walk1 | (dsimp only; walk1))
          refine wpC_callWith_fnK (h₀ := gr) (L := L) rfl (X1 51 _ rfl) rfl ?_
          iterate 4 (first | (k_unfold; (try dsimp only)) | walk1 | (dsimp only; walk1))
          have htl := Mine.StrsAre.length htv
          rw [List.length_map, List.length_range] at htl
          have hys1 : 1 ≤ ys9.length := by rw [hbs.len, ← hbl, bList, List.length_zip]; simp
          refine star_seq F4 N3 (.head _) rfl rfl (.inl rfl) (List.toList_toArray) (by rw [List.size_toArray, sizeLine_eq]; omega) ?_
          intro hS FS NS
          refine ⟨Frag.In.keeps X1 FS.keep, ?_⟩
          obtain ⟨v0, vr, rfl⟩ : ∃ v0 vr, tv = v0 :: vr := by
            cases tv with
            | nil => simp at htl; omega
            | cons v0 vr => exact ⟨v0, vr, rfl⟩
          have NP := Mine.News.sub NS (l := (53, tabO pt) :: (ta, W.listOf (v0 :: vr).toArray kt) :: (I, oI) :: (wr, W.listOf wv.toArray kw) :: (dr, W.listOf dv.toArray dv.length) :: (D9, LCg.lst ys9) :: (L + 1, oc4) :: tups9) (fun p hp => by
            rcases List.mem_cons.mp hp with rfl | hp
            · exact .tail _ (.tail _ (.head _))
            rcases List.mem_cons.mp hp with rfl | hp
            · exact .head _
            rcases List.mem_cons.mp hp with rfl | hp
            · exact .tail _ (.head _)
            · exact .tail _ (.tail _ (.tail _ hp)))
          have hsm : (((List.range ys9.length).map (takenAt page sh bs i)).map Str.length).sum ≤ 200 := by
            rw [hbs.len, hls]; exact Nat.le_trans taken_sum (by omega)
          have hc20 : ((List.range ys9.length).map (takenAt page sh bs i)).length ≤ 20 := by
            rw [List.length_map, List.length_range, hbs.len, hls, segs_length]; omega
          have hn53 : ∀ p ∈ (ta, W.listOf (v0 :: vr).toArray kt) :: (I, oI) :: (wr, W.listOf wv.toArray kw) :: (dr, W.listOf dv.toArray dv.length) :: (D9, LCg.lst ys9) :: (L + 1, oc4) :: tups9, p.1 ≠ 53 := by
            intro p hp
            rcases List.mem_cons.mp hp with rfl | hp
            · exact Nat.ne_of_gt hlta.2.1
            rcases List.mem_cons.mp hp with rfl | hp
            · exact (hne (53, tabO pt) (.head _)).symm
            · exact hb53 p hp
          show wpAny _ _ (call (.ref 58) (v0 :: vr)) _ _ _
          refine c_platform B1 FS X1 NP T1 rfl htv hc20 hsm htr hbare2 htk2 hn53 (by ktr_room) ?_
          intro rp tr hX9 tkX gsX more hplat FX NX htrX hbX
          refine ⟨⟨_, FX⟩, ?_⟩
          have htok := tokens_ok (ns := ns.take 10) (total := ns.sum) (bs := bs) h10 hsh1 hsh2 hi (by rw [hqp]; exact hbl) (rp := rp) (by rw [hqp, ← hbs.len]; exact hplat)
          rw [hqp] at htok
          have hrz : rp.cps.size ≤ 600 := by
            obtain ⟨p9, j9, _, _, h9⟩ := hplat
            exact Nat.le_trans h9 (by decide)
          refine c_comparable B1 FX X1 NX T1 rfl hrz (by ktr_room) htok.1 ?_
          intro r2 ys2 kc2 hY tkY hout FY NY
          rw [htok.2] at hout
          dsimp only
          iterate 1 (first | (k_unfold; (try dsimp only)) | walk1 | (dsimp only; walk1))
          refine out_ne (led_list NY (.head _)) (led_list NY (.tail _ (.tail _ (.tail _ (.tail _ (.tail _ (.head _))))))) hout hdv (rows_strOk (pieces_small hpg hls)) (by ke_room) ?_
          repeat' ((fail_if_success (with_reducible show wpAny _ _ (pyIter _) _ _ _)); (fail_if_success (with_reducible show Bar _)); (fail_if_success (with_reducible show wpAny _ _ (subscriptTail (Expr.Subscript _ _ _) (Expr.Constant _ _ _) _ _) _ _ _)); (fail_if_success (with_reducible show wpAny _ _ (call (Value.builtin "list.append") _) _ _ _)); (fail_if_success (with_reducible show wpAny _ _ (eval (Expr.ListComp _ _ _ _) _) _ _ _)); (fail_if_success (with_reducible show wpAny _ _ (call (Value.type "zip") _) _ _ _)); first | (k_unfold; (try dsimp only)) | walk1 | (dsimp only; walk1))
          dsimp only
          refine wpC_execs_nil ?_
          rename Fr gr L _ _ => FZ
          rename News gr L _ _ => NZ
          refine gQ2 _ _ (TurnEndG.go hbX FZ NZ (.tail _ (.tail _ (.tail _ (.head _)))) (news₂ := (53, tabO (pt ++ more)) :: (wr, W.listOf wv.toArray kw) :: (dr, W.listOf dv.toArray dv.length) :: (D9, LCg.lst ys9) :: (L + 1, oc4) :: tups9) (fun p hp => by
            rcases List.mem_cons.mp hp with rfl | hp
            · exact .tail _ (.head _)
            · exact .tail _ (.tail _ (.tail _ (.tail _ hp)))) ?_ ⟨pt ++ more, by rw [← hmn]; exact ⟨rfl, rfl, rfl, rfl, rfl, rfl, rfl, trivial⟩, htrX, rfl⟩)
          intro p hp
          rcases List.mem_cons.mp hp with rfl | hp
          · exact hne (53, tabO pt) (.head _)
          · exact hne p (.tail _ hp)
      · clear F12 N12 F13 N13 N14 hR
        rintro m₁ news₁ h tk gs ⟨pt, hm, htr, rfl⟩ htk hbare F1 N1
        replace F1 : Fr gr L _ _ := F1
        replace N1 : News gr L _ _ := N1
        rw [← hmn] at hm
        have F2 := Fr.has F1 hm
        clear F1
        dsimp only
        refine wpC.of ?_
        repeat' ((fail_if_success (with_reducible show wpAny _ _ (pyIter _) _ _ _)); (fail_if_success (with_reducible show Bar _)); (fail_if_success (with_reducible show wpAny _ _ (subscriptTail (Expr.Subscript _ _ _) (Expr.Constant _ _ _) _ _) _ _ _)); (fail_if_success (with_reducible show wpAny _ _ (call (Value.builtin "list.append") _) _ _ _)); (fail_if_success (with_reducible show wpAny _ _ (eval (Expr.ListComp _ _ _ _) _) _ _ _)); (fail_if_success (with_reducible show wpAny _ _ (call (Value.type "zip") _) _ _ _)); first | (k_unfold; (try dsimp only)) | walk1 | (dsimp only; walk1))
        refine gQ0 _ _ ?_
        dsimp only
        rw [← hqg] at F2
        refine ⟨.inl ⟨.bool true, .bool true, [], rfl, raises_none _, .bool _, post_true _ _, fun _ => ⟨List.nodup_nil, fun a ha => nomatch ha⟩⟩, old_hide F2 E53 C53 (N1 _ (.head _)).1, rfl, hbare⟩)
end Mine
end
theorem PySem.Challenge.cw_mq0112_01_holds : PySem.Challenge.rw_mq0112_01.Holds :=
  Mine.law_holds
