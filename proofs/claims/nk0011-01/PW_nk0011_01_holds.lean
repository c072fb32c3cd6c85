import PyProof.Rows.All
import Wide.All
import OpenK.AllK
import Wide.FinOn
import PySem.Challenge.RW_nk0011_01
set_option Elab.async false
-- part Sp
section
open PySem PySem.W PyProof.Rows PySem.Calls
namespace Mine

theorem wp_split {M : Model} {Γ : Ctx} {env : Env} {l₂ : List Stmt} {J : Shared → Prop} {Q' : Flow → Pos → Shared → Prop} {E' : Value → Pos → Shared → Prop}
    (h₂ : ∀ p s', J s' → Sem.wp M Γ (execs l₂ env) Q' E' p s') :
    ∀ (l₁ : List Stmt) (p : Pos) (s : Shared), Sem.wp M Γ (execs l₁ env) (fun f _ s' => f = .next ∧ J s') E' p s → Sem.wp M Γ (execs (l₁ ++ l₂) env) Q' E' p s
  | [], p, s, h => by
    have h' : (Flow.next = Flow.next ∧ J s) := h
    exact h₂ p s h'.2
  | st :: r, p, s, h => by
    rw [List.cons_append, execs_cons, Sem.wp_bind']
    rw [execs_cons, Sem.wp_bind'] at h
    refine Sem.wp_mono M Γ _ (fun f p' s' h' => ?_) (fun _ _ _ h' => h') _ _ h
    cases f with
    | next => exact wp_split h₂ r p' s' h'
    | brk => exact absurd (show _ = _ ∧ _ from h').1 (by intro x; cases x)
    | cont => exact absurd (show _ = _ ∧ _ from h').1 (by intro x; cases x)
    | ret v => exact absurd (show _ = _ ∧ _ from h').1 (by intro x; cases x)

theorem execs_split {M : Model} {A : Around} {E : Value → Shared → Prop} {env : Env} {s : Shared} {l₁ l₂ : List Stmt} {Q : Flow → Shared → Prop} (J : Shared → Prop)
    (h₁ : wpAny M A (execs l₁ env) (fun f s' => f = .next ∧ J s') E s) (h₂ : ∀ s', J s' → wpAny M A (execs l₂ env) Q E s') : wpAny M A (execs (l₁ ++ l₂) env) Q E s :=
  fun Γ p hΓ => wp_split (fun p' s' hJ => h₂ s' hJ Γ p' hΓ) l₁ p s (h₁ Γ p hΓ)

section
variable {prog : Program} {w : World} {A : Around} {E : Value → Shared → Prop} {s : Shared} {value slice : PySem.Expr} {l : Addr} {vs : List Value} {ws : List PySem.Str} {i : Int} {t u : Tok} {Q : Value → Shared → Prop}
/-- an item of a list of texts at an index in bounds: one of them -/
theorem item_any (hl : s.heap.IsList l vs.toArray) (hw : StrsAre vs ws) (h0 : 0 ≤ i) (h1 : i < (ws.length : Int)) (hfit : i < 2 ^ 63) (h : ∀ r t', r ∈ ws → Q (.str r t') s)
    (hs : subscripted slice false (.ref l) (.int i u) = operate [.ref l, .int i u] (getItem (.ref l) (.int i u)) := by with_unfolding_all rfl) :
    wpAny (model prog w) A (subscriptTail value slice (.ref l) (.int i u)) Q E s :=
  KTb.item_list hl hw h0 h1 hfit (fun t' hlt => h _ t' (by rw [List.getD_eq_getElem?_getD, List.getElem?_eq_getElem hlt]; exact List.getElem_mem hlt)) hs
end

/-- the texts of the law's items -/
def ItEl (news : List (Addr × Obj)) (y : Value) (news' : List (Addr × Obj)) : Prop := news' = news ∧ ∃ (r : PySem.Str) (t : Tok), y = .str r t ∧ r.length ≤ 10
theorem strs_snoc {y : PySem.Str} {t : Tok} : ∀ {vs : List Value} {ys : List PySem.Str}, StrsAre vs ys → StrsAre (vs ++ [.str y t]) (ys ++ [y])
  | _, _, .nil => .cons y t .nil
  | _, _, .cons z u r => .cons z u (strs_snoc r)
def ItMark : Prop := True
section
variable {prog : Program} {w : World} {A : Around} {h₀ : Heap} {L : Addr} {m : Str → Option Value} {env : Env} {elt : Expr} {x : Str} {scope : Scope} {cl : List (Str × Addr)} {s : Shared} {S : List (Addr × Obj) → Prop} {Fin : List Value → List (Addr × Obj) → Prop} {news : List (Addr × Obj)}
theorem it_list {vs : List Value} {ns : List Int} (hi : IntsAre vs ns)
    (turn : ∀ k t I oI C oC D m₂ ys h tk (E' : Value → Shared → Prop), LCg.NsObj oC m₂ → m₂ x = some (.int k t) → Fr h₀ L h m → News h₀ L h ((I, oI) :: (C, oC) :: (D, LCg.lst ys) :: news) → LCg.Off3 I C D news → ((@Ne Nat I C) ∧ (@Ne Nat I D) ∧ (@Ne Nat C D)) → ItMark →
      wpAny (model prog w) A (eval elt (compEnvC scope cl C env)) (LCg.CompEnd h₀ L m { s with heap := h, toks := tk } I oI C oC D (LCg.lst ys) S (ItEl news)) E' { s with heap := h, toks := tk })
    (fin : ∀ ys T, StrsAre ys T → T.length = ns.length → (∀ z ∈ T, z.length ≤ 10) → Fin ys news) :
    LCg.CompRest prog w A h₀ L m env elt x scope cl s S (fun i v => vs.toArray[i]? = some v) Fin vs.toArray.size 0 [] news := by
  have key : ∀ (j i : Nat) (ys : List Value) (T : List PySem.Str), i + j = ns.length → T.length = i → StrsAre ys T → (∀ z ∈ T, z.length ≤ 10) →
      LCg.CompRest prog w A h₀ L m env elt x scope cl s S (fun i v => vs.toArray[i]? = some v) Fin j i ys news := by
    intro j
    induction j with
    | zero =>
      intro i ys T hij hT hy hb
      exact LCg.CompRest.zero (fin ys T hy (by omega) hb)
    | succ j ih =>
      intro i ys T hij hT hy hb
      refine LCg.CompRest.succ ?_
      intro v I oI C oC D m₂ h tk E' hv hC hx F N off ne
      obtain ⟨k, t, e, hk⟩ := IntsAre.at hi i v (by simpa using hv)
      subst e
      refine wpAny_mono (turn k t I oI C oC D m₂ ys h tk E' hC hx F N off ne True.intro) (fun y s₂ hq => ?_) fun _ _ e => e
      obtain ⟨h', tk', nw, e, F', N', off', hS, hn, r, t', hy', hr⟩ := hq
      subst hn hy'
      refine ⟨h', tk', _, e, F', N', off', hS, ?_⟩
      exact ih (i + 1) _ (T ++ [r]) (by omega) (by rw [List.length_append, hT]; rfl) (strs_snoc hy) (by
        intro z hz
        rcases List.mem_append.mp hz with hz | hz
        · exact hb z hz
        · rw [List.mem_singleton.mp hz]; exact hr)
  have e : vs.toArray.size = ns.length := by rw [List.size_toArray]; exact hi.length
  rw [e]
  exact key ns.length 0 [] [] (by omega) rfl .nil (fun _ hz => nomatch hz)
theorem it_end {I C D : Addr} {oI oC oD : Obj} {s₁ : Shared} {h' : Heap} {tk : Nat} {all : List (Addr × Obj)} {r : PySem.Str} {t : Tok}
    (F : Fr h₀ L h' m) (N : News h₀ L h' all) (sub : ∀ p ∈ (I, oI) :: (C, oC) :: (D, oD) :: news, p ∈ all) (off : LCg.Off3 I C D news) (hS : S news) (hr : r.length ≤ 10) :
    LCg.CompEnd h₀ L m s₁ I oI C oC D oD S (ItEl news) (.str r t) { s₁ with heap := h', toks := tk } := LCg.CompEnd.intro F N news sub off hS ⟨rfl, r, t, rfl, hr⟩
end

/-- the end of a turn: the iterator as it was, the rest of the ledger within the word -/
def TurnEnd (h₀ : Heap) (L : Addr) (I : Addr) (oI : Obj) (Inv : (Str → Option Value) → List (Addr × Obj) → Prop) (s₁ : Shared) (f : Flow) (s₂ : Shared) : Prop :=
  f = .next ∧ ∃ h' tk m' news', s₂ = { s₁ with heap := h', toks := tk } ∧ Fr h₀ L h' m' ∧ News h₀ L h' ((I, oI) :: news') ∧ (∀ p ∈ news', p.1 ≠ I) ∧ Inv m' news'

section
variable {prog : Program} {w : World} {A : Around} {E : Value → Shared → Prop} {s : Shared} {env : Env} {h₀ : Heap} {target : Expr} {body : List Stmt} {Q : Flow → Shared → Prop}
theorem turns_inv {I : Addr} {fp : List Addr} {n : Nat} {P : Nat → Value → Prop} {St : Nat → Heap → Prop} {m₀ : Str → Option Value} {news : List (Addr × Obj)}
    (K : List (Addr × Obj)) (Inv : Nat → (Str → Option Value) → List (Addr × Obj) → Prop) (W : Walks prog w A I fp [I] n P St)
    (hgo : ∀ v, letOwnedTupleGo target (.ref I) v = pure ()) (hlive : ∀ i h, St i h → ∃ o, h.get? I = some o) (hfp : ∀ b ∈ fp, b = I ∨ ∃ o, (b, o) ∈ K)
    (hI : h₀.get? I = none) (hL : env.locals ∉ fp) (hnw : ∀ p ∈ news, p.1 ≠ I) (hst : St 0 s.heap) (F : Fr h₀ env.locals s.heap m₀) (N : News h₀ env.locals s.heap news) (h0 : Inv 0 m₀ news)
    (hK : ∀ i m nw, Inv i m nw → ∀ p ∈ K, p ∈ nw)
    (turn : ∀ i v m₁ news₁ oI h tk, i < n → P i v → Inv i m₁ news₁ → (∀ p ∈ news₁, p.1 ≠ I) → Fr h₀ env.locals h m₁ → News h₀ env.locals h ((I, oI) :: news₁) →
      wpAny (model prog w) A (assign target env v) (fun _ s₂ => wpAny (model prog w) A (execs body env) (TurnEnd h₀ env.locals I oI (Inv (i + 1)) { s with heap := h, toks := tk }) E s₂) E { s with heap := h, toks := tk })
    (done : ∀ m₁ news₁ h tk, Inv n m₁ news₁ → Fr h₀ env.locals h m₁ → News h₀ env.locals h news₁ → Q .next { s with heap := h, toks := tk }) :
    TurnsAt prog w A h₀ env target body Q E (.ref I) s := by
  have hIfp : I ∈ fp := W.sub I (List.mem_singleton.mpr rfl)
  refine ⟨I, fp, [I], n, _, _, St, m₀, news, Inv, rfl, KTurns.ofWalks W (fun _ v s Q E _ hQ => wpAny_of_eq (hgo v) hQ), hL, ?_, ?_, hst, F, N, h0, ?_, ?_⟩
  · intro b hb
    rw [List.mem_singleton.mp hb]; exact hI
  · intro p hp hb
    exact hnw p hp (List.mem_singleton.mp hb)
  · intro i v m₁ news₁ h₁ tk₁ own hi hP hJ hoff hown hget hall hst₁ F₁ N₁
    obtain ⟨oI, hoI⟩ := hlive _ _ hst₁
    have hmem := hall I hIfp hI oI hoI
    have N₂ : News h₀ env.locals h₁ ((I, oI) :: news₁) := fun p hp => by
      rcases List.mem_cons.mp hp with rfl | hp
      · exact N₁ _ (List.mem_append_left _ hmem)
      · exact N₁ _ (List.mem_append_right _ hp)
    refine wpAny_mono (turn i v m₁ news₁ oI h₁ tk₁ hi hP hJ (fun p hp e => hoff p hp (List.mem_singleton.mpr e)) F₁ N₂) (fun _ s₂ h₂ => wpAny_mono h₂ (fun f s₃ h₃ => ?_) fun _ _ e => e) fun _ _ e => e
    obtain ⟨rfl, h', tk, m', news', e, F', N', off', hInv⟩ := h₃
    refine LoopStepV.next ⟨rfl, h', tk, m', news', e, F', fun p hp => ?_, fun p hp hb => off' p hp (List.mem_singleton.mp hb), hInv⟩
    rcases List.mem_append.mp hp with hp | hp
    · rcases hfp _ (hown p hp) with e1 | ⟨o, ho⟩
      · have h2 := hget p hp
        rw [e1, hoI] at h2
        have h3 : p = (I, oI) := Prod.ext e1 (Option.some.inj h2).symm
        rw [h3]; exact N' _ (List.mem_cons_self ..)
      · have h4 := (N₁ _ (List.mem_append_right _ (hK _ _ _ hJ _ ho))).1
        have h2 := hget p hp
        have h5 : p = (p.1, o) := Prod.ext rfl (by
          have : (p.1, o).1 = p.1 := rfl
          rw [this] at h4
          rw [h2] at h4
          exact Option.some.inj h4)
        rw [h5]
        exact N' _ (List.mem_cons_of_mem _ (hK _ _ _ hInv _ ho))
    · exact N' _ (List.mem_cons_of_mem _ hp)
  · intro h' tk m' news' F' N' _ hJ
    exact done m' news' h' tk hJ F' N'

theorem range_turns {r : Addr} {n : Nat} {b₀ : Int} {t₀ u₀ v₀ : Tok} {m₀ : Str → Option Value} {news : List (Addr × Obj)} {x : Str} {px : Pos}
    (Inv : Nat → (Str → Option Value) → List (Addr × Obj) → Prop)
    (hh : A.handled = none) (hr : IsRange s.heap r 0 b₀ 1 t₀ u₀ v₀) (hsmall : Builtin.Range.small 0 b₀ 1 = true) (hn : Builtin.Range.rangeSize 0 b₀ 1 = (n : Int)) (F : Fr h₀ env.locals s.heap m₀) (N : News h₀ env.locals s.heap news) (h0 : Inv 0 m₀ news)
    (turn : ∀ (i : Nat) t m₁ news₁ I oI h tk, i < n → Inv i m₁ news₁ → (∀ p ∈ news₁, p.1 ≠ I) → Fr h₀ env.locals h m₁ → News h₀ env.locals h ((I, oI) :: news₁) →
      wpAny (model prog w) A (assign (.Name x px) env (.int (i : Int) t)) (fun _ s₂ => wpAny (model prog w) A (execs body env) (TurnEnd h₀ env.locals I oI (Inv (i + 1)) { s with heap := h, toks := tk }) E s₂) E { s with heap := h, toks := tk })
    (done : ∀ m₁ news₁ h tk, Inv n m₁ news₁ → Fr h₀ env.locals h m₁ → News h₀ env.locals h news₁ → Q .next { s with heap := h, toks := tk }) :
    wpAny (model prog w) A (pyIter (.ref r)) (fun it s₂ => TurnsAt prog w A h₀ env (.Name x px) body Q E it s₂) E s := by
  refine wpAny_pyIter_range hr hsmall ?_
  have W := Walks.range (prog := prog) (w := w) hh s.heap.objs.size 0 1 n
  refine turns_inv [] Inv W (fun v => rfl) (fun i h st => ⟨_, st⟩) (fun b hb => .inl (List.mem_singleton.mp hb)) (next_is_new F) (fun hm => absurd F.ns.lt ((List.mem_singleton.mp hm) ▸ Nat.lt_irrefl _)) (fun p hp => Nat.ne_of_lt (Heap.lt_size (N p hp).1))
    (by show IsRangeIter _ _ _ _ _; rw [hn]; simpa using Heap.get?_push_size _ rfl) (F.push _) (fun p hp => ⟨Heap.get?_push_of_some _ (N p hp).1, (N p hp).2⟩) h0 (fun _ _ _ _ p hp => nomatch hp) ?_ ?_
  · rintro i v m₁ news₁ oI h tk hi ⟨t, rfl⟩ hInv off F₁ N₁
    have e : (0 : Int) + (i : Int) * 1 = (i : Int) := by omega
    rw [e]
    exact turn i t m₁ news₁ _ oI h tk hi hInv off F₁ N₁
  · intro m₁ news₁ h tk hInv F₁ N₁
    exact done m₁ news₁ h tk hInv F₁ N₁
end
/-- behind the first three statements -/
def J1 (base : Heap) (L : Addr) (s s' : Shared) : Prop :=
  ∃ (h' : Heap) (tk : Nat) (mm : Str → Option Value) (setting code : Int) (t0 t1 : Tok) (il : Addr) (vs : List Value) (T : List PySem.Str) (k : Nat) (c1 c2 c3 c4 : Obj) (v2 v3 v4 : Option Value),
    s' = { s with heap := h', toks := tk } ∧
    Fr base L h' (fun y => if y = Str.ofString "items" then some (.ref il) else if y = Str.ofString "code" then some (.int code t1) else mm y) ∧
    News base L h' [(il, listOf vs.toArray k), (L + 1 + 1 + 1 + 1, c4), (L + 1 + 1 + 1, c3), (L + 1 + 1, c2), (L + 1, c1)] ∧
    c1.data = .cell (some (.int setting t0)) ∧ c2.data = .cell v2 ∧ c3.data = .cell v3 ∧ c4.data = .cell v4 ∧
    StrsAre vs T ∧ T.length ≤ 7 ∧ (∀ z ∈ T, z.length ≤ 10) ∧ @Ne Nat il (L + 1) ∧ @Ne Nat il (L + 1 + 1) ∧ @Ne Nat il (L + 1 + 1 + 1) ∧ @Ne Nat il (L + 1 + 1 + 1 + 1)

theorem J1.mk {base : Heap} {L : Addr} {s : Shared} {h' : Heap} {tk : Nat} {mm : Str → Option Value} {setting code : Int} {t0 t1 : Tok} {il : Addr} {vs : List Value} {T : List PySem.Str} {k : Nat} {c1 c2 c3 c4 : Obj} {v2 v3 v4 : Option Value} {all : List (Addr × Obj)}
    (F : Fr base L h' (fun y => if y = Str.ofString "items" then some (.ref il) else if y = Str.ofString "code" then some (.int code t1) else mm y)) (N : News base L h' all)
    (m0 : (il, listOf vs.toArray k) ∈ all) (m4 : (L + 1 + 1 + 1 + 1, c4) ∈ all) (m3 : (L + 1 + 1 + 1, c3) ∈ all) (m2 : (L + 1 + 1, c2) ∈ all) (m1 : (L + 1, c1) ∈ all)
    (d1 : c1.data = .cell (some (.int setting t0))) (d2 : c2.data = .cell v2) (d3 : c3.data = .cell v3) (d4 : c4.data = .cell v4)
    (hT : StrsAre vs T) (hn : T.length ≤ 7) (hb : ∀ z ∈ T, z.length ≤ 10) (hne : @Ne Nat il (L + 1) ∧ @Ne Nat il (L + 1 + 1) ∧ @Ne Nat il (L + 1 + 1 + 1) ∧ @Ne Nat il (L + 1 + 1 + 1 + 1)) : J1 base L s { s with heap := h', toks := tk } :=
  ⟨h', tk, mm, setting, code, t0, t1, il, vs, T, k, c1, c2, c3, c4, v2, v3, v4, rfl, F, fun p hp => by
    simp only [List.mem_cons, List.not_mem_nil, or_false] at hp
    rcases hp with rfl | rfl | rfl | rfl | rfl <;> exact N _ (by assumption), d1, d2, d3, d4, hT, hn, hb, hne⟩

theorem split1 {M : Model} {A : Around} {E : Value → Shared → Prop} {env : Env} {s : Shared} {st1 st2 st3 : Stmt} {r : List Stmt} {Q : Flow → Shared → Prop} {base : Heap} {L : Addr} {m : Str → Option Value} {h : Heap}
    (_F : Fr base L h m) (h₁ : wpAny M A (execs [st1, st2, st3] env) (fun f s' => f = .next ∧ J1 base L s s') E s) (h₂ : ∀ s', J1 base L s s' → wpAny M A (execs r env) Q E s') :
    wpAny M A (execs (st1 :: st2 :: st3 :: r) env) Q E s := execs_split (l₁ := [st1, st2, st3]) (J1 base L s) h₁ h₂


def Stop (p : Prop) : Prop := p
theorem stop_intro {p : Prop} (h : Stop p) : p := h
theorem stop_out {p : Prop} (h : p) : Stop p := h

def marks6 : List PySem.Str := [Str.ofString ", ", Str.ofString " and ", Str.ofString "", Str.ofString "; ", Str.ofString "0", Str.ofString " or "]
def MarkObj (o : Obj) (q1 q2 q3 q4 : PySem.Str) : Prop := ∃ (t1 t2 t3 t4 : Tok) (k : Nat), o = listOf [Value.str q1 t1, .str q2 t2, .str q3 t3, .str q4 t4].toArray k ∧ q1 ∈ marks6 ∧ q2 ∈ marks6 ∧ q3 ∈ marks6 ∧ q4 ∈ marks6
def StyOK (kvs : List (PySem.Str × Value)) (ext : List (Addr × Obj)) : Prop := ∀ x v, (x, v) ∈ kvs → (reprText x).length ≤ 40 ∧ ∃ a o q1 q2 q3 q4, v = .ref a ∧ (a, o) ∈ ext ∧ MarkObj o q1 q2 q3 q4

theorem fr_form2 {base : Heap} {L : Addr} {h : Heap} {m : Str → Option Value} {v1 v2 : Value} (F : Fr base L h m) (h1 : m (Str.ofString "items") = some v1) (h2 : m (Str.ofString "code") = some v2) :
    Fr base L h (fun y => if y = Str.ofString "items" then some v1 else if y = Str.ofString "code" then some v2 else m y) := by
  have e : (fun y => if y = Str.ofString "items" then some v1 else if y = Str.ofString "code" then some v2 else m y) = m := by
    funext y
    by_cases e1 : y = Str.ofString "items"
    · rw [if_pos e1, e1, h1]
    · rw [if_neg e1]
      by_cases e2 : y = Str.ofString "code"
      · rw [if_pos e2, e2, h2]
      · rw [if_neg e2]
  rw [e]; exact F

/-- between the turns of the first loop -/
def Inv2 (prog : Program) (w : World) (L sd il : Addr) (oi c1 c2 c4 : Obj) (vi vc : Value) (i : Nat) (m : Str → Option Value) (nw : List (Addr × Obj)) : Prop :=
  ∃ (o c3 : Obj) (v3 : Option Value) (kvs : List (PySem.Str × Value)) (ext : List (Addr × Obj)),
    nw = (sd, o) :: (il, oi) :: (L + 1 + 1 + 1 + 1, c4) :: (L + 1 + 1 + 1, c3) :: (L + 1 + 1, c2) :: (L + 1, c1) :: ext ∧
    m (Str.ofString "items") = some vi ∧ m (Str.ofString "code") = some vc ∧ c3.data = .cell v3 ∧ o.IsDictOf (strKind prog w) kvs ∧ StyOK kvs ext ∧ kvs.length ≤ i ∧
    (∀ p ∈ ext, p.1 ≠ sd) ∧ (∀ p ∈ ext, p.1 ≠ L + 1 + 1 + 1)

def form2 (v1 v2 : Value) (m : Str → Option Value) : Str → Option Value := fun y => if y = Str.ofString "items" then some v1 else if y = Str.ofString "code" then some v2 else m y
section
variable {prog : Program} {w : World} {A : Around} {E : Value → Shared → Prop} {s : Shared} {env : Env} {h₀ : Heap} {body : List Stmt} {Q : Flow → Shared → Prop}
theorem styles_turns {L r sd il : Addr} {oi o₀ c1 c2 c3₀ c4 : Obj} {v3₀ : Option Value} {vi vc : Value} {t₀ u₀ v₀ : Tok} {m₀ : Str → Option Value} {x : Str} {px : Pos}
    (hL : env.locals = L) (hh : A.handled = none) (hr : IsRange s.heap r 0 9 1 t₀ u₀ v₀) (F : Fr h₀ L s.heap m₀)
    (N : News h₀ L s.heap [(sd, o₀), (il, oi), (L + 1 + 1 + 1 + 1, c4), (L + 1 + 1 + 1, c3₀), (L + 1 + 1, c2), (L + 1, c1)]) (hm1 : m₀ (Str.ofString "items") = some vi) (hm2 : m₀ (Str.ofString "code") = some vc)
    (d3 : c3₀.data = .cell v3₀) (hd : o₀.IsDictOf (strKind prog w) [])
    (turn : ∀ (i : Nat) t (m₁ : Str → Option Value) o c3 v3 kvs ext I oI h tk, i < 9 → c3.data = .cell v3 → o.IsDictOf (strKind prog w) kvs → StyOK kvs ext → kvs.length ≤ i → (∀ p ∈ ext, p.1 ≠ sd) → (∀ p ∈ ext, p.1 ≠ L + 1 + 1 + 1) → (∀ p ∈ ext, p.1 ≠ I) →
      (@Ne Nat sd I ∧ @Ne Nat il I ∧ @Ne Nat (L + 1 + 1 + 1 + 1) I ∧ @Ne Nat (L + 1 + 1 + 1) I ∧ @Ne Nat (L + 1 + 1) I ∧ @Ne Nat (L + 1) I) → m₁ (Str.ofString "items") = some vi → m₁ (Str.ofString "code") = some vc →
      Fr h₀ L h (fun y => if y = Str.ofString "items" then some vi else if y = Str.ofString "code" then some vc else m₁ y) → News h₀ L h ((I, oI) :: (sd, o) :: (il, oi) :: (L + 1 + 1 + 1 + 1, c4) :: (L + 1 + 1 + 1, c3) :: (L + 1 + 1, c2) :: (L + 1, c1) :: ext) →
      wpAny (model prog w) A (assign (.Name x px) env (.int (i : Int) t)) (fun _ s₂ => wpAny (model prog w) A (execs body env) (TurnEnd h₀ L I oI (Inv2 prog w L sd il oi c1 c2 c4 vi vc (i + 1)) { s with heap := h, toks := tk }) E s₂) E { s with heap := h, toks := tk })
    (done : ∀ (m₁ : Str → Option Value) o c3 v3 kvs ext h tk, c3.data = .cell v3 → o.IsDictOf (strKind prog w) kvs → StyOK kvs ext → kvs.length ≤ 9 → (∀ p ∈ ext, p.1 ≠ sd) → (∀ p ∈ ext, p.1 ≠ L + 1 + 1 + 1) →
      Fr h₀ L h (fun y => if y = Str.ofString "items" then some vi else if y = Str.ofString "code" then some vc else m₁ y) → News h₀ L h ((sd, o) :: (il, oi) :: (L + 1 + 1 + 1 + 1, c4) :: (L + 1 + 1 + 1, c3) :: (L + 1 + 1, c2) :: (L + 1, c1) :: ext) → Q .next { s with heap := h, toks := tk }) :
    wpAny (model prog w) A (pyIter (.ref r)) (fun it s₂ => TurnsAt prog w A h₀ env (.Name x px) body Q E it s₂) E s := by
  subst hL
  refine range_turns (n := 9) (Inv2 prog w env.locals sd il oi c1 c2 c4 vi vc) hh hr (by decide) (by rfl) F N ⟨_, _, _, [], [], rfl, hm1, hm2, d3, hd, (fun _ _ h => nomatch h), Nat.le_refl _, (fun _ h => nomatch h), (fun _ h => nomatch h)⟩ ?_ ?_
  · rintro i t m₁ news₁ I oI h tk hi ⟨o, c3, v3, kvs, ext, rfl, hm1', hm2', d3', hd', hs, hl, e1, e2⟩ off F₁ N₁
    simp only [List.forall_mem_cons] at off
    obtain ⟨o1, o2, o3, o4, o5, o6, o7⟩ := off
    exact turn i t m₁ o c3 v3 kvs ext I oI h tk hi d3' hd' hs hl e1 e2 o7 ⟨o1, o2, o3, o4, o5, o6⟩ hm1' hm2' (fr_form2 F₁ hm1' hm2') N₁
  · rintro m₁ news₁ h tk ⟨o, c3, v3, kvs, ext, rfl, hm1', hm2', d3', hd', hs, hl, e1, e2⟩ F₁ N₁
    exact done m₁ o c3 v3 kvs ext h tk d3' hd' hs hl e1 e2 (fr_form2 F₁ hm1' hm2') N₁
end

section
variable {prog : Program} {w : World} {A : Around} {E : Value → Shared → Prop} {s : Shared} {value slice : PySem.Expr} {l : Addr} {vs : List Value} {i : Int} {t u : Tok} {Q : Value → Shared → Prop}
theorem item_mem (hl : s.heap.IsList l vs.toArray) (h0 : 0 ≤ i) (h1 : i < (vs.length : Int)) (hfit : i < 2 ^ 63) (h : ∀ v, v ∈ vs → Q v s)
    (hs : subscripted slice false (.ref l) (.int i u) = operate [.ref l, .int i u] (getItem (.ref l) (.int i u)) := by with_unfolding_all rfl) :
    wpAny (model prog w) A (subscriptTail value slice (.ref l) (.int i u)) Q E s := by
  have hlt : i.toNat < vs.length := by omega
  exact tail_any hl.typeIs slot_list_getitem.lookup (wpAny_getItem_list hl h0 hfit (x := vs[i.toNat]) (by simp [hlt]) (h _ (List.getElem_mem hlt))) hs
theorem item_zero {v : Value} {r : List Value} (hl : s.heap.IsList l (v :: r).toArray) (h : Q v s)
    (hs : subscripted slice false (.ref l) (.int 0 u) = operate [.ref l, .int 0 u] (getItem (.ref l) (.int 0 u)) := by with_unfolding_all rfl) :
    wpAny (model prog w) A (subscriptTail value slice (.ref l) (.int 0 u)) Q E s :=
  tail_any hl.typeIs slot_list_getitem.lookup (wpAny_getItem_list hl (Int.le_refl 0) (by decide) (x := v) (by simp) h) hs
end

/-- the nine chains of styles -/
def chains9 : List (List PySem.Str) := [[Str.ofString "standard"], [Str.ofString "standard-short", Str.ofString "standard"], [Str.ofString "standard-narrow", Str.ofString "standard-short", Str.ofString "standard"],
  [Str.ofString "or"], [Str.ofString "or-short", Str.ofString "or"], [Str.ofString "or-narrow", Str.ofString "or-short", Str.ofString "or"],
  [Str.ofString "unit-short", Str.ofString "standard"], [Str.ofString "unit", Str.ofString "unit-short", Str.ofString "standard"], [Str.ofString "unit-narrow", Str.ofString "unit-short", Str.ofString "unit", Str.ofString "standard"]]
theorem names_repr {st : PySem.Str} {cn : List PySem.Str} {z : PySem.Str} (h : st :: cn ∈ chains9) (hz : z ∈ st :: cn) : (reprText z).length ≤ 40 := by
  have e : ∀ l ∈ chains9, ∀ z ∈ l, (reprText z).length ≤ 40 := by decide +kernel
  exact e _ h z hz
/-- a list of the text's own that holds one of them -/
def ChainAt (h : Heap) (v : Value) : Prop := ∃ (a : Addr) (st : PySem.Str) (t : Tok) (r : List Value) (names : List PySem.Str), v = .ref a ∧ h.IsList a (Value.str st t :: r).toArray ∧ StrsAre r names ∧ (st :: names) ∈ chains9
theorem ChainAt.mk {h : Heap} {a : Addr} {st : PySem.Str} {t : Tok} {r : List Value} {names : List PySem.Str} (hl : h.IsList a (Value.str st t :: r).toArray) (hs : StrsAre r names) (hm : (st :: names) ∈ chains9) : ChainAt h (.ref a) := ⟨a, st, t, r, names, rfl, hl, hs, hm⟩

theorem sty_stored {kvs : List (PySem.Str × Value)} {ext : List (Addr × Obj)} {x : PySem.Str} {a : Addr} {o : Obj} {q1 q2 q3 q4 : PySem.Str} (hs : StyOK kvs ext) (hm : MarkObj o q1 q2 q3 q4) (hxr : (reprText x).length ≤ 40) : StyOK (stored kvs x (.ref a)) ((a, o) :: ext) := by
  have up : ∀ y v, (y, v) ∈ kvs → (reprText y).length ≤ 40 ∧ ∃ a' o' p1 p2 p3 p4, v = .ref a' ∧ (a', o') ∈ (a, o) :: ext ∧ MarkObj o' p1 p2 p3 p4 := fun y v h => by
    obtain ⟨hr, a', o', p1, p2, p3, p4, e1, e2, e3⟩ := hs y v h
    exact ⟨hr, a', o', p1, p2, p3, p4, e1, .tail _ e2, e3⟩
  have new : ∃ a' o' p1 p2 p3 p4, Value.ref a = .ref a' ∧ (a', o') ∈ (a, o) :: ext ∧ MarkObj o' p1 p2 p3 p4 := ⟨a, o, q1, q2, q3, q4, rfl, .head _, hm⟩
  intro y v h
  unfold stored at h
  split at h
  · obtain ⟨⟨y', v'⟩, h1, h2⟩ := List.mem_map.mp h
    dsimp only at h2
    split at h2
    · rename_i hxy
      have hxy' : y' = x := by simpa using hxy
      cases h2; exact ⟨hxy' ▸ hxr, new⟩
    · cases h2; exact up _ _ h1
  · rcases List.mem_append.mp h with h1 | h1
    · exact up _ _ h1
    · cases List.mem_singleton.mp h1; exact ⟨hxr, new⟩

section
variable {prog : Program} {w : World} {h₀ : Heap} {L : Addr}
theorem sty_end {I sd il : Addr} {oI o oi c1 c2 c3 c4 : Obj} {v3 : Option Value} {vi vc : Value} {i : Nat} {m' : Str → Option Value} {kvs : List (PySem.Str × Value)} {ext all : List (Addr × Obj)} {s₁ : Shared} {h' : Heap} {tk : Nat}
    (F : Fr h₀ L h' m') (N : News h₀ L h' all) (hd : o.IsDictOf (strKind prog w) kvs) (d3 : c3.data = .cell v3) (hs : StyOK kvs ext) (hsub : ∀ p ∈ (I, oI) :: (sd, o) :: (il, oi) :: (L + 1 + 1 + 1 + 1, c4) :: (L + 1 + 1 + 1, c3) :: (L + 1 + 1, c2) :: (L + 1, c1) :: ext, p ∈ all)
    (hm1 : m' (Str.ofString "items") = some vi) (hm2 : m' (Str.ofString "code") = some vc) (hl : kvs.length ≤ i + 1)
    (e1 : ∀ p ∈ ext, p.1 ≠ sd) (e2 : ∀ p ∈ ext, p.1 ≠ L + 1 + 1 + 1) (e3 : ∀ p ∈ ext, p.1 ≠ I)
    (off : @Ne Nat sd I ∧ @Ne Nat il I ∧ @Ne Nat (L + 1 + 1 + 1 + 1) I ∧ @Ne Nat (L + 1 + 1 + 1) I ∧ @Ne Nat (L + 1 + 1) I ∧ @Ne Nat (L + 1) I) :
    TurnEnd h₀ L I oI (Inv2 prog w L sd il oi c1 c2 c4 vi vc (i + 1)) s₁ .next { s₁ with heap := h', toks := tk } := by
  obtain ⟨o1, o2, o3, o4, o5, o6⟩ := off
  refine ⟨rfl, h', tk, m', _, rfl, F, fun p hp => N p (hsub p hp), ?_, o, c3, v3, kvs, ext, rfl, hm1, hm2, d3, hd, hs, hl, e1, e2⟩
  simp only [List.forall_mem_cons]
  exact ⟨o1, o2, o3, o4, o5, o6, e3⟩
theorem sub_tail {a : Addr × Obj} {l r : List (Addr × Obj)} (h : ∀ p ∈ l, p ∈ r) : ∀ p ∈ l, p ∈ a :: r := fun p hp => .tail _ (h p hp)
theorem sub_all {a : Addr × Obj} {l r : List (Addr × Obj)} (h1 : a ∈ r) (h : ∀ p ∈ l, p ∈ r) : ∀ p ∈ a :: l, p ∈ r := List.forall_mem_cons.mpr ⟨h1, h⟩
theorem off_cons {a d : Addr} {o : Obj} {ext : List (Addr × Obj)} (h1 : @Ne Nat a d) (h2 : ∀ p ∈ ext, p.1 ≠ d) : ∀ p ∈ (a, o) :: ext, p.1 ≠ d := List.forall_mem_cons.mpr ⟨h1, h2⟩
end
theorem mem_all {α : Type} {p : α → Prop} {l : List α} {v : α} (hv : v ∈ l) (h : ∀ u ∈ l, p u) : p v := h v hv
theorem all9 {α : Type} {p : α → Prop} {a b c d e f g h i : α} (ha : p a) (hb : p b) (hc : p c) (hd : p d) (he : p e) (hf : p f) (hg : p g) (hh : p h) (hi : p i) : ∀ u ∈ [a, b, c, d, e, f, g, h, i], p u := by
  simp only [List.forall_mem_cons]
  exact ⟨ha, hb, hc, hd, he, hf, hg, hh, hi, fun _ h => nomatch h⟩
end Mine
end
-- part Cp
section
open PySem PySem.W PyProof.Rows PySem.Calls PySem.Spec
set_option maxHeartbeats 2000000
namespace Mine
open LCg

section
variable {prog : Program} {w : World} {A : Around} {E : Value → Shared → Prop} {s : Shared} {h₀ : Heap} {L : Addr} {m : Str → Option Value} {env : Env}

theorem letOwned_tupiter {elts : List Expr} {x1} {pos : Pos} {I l : Addr} {v : Value} {i : Nat} {Q : Unit → Shared → Prop} (hit : s.heap.IsTupleIter I l i) (hQ : Q () s) :
    wpAny (model prog w) A (letOwnedTupleGo (.Tuple elts x1 pos) (.ref I) v) Q E s := by
  obtain ⟨o, ho, hc, hd⟩ := hit
  cases v with
  | ref T =>
    unfold letOwnedTupleGo
    refine wpAny_bind (wpAny_load ho ?_)
    rw [hc, hd]
    show wpAny _ A (if (["enumerate", "zip", "dict_itemiterator", "dict_reverseitemiterator", "odict_iterator", "itertools.zip_longest", "itertools.pairwise"].contains "tuple_iterator" &&
      (#[.ref l, .int i 0] : Array Value)[0]? == some (rawInt T)) = true then _ else _) Q E s
    have hno : (["enumerate", "zip", "dict_itemiterator", "dict_reverseitemiterator", "odict_iterator", "itertools.zip_longest", "itertools.pairwise"].contains "tuple_iterator") = false := by decide
    rw [hno, Bool.false_and]
    exact wpAny_pure hQ
  | _ => exact wpAny_pure hQ

/-- a list comprehension over pairs out of a tuple, whose elements are all of one kind -/
theorem pairs_block {elt iter : Expr} {x x₂ : Str} {px px₂ tp : Pos} {tk} {scope : Scope} {cl : List (Str × Addr)} {pos : Pos} {s₂ : Shared} {I : Addr} {fp : List Addr} {n : Nat} {P : Nat → Value → Prop} {St : Nat → Heap → Prop}
    {news : List (Addr × Obj)} {Pr : Value → Value → Prop} {El : Value → Prop} {RR : Value → Addr → Result → Shared → Prop}
    (W : Walks prog w A I fp [I] n P St) (hsz : n ≤ sizeLine) (hIo : ∀ i h, St i h → ∃ l j, h.IsTupleIter I l j)
    (hcell : ∀ y ∈ scope.names, y.2 ≠ .cell) (hkind : scope.kind = .function) (hx : scope.names.lookup x = some .local) (hx₂ : scope.names.lookup x₂ = some .local) (hxx : x ≠ x₂) (hh : A.handled = none)
    (hst : St 0 s₂.heap) (hfp : ∀ b ∈ fp, b < s₂.heap.objs.size) (hsrc : ∀ b ∈ fp, b = I ∨ ∃ o, (b, o) ∈ news)
    (F : Fr h₀ L s₂.heap m) (N : News h₀ L s₂.heap news) (hIL : L ≠ I) (hI₀ : h₀.get? I = none) (off : ∀ p ∈ news, p.1 ≠ I)
    (hpair : ∀ i v, i < n → P i v → ∃ t ot v₁ v₂ nt, v = .ref t ∧ (t, ot) ∈ news ∧ ot.cls = .type "tuple" ∧ ot.data = .seq #[v₁, v₂] nt ∧ Pr v₁ v₂)
    (turn : ∀ v₁ v₂ I oI C oC D m₂ ys h tk' (E' : Value → Shared → Prop), Pr v₁ v₂ → NsObj oC m₂ → m₂ x = some v₁ → m₂ x₂ = some v₂ → Fr h₀ L h m → News h₀ L h ((I, oI) :: (C, oC) :: (D, lst ys) :: news) → Off3 I C D news → ((@Ne Nat I C) ∧ (@Ne Nat I D) ∧ (@Ne Nat C D)) →
      wpAny (model prog w) A (eval elt (compEnvC scope cl C env)) (CompEnd h₀ L m { s₂ with heap := h, toks := tk' } I oI C oC D (lst ys) (fun _ => True) (fun y news' => news' = news ∧ El y)) E' { s₂ with heap := h, toks := tk' })
    (hRR : ∀ D C h tk m' ys, Fr h₀ L h m → News h₀ L h ((D, lst ys) :: news) → Off1 D news → h.Ns C m' → h₀.get? C = none → h₀.get? D = none → C ≠ L → D ≠ L → C ≠ D → (∀ p ∈ news, p.1 ≠ C) → ys.length = n → (∀ y ∈ ys, El y) → RR (.ref D) C (.ok .next) { s₂ with heap := h, toks := tk }) :
    wpAny (model prog w) A (newList []) (fun acc s₃ => wpAny (model prog w) A (newFunctionEnv scope env.globals cl [] env.qual none .none (some env)) (fun cenv s₄ =>
      codeAny (model prog w) A (.compStart (.ListComp elt [⟨.Tuple [.Name x px, .Name x₂ px₂] tk tp, iter, [], 0⟩] scope pos) 0 (.ref I) acc { cenv with scope := relabel scope env }) (RR acc cenv.locals) s₄) E s₃) E s₂ := by
  refine wpAny_newObj_type (wpAny_newFunctionEnv hcell (by intro y hy; simp at hy) (fun h₁ hns₁ hsb₁ => ?_) hkind)
  dsimp only at hns₁ hsb₁ ⊢
  generalize hH2 : s₂.heap.push { cls := .type "list", dict := none, data := .seq ([] : List Value).toArray } = H2 at hns₁ hsb₁ ⊢
  have hC : H2.objs.size = s₂.heap.objs.size + 1 := by rw [← hH2, Heap.size_push]
  have hDC : s₂.heap.objs.size ≠ H2.objs.size := by rw [hC]; exact Nat.ne_of_lt (Nat.lt_succ_self _)
  have low : ∀ b, b < s₂.heap.objs.size → b ≠ H2.objs.size ∧ b ≠ s₂.heap.objs.size := fun b hb => ⟨by rw [hC]; exact Nat.ne_of_lt (Nat.lt_succ_of_lt hb), Nat.ne_of_lt hb⟩
  have hIf : I ∈ fp := W.sub I (List.mem_singleton.mpr rfl)
  have hIlt : I < s₂.heap.objs.size := hfp I hIf
  have hDf : s₂.heap.objs.size ∉ fp := fun hm => Nat.lt_irrefl _ (hfp _ hm)
  have hCf : H2.objs.size ∉ fp := fun hm => by have := hfp _ hm; rw [hC] at this; exact Nat.lt_irrefl _ (Nat.lt_of_succ_lt this)
  have old : ∀ b o, s₂.heap.get? b = some o → h₁.get? b = some o := fun b o e => hsb₁.extBut b o (low b (Heap.lt_size e)).1 (Heap.get?_push_of_some _ (hH2 ▸ Heap.get?_push_of_some _ e))
  have hacc : h₁.get? s₂.heap.objs.size = some (lst []) := hsb₁.extBut _ _ hDC (Heap.get?_push_of_some _ (hH2 ▸ Heap.get?_push_size _ rfl))
  have hst₁ : St 0 h₁ := W.frame _ _ _ hst fun b _ o e => old b o e
  have fresh₀ : ∀ a, s₂.heap.objs.size ≤ a → h₀.get? a = none := fun a ha => by
    cases e : h₀.get? a with
    | none => rfl
    | some o' => exact absurd (Heap.lt_size (F.keep a o' e)) (Nat.not_lt.mpr ha)
  have hD₀ : h₀.get? s₂.heap.objs.size = none := fresh₀ _ (Nat.le_refl _)
  have hC₀ : h₀.get? H2.objs.size = none := fresh₀ _ (by rw [hC]; exact Nat.le_succ _)
  have hLlt : L < s₂.heap.objs.size := F.ns.lt
  have hDL : s₂.heap.objs.size ≠ L := Ne.symm (low L hLlt).2
  have hCL : H2.objs.size ≠ L := Ne.symm (low L hLlt).1
  have hCI : I ≠ H2.objs.size := (low I hIlt).1
  have hDI : I ≠ s₂.heap.objs.size := (low I hIlt).2
  have off₀ : Off3 I H2.objs.size s₂.heap.objs.size news := Off3.of fun p hp => ⟨off p hp, (low _ (Heap.lt_size (N p hp).1)).1, (low _ (Heap.lt_size (N p hp).1)).2⟩
  have off3 := off₀.mem
  have loop : ∀ s₃ : Shared, s₃ = { s₂ with heap := h₁, toks := s₂.toks + ([] : List (Str × Value)).length } →
      codeAny (model prog w) A (.compLoop (.ListComp elt [⟨.Tuple [.Name x px, .Name x₂ px₂] tk tp, iter, [], 0⟩] scope pos) 0 (.ref I) (.ref s₂.heap.objs.size) (compEnvC scope cl H2.objs.size env))
        (RR (.ref s₂.heap.objs.size) H2.objs.size) s₃ := by
    rintro s₃ rfl
    refine LCp.codeAny_compLoop_pair
      (fun k s' => ∃ h' tk i ys m', s' = { s₂ with heap := h', toks := tk } ∧ i ≤ n ∧ k = n + 1 - i ∧ ys.length = i ∧ St i h' ∧ Fr h₀ L h' m ∧ h'.Ns H2.objs.size m' ∧ News h₀ L h' ((s₂.heap.objs.size, lst ys) :: news) ∧ (∀ y ∈ ys, El y)) ?_ (n + 1)
      ⟨h₁, _, 0, [], _, rfl, Nat.zero_le _, rfl, rfl, hst₁, F.keeps old, hns₁, fun p hp => ?_, fun _ hy => nomatch hy⟩
    · rintro k s' ⟨h', tk, i, ys, m', rfl, hi, rfl, hyl, hst', F', hn', N', hEl⟩
      by_cases hlt : i < n
      · refine W.item i _ _ _ hlt hst' fun v h₂ tk₂ hPv hst₂ hk₂ => ?_
        obtain ⟨t, ot, v₁, v₂, nt, rfl, hmt, hct, hdt, hPr⟩ := hpair i v hlt hPv
        have N₂ : News h₀ L h₂ ((s₂.heap.objs.size, lst ys) :: news) := news_but N' hk₂ fun p hp => by
          rcases List.mem_cons.mp hp with rfl | hp
          · exact Ne.symm hDI
          · exact (off3 p hp).1
        have ht : IsTup h₂ t #[v₁, v₂] := ⟨ot, (N₂ _ (List.mem_cons_of_mem _ hmt)).1, hct, nt, hdt⟩
        obtain ⟨lI, jI, hLi⟩ := hIo _ _ hst₂
        refine letOwned_tupiter hLi ?_
        refine assign_Tuple_tuple hh ht rfl rfl fun h₅ he => ?_
        have he' : ∀ b o, h₂.get? b = some o → h₅.get? b = some o := fun b o e => he b o (Nat.ne_of_lt (Heap.lt_size e)) e
        refine assignInOrder_cons (wpAny_assign_Name (wpAny_storeName_local (lookup_relabel_local hx) ((hn'.at' fun o e => hk₂ _ o (by simpa using Ne.symm hCI) e).at' fun o e => he' _ o e) (fun h₆ hn₆ hs₆ => ?_) (by simp [compEnvC, relabel, hkind])))
        refine assignInOrder_cons (wpAny_assign_Name (wpAny_storeName_local (lookup_relabel_local hx₂) hn₆ (fun h₃ hn₃ hs₃ => ?_) (by simp [compEnvC, relabel, hkind])))
        refine assignInOrder_nil ?_
        have old3 : ∀ b o, b ≠ H2.objs.size → h₂.get? b = some o → h₃.get? b = some o := fun b o hb e => hs₃.extBut b o hb (hs₆.extBut b o hb (he' b o e))
        have hst₃ : St (i + 1) h₃ := W.frame _ _ _ hst₂ fun b hb o e => old3 b o (fun q => hCf (by rw [← q]; exact hb)) e
        obtain ⟨lI', jI', oI, heI, _⟩ := hIo _ _ hst₃
        obtain ⟨oC, heC, hoC⟩ := ns_obj hn₃
        have F₃ : Fr h₀ L h₃ m := (((fr_but F' hk₂ hIL hI₀).keeps he').change hs₆ hCL hC₀).change hs₃ hCL hC₀
        have N₃ : News h₀ L h₃ ((I, oI) :: (H2.objs.size, oC) :: (s₂.heap.objs.size, lst ys) :: news) := fun p hp => by
          rcases List.mem_cons.mp hp with rfl | hp
          · exact ⟨heI, Ne.symm hIL, hI₀⟩
          · rcases List.mem_cons.mp hp with rfl | hp
            · exact ⟨heC, hCL, hC₀⟩
            · have z := N₂ p hp
              refine ⟨old3 _ _ ?_ z.1, z.2⟩
              rcases List.mem_cons.mp hp with rfl | hp
              · exact hDC
              · exact (off3 p hp).2.1
        refine wpAny_mono (turn v₁ v₂ I oI H2.objs.size oC s₂.heap.objs.size _ ys h₃ _ _ hPr hoC (by simp [hxx]) (by simp) F₃ N₃ off₀ ⟨hCI, hDI, Ne.symm hDC⟩) (fun y s₄ h₄ => ?_) fun _ _ e => e
        obtain ⟨h₄, tk₄, news₄, rfl, F₄, N₄, _, _, hn4, hy⟩ := h₄
        subst hn4
        have zC := (N₄ (H2.objs.size, oC) (List.mem_cons_of_mem _ List.mem_cons_self)).1
        have zD := (N₄ (s₂.heap.objs.size, lst ys) (List.mem_cons_of_mem _ (List.mem_cons_of_mem _ List.mem_cons_self))).1
        have N₄' : News h₀ L h₄ news₄ := fun p hp => N₄ p (List.mem_cons_of_mem _ (List.mem_cons_of_mem _ (List.mem_cons_of_mem _ hp)))
        have hst₄ : St (i + 1) h₄ := W.frame _ _ _ hst₃ fun b hb o e => by
          rcases hsrc b hb with rfl | ⟨o', ho'⟩
          · rw [heI] at e; cases e
            exact (N₄ _ List.mem_cons_self).1
          · have e2 := (N₃ _ (List.mem_cons_of_mem _ (List.mem_cons_of_mem _ (List.mem_cons_of_mem _ ho')))).1
            have e3 : h₃.get? b = some o' := e2
            rw [e] at e3; cases e3
            exact (N₄' _ ho').1
        refine append_at (hsz := by show ys.toArray.size ≤ sizeLine; rw [List.size_toArray, hyl]; exact Nat.le_trans hi hsz) zD fun h₅ hs₅ hD₅ => ?_
        refine ⟨n + 1 - (i + 1), by omega, h₅, tk₄, i + 1, ys ++ [y], _, rfl, hlt, rfl, by rw [List.length_append, List.length_singleton, hyl], W.frame _ _ _ hst₄ fun b hb o e => hs₅.extBut b o (fun q => hDf (q ▸ hb)) e, F₄.change hs₅ hDL hD₀,
          (hoC.ns zC).sameBut hs₅ (Ne.symm hDC), fun p hp => ?_, fun z hz => ?_⟩
        · rcases List.mem_cons.mp hp with rfl | hp
          · exact ⟨hD₅.trans (congrArg some (lst_snoc ys y)), hDL, hD₀⟩
          · exact ⟨hs₅.extBut _ _ (off3 p hp).2.2 (N₄' p hp).1, (N₄' p hp).2⟩
        · rcases List.mem_append.mp hz with hz | hz
          · exact hEl z hz
          · rw [List.mem_singleton.mp hz]; exact hy
      · obtain rfl : i = n := Nat.le_antisymm hi (Nat.not_lt.mp hlt)
        refine W.done _ _ _ hst' fun h₂ tk₂ hk₂ => ?_
        exact hRR _ _ h₂ tk₂ _ ys (fr_but F' hk₂ hIL hI₀) (news_but N' hk₂ fun p hp => by
          rcases List.mem_cons.mp hp with rfl | hp
          · exact Ne.symm hDI
          · exact (off3 p hp).1) off₀.one (hn'.at' fun o e => hk₂ _ o (by simpa using Ne.symm hCI) e) hC₀ hD₀ hCL hDL (Ne.symm hDC) (fun p hp => (off3 p hp).2.1) hyl hEl
    · rcases List.mem_cons.mp hp with rfl | hp
      · exact ⟨hacc, hDL, hD₀⟩
      · exact ⟨old _ _ (N p hp).1, (N p hp).2⟩
  exact codeAny_compStart_list (loop _ rfl) (W.self 0 _ _ _ hst₁ (loop _ rfl))

/-- behind the tuple of pairs -/
def PairSrc (prog : Program) (w : World) (A : Around) (h₀ : Heap) (L : Addr) (m : Str → Option Value) (env : Env) (elt : Expr) (x x₂ : Str) (scope : Scope) (cl : List (Str × Addr)) (y : Str) (Q : Flow → Shared → Prop) (xv : Value) (s₁ : Shared) : Prop :=
  ∃ (ax : Addr) (its : List Value) (k : Nat) (news : List (Addr × Obj)) (Pr : Value → Value → Prop) (El : Value → Prop), xv = .ref ax ∧ A.handled = none ∧ Fr h₀ L s₁.heap m ∧ News h₀ L s₁.heap news ∧ (ax, ({ cls := .type "tuple", data := .seq its.toArray k } : Obj)) ∈ news ∧ its.length ≤ sizeLine ∧
    (∀ v ∈ its, ∃ t ot v₁ v₂ nt, v = .ref t ∧ (t, ot) ∈ news ∧ ot.cls = .type "tuple" ∧ ot.data = .seq #[v₁, v₂] nt ∧ Pr v₁ v₂) ∧
    (∀ v₁ v₂ I oI C oC D m₂ ys h tk' (E' : Value → Shared → Prop), Pr v₁ v₂ → NsObj oC m₂ → m₂ x = some v₁ → m₂ x₂ = some v₂ → Fr h₀ L h m → News h₀ L h ((I, oI) :: (C, oC) :: (D, lst ys) :: news) → Off3 I C D news → ((@Ne Nat I C) ∧ (@Ne Nat I D) ∧ (@Ne Nat C D)) →
      wpAny (model prog w) A (eval elt (compEnvC scope cl C env)) (CompEnd h₀ L m { s₁ with heap := h, toks := tk' } I oI C oC D (lst ys) (fun _ => True) (fun y news' => news' = news ∧ El y)) E' { s₁ with heap := h, toks := tk' }) ∧
    (∀ D h tk ys, Fr h₀ L h (fun z => if z = y then some (.ref D) else m z) → News h₀ L h ((D, lst ys) :: news) → Off1 D news → ys.length = its.length → (∀ y ∈ ys, El y) → Q .next { s₁ with heap := h, toks := tk })

theorem pairs_assign {elt iter : Expr} {x x₂ y : Str} {px px₂ tp py : Pos} {tk} {scope : Scope} {cl : List (Str × Addr)} {pos spos : Pos} {Q : Flow → Shared → Prop} (_F₀ : Fr h₀ L s.heap m) (hLe : env.locals = L)
    (hsw : swapsWith (.ListComp elt [⟨.Tuple [.Name x px, .Name x₂ px₂] tk tp, iter, [], 0⟩] scope pos) (some (.Name y py)) spos.line env = pure true)
    (hclos : closureFor scope env = pure cl) (hcell : ∀ z ∈ scope.names, z.2 ≠ .cell) (hkind : scope.kind = .function)
    (hnames : ∀ z ∈ scope.names, z.2 = .local → scope.names.lookup z.1 = some .local) (hx : scope.names.lookup x = some .local) (hx₂ : scope.names.lookup x₂ = some .local) (hxx : x ≠ x₂)
    (hy : env.kindOf y = some .local) (hp : (env.scope.kind == .class || (env.scope.kind == .module && env.locals != env.globals)) = false)
    (h : wpAny (model prog w) A (eval iter env) (PairSrc prog w A h₀ L m env elt x x₂ scope cl y Q) E s)
    (hs : ∀ x, foldedSetIterable iter env x = pure x := by intro _; rfl) :
    wpAny (model prog w) A (exec (.Assign [.Name y py] (.ListComp elt [⟨.Tuple [.Name x px, .Name x₂ px₂] tk tp, iter, [], 0⟩] scope pos) spos) env) Q E s := by
  subst hLe
  rw [exec_Assign_Name_used _ _ _ _ hsw]
  refine wpAny_bind (wpAny_standAt (wpAny_bind ?_))
  show wpAny _ A (do let _ ← comprehension (.ListComp elt [⟨.Tuple [.Name x px, .Name x₂ px₂] tk tp, iter, [], 0⟩] scope pos) scope env _ (newList []) false (eval iter env) (some (assign (.Name y py) env))) _ _ s
  refine wpAny_bind (wpAny_mono (wpAny_comprehension_free (use := some (assign (.Name y py) env)) (Q := fun _ s' => Q .next s') rfl hs hclos hkind hnames
    (wpAny_mono h (fun xv s₁ h₁ => ?_) fun _ _ e => e)) (fun _ s' hq => wpAny_pure (wpAny_pure hq)) fun _ _ e => e)
  obtain ⟨ax, its, k, news, Pr, El, rfl, hh, F, N, hax, hsz, hits, turn, fin⟩ := h₁
  have ht : s₁.heap.IsTuple ax its.toArray := ⟨_, (N _ hax).1, rfl, k, rfl⟩
  have hlt : ax < s₁.heap.objs.size := Heap.lt_size (N _ hax).1
  refine wpAny_pyIter_tuple ht ?_
  have up : ∀ b o, s₁.heap.get? b = some o → (s₁.heap.push { cls := .type "tuple_iterator", data := .fields #[.ref ax, .int 0 0] }).get? b = some o := fun b o e => Heap.get?_push_of_some _ e
  refine pairs_block (news := news) (Pr := Pr) (El := El) (Walks.tuple hh s₁.heap.objs.size ax (Nat.ne_of_lt hlt) its.toArray) (by rw [List.size_toArray]; exact hsz) (fun i h st => ⟨_, _, st.1⟩) hcell hkind hx hx₂ hxx hh
    ⟨⟨_, Heap.get?_push_size _ rfl, rfl, rfl⟩, ht.at fun o e => up _ o e⟩ (fun b hb => ?_) (fun b hb => ?_) (F.keeps up) (N.grown up) (Nat.ne_of_lt F.ns.lt) (next_is_new F) (fun p hp => Nat.ne_of_lt (Heap.lt_size (N p hp).1)) (fun i v hi hv => ?_)
    (fun v₁ v₂ I oI C oC D m₂ ys h tk' E' hPr hC h1 h2 F' N' off ne => turn v₁ v₂ I oI C oC D m₂ ys h tk' E' hPr hC h1 h2 F' N' off ne) ?_
  · show b < (s₁.heap.push _).objs.size
    rw [Heap.size_push]
    rcases List.mem_cons.mp hb with rfl | hb
    · exact Nat.lt_succ_self _
    · rw [List.mem_singleton.mp hb]; exact Nat.lt_succ_of_lt hlt
  · rcases List.mem_cons.mp hb with rfl | hb
    · exact .inl rfl
    · rw [List.mem_singleton.mp hb]; exact .inr ⟨_, hax⟩
  · exact hits v (List.mem_of_getElem? (by simpa using hv))
  · intro D C h' tk m' ys F' N' o1 hn hC₀ hD₀ hCL hDL hCD offC hlen hEl
    show wpAny _ A (assign (.Name y py) env (.ref D)) _ _ _
    refine wpAny_assign_Name (wpAny_storeName_local hy F'.ns (fun h₂ hn₂ hs₂ => ?_) hp)
    have hL₀ : h₀.get? env.locals = none := Heap.get?_none_of_le F'.above
    have F₂ : Fr h₀ env.locals h₂ (fun z => if z = y then some (.ref D) else m z) := ⟨hn₂, fun b o e => hs₂.extBut b o (fun q => by rw [q, hL₀] at e; cases e) (F'.keep b o e), F'.above⟩
    refine ⟨m', hn.sameBut hs₂ hCL, fun h'' hs'' => fin D h'' _ ys (F₂.change hs'' hCL hC₀) (fun p hp => ?_) o1 (by rw [hlen, List.size_toArray]) hEl⟩
    have z : h₂.get? p.1 = some p.2 := hs₂.extBut _ _ (N' p hp).2.1 (N' p hp).1
    refine ⟨hs''.extBut _ _ ?_ z, (N' p hp).2⟩
    rcases List.mem_cons.mp hp with rfl | hp
    · exact Ne.symm hCD
    · exact offC p hp

/-- the pairs of the law's table of marks -/
def MPr (v₁ v₂ : Value) : Prop := ∃ a b ta tb, v₁ = .int a ta ∧ v₂ = .int b tb ∧ 0 ≤ a ∧ a ≤ 3 ∧ 0 ≤ b ∧ b ≤ 4
def MEl (y : Value) : Prop := ∃ r t, y = .str r t ∧ r ∈ marks6
def MkEl (news : List (Addr × Obj)) (y : Value) (news' : List (Addr × Obj)) : Prop := news' = news ∧ MEl y
theorem PairSrc.marks {elt : Expr} {x x₂ y : Str} {scope : Scope} {cl : List (Str × Addr)} {Q : Flow → Shared → Prop} {ax t1 t2 t3 t4 : Addr} {n1 n2 n3 n4 : Nat} {k : Nat} {news : List (Addr × Obj)} {s₁ : Shared} {a1 a2 a3 a4 b1 b2 b3 b4 : Int} {u1 u2 u3 u4 w1 w2 w3 w4 : Tok}
    (hh : A.handled = none) (F : Fr h₀ L s₁.heap m)
    (N : News h₀ L s₁.heap ((ax, ({ cls := .type "tuple", data := .seq [Value.ref t1, .ref t2, .ref t3, .ref t4].toArray k } : Obj)) :: (t4, ({ cls := .type "tuple", data := .seq [Value.int a4 u4, .int b4 w4].toArray n4 } : Obj)) ::
      (t3, ({ cls := .type "tuple", data := .seq [Value.int a3 u3, .int b3 w3].toArray n3 } : Obj)) :: (t2, ({ cls := .type "tuple", data := .seq [Value.int a2 u2, .int b2 w2].toArray n2 } : Obj)) :: (t1, ({ cls := .type "tuple", data := .seq [Value.int a1 u1, .int b1 w1].toArray n1 } : Obj)) :: news))
    (hb : (0 ≤ a1 ∧ a1 ≤ 3 ∧ 0 ≤ b1 ∧ b1 ≤ 4) ∧ (0 ≤ a2 ∧ a2 ≤ 3 ∧ 0 ≤ b2 ∧ b2 ≤ 4) ∧ (0 ≤ a3 ∧ a3 ≤ 3 ∧ 0 ≤ b3 ∧ b3 ≤ 4) ∧ (0 ≤ a4 ∧ a4 ≤ 3 ∧ 0 ≤ b4 ∧ b4 ≤ 4))
    (turn : ∀ nw a b ta tb I oI C oC D m₂ ys h tk' (E' : Value → Shared → Prop), 0 ≤ a → a ≤ 3 → 0 ≤ b → b ≤ 4 → NsObj oC m₂ → m₂ x = some (.int a ta) → m₂ x₂ = some (.int b tb) → Fr h₀ L h m → News h₀ L h ((I, oI) :: (C, oC) :: (D, lst ys) :: nw) → Off3 I C D nw → ((@Ne Nat I C) ∧ (@Ne Nat I D) ∧ (@Ne Nat C D)) → News h₀ L h ((I, oI) :: (C, oC) :: (D, lst ys) :: news) →
      wpAny (model prog w) A (eval elt (compEnvC scope cl C env)) (CompEnd h₀ L m { s₁ with heap := h, toks := tk' } I oI C oC D (lst ys) (fun _ => True) (MkEl nw)) E' { s₁ with heap := h, toks := tk' })
    (fin : ∀ D h tk o q1 q2 q3 q4, MarkObj o q1 q2 q3 q4 → Fr h₀ L h (fun z => if z = y then some (.ref D) else m z) → News h₀ L h ((D, o) :: news) → Off1 D news → Q .next { s₁ with heap := h, toks := tk }) :
    PairSrc prog w A h₀ L m env elt x x₂ scope cl y Q (.ref ax) s₁ := by
  refine ⟨ax, _, k, _, MPr, MEl, rfl, hh, F, N, .head _, by rw [PySem.sizeLine_eq]; exact Nat.le_of_ble_eq_true rfl, ?_, ?_, ?_⟩
  · obtain ⟨⟨p1, p2, p3, p4⟩, ⟨p5, p6, p7, p8⟩, ⟨p9, p10, p11, p12⟩, p13, p14, p15, p16⟩ := hb
    intro v hv
    simp only [List.mem_cons, List.not_mem_nil, or_false] at hv
    rcases hv with rfl | rfl | rfl | rfl
    · exact ⟨_, _, _, _, _, rfl, .tail _ (.tail _ (.tail _ (.tail _ (.head _)))), rfl, rfl, _, _, _, _, rfl, rfl, p1, p2, p3, p4⟩
    · exact ⟨_, _, _, _, _, rfl, .tail _ (.tail _ (.tail _ (.head _))), rfl, rfl, _, _, _, _, rfl, rfl, p5, p6, p7, p8⟩
    · exact ⟨_, _, _, _, _, rfl, .tail _ (.tail _ (.head _)), rfl, rfl, _, _, _, _, rfl, rfl, p9, p10, p11, p12⟩
    · exact ⟨_, _, _, _, _, rfl, .tail _ (.head _), rfl, rfl, _, _, _, _, rfl, rfl, p13, p14, p15, p16⟩
  · rintro _ _ I oI C oC D m₂ ys h tk' E' ⟨a, b, ta, tb, rfl, rfl, g1, g2, g3, g4⟩ hC h1 h2 F' N' off ne
    exact turn _ a b ta tb I oI C oC D m₂ ys h tk' E' g1 g2 g3 g4 hC h1 h2 F' N' off ne (fun p hp => N' p (by
      rcases List.mem_cons.mp hp with rfl | hp
      · exact .head _
      rcases List.mem_cons.mp hp with rfl | hp
      · exact .tail _ (.head _)
      rcases List.mem_cons.mp hp with rfl | hp
      · exact .tail _ (.tail _ (.head _))
      exact .tail _ (.tail _ (.tail _ (.tail _ (.tail _ (.tail _ (.tail _ (.tail _ hp)))))))))
  · intro D h tk ys F' N' o1 hlen hEl
    match ys, hlen, hEl with
    | [y1, y2, y3, y4], _, hEl =>
      obtain ⟨q1, v1, rfl, e1⟩ := hEl _ (.head _)
      obtain ⟨q2, v2, rfl, e2⟩ := hEl _ (.tail _ (.head _))
      obtain ⟨q3, v3, rfl, e3⟩ := hEl _ (.tail _ (.tail _ (.head _)))
      obtain ⟨q4, v4, rfl, e4⟩ := hEl _ (.tail _ (.tail _ (.tail _ (.head _))))
      exact fin D h tk _ q1 q2 q3 q4 ⟨v1, v2, v3, v4, 4, rfl, e1, e2, e3, e4⟩ F' (fun p hp => N' p ((List.mem_cons.mp hp).elim (fun e => e ▸ .head _) fun hp => .tail _ (.tail _ (.tail _ (.tail _ (.tail _ (.tail _ hp))))))) o1.2.2.2.2.2
theorem mark_end {I C D : Addr} {oI oC oD : Obj} {s₁ : Shared} {h' : Heap} {tk : Nat} {news : List (Addr × Obj)} {r : PySem.Str} {t : Tok}
    (F : Fr h₀ L h' m) (N : News h₀ L h' ((I, oI) :: (C, oC) :: (D, oD) :: news)) (off : Off3 I C D news) (hr : r ∈ marks6) :
    CompEnd h₀ L m s₁ I oI C oC D oD (fun _ => True) (MkEl news) (.str r t) { s₁ with heap := h', toks := tk } := CompEnd.intro F N news (fun _ h => h) off trivial ⟨rfl, r, t, rfl, hr⟩
end
end Mine
end
-- part Dz
section
open PySem PySem.W PyProof.Rows PySem.Calls PySem.Spec
set_option maxHeartbeats 2000000
namespace Mine
open LCg

section
variable {prog : Program} {w : World} {A : Around} {E : Value → Shared → Prop} {s : Shared} {h₀ : Heap} {L : Addr} {m : Str → Option Value} {env : Env}

/-- a turn of a dict comprehension whose target is a tuple -/
theorem compLoop_dict_pair {kx vx iter : Expr} {elts : List Expr} {x1} {tp : Pos} {scope : Scope} {pos : Pos} {it : Value} {D : Addr} {env : Env} {R : Result → Shared → Prop} (I : Nat → Shared → Prop)
    (turn : ∀ n s, I n s → wpAny (model prog w) A (pyNext it) (fun r s₁ => match r with
      | none => R (.ok .next) s₁
      | some v => wpAny (model prog w) A (letOwnedTupleGo (.Tuple elts x1 tp) it v) (fun _ s₁' => wpAny (model prog w) A (assign (.Tuple elts x1 tp) env v) (fun _ s₂ =>
          wpAny (model prog w) A (eval kx env) (fun kv s₄ => wpAny (model prog w) A (eval vx env) (fun vv s₅ =>
              wpAny (model prog w) A (dictSet D kv vv) (fun _ s₆ => ∃ m, m < n ∧ I m s₆) (notedBy (model prog w) A env fun e s' => R (.error e) s') s₅) (notedBy (model prog w) A env fun e s' => R (.error e) s') s₄) (notedBy (model prog w) A env fun e s' => R (.error e) s') s₂)
          (notedBy (model prog w) A env fun e s' => R (.error e) s') s₁') (notedBy (model prog w) A env fun e s' => R (.error e) s') s₁) (notedBy (model prog w) A env fun e s' => R (.error e) s') s)
    (n : Nat) (h : I n s) : codeAny (model prog w) A (.compLoop (.DictComp kx vx [⟨.Tuple elts x1 tp, iter, [], 0⟩] scope pos) 0 it (.ref D) env) R s := by
  refine codeAny_loop rfl I (fun n s hI => ?_) n h
  show wpAny _ A ((compTurn (.DictComp kx vx [⟨.Tuple elts x1 tp, iter, [], 0⟩] scope pos) 0 it (.ref D) env).onRaise (fun x => do noteFrame x env; theTreesLotGoes x)) _ _ s
  refine wpAny_noted ?_
  rw [compTurn_dict]
  refine wpAny_bind (wpAny_standAt (wpAny_bind (wpAny_mono (turn n s hI) (fun r s₁ h₁ => ?_) fun _ _ h' => h')))
  cases r with
  | none => exact wpAny_pure h₁
  | some v =>
    refine wpAny_bind (wpAny_mono h₁ (fun _ s₁' h₁' => ?_) fun _ _ h' => h')
    refine wpAny_bind (wpAny_mono h₁' (fun _ s₂ h₂ => wpAny_bind (wpAny_mono (wpAny_tests_nil (Q := fun ok s₃ => ok = true ∧ s₃ = s₂) ⟨rfl, rfl⟩) (fun ok s₃ h₃ => ?_) fun _ _ h' => h')) fun _ _ h' => h')
    obtain ⟨rfl, rfl⟩ := h₃
    exact wpAny_bind (wpAny_bind (wpAny_mono h₂ (fun kv s₄ h₄ => wpAny_bind (wpAny_holding (wpAny_mono h₄ (fun vv s₅ h₅ => wpAny_bind (wpAny_standAt (wpAny_holding (wpAny_mono h₅ (fun _ s₆ h₆ => wpAny_pure ⟨rfl, h₆⟩) fun _ _ h' => h')))) fun _ _ h' => h'))) fun _ _ h' => h'))

def kvsOf4 (f : PySem.Str → PySem.Str) (l : List (PySem.Str × PySem.Str × Tok)) : List (PySem.Str × Value) := l.foldl (fun acc p => stored acc p.1 (.str (f p.2.1) p.2.2)) []

theorem kvsOf4_len (f : PySem.Str → PySem.Str) : ∀ (l : List (PySem.Str × PySem.Str × Tok)) (acc : List (PySem.Str × Value)), (l.foldl (fun acc p => stored acc p.1 (.str (f p.2.1) p.2.2)) acc).length ≤ acc.length + l.length
  | [], acc => Nat.le_refl _
  | p :: r, acc => by
    rw [List.foldl_cons]
    refine Nat.le_trans (kvsOf4_len f r _) ?_
    have := stored_length_le acc p.1 (Value.str (f p.2.1) p.2.2)
    rw [List.length_cons]; omega

theorem dict_zip_block {kx vx iter : Expr} {x x₂ : Str} {px px₂ tp : Pos} {tk} {scope : Scope} {cl : List (Str × Addr)} {pos : Pos} {s₂ : Shared} {I : Addr} {fp wr : List Addr} {n : Nat} {Pt : Nat → Array Value → Prop} {St : Nat → Heap → Prop} {Mid : Nat → Addr → Heap → Prop}
    {news : List (Addr × Obj)} {Pr : Nat → PySem.Str → PySem.Str → Prop} {f : PySem.Str → PySem.Str} {RR : Value → Addr → Result → Shared → Prop}
    (W : WalksU prog w A I fp wr n Pt St Mid) (hsz : n ≤ sizeLine)
    (hcell : ∀ y ∈ scope.names, y.2 ≠ .cell) (hkind : scope.kind = .function) (hx : scope.names.lookup x = some .local) (hx₂ : scope.names.lookup x₂ = some .local) (hxx : x ≠ x₂) (hh : A.handled = none)
    (hst : St 0 s₂.heap) (hfp : ∀ b ∈ fp, b < s₂.heap.objs.size)
    (F : Fr h₀ L s₂.heap m) (N : News h₀ L s₂.heap news) (hLw : L ∉ wr) (hw₀ : ∀ b ∈ wr, h₀.get? b = none) (off : ∀ p ∈ news, p.1 ∉ wr)
    (hpair : ∀ i vals, i < n → Pt i vals → ∃ k q tk tq, vals = #[Value.str k tk, .str q tq] ∧ Pr i k q)
    (turn : ∀ i k q tk tq C oC m₂ h tk' (E' : Value → Shared → Prop), Pr i k q → NsObj oC m₂ → m₂ x = some (.str k tk) → m₂ x₂ = some (.str q tq) → Fr h₀ L h m → News h₀ L h ((C, oC) :: news) →
      wpAny (model prog w) A (eval kx (compEnvC scope cl C env)) (fun kv s₄ => wpAny (model prog w) A (eval vx (compEnvC scope cl C env)) (fun vv s₅ => ∃ tk₂ t t', s₅ = { s₂ with heap := h, toks := tk₂ } ∧ kv = .str k t ∧ vv = .str (f q) t') E' s₄) E' { s₂ with heap := h, toks := tk' })
    (hRR : ∀ D C h tk m' od l, Fr h₀ L h m → News h₀ L h ((D, od) :: news) → od.IsDictOf (strKind prog w) (kvsOf4 f l) → l.length = n → (∀ j k q t, l[j]? = some (k, q, t) → Pr j k q) → (∀ p ∈ news, @Ne Nat p.1 D) → @LT.lt Nat _ L D → h.Ns C m' → h₀.get? C = none → h₀.get? D = none → C ≠ L → D ≠ L → C ≠ D → (∀ p ∈ news, p.1 ≠ C) → RR (.ref D) C (.ok .next) { s₂ with heap := h, toks := tk }) :
    wpAny (model prog w) A newDict (fun acc s₃ => wpAny (model prog w) A (newFunctionEnv scope env.globals cl [] env.qual none .none (some env)) (fun cenv s₄ =>
      codeAny (model prog w) A (.compStart (.DictComp kx vx [⟨.Tuple [.Name x px, .Name x₂ px₂] tk tp, iter, [], 0⟩] scope pos) 0 (.ref I) acc { cenv with scope := relabel scope env }) (RR acc cenv.locals) s₄) E s₃) E s₂ := by
  refine wpAny_newObj_type (wpAny_newFunctionEnv hcell (by intro y hy; simp at hy) (fun h₁ hns₁ hsb₁ => ?_) hkind)
  dsimp only at hns₁ hsb₁ ⊢
  have hnew : (s₂.heap.push { cls := .type "dict", dict := none, data := .dict #[] }).DictOf (strKind prog w) s₂.heap.objs.size [] := Heap.DictOf.new s₂.heap
  generalize hH2 : s₂.heap.push { cls := .type "dict", dict := none, data := .dict #[] } = H2 at hns₁ hsb₁ hnew ⊢
  have hC : H2.objs.size = s₂.heap.objs.size + 1 := by rw [← hH2, Heap.size_push]
  have hDC : s₂.heap.objs.size ≠ H2.objs.size := by rw [hC]; exact Nat.ne_of_lt (Nat.lt_succ_self _)
  have low : ∀ b, b < s₂.heap.objs.size → b ≠ H2.objs.size ∧ b ≠ s₂.heap.objs.size := fun b hb => ⟨by rw [hC]; exact Nat.ne_of_lt (Nat.lt_succ_of_lt hb), Nat.ne_of_lt hb⟩
  have hDf : s₂.heap.objs.size ∉ fp := fun hm => Nat.lt_irrefl _ (hfp _ hm)
  have hCf : H2.objs.size ∉ fp := fun hm => by have := hfp _ hm; rw [hC] at this; exact Nat.lt_irrefl _ (Nat.lt_of_succ_lt this)
  have hDw : s₂.heap.objs.size ∉ wr := fun h => hDf (W.sub _ h)
  have hCw : H2.objs.size ∉ wr := fun h => hCf (W.sub _ h)
  have old : ∀ b o, s₂.heap.get? b = some o → h₁.get? b = some o := fun b o e => hsb₁.extBut b o (low b (Heap.lt_size e)).1 (Heap.get?_push_of_some _ (hH2 ▸ Heap.get?_push_of_some _ e))
  have hacc : h₁.DictOf (strKind prog w) s₂.heap.objs.size [] := hnew.at fun o e => hsb₁.extBut _ _ hDC (Heap.get?_push_of_some _ e)
  have hst₁ : St 0 h₁ := W.frame _ _ _ hst fun b _ o e => old b o e
  have fresh₀ : ∀ a, s₂.heap.objs.size ≤ a → h₀.get? a = none := fun a ha => by
    cases e : h₀.get? a with
    | none => rfl
    | some o' => exact absurd (Heap.lt_size (F.keep a o' e)) (Nat.not_lt.mpr ha)
  have hD₀ : h₀.get? s₂.heap.objs.size = none := fresh₀ _ (Nat.le_refl _)
  have hC₀ : h₀.get? H2.objs.size = none := fresh₀ _ (by rw [hC]; exact Nat.le_succ _)
  have hLlt : L < s₂.heap.objs.size := F.ns.lt
  have hDL : s₂.heap.objs.size ≠ L := Ne.symm (low L hLlt).2
  have hCL : H2.objs.size ≠ L := Ne.symm (low L hLlt).1
  have offD : ∀ p ∈ news, p.1 ≠ s₂.heap.objs.size := fun p hp => (low _ (Heap.lt_size (N p hp).1)).2
  have offC : ∀ p ∈ news, p.1 ≠ H2.objs.size := fun p hp => (low _ (Heap.lt_size (N p hp).1)).1
  have frw : ∀ {h h' : Heap}, Fr h₀ L h m → (∀ b o, b ∉ wr → h.get? b = some o → h'.get? b = some o) → Fr h₀ L h' m := fun F hk =>
    ⟨F.ns.at' fun o e => hk L o hLw e, fun b o e => hk b o (fun hm => by rw [hw₀ b hm] at e; cases e) (F.keep b o e), F.above⟩
  have nww : ∀ {h h' : Heap}, News h₀ L h news → (∀ b o, b ∉ wr → h.get? b = some o → h'.get? b = some o) → News h₀ L h' news := fun N hk p hp => ⟨hk _ _ (off p hp) (N p hp).1, (N p hp).2⟩
  have loop : ∀ s₃ : Shared, s₃ = { s₂ with heap := h₁, toks := s₂.toks + ([] : List (Str × Value)).length } →
      codeAny (model prog w) A (.compLoop (.DictComp kx vx [⟨.Tuple [.Name x px, .Name x₂ px₂] tk tp, iter, [], 0⟩] scope pos) 0 (.ref I) (.ref s₂.heap.objs.size) (compEnvC scope cl H2.objs.size env))
        (RR (.ref s₂.heap.objs.size) H2.objs.size) s₃ := by
    rintro s₃ rfl
    refine compLoop_dict_pair
      (fun k s' => ∃ h' tk i l m', s' = { s₂ with heap := h', toks := tk } ∧ i ≤ n ∧ k = n + 1 - i ∧ l.length = i ∧ St i h' ∧ Fr h₀ L h' m ∧ h'.Ns H2.objs.size m' ∧ News h₀ L h' news ∧ h'.DictOf (strKind prog w) s₂.heap.objs.size (kvsOf4 f l) ∧ (∀ j k q t, l[j]? = some (k, q, t) → Pr j k q)) ?_ (n + 1)
      ⟨h₁, _, 0, [], _, rfl, Nat.zero_le _, rfl, rfl, hst₁, F.keeps old, hns₁, N.grown old, hacc, fun j k q t e => by simp at e⟩
    rintro k s' ⟨h', tk, i, l, m', rfl, hi, rfl, hll, hst', F', hn', N', hD', hPr⟩
    by_cases hlt : i < n
    · refine W.item i _ _ _ hlt hst' fun T vals h₂ tk₂ hPv hT hMid hk₂ => ?_
      obtain ⟨kk, q, tkk, tq, rfl, hPr'⟩ := hpair i vals hlt hPv
      refine W.go _ _ _ i T _ _ _ hMid fun h₃ hst₃ hk₃ => ?_
      have hT₃ : IsTup h₃ T #[Value.str kk tkk, .str q tq] := by
        obtain ⟨o, e, hc, nn, hd⟩ := hT.at fun o e => hk₃ T o (W.apart i T _ hMid) e
        exact ⟨o, e, hc, nn, hd⟩
      have hk23 : ∀ b o, b ∉ wr → h'.get? b = some o → h₃.get? b = some o := fun b o hb e => hk₃ b o hb (hk₂ b o hb e)
      refine assign_Tuple_tuple hh hT₃ rfl rfl fun h₅ he => ?_
      have he' : ∀ b o, h₃.get? b = some o → h₅.get? b = some o := fun b o e => he b o (Nat.ne_of_lt (Heap.lt_size e)) e
      refine assignInOrder_cons (wpAny_assign_Name (wpAny_storeName_local (lookup_relabel_local hx) ((hn'.at' fun o e => hk23 _ o hCw e).at' fun o e => he' _ o e) (fun h₆ hn₆ hs₆ => ?_) (by simp [compEnvC, relabel, hkind])))
      refine assignInOrder_cons (wpAny_assign_Name (wpAny_storeName_local (lookup_relabel_local hx₂) hn₆ (fun h₇ hn₇ hs₇ => ?_) (by simp [compEnvC, relabel, hkind])))
      refine assignInOrder_nil ?_
      have old7 : ∀ b o, b ≠ H2.objs.size → h₃.get? b = some o → h₇.get? b = some o := fun b o hb e => hs₇.extBut b o hb (hs₆.extBut b o hb (he' b o e))
      have hst₇ : St (i + 1) h₇ := W.frame _ _ _ hst₃ fun b hb o e => old7 b o (fun q => hCf (by rw [← q]; exact hb)) e
      obtain ⟨oC, heC, hoC⟩ := ns_obj hn₇
      have F₇ : Fr h₀ L h₇ m := (((frw F' hk23).keeps he').change hs₆ hCL hC₀).change hs₇ hCL hC₀
      have N₇ : News h₀ L h₇ ((H2.objs.size, oC) :: news) := fun p hp => by
        rcases List.mem_cons.mp hp with rfl | hp
        · exact ⟨heC, hCL, hC₀⟩
        · have z := nww N' hk23 p hp
          exact ⟨old7 _ _ (offC p hp) z.1, z.2⟩
      have hD₇ : h₇.DictOf (strKind prog w) s₂.heap.objs.size (kvsOf4 f l) := hD'.at fun o e => old7 _ o hDC (hk23 _ o hDw e)
      refine wpAny_mono (turn i kk q tkk tq H2.objs.size oC _ h₇ _ _ hPr' hoC (by simp [hxx]) (by simp) F₇ N₇) (fun kv s₈ h₈ => ?_) fun _ _ e => e
      refine wpAny_mono h₈ (fun vv s₉ h₉ => ?_) fun _ _ e => e
      obtain ⟨tk₉, t1, t2, rfl, rfl, rfl⟩ := h₉
      have hlen : (kvsOf4 f l).length ≤ sizeLine := by
        have := kvsOf4_len f l []
        rw [List.length_nil, Nat.zero_add, hll] at this
        exact Nat.le_trans this (Nat.le_trans hi hsz)
      refine wpAny_dictSet_pairs (hsz := hlen) (strKind_is prog w kk t1) hD₇ fun h₁₀ hl₁₀ hs₁₀ => ?_
      refine ⟨n + 1 - (i + 1), by omega, h₁₀, _, i + 1, l ++ [(kk, q, t2)], _, rfl, hlt, rfl, by rw [List.length_append, hll]; rfl, W.frame _ _ _ hst₇ fun b hb o e => hs₁₀.extBut b o (fun q => hDf (q ▸ hb)) e,
        F₇.change hs₁₀ hDL hD₀, hn₇.sameBut hs₁₀ (Ne.symm hDC), fun p hp => ⟨hs₁₀.extBut _ _ (offD p hp) (N₇ p (.tail _ hp)).1, (N' p hp).2⟩, ?_, ?_⟩
      · have e : kvsOf4 f (l ++ [(kk, q, t2)]) = stored (kvsOf4 f l) kk (.str (f q) t2) := by unfold kvsOf4; rw [List.foldl_append]; rfl
        rw [e]; exact hl₁₀
      · intro j k' q' t' e
        rcases Nat.lt_trichotomy j i with h | h | h
        · exact hPr j k' q' t' (by rwa [List.getElem?_append_left (by omega)] at e)
        · subst h
          rw [List.getElem?_append_right (by omega), hll, Nat.sub_self] at e
          cases e; exact hPr'
        · rw [List.getElem?_eq_none (by rw [List.length_append, hll]; show i + 1 ≤ j; omega)] at e; cases e
    · obtain rfl : i = n := Nat.le_antisymm hi (Nat.not_lt.mp hlt)
      refine W.done _ _ _ hst' fun h₂ tk₂ hk₂ => ?_
      obtain ⟨od, hod, hdo⟩ := Heap.dictOf_iff.mp (hD'.at fun o e => hk₂ _ o hDw e)
      refine hRR _ _ h₂ tk₂ _ od l (frw F' hk₂) (fun p hp => ?_) hdo hll hPr offD hLlt (hn'.at' fun o e => hk₂ _ o hCw e) hC₀ hD₀ hCL hDL (Ne.symm hDC) offC
      rcases List.mem_cons.mp hp with rfl | hp
      · exact ⟨hod, hDL, hD₀⟩
      · exact nww N' hk₂ p hp
  exact codeAny_compStart_dict (loop _ rfl) (W.self 0 _ _ _ hst₁ (loop _ rfl))

/-- behind the zip of a dict comprehension -/
def ZipSrc (prog : Program) (w : World) (A : Around) (h₀ : Heap) (L : Addr) (m : Str → Option Value) (env : Env) (kx vx : Expr) (x x₂ : Str) (scope : Scope) (cl : List (Str × Addr)) (Q : Value → Shared → Prop) (xv : Value) (s₂ : Shared) : Prop :=
  ∃ (I : Addr) (fp wr : List Addr) (n : Nat) (Pt : Nat → Array Value → Prop) (St : Nat → Heap → Prop) (Mid : Nat → Addr → Heap → Prop) (news : List (Addr × Obj)) (Pr : Nat → PySem.Str → PySem.Str → Prop) (f : PySem.Str → PySem.Str),
    xv = .ref I ∧ WalksU prog w A I fp wr n Pt St Mid ∧ n ≤ sizeLine ∧ A.handled = none ∧ St 0 s₂.heap ∧ (∀ b ∈ fp, b < s₂.heap.objs.size) ∧ Fr h₀ L s₂.heap m ∧ News h₀ L s₂.heap news ∧ L ∉ wr ∧ (∀ b ∈ wr, h₀.get? b = none) ∧ (∀ p ∈ news, p.1 ∉ wr) ∧
    (∀ i vals, i < n → Pt i vals → ∃ k q tk tq, vals = #[Value.str k tk, .str q tq] ∧ Pr i k q) ∧
    (∀ i k q tk tq C oC m₂ h tk' (E' : Value → Shared → Prop), Pr i k q → NsObj oC m₂ → m₂ x = some (.str k tk) → m₂ x₂ = some (.str q tq) → Fr h₀ L h m → News h₀ L h ((C, oC) :: news) →
      wpAny (model prog w) A (eval kx (compEnvC scope cl C env)) (fun kv s₄ => wpAny (model prog w) A (eval vx (compEnvC scope cl C env)) (fun vv s₅ => ∃ tk₂ t t', s₅ = { s₂ with heap := h, toks := tk₂ } ∧ kv = .str k t ∧ vv = .str (f q) t') E' s₄) E' { s₂ with heap := h, toks := tk' }) ∧
    (∀ D h tk od l, Fr h₀ L h m → News h₀ L h ((D, od) :: news) → od.IsDictOf (strKind prog w) (kvsOf4 f l) → l.length = n → (∀ j k q t, l[j]? = some (k, q, t) → Pr j k q) → (∀ p ∈ news, @Ne Nat p.1 D) → @LT.lt Nat _ L D → Q (.ref D) { s₂ with heap := h, toks := tk })

theorem dictzip_eval {kx vx iter : Expr} {x x₂ : Str} {px px₂ tp : Pos} {tk} {scope : Scope} {cl : List (Str × Addr)} {pos : Pos} {Q : Value → Shared → Prop} (_F₀ : Fr h₀ L s.heap m)
    (hclos : closureFor scope env = pure cl) (hcell : ∀ z ∈ scope.names, z.2 ≠ .cell) (hkind : scope.kind = .function)
    (hnames : ∀ z ∈ scope.names, z.2 = .local → scope.names.lookup z.1 = some .local) (hx : scope.names.lookup x = some .local) (hx₂ : scope.names.lookup x₂ = some .local) (hxx : x ≠ x₂)
    (h : wpAny (model prog w) A (eval iter env) (ZipSrc prog w A h₀ L m env kx vx x x₂ scope cl Q) E s)
    (hs : ∀ x, foldedSetIterable iter env x = pure x := by intro _; rfl) :
    wpAny (model prog w) A (eval (.DictComp kx vx [⟨.Tuple [.Name x px, .Name x₂ px₂] tk tp, iter, [], 0⟩] scope pos) env) Q E s := by
  rw [arm_eval_DictComp]
  refine wpAny_comprehension_free (use := none) rfl hs hclos hkind hnames (wpAny_mono h (fun xv s₂ h₂ => ?_) fun _ _ e => e)
  obtain ⟨I, fp, wr, n, Pt, St, Mid, news, Pr, f, rfl, W, hsz, hh, hst, hfp, F, N, hLw, hw₀, off, hpair, turn, fin⟩ := h₂
  refine W.self 0 _ _ _ hst ?_
  refine dict_zip_block (RR := fun acc C => compPost (model prog w) A E none Q acc C) W hsz hcell hkind hx hx₂ hxx hh hst hfp F N hLw hw₀ off hpair turn ?_
  intro D C h tk m' od l F' N' hd hl hPr offD hLD hn hC₀ hD₀ hCL hDL hCD offC
  refine ⟨m', hn, fun h'' hs'' => fin D h'' tk od l (F'.change hs'' hCL hC₀) (fun p hp => ?_) hd hl hPr offD hLD⟩
  refine ⟨hs''.extBut _ _ ?_ (N' p hp).1, (N' p hp).2⟩
  rcases List.mem_cons.mp hp with rfl | hp
  · exact Ne.symm hCD
  · exact offC p hp

def pat (q : PySem.Str) : PySem.Str := (Str.ofString "{0}" ++ q) ++ Str.ofString "{1}"
/-- what the law lays for one style -/
def PatObj (prog : Program) (w : World) (o : Obj) (q1 q2 q3 q4 : PySem.Str) : Prop := ∃ t1 t2 t3 t4, o.IsDictOf (strKind prog w) [(Str.ofString "2", Value.str (pat q1) t1), (Str.ofString "start", .str (pat q2) t2), (Str.ofString "middle", .str (pat q3) t3), (Str.ofString "end", .str (pat q4) t4)]

theorem kvs_four (q1 q2 q3 q4 : PySem.Str) (t1 t2 t3 t4 : Tok) : kvsOf4 pat [(Str.ofString "2", q1, t1), (Str.ofString "start", q2, t2), (Str.ofString "middle", q3, t3), (Str.ofString "end", q4, t4)] =
    [(Str.ofString "2", Value.str (pat q1) t1), (Str.ofString "start", .str (pat q2) t2), (Str.ofString "middle", .str (pat q3) t3), (Str.ofString "end", .str (pat q4) t4)] := by
  have n1 : ¬ Str.ofString "2" = Str.ofString "start" := by decide +kernel
  have n2 : ¬ Str.ofString "2" = Str.ofString "middle" := by decide +kernel
  have n3 : ¬ Str.ofString "2" = Str.ofString "end" := by decide +kernel
  have n4 : ¬ Str.ofString "start" = Str.ofString "middle" := by decide +kernel
  have n5 : ¬ Str.ofString "start" = Str.ofString "end" := by decide +kernel
  have n6 : ¬ Str.ofString "middle" = Str.ofString "end" := by decide +kernel
  simp [kvsOf4, stored, n1, n2, n3, n4, n5, n6]

theorem zip_marks {kx vx : Expr} {x x₂ : Str} {scope : Scope} {cl : List (Str × Addr)} {Q : Value → Shared → Prop} {l1 l2 : Addr} {o2 : Obj} {q1 q2 q3 q4 : PySem.Str} {u1 u2 u3 u4 : Tok} {n1 : Nat} {news : List (Addr × Obj)}
    (hh : A.handled = none) (F : Fr h₀ L s.heap m)
    (N : News h₀ L s.heap ((l1, listOf [Value.str (Str.ofString "2") u1, .str (Str.ofString "start") u2, .str (Str.ofString "middle") u3, .str (Str.ofString "end") u4].toArray n1) :: news)) (hm2 : (l2, o2) ∈ news) (hmk : MarkObj o2 q1 q2 q3 q4)
    (turn : ∀ k q tk tq C oC m₂ h tk' (E' : Value → Shared → Prop), q ∈ marks6 → NsObj oC m₂ → m₂ x = some (.str k tk) → m₂ x₂ = some (.str q tq) → Fr h₀ L h m → News h₀ L h ((C, oC) :: news) →
      wpAny (model prog w) A (eval kx (compEnvC scope cl C env)) (fun kv s₄ => wpAny (model prog w) A (eval vx (compEnvC scope cl C env)) (fun vv s₅ => ∃ tk₂ t t', s₅ = { s with heap := h, toks := tk₂ } ∧ kv = .str k t ∧ vv = .str (pat q) t') E' s₄) E' { s with heap := h, toks := tk' })
    (fin : ∀ D h tk od, PatObj prog w od q1 q2 q3 q4 → Fr h₀ L h m → News h₀ L h ((D, od) :: news) → (∀ p ∈ news, @Ne Nat p.1 D) → @LT.lt Nat _ L D → Q (.ref D) { s with heap := h, toks := tk }) :
    wpAny (model prog w) A (call (.type "zip") [.ref l1, .ref l2]) (ZipSrc prog w A h₀ L m env kx vx x x₂ scope cl Q) E s := by
  obtain ⟨v1, v2, v3, v4, k2, rfl, e1, e2, e3, e4⟩ := hmk
  have hx1 := N _ (.head _)
  have hx2 := N _ (.tail _ hm2)
  have hl1 : s.heap.IsList l1 [Value.str (Str.ofString "2") u1, .str (Str.ofString "start") u2, .str (Str.ofString "middle") u3, .str (Str.ofString "end") u4].toArray := ⟨_, hx1.1, rfl, n1, rfl⟩
  have hl2 : s.heap.IsList l2 [Value.str q1 v1, .str q2 v2, .str q3 v3, .str q4 v4].toArray := ⟨_, hx2.1, rfl, k2, rfl⟩
  have hlt1 : l1 < s.heap.objs.size := Heap.lt_size hx1.1
  have hlt2 : l2 < s.heap.objs.size := Heap.lt_size hx2.1
  have hLs : L < s.heap.objs.size := F.ns.lt
  have D := ktu_apart _ _ _ hlt1 hlt2
  have N₀ : News h₀ L s.heap news := fun p hp => N p (.tail _ hp)
  refine call_zip_2 hl1 hl2 fun h' hz hTI hTO hi1 hi2 hsz hk => ?_
  have wrs : ∀ b ∈ [s.heap.objs.size + 4, s.heap.objs.size + 3, s.heap.objs.size, s.heap.objs.size + 1], s.heap.objs.size ≤ b := by
    intro b hb
    simp only [List.mem_cons, List.not_mem_nil, or_false] at hb
    have hb' : (b : Nat) = s.heap.objs.size + 4 ∨ (b : Nat) = s.heap.objs.size + 3 ∨ (b : Nat) = s.heap.objs.size ∨ (b : Nat) = s.heap.objs.size + 1 := hb
    show @LE.le Nat _ s.heap.objs.size b
    omega
  refine ⟨s.heap.objs.size + 4, _, _, _, _, _, _, news, fun i k q => ([Str.ofString "2", Str.ofString "start", Str.ofString "middle", Str.ofString "end"] : List PySem.Str)[i]? = some k ∧ ([q1, q2, q3, q4] : List PySem.Str)[i]? = some q, pat, rfl,
    (WalksT.zip2 hh _ _ _ _ _ _ _ D _ _).toU, by rw [PySem.sizeLine_eq]; exact Nat.le_of_ble_eq_true rfl, hh, ⟨hz, hTI, ⟨_, _, hTO⟩, hi1, hi2, hl1.at fun o e => hk _ o e, hl2.at fun o e => hk _ o e⟩, ?_, F.keeps hk, N₀.grown hk, ?_, ?_, ?_, ?_, ?_, ?_⟩
  · intro b hb
    simp only [List.mem_cons, List.not_mem_nil, or_false] at hb
    have h1' : @LT.lt Nat _ l1 s.heap.objs.size := hlt1
    have h2' : @LT.lt Nat _ l2 s.heap.objs.size := hlt2
    show @LT.lt Nat _ b h'.objs.size
    rw [hsz]
    rcases hb with e | e | e | e | e | e | e <;> (rw [e]; omega)
  · intro hm
    exact absurd (wrs _ hm) (Nat.not_le.mpr hLs)
  · intro b hb
    exact ktu_new F (wrs _ hb)
  · intro p hp hm
    exact absurd (wrs _ hm) (Nat.not_le.mpr (Heap.lt_size (N₀ p hp).1))
  · rintro i vals hi ⟨a, b, ha, hb, rfl⟩
    match i, ha, hb with
    | 0, ha, hb => cases ha; cases hb; exact ⟨_, _, _, _, rfl, rfl, rfl⟩
    | 1, ha, hb => cases ha; cases hb; exact ⟨_, _, _, _, rfl, rfl, rfl⟩
    | 2, ha, hb => cases ha; cases hb; exact ⟨_, _, _, _, rfl, rfl, rfl⟩
    | 3, ha, hb => cases ha; cases hb; exact ⟨_, _, _, _, rfl, rfl, rfl⟩
    | i + 4, ha, hb => simp at ha
  · rintro i k q tk tq C oC m₂ h tk' E' ⟨_, hq⟩ hC h1 h2 F' N'
    have hq' : q ∈ marks6 := by
      have := List.mem_of_getElem? hq
      simp only [List.mem_cons, List.not_mem_nil, or_false] at this
      rcases this with rfl | rfl | rfl | rfl
      · exact e1
      · exact e2
      · exact e3
      · exact e4
    exact turn k q tk tq C oC m₂ h tk' E' hq' hC h1 h2 F' N'
  · intro D' h tk od l F' N' hd hl hPr offD hLD
    have hl4 : l.length = 4 := hl
    match l, hl4, hPr, hd with
    | [(a1, b1, t1), (a2, b2, t2), (a3, b3, t3), (a4, b4, t4)], _, hPr, hd =>
      have p1 := hPr 0 _ _ _ rfl
      have p2 := hPr 1 _ _ _ rfl
      have p3 := hPr 2 _ _ _ rfl
      have p4 := hPr 3 _ _ _ rfl
      simp only [List.getElem?_cons_zero, List.getElem?_cons_succ, Option.some.injEq] at p1 p2 p3 p4
      obtain ⟨rfl, rfl⟩ := p1
      obtain ⟨rfl, rfl⟩ := p2
      obtain ⟨rfl, rfl⟩ := p3
      obtain ⟨rfl, rfl⟩ := p4
      rw [kvs_four] at hd
      exact fin D' h tk od ⟨t1, t2, t3, t4, hd⟩ F' N' offD hLD
end
end Mine
end
-- part Pt
section
open PySem PySem.W PyProof.Rows PySem.Calls PySem.Spec
set_option maxHeartbeats 2000000
namespace Mine

def PatAt (prog : Program) (w : World) (b : Addr) (ob : Obj) (q1 q2 q3 q4 : PySem.Str) : Prop := (b == sysModules) = false ∧ PatObj prog w ob q1 q2 q3 q4
theorem lo_of {L D : Addr} (h : sysModules < L) (hLD : @LT.lt Nat _ L D) : (D == sysModules) = false := beq_eq_false_iff_ne.mpr (Nat.ne_of_gt (Nat.lt_trans h hLD))
/-- the entry of the styles, the entry of the patterns -/
def PatR (prog : Program) (w : World) (ext : List (Addr × Obj)) (p q : PySem.Str × Value) : Prop :=
  p.1 = q.1 ∧ ∃ a oa b ob q1 q2 q3 q4, p.2 = .ref a ∧ (a, oa) ∈ ext ∧ MarkObj oa q1 q2 q3 q4 ∧ q.2 = .ref b ∧ (b, ob) ∈ ext ∧ PatAt prog w b ob q1 q2 q3 q4
inductive PatRel (prog : Program) (w : World) (ext : List (Addr × Obj)) : List (PySem.Str × Value) → List (PySem.Str × Value) → Prop
  | nil : PatRel prog w ext [] []
  | snoc {l r p q} : PatRel prog w ext l r → PatR prog w ext p q → PatRel prog w ext (l ++ [p]) (r ++ [q])
section
variable {prog : Program} {w : World}
theorem PatR.mono {ext ext' : List (Addr × Obj)} {p q : PySem.Str × Value} (h : PatR prog w ext p q) (hs : ∀ x ∈ ext, x ∈ ext') : PatR prog w ext' p q := by
  obtain ⟨e, a, oa, b, ob, q1, q2, q3, q4, h1, h2, h3, h4, h5, h6⟩ := h
  exact ⟨e, a, oa, b, ob, q1, q2, q3, q4, h1, hs _ h2, h3, h4, hs _ h5, h6⟩
theorem PatRel.mono {ext ext' : List (Addr × Obj)} {l r : List (PySem.Str × Value)} (h : PatRel prog w ext l r) (hs : ∀ x ∈ ext, x ∈ ext') : PatRel prog w ext' l r := by
  induction h with
  | nil => exact .nil
  | snoc _ hp ih => exact .snoc ih (hp.mono hs)
theorem PatRel.keys {ext : List (Addr × Obj)} {l r : List (PySem.Str × Value)} (h : PatRel prog w ext l r) : r.map (·.1) = l.map (·.1) := by
  induction h with
  | nil => rfl
  | snoc _ hp ih => rw [List.map_append, List.map_append, ih]; simp [hp.1]
theorem PatRel.length {ext : List (Addr × Obj)} {l r : List (PySem.Str × Value)} (h : PatRel prog w ext l r) : r.length = l.length := by
  have := congrArg List.length h.keys
  simpa using this
theorem valueAt_snoc {l : List (PySem.Str × Value)} {p : PySem.Str × Value} {x : PySem.Str} : valueAt (l ++ [p]) x = (valueAt l x).or (if p.1 = x then some p.2 else none) := by
  unfold valueAt
  rw [List.find?_append]
  cases h : l.find? (fun kv => decide (kv.1 = x)) with
  | some a => rfl
  | none =>
    by_cases e : p.1 = x
    · simp [e]
    · simp [e]
/-- the same keys; and what lies under one -/
theorem PatRel.look {ext : List (Addr × Obj)} {l r : List (PySem.Str × Value)} (h : PatRel prog w ext l r) (x : PySem.Str) : (valueAt l x = none ∧ valueAt r x = none) ∨
    ∃ a oa b ob q1 q2 q3 q4, valueAt l x = some (.ref a) ∧ valueAt r x = some (.ref b) ∧ (a, oa) ∈ ext ∧ MarkObj oa q1 q2 q3 q4 ∧ (b, ob) ∈ ext ∧ PatAt prog w b ob q1 q2 q3 q4 := by
  induction h with
  | nil => exact .inl ⟨rfl, rfl⟩
  | @snoc l r p q _ hp ih =>
    rw [valueAt_snoc, valueAt_snoc]
    rcases ih with ⟨e1, e2⟩ | ⟨a, oa, b, ob, q1, q2, q3, q4, e1, e2, m1, k1, m2, k2⟩
    · rw [e1, e2]
      obtain ⟨e, a, oa, b, ob, q1, q2, q3, q4, h1, h2, h3, h4, h5, h6⟩ := hp
      by_cases hx : p.1 = x
      · refine .inr ⟨a, oa, b, ob, q1, q2, q3, q4, ?_, ?_, h2, h3, h5, h6⟩
        · simp [hx, h1]
        · rw [← e] ; simp [hx, h4]
      · refine .inl ⟨by simp [hx], ?_⟩
        rw [← e]; simp [hx]
    · exact .inr ⟨a, oa, b, ob, q1, q2, q3, q4, by rw [e1]; rfl, by rw [e2]; rfl, m1, k1, m2, k2⟩
theorem PatRel.reprs {kvs pvs : List (PySem.Str × Value)} {ext ext' : List (Addr × Obj)} (h : PatRel prog w ext kvs pvs) (hs : StyOK kvs ext') : ∀ z ∈ pvs.map (·.1), (reprText z).length ≤ 40 := by
  rw [h.keys]
  intro z hz
  obtain ⟨⟨y, v⟩, hp, e⟩ := List.mem_map.mp hz
  exact e ▸ (hs y v hp).1
theorem stored_fresh {l : List (PySem.Str × Value)} {x : PySem.Str} {v : Value} (h : x ∉ l.map (·.1)) : stored l x v = l ++ [(x, v)] := by
  unfold stored
  rw [if_neg]
  intro hc
  obtain ⟨p, hp, e⟩ := List.any_eq_true.mp hc
  exact h (List.mem_map.mpr ⟨p, hp, of_decide_eq_true e⟩)
theorem StyOK.mono {kvs : List (PySem.Str × Value)} {ext ext' : List (Addr × Obj)} (h : StyOK kvs ext) (hs : ∀ x ∈ ext, x ∈ ext') : StyOK kvs ext' := fun x v hx => by
  obtain ⟨hr, a, o, q1, q2, q3, q4, e, hm, hk⟩ := h x v hx
  exact ⟨hr, a, o, q1, q2, q3, q4, e, hs _ hm, hk⟩

/-- between the turns of the second loop -/
def Inv3 (prog : Program) (w : World) (L sd pd il : Addr) (o oi c1 c2 c3 c4 : Obj) (vi : Value) (kvs : List (PySem.Str × Value)) (i : Nat) (m : Str → Option Value) (nw : List (Addr × Obj)) : Prop :=
  ∃ (op : Obj) (pvs : List (PySem.Str × Value)) (ext : List (Addr × Obj)),
    nw = (pd, op) :: (sd, o) :: (il, oi) :: (L + 1 + 1 + 1 + 1, c4) :: (L + 1 + 1 + 1, c3) :: (L + 1 + 1, c2) :: (L + 1, c1) :: ext ∧
    m (Str.ofString "items") = some vi ∧ m (Str.ofString "patterns") = some (.ref pd) ∧ op.IsDictOf (strKind prog w) pvs ∧ StyOK kvs ext ∧ PatRel prog w ext (kvs.take i) pvs ∧ (∀ p ∈ ext, p.1 ≠ pd)

theorem fr_form3 {base : Heap} {L : Addr} {h : Heap} {m : Str → Option Value} {v1 v2 : Value} (F : Fr base L h m) (h1 : m (Str.ofString "items") = some v1) (h2 : m (Str.ofString "patterns") = some v2) :
    Fr base L h (fun y => if y = Str.ofString "items" then some v1 else if y = Str.ofString "patterns" then some v2 else m y) := by
  have e : (fun y => if y = Str.ofString "items" then some v1 else if y = Str.ofString "patterns" then some v2 else m y) = m := by
    funext y
    by_cases e1 : y = Str.ofString "items"
    · rw [if_pos e1, e1, h1]
    · rw [if_neg e1]
      by_cases e2 : y = Str.ofString "patterns"
      · rw [if_pos e2, e2, h2]
      · rw [if_neg e2]
  rw [e]; exact F
end

section
variable {prog : Program} {w : World} {A : Around} {E : Value → Shared → Prop} {s : Shared} {env : Env} {h₀ : Heap} {body : List Stmt} {Q : Flow → Shared → Prop}
theorem pats_turns {L sd pd il : Addr} {o op₀ oi c1 c2 c3 c4 : Obj} {vi : Value} {m₀ : Str → Option Value} {x : Str} {px : Pos} {kvs : List (PySem.Str × Value)} {ext₀ : List (Addr × Obj)}
    (hL : env.locals = L) (hh : A.handled = none) (lo : (sd == sysModules) = false) (F : Fr h₀ L s.heap m₀)
    (N : News h₀ L s.heap ((pd, op₀) :: (sd, o) :: (il, oi) :: (L + 1 + 1 + 1 + 1, c4) :: (L + 1 + 1 + 1, c3) :: (L + 1 + 1, c2) :: (L + 1, c1) :: ext₀)) (hm1 : m₀ (Str.ofString "items") = some vi) (hm2 : m₀ (Str.ofString "patterns") = some (.ref pd))
    (hd : o.IsDictOf (strKind prog w) kvs) (hdp : op₀.IsDictOf (strKind prog w) []) (hs : StyOK kvs ext₀) (hx : ∀ p ∈ ext₀, p.1 ≠ pd)
    (turn : ∀ (i : Nat) (y : PySem.Str) t (m₁ : Str → Option Value) op pvs ext a oa q1 q2 q3 q4 I oI h tk, kvs[i]? = some (y, .ref a) → valueAt kvs y = some (.ref a) → (a, oa) ∈ ext → MarkObj oa q1 q2 q3 q4 → op.IsDictOf (strKind prog w) pvs → StyOK kvs ext → PatRel prog w ext (kvs.take i) pvs → pvs.length ≤ kvs.length → y ∉ pvs.map (·.1) →
      (∀ p ∈ ext, p.1 ≠ pd) → (∀ p ∈ ext, p.1 ≠ I) → (@Ne Nat a pd ∧ @Ne Nat a I ∧ @Ne Nat pd I ∧ @Ne Nat sd I ∧ @Ne Nat il I ∧ @Ne Nat (L + 1 + 1 + 1 + 1) I ∧ @Ne Nat (L + 1 + 1 + 1) I ∧ @Ne Nat (L + 1 + 1) I ∧ @Ne Nat (L + 1) I) →
      m₁ (Str.ofString "items") = some vi → m₁ (Str.ofString "patterns") = some (.ref pd) →
      Fr h₀ L h (fun y => if y = Str.ofString "items" then some vi else if y = Str.ofString "patterns" then some (.ref pd) else m₁ y) →
      News h₀ L h ((a, oa) :: (I, oI) :: (pd, op) :: (sd, o) :: (il, oi) :: (L + 1 + 1 + 1 + 1, c4) :: (L + 1 + 1 + 1, c3) :: (L + 1 + 1, c2) :: (L + 1, c1) :: ext) →
      wpAny (model prog w) A (assign (.Name x px) env (.str y t)) (fun _ s₂ => wpAny (model prog w) A (execs body env) (TurnEnd h₀ L I oI (Inv3 prog w L sd pd il o oi c1 c2 c3 c4 vi kvs (i + 1)) { s with heap := h, toks := tk }) E s₂) E { s with heap := h, toks := tk })
    (done : ∀ (m₁ : Str → Option Value) op pvs ext h tk, op.IsDictOf (strKind prog w) pvs → PatRel prog w ext kvs pvs → (∀ p ∈ ext, p.1 ≠ pd) →
      Fr h₀ L h (fun y => if y = Str.ofString "items" then some vi else if y = Str.ofString "patterns" then some (.ref pd) else m₁ y) →
      News h₀ L h ((pd, op) :: (sd, o) :: (il, oi) :: (L + 1 + 1 + 1 + 1, c4) :: (L + 1 + 1 + 1, c3) :: (L + 1 + 1, c2) :: (L + 1, c1) :: ext) → Q .next { s with heap := h, toks := tk }) :
    wpAny (model prog w) A (pyIter (.ref sd)) (fun it s₂ => TurnsAt prog w A h₀ env (.Name x px) body Q E it s₂) E s := by
  subst hL
  obtain ⟨ep, hat⟩ := KdkAt.of hd
  have hmd : (sd, o) ∈ (pd, op₀) :: (sd, o) :: (il, oi) :: (env.locals + 1 + 1 + 1 + 1, c4) :: (env.locals + 1 + 1 + 1, c3) :: (env.locals + 1 + 1, c2) :: (env.locals + 1, c1) :: ext₀ := .tail _ (.head _)
  have hD := hat.dictAt (N _ hmd).1
  have hnd := hD.nodup
  have hlt : sd < s.heap.objs.size := Heap.lt_size (N _ hmd).1
  refine wpAny_pyIter_dict lo hD ?_
  have W := Walks.dictKeys (prog := prog) (w := w) (knd := strKind prog w) hh s.heap.objs.size sd (Nat.ne_of_lt hlt) kvs ep
  have up : ∀ b ob, s.heap.get? b = some ob → (s.heap.push { cls := .type "dict_keyiterator", data := .fields #[.ref sd, .int 0 0, .int kvs.length 0, .int ep 0] }).get? b = some ob := fun b ob e => Heap.get?_push_of_some _ e
  refine turns_inv [(sd, o)] (Inv3 prog w env.locals sd pd il o oi c1 c2 c3 c4 vi kvs) W (fun v => rfl) (fun i h st => by obtain ⟨ob, e, _⟩ := st.1; exact ⟨ob, e⟩) (fun b hb => ?_) (next_is_new F) (fun hm => ?_) (fun p hp => Nat.ne_of_lt (Heap.lt_size (N p hp).1))
    ⟨⟨_, Heap.get?_push_size _ rfl, rfl, rfl⟩, hD.push _⟩ (F.keeps up) (N.grown up) ⟨op₀, [], ext₀, rfl, hm1, hm2, hdp, hs, by rw [List.take_zero]; exact .nil, hx⟩ ?_ ?_ ?_
  · rcases List.mem_cons.mp hb with rfl | hb
    · exact .inl rfl
    · rw [List.mem_singleton.mp hb]; exact .inr ⟨o, List.mem_singleton.mpr rfl⟩
  · rcases List.mem_cons.mp hm with e | hm
    · exact absurd F.ns.lt (e ▸ Nat.lt_irrefl _)
    · exact (N _ hmd).2.1 (List.mem_singleton.mp hm).symm
  · rintro i m nw ⟨op, pvs, ext, rfl, _⟩ p hp
    rw [List.mem_singleton.mp hp]
    exact .tail _ (.head _)
  · rintro i v m₁ news₁ oI h tk hi ⟨y, u, hy, hk⟩ ⟨op, pvs, ext, rfl, hm1', hm2', hdo, hs', hR, hx'⟩ off F₁ N₁
    simp only [List.forall_mem_cons] at off
    obtain ⟨o1, o2, o3, o4, o5, o6, o7, o8⟩ := off
    obtain ⟨t, rfl⟩ := PySem.Value.isStrOf_shape hk
    obtain ⟨_, a, oa, q1, q2, q3, q4, rfl, hma, hmk⟩ := hs' y u (List.mem_of_getElem? hy)
    have hlen : pvs.length ≤ kvs.length := by rw [hR.length, List.length_take]; omega
    have hnew : y ∉ pvs.map (·.1) := by
      rw [hR.keys, List.map_take]
      intro hc
      obtain ⟨j, hj, e⟩ := List.getElem_of_mem hc
      have hj' : j < i := by have := hj; rw [List.length_take] at this; omega
      have e2 : (kvs.map (·.1))[i]? = some y := by rw [List.getElem?_map, hy]; rfl
      have e1 : (kvs.map (·.1))[j]? = some y := by
        have : ((kvs.map (·.1)).take i)[j]? = some y := by rw [List.getElem?_eq_getElem hj, e]
        rwa [List.getElem?_take_of_lt hj'] at this
      exact absurd ((List.getElem?_inj (by rw [List.length_map]; omega) hnd).mp (e1.trans e2.symm)) (by omega)
    refine turn i y t m₁ op pvs ext a oa q1 q2 q3 q4 _ oI h tk hy (valueAt_of_get hnd hy) hma hmk hdo hs' hR hlen hnew hx' o8 ⟨hx' _ hma, o8 _ hma, o1, o2, o3, o4, o5, o6, o7⟩ hm1' hm2' (fr_form3 F₁ hm1' hm2') fun p hp => ?_
    rcases List.mem_cons.mp hp with rfl | hp
    · exact N₁ _ (.tail _ (.tail _ (.tail _ (.tail _ (.tail _ (.tail _ (.tail _ (.tail _ hma))))))))
    · exact N₁ p hp
  · rintro m₁ news₁ h tk ⟨op, pvs, ext, rfl, hm1', hm2', hdo, _, hR, hx'⟩ F₁ N₁
    rw [List.take_length] at hR
    exact done m₁ op pvs ext h tk hdo hR hx' (fr_form3 F₁ hm1' hm2') N₁
theorem pats_end {L I sd pd il : Addr} {oI o op oi c1 c2 c3 c4 : Obj} {vi : Value} {i : Nat} {m' : Str → Option Value} {kvs pvs : List (PySem.Str × Value)} {ext all : List (Addr × Obj)} {s₁ : Shared} {h' : Heap} {tk : Nat} {y : PySem.Str} {a D : Addr} {oa od : Obj} {q1 q2 q3 q4 : PySem.Str}
    (F : Fr h₀ L h' m') (N : News h₀ L h' all) (hd : op.IsDictOf (strKind prog w) (stored pvs y (.ref D))) (hpo : PatObj prog w od q1 q2 q3 q4) (hy : kvs[i]? = some (y, .ref a)) (hma : (a, oa) ∈ ext) (hmk : MarkObj oa q1 q2 q3 q4) (lo : (D == sysModules) = false)
    (hs : StyOK kvs ext) (hR : PatRel prog w ext (kvs.take i) pvs) (hnew : y ∉ pvs.map (·.1)) (hsub : ∀ p ∈ (I, oI) :: (pd, op) :: (sd, o) :: (il, oi) :: (L + 1 + 1 + 1 + 1, c4) :: (L + 1 + 1 + 1, c3) :: (L + 1 + 1, c2) :: (L + 1, c1) :: (D, od) :: ext, p ∈ all)
    (hm1 : m' (Str.ofString "items") = some vi) (hm2 : m' (Str.ofString "patterns") = some (.ref pd)) (hx : ∀ p ∈ (D, od) :: ext, p.1 ≠ pd) (e3 : ∀ p ∈ (D, od) :: ext, p.1 ≠ I)
    (off : @Ne Nat a pd ∧ @Ne Nat a I ∧ @Ne Nat pd I ∧ @Ne Nat sd I ∧ @Ne Nat il I ∧ @Ne Nat (L + 1 + 1 + 1 + 1) I ∧ @Ne Nat (L + 1 + 1 + 1) I ∧ @Ne Nat (L + 1 + 1) I ∧ @Ne Nat (L + 1) I) :
    TurnEnd h₀ L I oI (Inv3 prog w L sd pd il o oi c1 c2 c3 c4 vi kvs (i + 1)) s₁ .next { s₁ with heap := h', toks := tk } := by
  obtain ⟨_, _, o1, o2, o3, o4, o5, o6, o7⟩ := off
  refine ⟨rfl, h', tk, m', _, rfl, F, fun p hp => N p (hsub p hp), ?_, op, stored pvs y (.ref D), (D, od) :: ext, rfl, hm1, hm2, hd, hs.mono fun _ h => .tail _ h, ?_, hx⟩
  · rw [List.forall_mem_cons, List.forall_mem_cons, List.forall_mem_cons, List.forall_mem_cons, List.forall_mem_cons, List.forall_mem_cons, List.forall_mem_cons]
    exact ⟨o1, o2, o3, o4, o5, o6, o7, e3⟩
  · have e : kvs.take (i + 1) = kvs.take i ++ [(y, .ref a)] := by rw [List.take_add_one, hy]; rfl
    rw [stored_fresh hnew, e]
    exact .snoc (hR.mono fun _ h => .tail _ h) ⟨rfl, a, oa, D, od, q1, q2, q3, q4, rfl, .tail _ hma, hmk, rfl, .head _, lo, hpo⟩
end
theorem allLt_ne {d : Addr} (l : List (Addr × Obj)) : AllLt d l → ∀ p ∈ l, p.1 ≠ d := by
  induction l with
  | nil => intro _ p hp; cases hp
  | cons q r ih =>
    intro h p hp
    rcases List.mem_cons.mp hp with e | hp
    · subst e; exact Nat.ne_of_lt h.1
    · exact ih h.2 p hp
theorem marks5 {q : PySem.Str} (h : q ∈ marks6) : q.length ≤ 5 := by
  simp only [marks6, List.mem_cons, List.not_mem_nil, or_false] at h
  rcases h with h | h | h | h | h | h <;> (rw [h]; decide +kernel)
theorem len_b0 : (Str.ofString "{0}").length = 3 := by decide +kernel
theorem len_b1 : (Str.ofString "{1}").length = 3 := by decide +kernel
end Mine
end
-- part Fd
section
open PySem PySem.W PyProof.Rows PySem.Calls PySem.Spec
set_option maxHeartbeats 2000000
namespace Mine
open LCg

def SelEl (news : List (Addr × Obj)) (o : Option Value) (y : Value) (news' : List (Addr × Obj)) : Prop := news' = news ∧ o = some y
def NoEl (news : List (Addr × Obj)) (_ : Value) (news' : List (Addr × Obj)) : Prop := news' = news
section
variable {prog : Program} {w : World} {A : Around} {E : Value → Shared → Prop} {s : Shared} {h₀ : Heap} {L : Addr} {m : Str → Option Value} {env : Env}
theorem found_rest {ct elt : Expr} {x : Str} {scope : Scope} {cl : List (Str × Addr)} {a : Addr} {vs : List Value} {names : List PySem.Str} {kvs : List (PySem.Str × Value)} {Fin : List Value → List (Addr × Obj) → Prop} {news : List (Addr × Obj)}
    {ext : List (Addr × Obj)} {pvs : List (PySem.Str × Value)} (_hR : PatRel prog w ext kvs pvs) (hvs : StrsAre vs names)
    (yes : ∀ nm t y I oI C oC D m₂ ys h tk (E' : Value → Shared → Prop), valueAt kvs nm = some y → NsObj oC m₂ → m₂ x = some (.str nm t) → Fr h₀ L h m → News h₀ L h ((I, oI) :: (C, oC) :: (D, lst ys) :: news) → Off3 I C D news → ((@Ne Nat I C) ∧ (@Ne Nat I D) ∧ (@Ne Nat C D)) →
      wpAny (model prog w) A (isTrue ct (compEnvC scope cl C env) (eval ct (compEnvC scope cl C env))) (fun ok s' => ok = true ∧
        wpAny (model prog w) A (eval elt (compEnvC scope cl C env)) (CompEnd h₀ L m { s with heap := h, toks := tk } I oI C oC D (lst ys) (SrcAt h₀ a vs.toArray) (SelEl news (some y))) E' s') E' { s with heap := h, toks := tk })
    (no : ∀ nm t I oI C oC D m₂ ys h tk (E' : Value → Shared → Prop), valueAt kvs nm = none → NsObj oC m₂ → m₂ x = some (.str nm t) → Fr h₀ L h m → News h₀ L h ((I, oI) :: (C, oC) :: (D, lst ys) :: news) → Off3 I C D news → ((@Ne Nat I C) ∧ (@Ne Nat I D) ∧ (@Ne Nat C D)) →
      wpAny (model prog w) A (isTrue ct (compEnvC scope cl C env) (eval ct (compEnvC scope cl C env))) (fun ok s' => ok = false ∧
        CompEnd h₀ L m { s with heap := h, toks := tk } I oI C oC D (lst ys) (SrcAt h₀ a vs.toArray) (NoEl news) Value.none s') E' { s with heap := h, toks := tk })
    (fin : Fin (names.filterMap (valueAt kvs)) news) :
    LCt.CompRestT prog w A h₀ L m env ct elt x scope cl s (SrcAt h₀ a vs.toArray) (fun i v => vs.toArray[i]? = some v) Fin vs.toArray.size 0 [] news := by
  have key : ∀ (j i : Nat), i + j = names.length →
      LCt.CompRestT prog w A h₀ L m env ct elt x scope cl s (SrcAt h₀ a vs.toArray) (fun i v => vs.toArray[i]? = some v) Fin j i ((names.take i).filterMap (valueAt kvs)) news := by
    intro j
    induction j with
    | zero =>
      intro i hij
      have e : i = names.length := by omega
      subst e
      rw [List.take_length]
      exact LCt.CompRestT.zero fin
    | succ j ih =>
      intro i hij
      refine LCt.CompRestT.succ ?_
      intro v I oI C oC D m₂ h tk E' hv hC hx F N off ne
      have hi : i < names.length := by omega
      obtain ⟨t, ht⟩ := hvs.get i names[i] (by rw [List.getElem?_eq_getElem hi])
      have ev : v = .str names[i] t := by
        have hv' : vs[i]? = some v := by simpa using hv
        rw [ht] at hv'; exact (Option.some.inj hv').symm
      subst ev
      have hstep : names.take (i + 1) = names.take i ++ [names[i]] := by rw [List.take_add_one, List.getElem?_eq_getElem hi]; rfl
      cases hk : valueAt kvs names[i] with
      | some y =>
        refine wpAny_mono (yes names[i] t y I oI C oC D m₂ _ h tk E' hk hC hx F N off ne) (fun ok s' hq => ?_) fun _ _ e => e
        obtain ⟨rfl, hq⟩ := hq
        rw [if_pos rfl]
        refine wpAny_mono hq (fun y' s₂ hc => ?_) fun _ _ e => e
        obtain ⟨h', tk', nw, e, F', N', off', hS, hn, hy'⟩ := hc
        subst hn
        cases hy'
        refine ⟨h', tk', _, e, F', N', off', hS, ?_⟩
        have := ih (i + 1) (by omega)
        rw [hstep, List.filterMap_append] at this
        simpa [hk] using this
      | none =>
        refine wpAny_mono (no names[i] t I oI C oC D m₂ _ h tk E' hk hC hx F N off ne) (fun ok s' hq => ?_) fun _ _ e => e
        obtain ⟨rfl, hc⟩ := hq
        rw [if_neg Bool.false_ne_true]
        obtain ⟨h', tk', nw, e, F', N', off', hS, hn⟩ := hc
        have hn' : nw = news := hn
        subst hn'
        refine ⟨h', tk', _, e, F', N', off', hS, ?_⟩
        have := ih (i + 1) (by omega)
        rw [hstep, List.filterMap_append] at this
        simpa [hk] using this
  have e : vs.toArray.size = names.length := by rw [List.size_toArray]; exact hvs.length
  rw [e]
  exact key names.length 0 (by omega)
theorem sel_end {I C D a : Addr} {oI oC oD : Obj} {s₁ : Shared} {h' : Heap} {tk : Nat} {news : List (Addr × Obj)} {y : Value} {its : Array Value}
    (F : Fr h₀ L h' m) (N : News h₀ L h' ((I, oI) :: (C, oC) :: (D, oD) :: news)) (off : Off3 I C D news) (hl : h₀.IsList a its) :
    CompEnd h₀ L m s₁ I oI C oC D oD (SrcAt h₀ a its) (SelEl news (some y)) y { s₁ with heap := h', toks := tk } := CompEnd.intro F N news (fun _ h => h) off (.inl hl) ⟨rfl, rfl⟩
theorem non_end {I C D a : Addr} {oI oC oD : Obj} {s₁ : Shared} {h' : Heap} {tk : Nat} {news : List (Addr × Obj)} {its : Array Value}
    (F : Fr h₀ L h' m) (N : News h₀ L h' ((I, oI) :: (C, oC) :: (D, oD) :: news)) (off : Off3 I C D news) (hl : h₀.IsList a its) :
    CompEnd h₀ L m s₁ I oI C oC D oD (SrcAt h₀ a its) (NoEl news) Value.none { s₁ with heap := h', toks := tk } := CompEnd.intro F N news (fun _ h => h) off (.inl hl) rfl
theorem in_some {K : Type} [DecidableEq K] {knd : KeyKind prog w K} {d : Addr} {o : Obj} {kvs : List (K × Value)} {k : K} {key v : Value} {news : List (Addr × Obj)} {Q : Value → Shared → Prop} (N : News h₀ L s.heap news) (hp : (d, o) ∈ news) (hd : o.IsDictOf knd kvs) (lo : (d == sysModules) = false) (hkey : knd.is k key = true)
    (hb : valueAt kvs k = some v) (h : Q (.bool true) { s with toks := s.toks + 1 }) : wpAny (model prog w) A (compareOp .In key (.ref d)) Q E s := kda_in N hp hd lo hkey true (by rw [hb]; rfl) h
theorem in_none {K : Type} [DecidableEq K] {knd : KeyKind prog w K} {d : Addr} {o : Obj} {kvs : List (K × Value)} {k : K} {key : Value} {news : List (Addr × Obj)} {Q : Value → Shared → Prop} (N : News h₀ L s.heap news) (hp : (d, o) ∈ news) (hd : o.IsDictOf knd kvs) (lo : (d == sysModules) = false) (hkey : knd.is k key = true)
    (hb : valueAt kvs k = none) (h : Q (.bool false) { s with toks := s.toks + 1 }) : wpAny (model prog w) A (compareOp .In key (.ref d)) Q E s := kda_in N hp hd lo hkey false (by rw [hb]; rfl) h
end

/-- what stands under the first of the names that is there -/
def firstIn (pvs : List (PySem.Str × Value)) (names : List PySem.Str) : Option Value := names.findSome? (valueAt pvs)
theorem first_look {prog : Program} {w : World} {ext : List (Addr × Obj)} {kvs pvs : List (PySem.Str × Value)} (hR : PatRel prog w ext kvs pvs) : ∀ (names : List PySem.Str),
    (names.filterMap (valueAt kvs) = [] ∧ firstIn pvs names = none) ∨
    ∃ a oa b ob q1 q2 q3 q4 rest, names.filterMap (valueAt kvs) = .ref a :: rest ∧ firstIn pvs names = some (.ref b) ∧ (a, oa) ∈ ext ∧ MarkObj oa q1 q2 q3 q4 ∧ (b, ob) ∈ ext ∧ PatAt prog w b ob q1 q2 q3 q4
  | [] => .inl ⟨rfl, rfl⟩
  | nm :: r => by
    rcases hR.look nm with ⟨e1, e2⟩ | ⟨a, oa, b, ob, q1, q2, q3, q4, e1, e2, m1, k1, m2, k2⟩
    · have c1 : (nm :: r).filterMap (valueAt kvs) = r.filterMap (valueAt kvs) := by rw [List.filterMap_cons, e1]
      have c2 : firstIn pvs (nm :: r) = firstIn pvs r := by unfold firstIn; rw [List.findSome?_cons, e2]
      rw [c1, c2]
      exact first_look hR r
    · refine .inr ⟨a, oa, b, ob, q1, q2, q3, q4, r.filterMap (valueAt kvs), ?_, ?_, m1, k1, m2, k2⟩
      · rw [List.filterMap_cons, e1]
      · unfold firstIn; rw [List.findSome?_cons, e2]
theorem chains_len {l : List PySem.Str} (h : l ∈ chains9) : l.length ≤ 4 := by
  simp only [chains9, List.mem_cons, List.not_mem_nil, or_false] at h
  rcases h with h | h | h | h | h | h | h | h | h <;> (rw [h]; decide +kernel)
theorem good_true {c k m a s₁ s' : _} {b : Bool} (hb : b = true) (h : GoodW c k m a s₁ (.ok (.ret (.bool true))) s') : GoodW c k m a s₁ (.ok (.ret (.bool b))) s' := by
  subst hb; exact h
theorem join_nil : (Str.ofString "" == Txt.join (Str.ofString "") []) = true := by decide +kernel
theorem join_one (x : PySem.Str) : (x == Txt.join (Str.ofString "") [x]) = true := by
  have e : Txt.join (Str.ofString "") [x] = x := by
    first | rfl | simp [Txt.join]
  rw [e]; exact beq_self_eq_true x
theorem len_e : (Str.ofString "").length = 0 := by decide +kernel
theorem obj_ne {h₀ h : Heap} {L a c : Addr} {oa oc : Obj} {news : List (Addr × Obj)} (N : News h₀ L h news) (h1 : (a, oa) ∈ news) (h2 : (c, oc) ∈ news) (hne : oa.data ≠ oc.data) : @Ne Nat a c := by
  intro e
  have e' : a = c := e
  subst e'
  have g1 := (N _ h1).1
  have g2 := (N _ h2).1
  have g3 : oa = oc := Option.some.inj (g1.symm.trans g2)
  exact hne (congrArg Obj.data g3)
theorem truthy_cons {prog : Program} {w : World} {A : Around} {E : Value → Shared → Prop} {s : Shared} {l : Addr} {v : Value} {vs : List Value} {Q : Bool → Shared → Prop} (hl : s.heap.IsList l (v :: vs).toArray) (hn : vs.length + 1 ≤ 100) (h : Q true { s with toks := s.toks + 1 + 1 }) : wpAny (model prog w) A (truthy (.ref l)) Q E s :=
  wpAny_truthy_list hl (by simp only [List.size_toArray, List.length_cons]; omega) (by have e : (!(v :: vs).toArray.isEmpty) = true := by simp
                                                                                       rw [e]; exact h)
theorem len_two {prog : Program} {w : World} {A : Around} {E : Value → Shared → Prop} {s : Shared} {l : Addr} {v u : Value} {vs : List Value} {Q : Value → Shared → Prop} (hl : s.heap.IsList l (v :: u :: vs).toArray) (hn : vs.length + 1 + 1 ≤ 100)
    (h : ∀ n : Int, n = vs.length + 2 → Q (.int n (s.toks + 1)) { s with toks := s.toks + 1 + 1 }) : wpAny (model prog w) A (call (.builtin "len") [.ref l]) Q E s :=
  Calls.call_len_list hl (by simp only [List.size_toArray, List.length_cons]; omega) (h _ (by simp only [List.size_toArray, List.length_cons]; omega))
theorem eq_no {prog : Program} {w : World} {A : Around} {E : Value → Shared → Prop} {s : Shared} {a b : Int} {t u : Tok} {Q : Value → Shared → Prop} (hne : ¬ a = b) (h : Q (.bool false) s) : wpAny (model prog w) A (compareOp .Eq (.int a t) (.int b u)) Q E s :=
  PyProof.Rows.eq_int (by have e : (a == b) = false := beq_eq_false_iff_ne.mpr hne
                          rw [e]; exact h)
end Mine
end
-- part Tk
section
open PySem PySem.W PyProof.Rows PySem.Calls PySem.Spec
set_option maxHeartbeats 2000000
namespace Mine

/-- no run takes tokens back -/
theorem runs_toks {M : Model} {Γ : PySem.Ctx} {p : Pos} {t : Sem Fin} {fs : List Frame} {s : Shared} {e : End} {s' : Shared} (h : Runs M Γ p t fs s e s') : s.toks ≤ s'.toks := by
  induction h with
  | done => exact Nat.le_refl _
  | raise => exact Nat.le_refl _
  | again _ _ ih => exact ih
  | rule _ ih => exact ih
  | «at» _ ih => exact ih
  | load _ _ ih => exact ih
  | update _ _ ih => exact ih
  | loadIfAlive _ ih => exact ih
  | point _ ih => exact ih
  | alloc _ ih => exact ih
  | fresh _ ih => exact Nat.le_trans (Nat.le_succ _) ih
  | ask _ ih => exact ih
  | choose _ _ ih => exact ih
  | os _ ih => exact ih
  | handled _ ih => exact ih
  | genState _ _ ih => exact ih
  | stack _ ih => exact ih
  | thread _ ih => exact ih
  | newGen _ ih => exact ih
  | call _ _ ih1 ih2 => exact Nat.le_trans ih1 ih2
  | callSusp _ ih => exact ih
  | yield => exact Nat.le_refl _
  | resumeFresh _ _ _ _ ih1 ih2 => exact Nat.le_trans ih1 ih2
  | resumeSuspended _ _ _ _ ih1 ih2 => exact Nat.le_trans ih1 ih2
  | resumeJustStarted _ _ _ ih => exact ih
  | resumeThrowFresh _ _ ih => exact ih
  | resumeRunning _ _ ih => exact ih
  | resumeFinished _ _ ih => exact ih
  | segRet _ _ ih1 ih2 => exact Nat.le_trans ih1 ih2
  | segGen _ _ ih1 ih2 => exact Nat.le_trans ih1 ih2
  | segSuspOut _ _ ih => exact ih
  | segSuspGen _ _ _ _ ih1 ih2 => exact Nat.le_trans ih1 ih2
theorem wakes_toks {M : Model} {Γ : PySem.Ctx} {p : Pos} {g : Nat} {r : Resume} {s : Shared} {res : GenResult} {s' : Shared} (h : Wakes M Γ p g r s res s') : s.toks ≤ s'.toks := by
  unfold Wakes at h
  split at h
  · exact h.elim
  · split at h
    · obtain ⟨_, _, h1, _, _, rfl⟩ := h; have h2 := runs_toks h1; exact h2
    · obtain ⟨_, rfl⟩ := h; exact Nat.le_refl _
    · obtain ⟨_, rfl⟩ := h; exact Nat.le_refl _
  · obtain ⟨_, _, h1, _, _, rfl⟩ := h; have h2 := runs_toks h1; exact h2
  · obtain ⟨_, rfl⟩ := h; exact Nat.le_refl _
  · obtain ⟨_, rfl⟩ := h; exact Nat.le_refl _
theorem wp_toks {α : Type} (M : Model) (Γ : PySem.Ctx) (t : Sem α) (Q : α → Pos → Shared → Prop) (E : Value → Pos → Shared → Prop) (b : Nat) : ∀ (p : Pos) (s : Shared), b ≤ s.toks →
    Sem.wp M Γ t (fun a p' s' => b ≤ s'.toks → Q a p' s') (fun e p' s' => b ≤ s'.toks → E e p' s') p s → Sem.wp M Γ t Q E p s := by
  induction t with
  | pure a => intro p s hb h; rw [Sem.wp] at h ⊢; exact h hb
  | raise e => intro p s hb h; rw [Sem.wp] at h ⊢; exact h hb
  | unsupported _ => intro p s hb h; rw [Sem.wp] at h; exact h.elim
  | finish _ => intro p s hb h; rw [Sem.wp] at h; exact h.elim
  | rule tag k ih => intro p s hb h; rw [Sem.wp] at h ⊢; exact ih _ _ _ hb h
  | «at» p' k ih => intro p s hb h; rw [Sem.wp] at h ⊢; exact ih _ _ _ hb h
  | load a part k ih => intro p s hb h; rw [Sem.wp] at h ⊢; obtain ⟨o, ho, h⟩ := h; exact ⟨o, ho, ih _ _ _ hb h⟩
  | update a part f k ih => intro p s hb h; rw [Sem.wp] at h ⊢; exact ⟨h.1, ih _ _ _ hb h.2⟩
  | alloc o k ih => intro p s hb h; rw [Sem.wp] at h ⊢; exact ih _ _ _ hb h
  | loadIfAlive a k ih => intro p s hb h; rw [Sem.wp] at h ⊢; exact ih _ _ _ hb h
  | point l k ih => intro p s hb h; rw [Sem.wp] at h ⊢; exact ih _ _ _ hb h
  | register a k ih => intro p s hb h; rw [Sem.wp] at h; exact h.elim
  | fresh k ih => intro p s hb h; rw [Sem.wp] at h ⊢; exact ih _ _ _ (Nat.le_succ_of_le hb) h
  | ask k ih => intro p s hb h; rw [Sem.wp] at h ⊢; exact ih _ _ _ hb h
  | choose src n k ih => intro p s hb h; rw [Sem.wp] at h ⊢; exact ⟨h.1, ih _ _ _ hb h.2⟩
  | os q l k ih => intro p s hb h; rw [Sem.wp] at h ⊢; exact ih _ _ _ hb h
  | call c hd g l k ih =>
    intro p s hb h; rw [Sem.wp] at h ⊢
    obtain ⟨r, s', hr, h⟩ := h
    exact ⟨r, s', hr, ih _ _ _ (Nat.le_trans hb (runs_toks hr)) h⟩
  | handled own k ih => intro p s hb h; rw [Sem.wp] at h ⊢; exact ih _ _ _ hb h
  | newGen c k ih => intro p s hb h; rw [Sem.wp] at h ⊢; exact ih _ _ _ hb h
  | genState g k ih => intro p s hb h; rw [Sem.wp] at h ⊢; obtain ⟨o, ho, h⟩ := h; exact ⟨o, ho, ih _ _ _ hb h⟩
  | resume g r l k ih =>
    intro p s hb h; rw [Sem.wp] at h ⊢
    obtain ⟨res, s', hr, h⟩ := h
    exact ⟨res, s', hr, ih _ _ _ (Nat.le_trans hb (wakes_toks hr)) h⟩
  | yield _ _ _ _ => intro p s hb h; rw [Sem.wp] at h; exact h.elim
  | stack k ih => intro p s hb h; rw [Sem.wp] at h ⊢; exact ih _ _ _ hb h
  | fork _ _ _ => intro p s hb h; rw [Sem.wp] at h; exact h.elim
  | thread k ih => intro p s hb h; rw [Sem.wp] at h ⊢; exact ih _ _ _ hb h
  | await _ _ _ _ _ _ => intro p s hb h; rw [Sem.wp] at h; exact h.elim
theorem wpAny_toks {α : Type} {M : Model} {A : Around} {t : Sem α} {Q : α → Shared → Prop} {E : Value → Shared → Prop} {s : Shared}
    (h : wpAny M A t (fun a s' => s.toks ≤ s'.toks → Q a s') (fun e s' => s.toks ≤ s'.toks → E e s') s) : wpAny M A t Q E s :=
  fun Γ p hΓ => wp_toks M Γ t _ _ s.toks p s (Nat.le_refl _) (h Γ p hΓ)
theorem gen_toks {α : Type} {M : Model} {A : Around} {t : Sem α} {Q : α → Shared → Prop} {E : Value → Shared → Prop} {h g d a b o} (H : ∀ tk : Nat, tk = a + b → wpAny M A t Q E (Shared.mk h g d tk o)) : wpAny M A t Q E (Shared.mk h g d (a + b) o) := H _ rfl
end Mine
end
-- part Bd
section
open PySem PySem.W PyProof.Rows PySem.Calls PySem.Spec
set_option maxHeartbeats 2000000
namespace Mine
open LCg

/-- with the tokens at least at b -/
def Later (b : Nat) (s' : Shared) (P : Prop) : Prop := b ≤ s'.toks → P
theorem wpAny_later {α : Type} {M : Model} {A : Around} {t : Sem α} {Q : α → Shared → Prop} {E : Value → Shared → Prop} {s : Shared}
    (h : wpAny M A t (fun a s' => Later s.toks s' (Q a s')) E s) : wpAny M A t Q E s :=
  wpAny_toks (wpAny_mono h (fun _ _ x => x) fun _ _ x _ => x)

/-- the end of a block's turn; the rest knows the tokens -/
def BEnd (h₀ : Heap) (L : Addr) (m : Str → Option Value) (s₁ : Shared) (I : Addr) (oI : Obj) (C : Addr) (oC : Obj) (D : Addr) (oD : Obj) (S : List (Addr × Obj) → Prop) (rest : Nat → Value → List (Addr × Obj) → Prop) (y : Value) (s₂ : Shared) : Prop :=
  ∃ h' tk news', s₂ = { s₁ with heap := h', toks := tk } ∧ Fr h₀ L h' m ∧ News h₀ L h' ((I, oI) :: (C, oC) :: (D, oD) :: news') ∧ Off3 I C D news' ∧ S news' ∧ rest tk y news'
def BRest (prog : Program) (w : World) (A : Around) (h₀ : Heap) (L : Addr) (m : Str → Option Value) (env : Env) (elt : Expr) (x : Str) (scope : Scope) (cl : List (Str × Addr)) (s : Shared) (S : List (Addr × Obj) → Prop) (P : Nat → Value → Prop)
    (Fin : Nat → List Value → List (Addr × Obj) → Prop) : Nat → Nat → Nat → List Value → List (Addr × Obj) → Prop
  | 0, b, _, ys, news => Fin b ys news
  | k + 1, b, i, ys, news => ∀ v I oI C oC D m₂ h tk (E' : Value → Shared → Prop), b ≤ tk → P i v → NsObj oC m₂ → m₂ x = some v → Fr h₀ L h m → News h₀ L h ((I, oI) :: (C, oC) :: (D, lst ys) :: news) → Off3 I C D news → ((@Ne Nat I C) ∧ (@Ne Nat I D) ∧ (@Ne Nat C D)) →
      wpAny (model prog w) A (eval elt (compEnvC scope cl C env)) (BEnd h₀ L m { s with heap := h, toks := tk } I oI C oC D (lst ys) S (fun b' y news' => BRest prog w A h₀ L m env elt x scope cl s S P Fin k b' (i + 1) (ys ++ [y]) news')) E' { s with heap := h, toks := tk }
section
variable {prog : Program} {w : World} {A : Around} {E : Value → Shared → Prop} {s : Shared} {h₀ : Heap} {L : Addr} {m : Str → Option Value} {env : Env}

theorem block_B {elt iter : Expr} {x : Str} {px : Pos} {scope : Scope} {cl : List (Str × Addr)} {pos : Pos} {s₂ : Shared} {I : Addr} {fp : List Addr} {n : Nat} {P : Nat → Value → Prop} {St : Nat → Heap → Prop} {S : List (Addr × Obj) → Prop} {news : List (Addr × Obj)}
    {Fin : Nat → List Value → List (Addr × Obj) → Prop} {RR : Value → Addr → Result → Shared → Prop}
    (W : Walks prog w A I fp [I] n P St) (hsz : n ≤ sizeLine) (hIo : ∀ i h, St i h → ∃ o, h.get? I = some o)
    (hSt : ∀ i h h' o nw, St i h → h.get? I = some o → h'.get? I = some o → (∀ b o, h₀.get? b = some o → h'.get? b = some o) → News h₀ L h' nw → S nw → St i h')
    (hcell : ∀ y ∈ scope.names, y.2 ≠ .cell) (hkind : scope.kind = .function) (hx : scope.names.lookup x = some .local) (hst : St 0 s₂.heap) (hfp : ∀ b ∈ fp, b < s₂.heap.objs.size)
    (F : Fr h₀ L s₂.heap m) (N : News h₀ L s₂.heap news) (hIL : L ≠ I) (hI₀ : h₀.get? I = none) (off : ∀ p ∈ news, p.1 ≠ I) (hS : S news)
    (R : BRest prog w A h₀ L m env elt x scope cl s₂ S P Fin n s₂.toks 0 [] news)
    (hRR : ∀ D C h b tk m' ys news', b ≤ tk → Fr h₀ L h m → News h₀ L h ((D, lst ys) :: news') → Off1 D news' → h.Ns C m' → h₀.get? C = none → h₀.get? D = none → C ≠ L → D ≠ L → C ≠ D → (∀ p ∈ news', p.1 ≠ C) → Fin b ys news' → RR (.ref D) C (.ok .next) { s₂ with heap := h, toks := tk }) :
    wpAny (model prog w) A (newList []) (fun acc s₃ => wpAny (model prog w) A (newFunctionEnv scope env.globals cl [] env.qual none .none (some env)) (fun cenv s₄ =>
      codeAny (model prog w) A (.compStart (.ListComp elt [⟨.Name x px, iter, [], 0⟩] scope pos) 0 (.ref I) acc { cenv with scope := relabel scope env }) (RR acc cenv.locals) s₄) E s₃) E s₂ := by
  refine wpAny_newObj_type (wpAny_newFunctionEnv hcell (by intro y hy; simp at hy) (fun h₁ hns₁ hsb₁ => ?_) hkind)
  dsimp only at hns₁ hsb₁ ⊢
  generalize hH2 : s₂.heap.push { cls := .type "list", dict := none, data := .seq ([] : List Value).toArray } = H2 at hns₁ hsb₁ ⊢
  have hC : H2.objs.size = s₂.heap.objs.size + 1 := by rw [← hH2, Heap.size_push]
  have hDC : s₂.heap.objs.size ≠ H2.objs.size := by rw [hC]; exact Nat.ne_of_lt (Nat.lt_succ_self _)
  have low : ∀ b, b < s₂.heap.objs.size → b ≠ H2.objs.size ∧ b ≠ s₂.heap.objs.size := fun b hb => ⟨by rw [hC]; exact Nat.ne_of_lt (Nat.lt_succ_of_lt hb), Nat.ne_of_lt hb⟩
  have hIf : I ∈ fp := W.sub I (List.mem_singleton.mpr rfl)
  have hIlt : I < s₂.heap.objs.size := hfp I hIf
  have hDf : s₂.heap.objs.size ∉ fp := fun hm => Nat.lt_irrefl _ (hfp _ hm)
  have hCf : H2.objs.size ∉ fp := fun hm => by have := hfp _ hm; rw [hC] at this; exact Nat.lt_irrefl _ (Nat.lt_of_succ_lt this)
  have old : ∀ b o, s₂.heap.get? b = some o → h₁.get? b = some o := fun b o e => hsb₁.extBut b o (low b (Heap.lt_size e)).1 (Heap.get?_push_of_some _ (hH2 ▸ Heap.get?_push_of_some _ e))
  have hacc : h₁.get? s₂.heap.objs.size = some (lst []) := hsb₁.extBut _ _ hDC (Heap.get?_push_of_some _ (hH2 ▸ Heap.get?_push_size _ rfl))
  have hst₁ : St 0 h₁ := W.frame _ _ _ hst fun b _ o e => old b o e
  have fresh₀ : ∀ a, s₂.heap.objs.size ≤ a → h₀.get? a = none := fun a ha => by
    cases e : h₀.get? a with
    | none => rfl
    | some o' => exact absurd (Heap.lt_size (F.keep a o' e)) (Nat.not_lt.mpr ha)
  have hD₀ : h₀.get? s₂.heap.objs.size = none := fresh₀ _ (Nat.le_refl _)
  have hC₀ : h₀.get? H2.objs.size = none := fresh₀ _ (by rw [hC]; exact Nat.le_succ _)
  have hLlt : L < s₂.heap.objs.size := F.ns.lt
  have hDL : s₂.heap.objs.size ≠ L := Ne.symm (low L hLlt).2
  have hCL : H2.objs.size ≠ L := Ne.symm (low L hLlt).1
  have hCI : I ≠ H2.objs.size := (low I hIlt).1
  have hDI : I ≠ s₂.heap.objs.size := (low I hIlt).2
  have off₀ : Off3 I H2.objs.size s₂.heap.objs.size news := Off3.of fun p hp => ⟨off p hp, (low _ (Heap.lt_size (N p hp).1)).1, (low _ (Heap.lt_size (N p hp).1)).2⟩
  have loop : ∀ s₃ : Shared, s₃ = { s₂ with heap := h₁, toks := s₂.toks + ([] : List (Str × Value)).length } →
      codeAny (model prog w) A (.compLoop (.ListComp elt [⟨.Name x px, iter, [], 0⟩] scope pos) 0 (.ref I) (.ref s₂.heap.objs.size) (compEnvC scope cl H2.objs.size env))
        (RR (.ref s₂.heap.objs.size) H2.objs.size) s₃ := by
    rintro s₃ rfl
    refine codeAny_compLoop_tests
      (fun k s' => ∃ h' tk b i ys m' news', s' = { s₂ with heap := h', toks := tk } ∧ b ≤ tk ∧ i ≤ n ∧ k = n + 1 - i ∧ ys.length = i ∧ St i h' ∧ Fr h₀ L h' m ∧ h'.Ns H2.objs.size m' ∧ News h₀ L h' ((s₂.heap.objs.size, lst ys) :: news') ∧
        Off3 I H2.objs.size s₂.heap.objs.size news' ∧ S news' ∧ BRest prog w A h₀ L m env elt x scope cl s₂ S P Fin (n - i) b i ys news') ?_ (n + 1)
      ⟨h₁, _, s₂.toks, 0, [], _, news, rfl, Nat.le_refl _, Nat.zero_le _, rfl, rfl, hst₁, F.keeps old, hns₁, fun p hp => ?_, off₀, hS, R⟩
    · rintro k s' ⟨h', tk, b, i, ys, m', news', rfl, hb, hi, rfl, hyl, hst', F', hn', N', off', hS', R'⟩
      refine wpAny_later ?_
      have off3 := off'.mem
      by_cases hlt : i < n
      · obtain ⟨j, hj⟩ : ∃ j, n - i = j + 1 := ⟨n - i - 1, by omega⟩
        rw [hj] at R'
        refine W.item i _ _ _ hlt hst' fun v h₂ tk₂ hPv hst₂ hk₂ => ?_
        intro hL2
        have hL2' : tk ≤ tk₂ := hL2
        refine wpAny_assign_Name (wpAny_storeName_local (lookup_relabel_local hx) (hn'.at' fun o e => hk₂ _ o (by simpa using Ne.symm hCI) e) (fun h₃ hn₃ hs₃ => ?_) (by simp [compEnvC, relabel, hkind]))
        refine wpAny_tests_nil ?_
        simp only [if_true]
        have hst₃ : St (i + 1) h₃ := W.frame _ _ _ hst₂ fun b hb o e => hs₃.extBut b o (fun q => hCf (by have q' : b = H2.objs.size := q; rw [← q']; exact hb)) e
        obtain ⟨oI, heI⟩ := hIo _ _ hst₃
        obtain ⟨oC, heC, hoC⟩ := ns_obj hn₃
        have F₃ : Fr h₀ L h₃ m := (fr_but F' hk₂ hIL hI₀).change hs₃ hCL hC₀
        have N₂ : News h₀ L h₂ ((s₂.heap.objs.size, lst ys) :: news') := news_but N' hk₂ fun p hp => by
          rcases List.mem_cons.mp hp with rfl | hp
          · exact Ne.symm hDI
          · exact (off3 p hp).1
        have N₃ : News h₀ L h₃ ((I, oI) :: (H2.objs.size, oC) :: (s₂.heap.objs.size, lst ys) :: news') := fun p hp => by
          rcases List.mem_cons.mp hp with rfl | hp
          · exact ⟨heI, Ne.symm hIL, hI₀⟩
          · rcases List.mem_cons.mp hp with rfl | hp
            · exact ⟨heC, hCL, hC₀⟩
            · have z := N₂ p hp
              refine ⟨hs₃.extBut _ _ ?_ z.1, z.2⟩
              rcases List.mem_cons.mp hp with rfl | hp
              · exact hDC
              · exact (off3 p hp).2.1
        refine wpAny_mono (R' v I oI H2.objs.size oC s₂.heap.objs.size _ h₃ _ _ (Nat.le_succ_of_le (Nat.le_trans hb hL2')) hPv hoC (by simp) F₃ N₃ off' ⟨hCI, hDI, Ne.symm hDC⟩) (fun y s₄ h₄ => ?_) fun _ _ e => e
        obtain ⟨h₄, tk₄, news₄, rfl, F₄, N₄, off₄, hS₄, R₄⟩ := h₄
        have zI := (N₄ (I, oI) List.mem_cons_self).1
        have zC := (N₄ (H2.objs.size, oC) (List.mem_cons_of_mem _ List.mem_cons_self)).1
        have zD := (N₄ (s₂.heap.objs.size, lst ys) (List.mem_cons_of_mem _ (List.mem_cons_of_mem _ List.mem_cons_self))).1
        have N₄' : News h₀ L h₄ news₄ := fun p hp => N₄ p (List.mem_cons_of_mem _ (List.mem_cons_of_mem _ (List.mem_cons_of_mem _ hp)))
        have hst₄ : St (i + 1) h₄ := hSt _ _ _ _ _ hst₃ heI zI F₄.keep N₄' hS₄
        refine append_at (hsz := by show ys.toArray.size ≤ sizeLine; rw [List.size_toArray, hyl]; exact Nat.le_trans hi hsz) zD fun h₅ hs₅ hD₅ => ?_
        have off4 := off₄.mem
        refine ⟨n + 1 - (i + 1), by omega, h₅, tk₄, tk₄, i + 1, ys ++ [y], _, news₄, rfl, Nat.le_refl _, hlt, rfl, by rw [List.length_append, List.length_singleton, hyl], W.frame _ _ _ hst₄ fun b hb o e => hs₅.extBut b o (fun q => hDf (q ▸ hb)) e, F₄.change hs₅ hDL hD₀,
          (hoC.ns zC).sameBut hs₅ (Ne.symm hDC), fun p hp => ?_, off₄, hS₄, ?_⟩
        · rcases List.mem_cons.mp hp with rfl | hp
          · exact ⟨hD₅.trans (congrArg some (lst_snoc ys y)), hDL, hD₀⟩
          · exact ⟨hs₅.extBut _ _ (off4 p hp).2.2 (N₄' p hp).1, (N₄' p hp).2⟩
        · rw [show n - (i + 1) = j by omega]
          exact R₄
      · obtain rfl : i = n := Nat.le_antisymm hi (Nat.not_lt.mp hlt)
        rw [Nat.sub_self] at R'
        refine W.done _ _ _ hst' fun h₂ tk₂ hk₂ => ?_
        intro hL2
        have hL2' : tk ≤ tk₂ := hL2
        exact hRR _ _ h₂ b tk₂ _ ys news' (Nat.le_trans hb hL2') (fr_but F' hk₂ hIL hI₀) (news_but N' hk₂ fun p hp => by
          rcases List.mem_cons.mp hp with rfl | hp
          · exact Ne.symm hDI
          · exact (off3 p hp).1) off'.one (hn'.at' fun o e => hk₂ _ o (by simpa using Ne.symm hCI) e) hC₀ hD₀ hCL hDL (Ne.symm hDC) (fun p hp => (off3 p hp).2.1) R'
    · rcases List.mem_cons.mp hp with rfl | hp
      · exact ⟨hacc, hDL, hD₀⟩
      · exact ⟨old _ _ (N p hp).1, (N p hp).2⟩
  exact codeAny_compStart_list (loop _ rfl) (W.self 0 _ _ _ hst₁ (loop _ rfl))

def FinEB (h₀ : Heap) (L : Addr) (m : Str → Option Value) (s : Shared) (Q : Value → Shared → Prop) (b : Nat) (ys : List Value) (news : List (Addr × Obj)) : Prop :=
  ∀ D h tk, b ≤ tk → Fr h₀ L h m → News h₀ L h ((D, lst ys) :: news) → Off1 D news → Q (.ref D) { s with heap := h, toks := tk }
def FinAB (h₀ : Heap) (L : Addr) (m : Str → Option Value) (s : Shared) (y : Str) (Q : Flow → Shared → Prop) (b : Nat) (ys : List Value) (news : List (Addr × Obj)) : Prop :=
  ∀ D h tk, b ≤ tk → Fr h₀ L h (fun z => if z = y then some (.ref D) else m z) → News h₀ L h ((D, lst ys) :: news) → Off1 D news → Q .next { s with heap := h, toks := tk }
def BSrc (prog : Program) (w : World) (A : Around) (h₀ : Heap) (L : Addr) (m : Str → Option Value) (env : Env) (elt : Expr) (x : Str) (scope : Scope) (cl : List (Str × Addr)) (Fin : Shared → Nat → List Value → List (Addr × Obj) → Prop) (xv : Value) (s₁ : Shared) : Prop :=
  ∃ ax its news, xv = .ref ax ∧ A.handled = none ∧ Fr h₀ L s₁.heap m ∧ News h₀ L s₁.heap news ∧ SrcAt h₀ ax its news ∧ its.size ≤ sizeLine ∧
    ∀ s₂ : Shared, (∃ h, s₂ = { s₁ with heap := h }) → BRest prog w A h₀ L m env elt x scope cl s₂ (SrcAt h₀ ax its) (fun i v => its[i]? = some v) (Fin s₂) its.size s₂.toks 0 [] news

theorem eval_comp_B {elt iter : Expr} {x : Str} {px : Pos} {scope : Scope} {cl : List (Str × Addr)} {pos : Pos} {Q : Value → Shared → Prop} (_F₀ : Fr h₀ L s.heap m)
    (hclos : closureFor scope env = pure cl) (hcell : ∀ y ∈ scope.names, y.2 ≠ .cell) (hkind : scope.kind = .function)
    (hnames : ∀ y ∈ scope.names, y.2 = .local → scope.names.lookup y.1 = some .local) (hx : scope.names.lookup x = some .local)
    (h : wpAny (model prog w) A (eval iter env) (BSrc prog w A h₀ L m env elt x scope cl (fun s₂ => FinEB h₀ L m s₂ Q)) E s)
    (hs : ∀ x, foldedSetIterable iter env x = pure x := by intro _; rfl) :
    wpAny (model prog w) A (eval (.ListComp elt [⟨.Name x px, iter, [], 0⟩] scope pos) env) Q E s := by
  rw [eval_ListComp]
  refine wpAny_comprehension_free (use := none) rfl hs hclos hkind hnames (wpAny_mono h (fun xv s₁ h₁ => ?_) fun _ _ e => e)
  obtain ⟨ax, its, news, rfl, hh, F, N, S, hsz, R⟩ := h₁
  have hl := S.list F.keep N
  have hlt : ax < s₁.heap.objs.size := by obtain ⟨_, e, _⟩ := hl; exact Heap.lt_size e
  refine wpAny_pyIter_list hl ?_
  have up : ∀ b o, s₁.heap.get? b = some o → (s₁.heap.push { cls := .type "list_iterator", data := .fields #[.ref ax, .int 0 0] }).get? b = some o := fun b o e => Heap.get?_push_of_some _ e
  refine block_B (Walks.list hh s₁.heap.objs.size ax (Nat.ne_of_lt hlt) its) hsz (fun i h st => by obtain ⟨o, e, _⟩ := st.1; exact ⟨o, e⟩) list_st hcell hkind hx ⟨⟨_, Heap.get?_push_size _ rfl, rfl, rfl⟩, hl.push _⟩ (fun b hb => ?_)
    (F.keeps up) (N.grown up) (Nat.ne_of_lt F.ns.lt) (next_is_new F) (fun p hp => Nat.ne_of_lt (Heap.lt_size (N p hp).1)) S (R _ ⟨_, rfl⟩) ?_
  · show b < (s₁.heap.push _).objs.size
    rw [Heap.size_push]
    rcases List.mem_cons.mp hb with rfl | hb
    · exact Nat.lt_succ_self _
    · rw [List.mem_singleton.mp hb]; exact Nat.lt_succ_of_lt hlt
  · intro D C h' b tk m' ys news' hb F' N' o1 hn hC₀ hD₀ hCL hDL hCD offC fin
    refine ⟨m', hn, fun h'' hs'' => fin D h'' tk hb (F'.change hs'' hCL hC₀) (fun p hp => ?_) o1⟩
    refine ⟨hs''.extBut _ _ ?_ (N' p hp).1, (N' p hp).2⟩
    rcases List.mem_cons.mp hp with rfl | hp
    · exact Ne.symm hCD
    · exact offC p hp

theorem assign_comp_B {elt iter : Expr} {x y : Str} {px py : Pos} {scope : Scope} {cl : List (Str × Addr)} {pos spos : Pos} {Q : Flow → Shared → Prop} (_F₀ : Fr h₀ L s.heap m) (hLe : env.locals = L)
    (hsw : swapsWith (.ListComp elt [⟨.Name x px, iter, [], 0⟩] scope pos) (some (.Name y py)) spos.line env = pure true)
    (hclos : closureFor scope env = pure cl) (hcell : ∀ z ∈ scope.names, z.2 ≠ .cell) (hkind : scope.kind = .function)
    (hnames : ∀ z ∈ scope.names, z.2 = .local → scope.names.lookup z.1 = some .local) (hx : scope.names.lookup x = some .local)
    (hy : env.kindOf y = some .local) (hp : (env.scope.kind == .class || (env.scope.kind == .module && env.locals != env.globals)) = false)
    (h : wpAny (model prog w) A (eval iter env) (BSrc prog w A h₀ L m env elt x scope cl (fun s₂ => FinAB h₀ L m s₂ y Q)) E s)
    (hs : ∀ x, foldedSetIterable iter env x = pure x := by intro _; rfl) :
    wpAny (model prog w) A (exec (.Assign [.Name y py] (.ListComp elt [⟨.Name x px, iter, [], 0⟩] scope pos) spos) env) Q E s := by
  subst hLe
  rw [exec_Assign_Name_used _ _ _ _ hsw]
  refine wpAny_bind (wpAny_standAt (wpAny_bind ?_))
  show wpAny _ A (do let _ ← comprehension (.ListComp elt [⟨.Name x px, iter, [], 0⟩] scope pos) scope env _ (newList []) false (eval iter env) (some (assign (.Name y py) env))) _ _ s
  refine wpAny_bind (wpAny_mono (wpAny_comprehension_free (use := some (assign (.Name y py) env)) (Q := fun _ s' => Q .next s') rfl hs hclos hkind hnames
    (wpAny_mono h (fun xv s₁ h₁ => ?_) fun _ _ e => e)) (fun _ s' hq => wpAny_pure (wpAny_pure hq)) fun _ _ e => e)
  obtain ⟨ax, its, news, rfl, hh, F, N, S, hsz, R⟩ := h₁
  have hl := S.list F.keep N
  have hlt : ax < s₁.heap.objs.size := by obtain ⟨_, e, _⟩ := hl; exact Heap.lt_size e
  refine wpAny_pyIter_list hl ?_
  have up : ∀ b o, s₁.heap.get? b = some o → (s₁.heap.push { cls := .type "list_iterator", data := .fields #[.ref ax, .int 0 0] }).get? b = some o := fun b o e => Heap.get?_push_of_some _ e
  refine block_B (Walks.list hh s₁.heap.objs.size ax (Nat.ne_of_lt hlt) its) hsz (fun i h st => by obtain ⟨o, e, _⟩ := st.1; exact ⟨o, e⟩) list_st hcell hkind hx ⟨⟨_, Heap.get?_push_size _ rfl, rfl, rfl⟩, hl.push _⟩ (fun b hb => ?_)
    (F.keeps up) (N.grown up) (Nat.ne_of_lt F.ns.lt) (next_is_new F) (fun p hp => Nat.ne_of_lt (Heap.lt_size (N p hp).1)) S (R _ ⟨_, rfl⟩) ?_
  · show b < (s₁.heap.push _).objs.size
    rw [Heap.size_push]
    rcases List.mem_cons.mp hb with rfl | hb
    · exact Nat.lt_succ_self _
    · rw [List.mem_singleton.mp hb]; exact Nat.lt_succ_of_lt hlt
  · intro D C h' b tk m' ys news' hb F' N' o1 hn hC₀ hD₀ hCL hDL hCD offC fin
    show wpAny _ A (assign (.Name y py) env (.ref D)) _ _ _
    refine wpAny_assign_Name (wpAny_storeName_local hy F'.ns (fun h₂ hn₂ hs₂ => ?_) hp)
    have hL₀ : h₀.get? env.locals = none := Heap.get?_none_of_le F'.above
    have F₂ : Fr h₀ env.locals h₂ (fun z => if z = y then some (.ref D) else m z) := ⟨hn₂, fun b o e => hs₂.extBut b o (fun q => by rw [q, hL₀] at e; cases e) (F'.keep b o e), F'.above⟩
    refine ⟨m', hn.sameBut hs₂ hCL, fun h'' hs'' => fin D h'' _ (Nat.le_succ_of_le hb) (F₂.change hs'' hCL hC₀) (fun p hp => ?_) o1⟩
    have z : h₂.get? p.1 = some p.2 := hs₂.extBut _ _ (N' p hp).2.1 (N' p hp).1
    refine ⟨hs''.extBut _ _ ?_ z, (N' p hp).2⟩
    rcases List.mem_cons.mp hp with rfl | hp
    · exact Ne.symm hCD
    · exact offC p hp
end
end Mine
end
-- part It
section
open PySem PySem.W PyProof.Rows PySem.Calls PySem.Spec
set_option maxHeartbeats 2000000
namespace Mine
open LCg

section
variable {prog : Program} {w : World} {A : Around} {E : Value → Shared → Prop} {s : Shared} {x y : PySem.Str} {t u : Tok} {i : Int} {Q : Value → Shared → Prop}
theorem mulz_tok (hx : x.length ≤ 1) (h0 : 0 ≤ i) (h1 : i < 3) (ht : @LT.lt Nat _ 0 t ∧ @LT.lt Nat _ t s.toks) (h : ∀ r t' k, PySem.Str.length r ≤ 2 → @LT.lt Nat _ 0 t' ∧ @LT.lt Nat _ t' k → s.toks ≤ k → Q (.str r t') { s with toks := k }) :
    wpAny (model prog w) A (binaryOp .Mult (.str x t) (.int i u)) Q E s := by
  have hl := len_mul x i
  rw [if_neg (by simp; omega)] at hl
  have hle : (Txt.mul x i).length ≤ 2 := by
    have : ((x.length : Nat) : Int) * i ≤ 1 * i := Int.mul_le_mul_of_nonneg_right (by omega) h0
    omega
  have hok : MulOk x i := mulOk_of 16 1048576 (by omega) (by omega) (by omega) (by decide) (by decide)
  refine P.mul_str hok.1 hok.2.1 hok.2.2 ?_
  unfold Txt.mul at hle
  by_cases c1 : i < 1
  · rw [if_pos c1] at hle ⊢
    exact ⟨by decide, h _ _ _ hle ⟨by omega, Nat.lt_succ_self _⟩ (Nat.le_succ _)⟩
  · rw [if_neg c1] at hle ⊢
    by_cases c2 : (i == 1 || x.length == 0) = true
    · rw [if_pos c2] at hle ⊢
      exact h _ _ _ hle ht (Nat.le_refl _)
    · rw [if_neg c2] at hle ⊢
      exact ⟨by rw [PySem.sizeLine_eq]; omega, h _ _ _ hle ⟨by omega, Nat.lt_succ_self _⟩ (Nat.le_succ _)⟩
theorem call_add_tok (ht : @LT.lt Nat _ 0 t ∧ @LT.lt Nat _ t s.toks) (hu : @LT.lt Nat _ 0 u ∧ @LT.lt Nat _ u s.toks) (h : ∀ t' k, @LT.lt Nat _ 0 t' ∧ @LT.lt Nat _ t' k → s.toks ≤ k → Q (.str (x ++ y) t') { s with toks := k })
    (hsz : x.length + y.length ≤ sizeLine) : wpAny (model prog w) A (call (.builtin "str.__add__") [.str x t, .str y u]) Q E s := by
  refine wpAny_call_entry slot_str_add (typeIs_str s x t) entry_str_add ?_ (args_str_add _ _)
  show wpAny _ _ (do
    if (true && x.length == 0) = true then (do rule "str.__add__.left-empty"; ret (.str y u)) else
    if (true && y.length == 0) = true then (do rule "str.__add__.right-empty"; ret (.str x t)) else
    retStr (x ++ y)) _ _ s
  cases hx : x.length == 0
  · cases hy : y.length == 0
    · exact wpAny_bind (wpAny_mkStr (wpAny_pure ⟨_, rfl, h _ _ ⟨by omega, Nat.lt_succ_self _⟩ (Nat.le_succ _)⟩) (by rw [PySem.Str.length_append]; exact hsz))
    · have e : x ++ y = x := by
        have g0 : y.cps = #[] := Array.eq_empty_of_size_eq_zero (by simpa [PySem.Str.length] using hy)
        show PySem.Str.append x y = x
        cases x; simp [PySem.Str.append, g0]
      rw [e] at h
      exact wpAny_bind (wpAny_rule (wpAny_pure ⟨_, rfl, h t s.toks ht (Nat.le_refl _)⟩))
  · have e : x ++ y = y := by
      have g0 : x.cps = #[] := Array.eq_empty_of_size_eq_zero (by simpa [PySem.Str.length] using hx)
      show PySem.Str.append x y = y
      cases y; simp [PySem.Str.append, g0]
    rw [e] at h
    exact wpAny_bind (wpAny_rule (wpAny_pure ⟨_, rfl, h u s.toks hu (Nat.le_refl _)⟩))
theorem add_tok (ht : @LT.lt Nat _ 0 t ∧ @LT.lt Nat _ t s.toks) (hu : @LT.lt Nat _ 0 u ∧ @LT.lt Nat _ u s.toks) (h : ∀ t' k, @LT.lt Nat _ 0 t' ∧ @LT.lt Nat _ t' k → s.toks ≤ k → Q (.str (x ++ y) t') { s with toks := k })
    (hsz : x.length + y.length ≤ sizeLine) : wpAny (model prog w) A (binaryOp .Add (.str x t) (.str y u)) Q E s :=
  binaryOp_concat (typeIs_str s x t) (typeIs_str s y u) PyProof.Rows.noFill_str_add PyProof.Rows.seq_str_add (call_add_tok ht hu h hsz)
/-- texts whose tokens lie under a bound -/
inductive Toks (b : Nat) : List Value → List PySem.Str → Prop
  | nil : Toks b [] []
  | cons (x : PySem.Str) (t : Tok) {vs ws} : @LT.lt Nat _ 0 t → @LT.lt Nat _ t b → Toks b vs ws → Toks b (.str x t :: vs) (x :: ws)
theorem Toks.are {b : Nat} : ∀ {vs : List Value} {ws : List PySem.Str}, Toks b vs ws → StrsAre vs ws
  | _, _, .nil => .nil
  | _, _, .cons x t _ _ r => .cons x t r.are
theorem Toks.at {b : Nat} : ∀ {vs : List Value} {ws : List PySem.Str}, Toks b vs ws → ∀ {r : PySem.Str} {t : Tok}, Value.str r t ∈ vs → r ∈ ws ∧ @LT.lt Nat _ 0 t ∧ @LT.lt Nat _ t b
  | _, _, .nil, _, _, h => nomatch h
  | _, _, .cons _ _ h1 h2 z, r, t, h => by
    rcases List.mem_cons.mp h with e | h
    · cases e; exact ⟨.head _, h1, h2⟩
    · have g := z.at h; exact ⟨.tail _ g.1, g.2⟩
theorem Toks.le {b b' : Nat} (hb : b ≤ b') : ∀ {vs : List Value} {ws : List PySem.Str}, Toks b vs ws → Toks b' vs ws
  | _, _, .nil => .nil
  | _, _, .cons x t h1 h2 z => .cons x t h1 (Nat.lt_of_lt_of_le h2 hb) (z.le hb)
theorem Toks.snoc {b : Nat} {y : PySem.Str} {t : Tok} (h1 : @LT.lt Nat _ 0 t) (h2 : @LT.lt Nat _ t b) : ∀ {vs : List Value} {ys : List PySem.Str}, Toks b vs ys → Toks b (vs ++ [.str y t]) (ys ++ [y])
  | _, _, .nil => .cons y t h1 h2 .nil
  | _, _, .cons z u g1 g2 r => .cons z u g1 g2 (Toks.snoc h1 h2 r)
theorem item_tok {value slice : PySem.Expr} {l : Addr} {vs : List Value} {ws : List PySem.Str} (hl : s.heap.IsList l vs.toArray) (hw : Toks s.toks vs ws) (h0 : 0 ≤ i) (h1 : i < (ws.length : Int)) (hfit : i < 2 ^ 63)
    (h : ∀ r t', r ∈ ws → @LT.lt Nat _ 0 t' ∧ @LT.lt Nat _ t' s.toks → Q (.str r t') s)
    (hs : subscripted slice false (.ref l) (.int i u) = operate [.ref l, .int i u] (getItem (.ref l) (.int i u)) := by with_unfolding_all rfl) :
    wpAny (model prog w) A (subscriptTail value slice (.ref l) (.int i u)) Q E s := by
  have hlt : i.toNat < ws.length := by omega
  obtain ⟨t', e⟩ := hw.are.get i.toNat ws[i.toNat] (by rw [List.getElem?_eq_getElem hlt])
  have g := hw.at (List.mem_of_getElem? e)
  exact tail_any hl.typeIs slot_list_getitem.lookup (wpAny_getItem_list hl h0 hfit (x := .str _ t') (by simpa using e) (h _ t' g.1 g.2)) hs
end

def ItB (news : List (Addr × Obj)) (b : Nat) (y : Value) (news' : List (Addr × Obj)) : Prop := news' = news ∧ ∃ (r : PySem.Str) (t : Tok), y = .str r t ∧ r.length ≤ 10 ∧ @LT.lt Nat _ 0 t ∧ @LT.lt Nat _ t b
section
variable {prog : Program} {w : World} {A : Around} {h₀ : Heap} {L : Addr} {m : Str → Option Value} {env : Env} {elt : Expr} {x : Str} {scope : Scope} {cl : List (Str × Addr)} {s : Shared} {S : List (Addr × Obj) → Prop} {Fin : Nat → List Value → List (Addr × Obj) → Prop} {news : List (Addr × Obj)}
theorem itB {vs : List Value} {ns : List Int} {b : Nat} (hi : IntsAre vs ns) (hpos : 0 < b)
    (turn : ∀ k t I oI C oC D m₂ ys h tk (E' : Value → Shared → Prop), 0 < tk → NsObj oC m₂ → m₂ x = some (.int k t) → Fr h₀ L h m → News h₀ L h ((I, oI) :: (C, oC) :: (D, lst ys) :: news) → Off3 I C D news → ((@Ne Nat I C) ∧ (@Ne Nat I D) ∧ (@Ne Nat C D)) → ItMark →
      wpAny (model prog w) A (eval elt (compEnvC scope cl C env)) (BEnd h₀ L m { s with heap := h, toks := tk } I oI C oC D (lst ys) S (ItB news)) E' { s with heap := h, toks := tk })
    (fin : ∀ b' ys T, 0 < b' → Toks b' ys T → T.length = ns.length → (∀ z ∈ T, z.length ≤ 10) → Fin b' ys news) :
    BRest prog w A h₀ L m env elt x scope cl s S (fun i v => vs.toArray[i]? = some v) Fin vs.toArray.size b 0 [] news := by
  have key : ∀ (j i b : Nat) (ys : List Value) (T : List PySem.Str), 0 < b → i + j = ns.length → T.length = i → Toks b ys T → (∀ z ∈ T, z.length ≤ 10) →
      BRest prog w A h₀ L m env elt x scope cl s S (fun i v => vs.toArray[i]? = some v) Fin j b i ys news := by
    intro j
    induction j with
    | zero =>
      intro i b ys T hb hij hT hy hle
      exact fin b ys T hb hy (by omega) hle
    | succ j ih =>
      intro i b ys T hb hij hT hy hle v I oI C oC D m₂ h tk E' hbt hv hC hx F N off ne
      obtain ⟨k, t, e, hk⟩ := IntsAre.at hi i v (by simpa using hv)
      subst e
      refine wpAny_later (wpAny_mono (turn k t I oI C oC D m₂ ys h tk E' (Nat.lt_of_lt_of_le hb hbt) hC hx F N off ne True.intro) (fun y s₂ hq => ?_) fun _ _ e => e)
      obtain ⟨h', tk', nw, e, F', N', off', hS, hn, r, t', hy', hr, g1, g2⟩ := hq
      subst hn hy' e
      intro hL
      have hL' : tk ≤ tk' := hL
      refine ⟨h', tk', _, rfl, F', N', off', hS, ?_⟩
      exact ih (i + 1) tk' _ (T ++ [r]) (by omega) (by omega) (by rw [List.length_append, hT]; rfl) (Toks.snoc g1 g2 (hy.le (Nat.le_trans hbt hL'))) (by
        intro z hz
        rcases List.mem_append.mp hz with hz | hz
        · exact hle z hz
        · rw [List.mem_singleton.mp hz]; exact hr)
  have e : vs.toArray.size = ns.length := by rw [List.size_toArray]; exact hi.length
  rw [e]
  exact key ns.length 0 b [] [] hpos (by omega) rfl .nil (fun _ hz => nomatch hz)
theorem itB_end {I C D : Addr} {oI oC oD : Obj} {s₁ : Shared} {h' : Heap} {tk : Nat} {all : List (Addr × Obj)} {r : PySem.Str} {t : Tok}
    (F : Fr h₀ L h' m) (N : News h₀ L h' all) (sub : ∀ p ∈ (I, oI) :: (C, oC) :: (D, oD) :: news, p ∈ all) (off : Off3 I C D news) (hS : S news) (hr : r.length ≤ 10) (ht : @LT.lt Nat _ 0 t ∧ @LT.lt Nat _ t tk) :
    BEnd h₀ L m s₁ I oI C oC D oD S (ItB news) (.str r t) { s₁ with heap := h', toks := tk } := ⟨h', tk, news, rfl, F, fun p hp => N p (sub p hp), off, hS, rfl, r, t, rfl, hr, ht.1, ht.2⟩
theorem BSrc.ledger {Fin : Shared → Nat → List Value → List (Addr × Obj) → Prop} {ax : Addr} {its : Array Value} {k : Nat} {s₁ : Shared}
    (hh : A.handled = none) (F : Fr h₀ L s₁.heap m) (N : News h₀ L s₁.heap news) (hm : (ax, ({ cls := .type "list", data := .seq its k } : Obj)) ∈ news) (hsz : its.size ≤ sizeLine)
    (h : ∀ g, BRest prog w A h₀ L m env elt x scope cl { s₁ with heap := g } (SrcAt h₀ ax its) (fun i v => its[i]? = some v) (Fin { s₁ with heap := g }) its.size s₁.toks 0 [] news) :
    BSrc prog w A h₀ L m env elt x scope cl Fin (.ref ax) s₁ := ⟨ax, its, news, rfl, hh, F, N, .inr ⟨_, hm, rfl, _, rfl⟩, hsz, fun _ ⟨g, e⟩ => e ▸ h g⟩
theorem BSrc.base {Fin : Shared → Nat → List Value → List (Addr × Obj) → Prop} {ax : Addr} {its : Array Value} {s₁ : Shared}
    (hh : A.handled = none) (F : Fr h₀ L s₁.heap m) (N : News h₀ L s₁.heap news) (hl : h₀.IsList ax its) (hsz : its.size ≤ sizeLine)
    (h : ∀ g, BRest prog w A h₀ L m env elt x scope cl { s₁ with heap := g } (SrcAt h₀ ax its) (fun i v => its[i]? = some v) (Fin { s₁ with heap := g }) its.size s₁.toks 0 [] news) :
    BSrc prog w A h₀ L m env elt x scope cl Fin (.ref ax) s₁ := ⟨ax, its, news, rfl, hh, F, N, .inl hl, hsz, fun _ ⟨g, e⟩ => e ▸ h g⟩
end

/-- after setting, code and items -/
def J2 (base : Heap) (L : Addr) (s s' : Shared) : Prop :=
  ∃ (h' : Heap) (tk : Nat) (mm : Str → Option Value) (setting code : Int) (t0 t1 : Tok) (il : Addr) (vs : List Value) (T : List PySem.Str) (k : Nat) (c1 c2 c3 c4 : Obj) (v2 v3 v4 : Option Value),
    s' = { s with heap := h', toks := tk } ∧
    Fr base L h' (fun y => if y = Str.ofString "items" then some (.ref il) else if y = Str.ofString "code" then some (.int code t1) else mm y) ∧
    News base L h' [(il, listOf vs.toArray k), (L + 1 + 1 + 1 + 1, c4), (L + 1 + 1 + 1, c3), (L + 1 + 1, c2), (L + 1, c1)] ∧
    c1.data = .cell (some (.int setting t0)) ∧ c2.data = .cell v2 ∧ c3.data = .cell v3 ∧ c4.data = .cell v4 ∧
    Toks tk vs T ∧ T.length ≤ 7 ∧ (∀ z ∈ T, z.length ≤ 10) ∧ @Ne Nat il (L + 1) ∧ @Ne Nat il (L + 1 + 1) ∧ @Ne Nat il (L + 1 + 1 + 1) ∧ @Ne Nat il (L + 1 + 1 + 1 + 1)
theorem J2.mk {base : Heap} {L : Addr} {s : Shared} {h' : Heap} {b tk : Nat} {mm : Str → Option Value} {setting code : Int} {t0 t1 : Tok} {il : Addr} {vs : List Value} {T : List PySem.Str} {k : Nat} {c1 c2 c3 c4 : Obj} {v2 v3 v4 : Option Value} {all : List (Addr × Obj)}
    (F : Fr base L h' (fun y => if y = Str.ofString "items" then some (.ref il) else if y = Str.ofString "code" then some (.int code t1) else mm y)) (N : News base L h' all)
    (m0 : (il, listOf vs.toArray k) ∈ all) (m4 : (L + 1 + 1 + 1 + 1, c4) ∈ all) (m3 : (L + 1 + 1 + 1, c3) ∈ all) (m2 : (L + 1 + 1, c2) ∈ all) (m1 : (L + 1, c1) ∈ all)
    (d1 : c1.data = .cell (some (.int setting t0))) (d2 : c2.data = .cell v2) (d3 : c3.data = .cell v3) (d4 : c4.data = .cell v4)
    (hT : Toks b vs T) (hbt : b ≤ tk) (hn : T.length ≤ 7) (hb : ∀ z ∈ T, z.length ≤ 10) (hne : @Ne Nat il (L + 1) ∧ @Ne Nat il (L + 1 + 1) ∧ @Ne Nat il (L + 1 + 1 + 1) ∧ @Ne Nat il (L + 1 + 1 + 1 + 1)) : J2 base L s { s with heap := h', toks := tk } :=
  ⟨h', tk, mm, setting, code, t0, t1, il, vs, T, k, c1, c2, c3, c4, v2, v3, v4, rfl, F, fun p hp => by
    simp only [List.mem_cons, List.not_mem_nil, or_false] at hp
    rcases hp with rfl | rfl | rfl | rfl | rfl <;> exact N _ (by assumption), d1, d2, d3, d4, hT.le hbt, hn, hb, hne⟩
theorem split2 {M : Model} {A : Around} {E : Value → Shared → Prop} {env : Env} {s : Shared} {st1 st2 st3 : Stmt} {r : List Stmt} {Q : Flow → Shared → Prop} {base : Heap} {L : Addr} {m : Str → Option Value} {h : Heap}
    (_F : Fr base L h m) (h₁ : wpAny M A (execs [st1, st2, st3] env) (fun f s' => f = .next ∧ J2 base L s s') E s) (h₂ : ∀ s', J2 base L s s' → wpAny M A (execs r env) Q E s') :
    wpAny M A (execs (st1 :: st2 :: st3 :: r) env) Q E s := execs_split (l₁ := [st1, st2, st3]) (J2 base L s) h₁ h₂
end Mine
end
-- part Nb
section
open PySem PySem.W PyProof.Rows PySem.Calls PySem.Spec
set_option maxHeartbeats 2000000
namespace Mine
def keyOK (e : DictEntry) : Bool := match e.key with | .str n _ => !(n == sharingNotToldKey) | _ => false
def notBooked (K : Frag) : Bool := match K.lookup cStatics with
  | some ⟨_, _, .dict es _, _⟩ => es.toList.all keyOK
  | _ => false
theorem none_booked_of {K : Frag} {h : Heap} (X : K.In h) (e : notBooked K = true) : NoneBooked h := by
  unfold notBooked at e
  split at e
  · rename_i c d es ep sl q
    have ho := X _ _ q
    rw [List.all_eq_true] at e
    refine ⟨fun name => nsFind es name, ⟨_, es, _, ho, rfl, fun en hen => ?_, fun _ => rfl⟩, ?_⟩
    · have := e en (by simpa using hen)
      unfold keyOK at this
      split at this
      · rename_i n t hk; exact ⟨n, t, hk⟩
      · exact absurd this Bool.false_ne_true
    · unfold nsFind
      unfold findBy
      have z : (es.find? fun e => e.key.isStr sharingNotToldKey) = none := by
        rw [Array.find?_eq_none]
        intro en hen hb
        have g := e en (by simpa using hen)
        unfold keyOK at g
        split at g
        · rename_i n t hk
          rw [hk] at hb
          have hb' : (n == sharingNotToldKey) = true := by simpa [Value.isStr] using hb
          rw [hb'] at g
          exact absurd g (by decide)
        · exact absurd g Bool.false_ne_true
      show Option.map (fun x : DictEntry => x.val) (es.find? fun e => e.key.isStr sharingNotToldKey) = none
      rw [z]; rfl
  · exact absurd e Bool.false_ne_true
end Mine
end
-- part Ld
section
open PySem PySem.W PyProof.Rows PySem.Calls PySem.Spec
set_option maxHeartbeats 2000000
namespace Mine
open LCg

theorem NoneBooked.keep {h h' : Heap} (x : NoneBooked h) (k : ∀ b o, h.get? b = some o → h'.get? b = some o) : NoneBooked h' := by
  obtain ⟨mc, hn, hk⟩ := x
  exact ⟨mc, hn.at' fun o e => k _ _ e, hk⟩
def b0 : PySem.Str := Str.ofString "{0}"
def b1 : PySem.Str := Str.ofString "{1}"
theorem split_pat {q : PySem.Str} (hq : q ∈ marks6) : Txt.split (pat q) b0 = [Str.ofString "", q ++ b1] := by
  revert q
  have e : ∀ q ∈ marks6, Txt.split (pat q) b0 = [Str.ofString "", q ++ b1] := by decide +kernel
  exact fun {q} h => e q h
theorem parts_pat {q : PySem.Str} (hq : q ∈ marks6) : Builtin.Str.partsBetween (q ++ b1) (Builtin.Str.occurrences (q ++ b1) b1 0 (q ++ b1).length ((q ++ b1).length + 1)) b1.length = [q, Str.empty] ∧
    (Builtin.Str.occurrences (q ++ b1) b1 0 (q ++ b1).length ((q ++ b1).length + 1)).isEmpty = false := by
  have e : ∀ q ∈ marks6, Builtin.Str.partsBetween (q ++ b1) (Builtin.Str.occurrences (q ++ b1) b1 0 (q ++ b1).length ((q ++ b1).length + 1)) b1.length = [q, Str.empty] ∧
    (Builtin.Str.occurrences (q ++ b1) b1 0 (q ++ b1).length ((q ++ b1).length + 1)).isEmpty = false := by decide +kernel
  exact e q hq
theorem repl_pat {q z : PySem.Str} (hq : q ∈ marks6) : Txt.replace (q ++ b1) b1 z = q ++ z := by
  have g := parts_pat hq
  unfold Txt.replace
  have e3 : (b1.length == 0) = false := by decide +kernel
  rw [g.2, e3, Bool.false_and, Bool.or_self, if_neg Bool.false_ne_true, g.1]
  show (⟨q.cps ++ z.cps ++ #[]⟩ : PySem.Str) = PySem.Str.append q z
  rw [Array.append_empty]
  rfl
theorem repl_empty {z : PySem.Str} : Txt.replace (Str.ofString "") b1 z = Str.ofString "" := by
  unfold Txt.replace
  have e : (Builtin.Str.occurrences (Str.ofString "") b1 0 (Str.ofString "").length ((Str.ofString "").length + 1)).isEmpty = true := by decide +kernel
  rw [e, Bool.true_or, if_pos rfl]
theorem join_laid {x q z : PySem.Str} : Txt.join x [Str.ofString "", q ++ z] = x ++ (q ++ z) := by
  have e : Str.ofString "" = (⟨#[]⟩ : PySem.Str) := by decide +kernel
  rw [e]
  show (⟨#[] ++ x.cps ++ (q ++ z).cps⟩ : PySem.Str) = PySem.Str.append x (q ++ z)
  rw [Array.empty_append]
  rfl
section
variable {prog : Program} {w : World} {A : Around} {E : Value → Shared → Prop} {s : Shared} {x y z q : PySem.Str} {t u v : Tok} {Q : Value → Shared → Prop}
theorem repl_tok (hnb : NoneBooked s.heap) (hu : @LT.lt Nat _ 0 u) (hv : @LT.lt Nat _ 0 v) (huv : @LT.lt Nat _ v u) (hx : x.length ≤ 1000) (hz : z.length ≤ 1000) (h : ∀ t' k, Q (.str (Txt.replace x y z) t') { s with toks := k }) :
    wpAny (model prog w) A (call (.builtin "str.replace") [.str x t, .str y u, .str z v]) Q E s :=
  SC.replaceW2 1000 1000 (by decide) (Nat.ne_of_gt hu) (Nat.ne_of_gt hv) (Nat.ne_of_gt huv) hx hz h hnb
end
end Mine
end
-- part Ca
section
open PySem PySem.W PyProof.Rows PySem.Calls PySem.Spec
set_option maxHeartbeats 2000000
namespace Mine
section
variable {prog : Program} {w : World} {A₀ A : Around} {s : Shared} {base h₀ : Heap} {outer : List Env} {L : Addr} {m : Str → Option Value} {env : Env} {news : List (Addr × Obj)} {K : Frag} {p : Program} {loose : List Str} {mean : ExcName → Option Value} {mg mb : Str → Option Value}
  {R : Result → Shared → Prop} {name qual : Str} {params : Arguments} {body : List Stmt} {scope : Scope} {dV kV doc pm cdv ct oc : Value} {an od : Option Addr} {osl : Array (Option Value)} {f : Addr} {args : Args} {binds : List (Str × Value)}
/-- a call of a function with cells: the tokens are no fewer within it -/
theorem code_cells_tok
    (B : Below A₀ base outer h₀) (F : Fr h₀ L s.heap m) (X₀ : K.In h₀) (N : News h₀ L s.heap news) (T : Top p loose mean mg mb h₀) (hA : A.frames = some (env :: outer)) (hf : env.frame = some L) (hke : env.scope.kind = .function)
    (ho : K.lookup f = some ⟨oc, od, .func (fnOf name qual params body scope dV kV doc pm an cdv ct), osl⟩) (hcd : codeIn K cdv qual = true) (hroom : A.depth < recursionLimit)
    (hbind : BindsTo s (fnOf name qual params body scope dV kV doc pm an cdv ct) args binds) (hkind : (binds.all fun y => scope.names.lookup y.1 == some .local || scope.names.lookup y.1 == some .cell) = true)
    (hnd : ((cellsFrom 0 scope.names []).map (·.1)).Nodup)
    (h : ∀ g L' h₁ tk cells, s.toks ≤ tk → Fr h₀ L g m → Fr g L' h₁ (bindL (envOfC qual scope L' f cdv).kindOf binds fun _ => none) → News g L' h₁ (cells ++ news) →
      CellsAre (bindC (envOfC qual scope L' f cdv).kindOf binds fun _ => none) (cellsFrom (L' + 1) scope.names []) cells → Below A base (env :: outer) g → K.In g → Top p loose mean mg mb g → (∀ p ∈ news, p.1 < L') →
      wpAny (model prog w) (A.deeper (envOfC qual scope L' f cdv)) (execs body (envOfC qual scope L' f cdv))
        (fun fl s' => LeaveK h₀ L m g R (match fl with | .ret v => v | _ => .none) s')
        (fun e s' => wpAny (model prog w) (A.deeper (envOfC qual scope L' f cdv)) (leaving (envOfC qual scope L' f cdv) e) (fun _ s'' => R (.error e) s'') (fun e' s'' => R (.error e') s'') s')
        { s with heap := h₁, toks := tk })
    (hco : scope.isCoroutine = false) (hgen : scope.isGenerator = false) (hk : scope.kind = .function) : codeAny (model prog w) A (.call (.ref f) args) R s := by
  have ho' := (X₀.keeps F.keep) _ _ ho
  obtain ⟨FG, BG, st, lv⟩ := groundX (R := R) B F N hA hf hke
  refine codeAny_call_function (fd := fnOf name qual params body scope dV kV doc pm an cdv ct) hroom ho' rfl hco hgen rfl (codeRec_of (X₀.keeps F.keep) hcd) (hbind _ _ _ _ ?_)
  refine wpAny_later (wpAny_newFunctionEnv_cells hk (kindsX hkind _) fun env' he s' x => ?_)
  subst he
  intro hL
  refine ⟨(T.nolimit.keeps F.keep).keeps x.toInCall.keep, codeAny_func ?_⟩
  obtain ⟨h₁, tk, e, _⟩ := x.done
  subst e
  have hk₁ := x.toInCall.keep
  have hlen := cellsFrom_names scope.names 0 (s.heap.objs.size + 1) [] [] rfl
  obtain ⟨cells, NC, Y⟩ := Cl.news (h₀ := s.heap) (Nat.le_refl _) fun n c hm => ⟨x.cell n c (lookup_of_mem_nodup (hlen ▸ hnd) hm), x.above n c hm⟩
  have key := h _ s.heap.objs.size h₁ tk cells hL FG ⟨x.toInCall.ns, fun b o e => hk₁ b o (of_hideAll _ e), Nat.le_of_eq (hideAll_size _ _)⟩ (fun p hp => by
    rcases List.mem_append.mp hp with hp | hp
    · have g := NC p hp
      refine ⟨g.1, g.2.1, ?_⟩
      cases q : (hideAll s.heap (news.map (·.1))).get? p.1 with
      | none => rfl
      | some o => exact absurd ((of_hideAll _ q).symm.trans g.2.2) (by simp)
    · exact ⟨hk₁ _ _ (N p hp).1, Nat.ne_of_lt (Heap.lt_size (N p hp).1), hideAll_none _ (List.mem_map_of_mem hp)⟩) Y BG (X₀.keeps st) (T.keeps st) (fun p hp => Heap.lt_size (N p hp).1)
  exact wpAny_mono key (fun fl s' hl => lv _ _ hl) fun _ _ y => y
end
end Mine
end
-- part Hd
section
open PySem PySem.W PyProof.Rows
set_option maxRecDepth 100000
set_option maxHeartbeats 8000000
namespace Mine
open_top hd for PySem.Challenge.rw_nk0011_01
end Mine
end
-- part Sl
section
open PySem PySem.W PyProof.Rows PySem.Calls PySem.Spec
set_option maxRecDepth 100000
set_option maxHeartbeats 2000000
namespace Mine
open LCg

theorem b0_pos : (b0.length == 0) = false := by decide +kernel
theorem pat_len {q : PySem.Str} (hq : q ∈ marks6) : (pat q).length ≤ 20 := by
  revert q
  have e : ∀ q ∈ marks6, (pat q).length ≤ 20 := by decide +kernel
  exact fun {q} h => e q h
section
variable {prog : Program} {w : World} {A : Around} {E : Value → Shared → Prop} {s : Shared} {h₀ : Heap} {L : Addr} {m : PySem.Str → Option Value} {news : List (Addr × Obj)} {q : PySem.Str} {t u : Tok} {Q : Value → Shared → Prop}
theorem split_laid (hF : Fr h₀ L s.heap m) (hN : News h₀ L s.heap news) (hq : q ∈ marks6)
    (h : ∀ D t1 t2 h' k, s.toks ≤ k → Fr h₀ L h' m → News h₀ L h' ((D, listOf #[.str (Str.ofString "") t1, .str (q ++ b1) t2] 0) :: news) → (∀ p ∈ news, p.1 < D) → Q (.ref D) { s with heap := h', toks := k }) :
    wpAny (model prog w) A (call (.builtin "str.split") [.str (pat q) t, .str b0 u]) Q E s := by
  refine wpAny_later (KSpl.split1 hF hN b0_pos (fun D l h' k e _ F N l1 => ?_) (by have := pat_len hq; rw [PySem.sizeLine_eq]; omega))
  intro hL
  rw [split_pat hq] at e
  obtain ⟨t1, l1', e1, e2⟩ := KSpl.cons_of e
  obtain ⟨t2, l2', e3, e4⟩ := KSpl.cons_of e2
  have e5 := KSpl.nil_of e4
  subst e1 e3 e5
  exact h D t1 t2 h' k hL F N l1
end
def ReplEl (f : PySem.Str) (news : List (Addr × Obj)) (_b : Nat) (y : Value) (news' : List (Addr × Obj)) : Prop := news' = news ∧ ∃ t, y = .str f t
section
variable {prog : Program} {w : World} {A : Around} {h₀ : Heap} {L : Addr} {m : Str → Option Value} {env : Env} {elt : Expr} {x : Str} {scope : Scope} {cl : List (Str × Addr)} {s : Shared} {S : List (Addr × Obj) → Prop} {Fin : Nat → List Value → List (Addr × Obj) → Prop} {news : List (Addr × Obj)}
theorem laidB {x1 x2 f1 f2 : PySem.Str} {t1 t2 : Tok} {b : Nat}
    (turn : ∀ (x' f' : PySem.Str) t' I oI C oC D m₂ ys h tk (E' : Value → Shared → Prop), ((x' = x1 ∧ f' = f1) ∨ (x' = x2 ∧ f' = f2)) → b ≤ tk → NsObj oC m₂ → m₂ x = some (.str x' t') → Fr h₀ L h m → News h₀ L h ((I, oI) :: (C, oC) :: (D, lst ys) :: news) → Off3 I C D news → ((@Ne Nat I C) ∧ (@Ne Nat I D) ∧ (@Ne Nat C D)) →
      wpAny (model prog w) A (eval elt (compEnvC scope cl C env)) (BEnd h₀ L m { s with heap := h, toks := tk } I oI C oC D (lst ys) S (ReplEl f' news)) E' { s with heap := h, toks := tk })
    (fin : ∀ b' t1' t2', Fin b' [.str f1 t1', .str f2 t2'] news) :
    BRest prog w A h₀ L m env elt x scope cl s S (fun i v => (#[Value.str x1 t1, .str x2 t2] : Array Value)[i]? = some v) Fin 2 b 0 [] news := by
  intro v I oI C oC D m₂ h tk E' hb hv hC hx F N off ne
  have hv' : Value.str x1 t1 = v := Option.some.inj hv
  subst hv'
  refine wpAny_later (wpAny_mono (turn _ f1 _ I oI C oC D m₂ [] h tk E' (.inl ⟨rfl, rfl⟩) hb hC hx F N off ne) (fun y s₂ hq => ?_) fun _ _ e => e)
  obtain ⟨h', tk', nw, e, F', N', off', hS, hn, t', hy'⟩ := hq
  subst hn hy' e
  intro hL
  have hL' : tk ≤ tk' := hL
  have hb' := hb
  refine ⟨h', tk', _, rfl, F', N', off', hS, ?_⟩
  clear F' N' off' hS hL hb hv hC hx F N off ne
  intro v I oI C oC D m₂ h tk2 E' hb2 hv hC hx F N off ne
  have hv' : Value.str x2 t2 = v := Option.some.inj hv
  subst hv'
  refine wpAny_mono (turn _ f2 _ I oI C oC D m₂ _ h tk2 E' (.inr ⟨rfl, rfl⟩) (Nat.le_trans hb' (Nat.le_trans hL' hb2)) hC hx F N off ne) (fun y s₂ hq => ?_) fun _ _ e => e
  obtain ⟨h', tk', nw, e, F', N', off', hS, hn, t', hy'⟩ := hq
  subst hn hy' e
  exact ⟨h', tk', _, rfl, F', N', off', hS, fin _ _ _⟩
theorem laid_end {I C D : Addr} {oI oC oD : Obj} {s₁ : Shared} {h' : Heap} {tk : Nat} {all : List (Addr × Obj)} {r f : PySem.Str} {t : Tok}
    (F : Fr h₀ L h' m) (N : News h₀ L h' all) (sub : ∀ p ∈ (I, oI) :: (C, oC) :: (D, oD) :: news, p ∈ all) (off : Off3 I C D news) (hS : S news) (hr : r = f) :
    BEnd h₀ L m s₁ I oI C oC D oD S (ReplEl f news) (.str r t) { s₁ with heap := h', toks := tk } := ⟨h', tk, news, rfl, F, fun p hp => N p (sub p hp), off, hS, rfl, t, hr ▸ rfl⟩
theorem repl_case {x' f' q z : PySem.Str} (hq : q ∈ marks6) (h : (x' = Str.ofString "" ∧ f' = Str.ofString "") ∨ (x' = q ++ b1 ∧ f' = q ++ z)) : Txt.replace x' b1 z = f' := by
  rcases h with ⟨rfl, rfl⟩ | ⟨rfl, rfl⟩
  · exact repl_empty
  · exact repl_pat hq
theorem repl_len {x' f' q z : PySem.Str} (hq : q ∈ marks6) (h : (x' = Str.ofString "" ∧ f' = Str.ofString "") ∨ (x' = q ++ b1 ∧ f' = q ++ z)) : x'.length ≤ 1000 := by
  have := marks5 hq
  rcases h with ⟨rfl, rfl⟩ | ⟨rfl, rfl⟩
  · rw [len_e]; omega
  · rw [PySem.Str.length_append]; show _ + (Str.ofString "{1}").length ≤ _; rw [len_b1]; omega
end

section
local macro_rules | `(tactic| walk_at "execs cons") => `(tactic| (k_here; with_reducible refine gen_toks ?_; intro tk' htk'; (try dsimp only at htk')))
local macro_rules | `(tactic| walk_at "execs nil") => `(tactic| (k_here; with_reducible refine gen_toks ?_; intro tk' htk'; (try dsimp only at htk')))
local macro_rules | `(tactic| walk_at "Later") => `(tactic| (intro hL'; (try dsimp only at hL')))
local macro_rules | `(tactic| walk_at "call builtin:str.split") => `(tactic| (k_here; refine split_laid (by k_asm) (by k_asm) (by assumption) ?_; intro D' t1' t2' h' k' hk' F' N' l1'; (try dsimp only at hk')))
local macro_rules | `(tactic| walk_at "eval ListComp") => `(tactic| (k_here; k_dflt (refine' eval_comp_B ?k1 ?k2 ?k3 ?k4 ?k5 ?k6 ?_; (case k1 => k_asm); (case k2 => with_unfolding_all rfl); (case k3 => decide); (case k4 => rfl); (case k5 => decide); (case k6 => rfl))))
local macro_rules | `(tactic| walk_at "BSrc") => `(tactic| (k_here; k_dflt (refine BSrc.ledger (by first | rfl | assumption) (by k_asm) (by k_asm) (by k_mem) (by rw [PySem.sizeLine_eq]; decide) ?_; intro g'; (refine laidB (f1 := Str.ofString "") (f2 := _) (fun x'' f'' t'' I' oI' C' oC' D' m' ys' h' tk' E' hcase' hbt' hC' hx' F' N' off' ne' => ?_) (fun b' ta' tb' => ?_)); (all_goals (try (have off0 := off'; simp only [LCg.Off3, and_true] at off'))); kcf_last)))
local macro_rules | `(tactic| walk_at "FinEB") => `(tactic| ((unfold FinEB); intro D' h' tk' hbt' F' N' o1'; (try simp only [LCg.Off1, and_true] at o1'); (try dsimp only)))
local macro_rules | `(tactic| walk_at "call builtin:str.replace") => `(tactic| (k_here; (refine repl_tok (none_booked_of (by k_in) (by assumption)) (by omega) (by omega) (by omega) (repl_len (by assumption) (by assumption)) (by omega) ?_); intro t' k'))
local macro_rules | `(tactic| walk_at "BEnd") => `(tactic| (k_here; refine laid_end (by assumption) (by assumption) (fun _ h => h) (by assumption) (by first | lcg_src | assumption) (repl_case (by assumption) (by assumption))))
local macro_rules | `(tactic| walk_at "call builtin:str.join") => `(tactic| (k_here; (with_reducible show wpAny _ _ (call (Value.builtin "str.join") [Value.str _ _, Value.ref _]) _ _ _); k_dflt (refine' PyProof.Rows.join_list ?kl ?ki ?kok ?_; (case kl => exact News.isList (by k_asm) (by k_mem)); (case ki => exact StrsAre.cons _ _ (StrsAre.cons _ _ StrsAre.nil)); (case kok => have hq5 := marks5 (by assumption); simp only [List.map_cons, List.map_nil, List.sum_cons, List.sum_nil, List.length_cons, List.length_nil, PySem.Str.length_append, len_e]; omega)); intro t' k'))
local macro_rules | `(tactic| k_steps) => `(tactic| repeat' (first | (k_unfold; (try dsimp only)) | walk1 | (dsimp only; walk1) | (leave1; (try dsimp only)) | fail "no step"))

theorem laid {w : World} {A₀ A : Around} {E : Value → Shared → Prop} {s : Shared} {base h₀ : Heap} {outer : List Env} {L : Addr} {m : Str → Option Value} {env : Env} {news : List (Addr × Obj)} {p : Program} {loose : List Str} {mean : ExcName → Option Value} {mg mb : Str → Option Value}
    {q x z : PySem.Str} {t u v : Tok} {Q : Value → Shared → Prop}
    (B : Below A₀ base outer h₀) (F : Fr h₀ L s.heap m) (X₀ : (hd.heap_39 w.params).In h₀) (N : News h₀ L s.heap news) (T : Top p loose mean mg mb h₀) (hA : A.frames = some (env :: outer)) (hf : env.frame = some L) (hke : env.scope.kind = .function)
    (hroom : A.depth < recursionLimit) (hh : A.handled = none) (hq : q ∈ marks6) (hv : @LT.lt Nat _ 0 v) (hvs : @LT.lt Nat _ v s.toks) (hx : x.length ≤ 900) (hz : z.length ≤ 900)
    (h : ∀ h' t' k, Fr h₀ L h' m → News h₀ L h' news → s.toks ≤ k → Q (.str (x ++ (q ++ z)) t') { s with heap := h', toks := k }) :
    wpAny (model PySem.Challenge.rw_nk0011_01.row.prog w) A (call (.ref 200) [.str (pat q) t, .str x u, .str z v] []) Q E s := by
  have hnb : notBooked (hd.heap_39 w.params) = true := by kernel_rfl
  refine wpAny_later (wpAny_call ?_)
  refine' code_cells_tok ?k1 ?k2 ?k3 ?k4 ?k5 ?kA ?kF ?kK ?k6 ?k7 ?k8 ?k9 ?kB ?kD ?_ ?c2 ?c3 ?c4
  case kA => exact hA
  case kF => exact hf
  case kK => exact hke
  case k1 => exact B
  case k2 => exact F
  case k3 => exact X₀
  case k4 => exact N
  case k5 => exact T
  case k6 => exact rfl
  case k7 => exact rfl
  case k8 => exact hroom
  case k9 => exact BindsTo.of_eq rfl
  case kB => exact rfl
  case kD => decide +kernel
  case c2 => exact rfl
  case c3 => exact rfl
  case c4 => exact rfl
  intro g' L' h' tk' cells' hbt' FG' F' N' Y' B' X' T' l1
  k_cells Y'
  (try simp only [List.cons_append, List.nil_append] at N')
  (try dsimp only)
  (try k_fold)
  k_steps
  refine' BSrc.ledger (k := 0) ?hh ?kF ?kN ?km ?ks ?_
  case hh => first | rfl | assumption
  case kF => k_asm
  case kN => k_asm
  case km => k_mem
  case ks => rw [PySem.sizeLine_eq]; exact Nat.le_of_ble_eq_true rfl
  intro g'
  refine laidB (f1 := Str.ofString "") (f2 := q ++ z) (fun x'' f'' t'' I' oI' C' oC' D' m' ys' h' tk' E' hcase' hbt' hC' hx' F' N' off' ne' => ?_) (fun b' ta' tb' => ?_)
  all_goals (try (have off0 := off'; simp only [LCg.Off3] at off'))
  all_goals (try dsimp only at hbt')
  kcf_last
  all_goals k_steps
  all_goals (try ((with_reducible show wpAny _ _ (call _ (_ ++ _) _) _ _ _); dsimp only [List.cons_append, List.nil_append]; k_steps))
  all_goals (try (unfold Later; intro hL'; dsimp only at hL'))
  · rw [join_laid]
    exact h _ _ _ (by assumption) (fun p hp => by rename News h₀ _ _ _ => kN; exact kN p (by repeat (first | exact hp | refine List.Mem.tail _ ?_))) (by assumption)
end
end Mine
end
-- part Rs
section
open PySem PySem.W PyProof.Rows PySem.Calls PySem.Spec
set_option maxRecDepth 100000
set_option maxHeartbeats 2000000
namespace Mine

/-- the fallbacks' dict -/
def fbKvs : List (PySem.Str × Value) := [(Str.ofString "or-narrow", .ref 210), (Str.ofString "or-short", .ref 211), (Str.ofString "standard-narrow", .ref 212), (Str.ofString "standard-short", .ref 213), (Str.ofString "unit", .ref 214), (Str.ofString "unit-narrow", .ref 215), (Str.ofString "unit-short", .ref 216)]
theorem fb_dict {prog : Program} {w : World} {h : Heap} (X : (hd.heap_39 w.params).In h) : h.DictOf (PySem.strKind prog w) 209 fbKvs := by
  refine ⟨_, _, _, X 209 _ rfl, ⟨rfl, rfl, rfl⟩, rfl, ?_, ?_, ?_⟩
  · intro e he
    simp only [List.mem_toArray, List.mem_cons, List.not_mem_nil, or_false] at he
    rcases he with rfl | rfl | rfl | rfl | rfl | rfl | rfl <;> exact ⟨_, strKind_is _ _ _ _, rfl⟩
  · repeat (first | exact Pairs.nil | refine Pairs.cons (strKind_is _ _ _ _) rfl ?_)
  · decide +kernel
theorem fb_look {w : World} {h : Heap} (X : (hd.heap_39 w.params).In h) {st : PySem.Str} {cn : List PySem.Str} (hcm : st :: cn ∈ chains9) :
    (valueAt fbKvs st = none ∧ cn = []) ∨ ∃ a vs, valueAt fbKvs st = some (.ref a) ∧ h.IsList a vs.toArray ∧ StrsAre vs cn := by
  simp only [chains9, List.mem_cons, List.not_mem_nil, or_false] at hcm
  rcases hcm with e | e | e | e | e | e | e | e | e
  · injection e with e1 e2; subst e1 e2; exact .inl ⟨by decide +kernel, rfl⟩
  · injection e with e1 e2; subst e1 e2; exact .inr ⟨213, _, rfl, lstK X rfl, .cons _ _ .nil⟩
  · injection e with e1 e2; subst e1 e2; exact .inr ⟨212, _, rfl, lstK X rfl, .cons _ _ (.cons _ _ .nil)⟩
  · injection e with e1 e2; subst e1 e2; exact .inl ⟨by decide +kernel, rfl⟩
  · injection e with e1 e2; subst e1 e2; exact .inr ⟨211, _, rfl, lstK X rfl, .cons _ _ .nil⟩
  · injection e with e1 e2; subst e1 e2; exact .inr ⟨210, _, rfl, lstK X rfl, .cons _ _ (.cons _ _ .nil)⟩
  · injection e with e1 e2; subst e1 e2; exact .inr ⟨216, _, rfl, lstK X rfl, .cons _ _ .nil⟩
  · injection e with e1 e2; subst e1 e2; exact .inr ⟨214, _, rfl, lstK X rfl, .cons _ _ (.cons _ _ .nil)⟩
  · injection e with e1 e2; subst e1 e2; exact .inr ⟨215, _, rfl, lstK X rfl, .cons _ _ (.cons _ _ (.cons _ _ .nil))⟩
section
variable {prog : Program} {w : World} {A : Around} {E : Value → Shared → Prop} {s : Shared} {h₀ : Heap} {L : Addr} {m : PySem.Str → Option Value} {news : List (Addr × Obj)}
theorem get_chain {st : PySem.Str} {ct : Tok} {cn : List PySem.Str} {dflt : Value} {Q : Value → Shared → Prop} (X : (hd.heap_39 w.params).In s.heap) (hcm : st :: cn ∈ chains9)
    (h1 : ∀ a vs, s.heap.IsList a vs.toArray → StrsAre vs cn → Q (.ref a) { s with toks := s.toks + 1 }) (h2 : cn = [] → Q dflt { s with toks := s.toks + 1 }) :
    wpAny (model prog w) A (call (.builtin "dict.get") [.ref 209, .str st ct, dflt]) Q E s := by
  have hD := fb_dict (prog := prog) X
  refine call_meetsIn PySem.F.slot_dict_get hD.typeIs PySem.F.entry_dict_get (PySem.F.args_dict_get_3 _ _ _) (meets_dict_get_default (PySem.strKind prog w) 209 (strKind_is _ _ st ct) (by decide) dflt) ⟨_, hD.mapOf, ?_⟩
  rcases fb_look X hcm with ⟨e, e2⟩ | ⟨a, vs, e, hl, hs⟩
  · show Q ((valueAt fbKvs st).getD dflt) _
    rw [e]; exact h2 e2
  · show Q ((valueAt fbKvs st).getD dflt) _
    rw [e]; exact h1 a vs hl hs
theorem star_any {a : Addr} {its : Array Value} {Q : List Value → Shared → Prop} (F : Fr h₀ L s.heap m) (N : News h₀ L s.heap news) (hl : s.heap.IsList a its) (hz : its.size ≤ sizeLine)
    (h : ∀ h', Fr h₀ L h' m → News h₀ L h' news → Q its.toList { s with heap := h' }) : StarOf (model prog w) A E (.ref a) Q s := by
  obtain ⟨o, D, hc, n, hd⟩ := hl
  have hT' : s.TypeIs (.ref a) "list" := ⟨o, D, hc⟩
  have z : wpAny (model prog w) A (collect (.ref a)) Q E s := by
    refine wpAny_collect_seq a (.inl rfl) D hc hd (fun h' hk => h h' ?_ fun p hp => ⟨hk _ _ (N p hp).1, (N p hp).2⟩) hz
    obtain ⟨oL, es, ep, hL, r⟩ := F.ns
    exact ⟨⟨oL, es, ep, hk _ _ hL, r⟩, fun b x q => hk _ _ (F.keep b x q), F.above⟩
  unfold StarOf notIterableAtAll
  exact wpAny_bind (wpAny_specialOf hT' PySem.F.slot_list_iter.lookup (wpAny_pure ⟨rfl, z⟩))
end

/-- the end of a turn of the search -/
def FindEnd (h₀ : Heap) (L I : Addr) (oI : Obj) (x : Str) (m₀ : Str → Option Value) (nm : Str) (news : List (Addr × Obj)) (s₁ : Shared) (Qr : Value → Shared → Prop) (f : Flow) (s₂ : Shared) : Prop := match f with
  | .next => ∃ h' tk t m', s₂ = { s₁ with heap := h', toks := tk } ∧ Fr h₀ L h' m' ∧ (∀ y, m' y = if y = x then some (.str nm t) else m₀ y) ∧ News h₀ L h' ((I, oI) :: news)
  | .ret v => Qr v s₂
  | _ => False
def FoundEnd (Qr : Value → Shared → Prop) (f : Flow) (s₂ : Shared) : Prop := match f with
  | .ret v => Qr v s₂
  | _ => False
section
variable {prog : Program} {w : World} {A : Around} {E : Value → Shared → Prop} {s : Shared} {env : Env} {h₀ : Heap} {body : List Stmt} {Q : Flow → Shared → Prop}
theorem firstIn_none {pvs : List (PySem.Str × Value)} {names : List PySem.Str} (h : ∀ (j : Nat) (nm : PySem.Str), names[j]? = some nm → valueAt pvs nm = none) : firstIn pvs names = none := by
  unfold firstIn
  rw [List.findSome?_eq_none_iff]
  intro x hx
  obtain ⟨j, hj, e⟩ := List.mem_iff_getElem.mp hx
  exact h j x (by rw [List.getElem?_eq_getElem hj, e])
theorem firstIn_some {pvs : List (PySem.Str × Value)} {v : Value} {nm : PySem.Str} : ∀ {names : List PySem.Str} {i : Nat}, names[i]? = some nm → valueAt pvs nm = some v → (∀ j, j < i → ∀ z, names[j]? = some z → valueAt pvs z = none) → firstIn pvs names = some v
  | [], _, h, _, _ => by simp at h
  | y :: r, 0, h, hv, _ => by
    have e : y = nm := by simpa using h
    subst e
    unfold firstIn; rw [List.findSome?_cons, hv]
  | y :: r, i + 1, h, hv, hn => by
    have e : valueAt pvs y = none := hn 0 (Nat.succ_pos _) y rfl
    have := firstIn_some (names := r) (i := i) (by simpa using h) hv (fun j hj z hz => hn (j + 1) (Nat.succ_lt_succ hj) z (by simpa using hz))
    unfold firstIn at this ⊢; rw [List.findSome?_cons, e]; exact this
theorem find_turns {tup : Addr} {vs : List Value} {names : List PySem.Str} {m₀ : Str → Option Value} {news : List (Addr × Obj)} {x : Str} {px : Pos} {o : Obj} {k : Nat} {st₀ : PySem.Str} {u₀ : Tok} (pvs : List (PySem.Str × Value))
    (hh : A.handled = none) (hS : StrsAre vs names) (F : Fr h₀ env.locals s.heap m₀) (N : News h₀ env.locals s.heap news) (hm : (tup, o) ∈ news) (hc : o.cls = .type "tuple") (hd : o.data = .seq vs.toArray k)
    (hmx : m₀ x = some (.str st₀ u₀)) (hst₀ : st₀ ∈ names)
    (turnN : ∀ nm t st' t' I oI h tk, nm ∈ names → valueAt pvs nm = none → (∀ p ∈ news, p.1 ≠ I) → Fr h₀ env.locals h (fun y => if y = x then some (.str st' t') else m₀ y) → News h₀ env.locals h ((I, oI) :: news) →
      wpAny (model prog w) A (assign (.Name x px) env (.str nm t)) (fun _ s₂ => wpAny (model prog w) A (execs body env) (FindEnd h₀ env.locals I oI x m₀ nm news { s with heap := h, toks := tk } (fun v s' => Q (.ret v) s')) E s₂) E { s with heap := h, toks := tk })
    (turnS : ∀ nm t v st' t' I oI h tk, nm ∈ names → valueAt pvs nm = some v → firstIn pvs names = some v → (∀ p ∈ news, p.1 ≠ I) → Fr h₀ env.locals h (fun y => if y = x then some (.str st' t') else m₀ y) → News h₀ env.locals h ((I, oI) :: news) →
      wpAny (model prog w) A (assign (.Name x px) env (.str nm t)) (fun _ s₂ => wpAny (model prog w) A (execs body env) (FoundEnd (fun v s' => Q (.ret v) s')) E s₂) E { s with heap := h, toks := tk })
    (done : ∀ st' t' h tk, firstIn pvs names = none → st' ∈ names → Fr h₀ env.locals h (fun y => if y = x then some (.str st' t') else m₀ y) → News h₀ env.locals h news → Q .next { s with heap := h, toks := tk }) :
    wpAny (model prog w) A (pyIter (.ref tup)) (fun it s₂ => TurnsAt prog w A h₀ env (.Name x px) body Q E it s₂) E s := by
  have hT : s.heap.IsTuple tup vs.toArray := ⟨o, (N _ hm).1, hc, k, hd⟩
  refine wpAny_pyIter_tuple hT ?_
  have hlt : tup < s.heap.objs.size := Heap.lt_size (N _ hm).1
  let Inv : Nat → (Str → Option Value) → List (Addr × Obj) → Prop := fun i m nw => nw = news ∧ (∃ st' t', st' ∈ names ∧ m = fun y => if y = x then some (.str st' t') else m₀ y) ∧ (∀ j, j < i → ∀ z, names[j]? = some z → valueAt pvs z = none)
  have up : ∀ b ob, s.heap.get? b = some ob → (s.heap.push { cls := .type "tuple_iterator", data := .fields #[.ref tup, .int 0 0] }).get? b = some ob := fun b ob e => Heap.get?_push_of_some _ e
  have W := Walks.tuple (prog := prog) (w := w) hh s.heap.objs.size tup (Nat.ne_of_lt hlt) vs.toArray
  have hnw : ∀ p ∈ news, p.1 ≠ s.heap.objs.size := fun p hp => Nat.ne_of_lt (Heap.lt_size (N p hp).1)
  have hLt : env.locals < s.heap.objs.size := F.ns.lt
  have hLtup : env.locals ≠ tup := fun e => (N _ hm).2.1 e.symm
  have m0e : m₀ = fun y => if y = x then some (.str st₀ u₀) else m₀ y := by
    funext y
    by_cases e : y = x
    · rw [if_pos e, e, hmx]
    · rw [if_neg e]
  refine ⟨s.heap.objs.size, [s.heap.objs.size, tup], [s.heap.objs.size], vs.toArray.size, _, _, _, m₀, news, Inv, rfl, KTurns.ofWalks W (fun _ v s Q E _ hQ => wpAny_of_eq (t := letOwnedTupleGo (.Name x px) (.ref _) v) rfl hQ), ?_, ?_, ?_, ⟨⟨_, Heap.get?_push_size _ rfl, rfl, rfl⟩, ⟨o, up _ _ (N _ hm).1, hc, k, hd⟩⟩,
    F.keeps up, N.grown up, ⟨rfl, ⟨st₀, u₀, hst₀, m0e⟩, fun j hj => absurd hj (Nat.not_lt_zero j)⟩, ?_, ?_⟩
  · intro hb
    rcases List.mem_cons.mp hb with e | hb
    · exact Nat.ne_of_lt hLt e
    · exact hLtup (List.mem_singleton.mp hb)
  · intro b hb
    rw [List.mem_singleton.mp hb]; exact next_is_new F
  · intro p hp hb
    exact hnw p hp (List.mem_singleton.mp hb)
  · intro i v m₁ news₁ h₁ tk₁ own hi hP hJ hoff hown hget hall hst₁ F₁ N₁
    obtain ⟨rfl, ⟨st', t', hst', rfl⟩, hpre⟩ := hJ
    obtain ⟨⟨oI, hoI, hoc, hod⟩, _⟩ := hst₁
    have hI₀ : h₀.get? s.heap.objs.size = none := next_is_new F
    have hmem := hall _ (.head _) hI₀ oI hoI
    have N₂ : News h₀ env.locals h₁ ((s.heap.objs.size, oI) :: news₁) := fun p hp => by
      rcases List.mem_cons.mp hp with rfl | hp
      · exact N₁ _ (List.mem_append_left _ hmem)
      · exact N₁ _ (List.mem_append_right _ hp)
    have hi' : i < names.length := by rw [← hS.length]; simpa using hi
    obtain ⟨t, et⟩ := hS.get i names[i] (List.getElem?_eq_getElem hi')
    have ev : v = .str names[i] t := by
      have : vs[i]? = some v := by simpa using hP
      rw [et] at this
      exact (Option.some.inj this).symm
    subst ev
    have hmn : names[i] ∈ names := List.getElem_mem hi'
    have fin : ∀ f s₃, FindEnd h₀ env.locals s.heap.objs.size oI x m₀ names[i] news₁ { s with heap := h₁, toks := tk₁ } (fun v s' => Q (.ret v) s') f s₃ → valueAt pvs names[i] = none →
        LoopStepV h₀ env.locals [s.heap.objs.size] own (Inv (i + 1)) { s with heap := h₁, toks := tk₁ } (fun v s' => Q (.ret v) s') (fun s' => Q .next s') f s₃ := by
      intro f s₃ hf hv
      cases f with
      | next =>
        obtain ⟨h', tk, t2, m', e, F', hm', N'⟩ := hf
        refine LoopStepV.next ⟨rfl, h', tk, m', news₁, e, F', fun p hp => ?_, hoff, rfl, ⟨names[i], t2, hmn, funext hm'⟩, fun j hj z hz => ?_⟩
        · rcases List.mem_append.mp hp with hp | hp
          · have h2 := hget p hp
            rcases List.mem_cons.mp (hown p hp) with e1 | e1
            · rw [e1, hoI] at h2
              have h3 : p = (s.heap.objs.size, oI) := Prod.ext e1 (Option.some.inj h2).symm
              rw [h3]; exact N' _ (List.mem_cons_self ..)
            · have e1 := List.mem_singleton.mp e1
              have h4 := (N₁ _ (List.mem_append_right _ hm)).1
              have h5 : h₁.get? tup = some p.2 := e1 ▸ h2
              have h6 : p = (tup, o) := Prod.ext e1 (Option.some.inj (h5.symm.trans h4))
              rw [h6]; exact N' _ (List.mem_cons_of_mem _ hm)
          · exact N' _ (List.mem_cons_of_mem _ hp)
        · rcases Nat.lt_succ_iff_lt_or_eq.mp hj with hj | hj
          · exact hpre j hj z hz
          · subst hj
            rw [List.getElem?_eq_getElem hi'] at hz
            rw [← Option.some.inj hz]; exact hv
      | brk => exact hf.elim
      | cont => exact hf.elim
      | ret v => exact LoopStepV.ret hf
    cases hv : valueAt pvs names[i] with
    | none => exact wpAny_mono (turnN _ t st' t' _ oI h₁ tk₁ hmn hv hnw F₁ N₂) (fun _ s₂ h₂ => wpAny_mono h₂ (fun f s₃ h₃ => fin f s₃ h₃ hv) fun _ _ e => e) fun _ _ e => e
    | some v =>
      refine wpAny_mono (turnS _ t v st' t' _ oI h₁ tk₁ hmn hv (firstIn_some (List.getElem?_eq_getElem hi') hv hpre) hnw F₁ N₂) (fun _ s₂ h₂ => wpAny_mono h₂ (fun f s₃ h₃ => ?_) fun _ _ e => e) fun _ _ e => e
      cases f with
      | next => exact h₃.elim
      | brk => exact h₃.elim
      | cont => exact h₃.elim
      | ret v => exact LoopStepV.ret h₃
  · intro h' tk m' news' F' N' _ hJ
    obtain ⟨rfl, ⟨st', t', hst', rfl⟩, hpre⟩ := hJ
    have hn : firstIn pvs names = none := firstIn_none fun j nm hj => hpre j (by
      rw [List.size_toArray, hS.length]
      exact (List.getElem?_eq_some_iff.mp hj).1) nm hj
    exact done st' t' h' tk hn hst' F' N'
end
/-- the tuple of the chain is there -/
def TupPost (g : Heap) (L : Addr) (m : Str → Option Value) (news : List (Addr × Obj)) (s : Shared) (names : List PySem.Str) (v : Value) (s' : Shared) : Prop :=
  ∃ tup h' tk vs k, v = .ref tup ∧ s' = { s with heap := h', toks := tk } ∧ Fr g L h' m ∧ News g L h' ((tup, { cls := .type "tuple", data := .seq vs k }) :: news) ∧ StrsAre vs.toList names
/-- the patterns are told -/
def PatPost (g : Heap) (L : Addr) (m : Str → Option Value) (news : List (Addr × Obj)) (s : Shared) (b : Addr) (f : Flow) (s' : Shared) : Prop :=
  f = .next ∧ ∃ h' tk m', s' = { s with heap := h', toks := tk } ∧ Fr g L h' m' ∧ (∀ y, m' y = if y = Str.ofString "patterns" then some (.ref b) else m y) ∧ News g L h' news
section
variable {M : Model} {A : Around} {E : Value → Shared → Prop} {s : Shared} {g : Heap} {L : Addr} {m : Str → Option Value} {news : List (Addr × Obj)}
theorem tup_join {t : Sem Value} {Q : Value → Shared → Prop} {names : List PySem.Str} (_F : Fr g L s.heap m) (_N : News g L s.heap news) (h1 : wpAny M A t (TupPost g L m news s names) E s)
    (h2 : ∀ tup h' tk vs k, Fr g L h' m → News g L h' ((tup, { cls := .type "tuple", data := .seq vs k }) :: news) → StrsAre vs.toList names → Q (.ref tup) { s with heap := h', toks := tk }) : wpAny M A t Q E s :=
  wpAny_mono h1 (fun v s' h => by
    obtain ⟨tup, h', tk, vs, k, rfl, rfl, F, N, S⟩ := h
    exact h2 tup h' tk vs k F N S) fun _ _ e => e
theorem pat_join {t : Sem Flow} {Q : Flow → Shared → Prop} {b : Addr} (_F : Fr g L s.heap m) (_N : News g L s.heap news) (h1 : wpAny M A t (PatPost g L m news s b) E s)
    (h2 : ∀ h' tk, s.toks ≤ tk → Fr g L h' (fun y => if y = Str.ofString "patterns" then some (.ref b) else m y) → News g L h' news → Q .next { s with heap := h', toks := tk }) : wpAny M A t Q E s :=
  wpAny_later (wpAny_mono h1 (fun v s' h => by
    obtain ⟨rfl, h', tk, m', rfl, F, hm, N⟩ := h
    have e := funext hm
    subst e
    intro hL
    exact h2 h' tk hL F N) fun _ _ e => e)
end
end Mine
end
-- part Tl
section
open PySem PySem.W PyProof.Rows PySem.Calls PySem.Spec
set_option maxRecDepth 100000
set_option maxHeartbeats 2000000
namespace Mine
section
variable {prog : Program} {w : World} {A : Around} {E : Value → Shared → Prop} {s : Shared} {h₀ : Heap} {L : Addr} {m : PySem.Str → Option Value} {news : List (Addr × Obj)}
theorem sliceApplied_5 {sl : Addr} {u : Tok} {Q : Int × Int × Nat → Shared → Prop} (hs : s.heap.IsSliceOf sl .none (.int 5 u) .none) (h : Q (0, 1, 5) s) :
    wpAny (model prog w) A (Builtin.Slice.sliceApplied (.ref sl) (pure ((5 : Nat) : Int))) Q E s := by
  obtain ⟨os, hos, hcs, hds⟩ := id hs
  unfold Builtin.Slice.sliceApplied Builtin.Slice.sliceFields
  refine wpAny_bind (wpAny_bind (wpAny_field hos hds (x := .none) rfl (wpAny_bind (wpAny_field hos hds (x := .int 5 u) rfl (wpAny_bind (wpAny_field hos hds (x := .none) rfl (wpAny_pure ?_)))))))
  refine wpAny_bind (slicePart_none ?_)
  show wpAny _ _ (if ((1 : Int) == 0) = true then _ else _) _ _ s
  rw [if_neg (by decide)]
  refine wpAny_bind (slicePart_none (wpAny_bind (slicePart_int (wpAny_bind (wpAny_pure ?_)))))
  have e1 : Builtin.Slice.sliceAdjust none (some (5 : Int)) 1 ((5 : Nat) : Int) = (0, 5) := by decide
  show wpAny _ _ (match Builtin.Slice.sliceAdjust none (some (5 : Int)) 1 ((5 : Nat) : Int) with | (lo, hi) => pure (lo, (1 : Int), Builtin.Slice.slicePlaces lo hi 1)) _ _ s
  rw [e1]
  have e2 : Builtin.Slice.slicePlaces (0 : Int) 5 1 = 5 := by decide
  show wpAny _ _ (pure ((0 : Int), (1 : Int), Builtin.Slice.slicePlaces (0 : Int) 5 1)) _ _ s
  rw [e2]
  exact wpAny_pure h
theorem getItem_tuple_5 {t sl : Addr} {items : Array Value} {u : Tok} {Q : Value → Shared → Prop} (ht : IsTup s.heap t items) (hs : s.heap.IsSliceOf sl .none (.int 5 u) .none) (h5 : items.size = 5)
    (h : Q (.ref t) s) : wpAny (model prog w) A (getItem (.ref t) (.ref sl)) Q E s := by
  obtain ⟨os, hos, hcs, hds⟩ := id hs
  have hTs : s.TypeIs (.ref sl) "slice" := ⟨os, hos, hcs⟩
  unfold getItem
  try with_reducible refine wpAny_holding ?_
  first | refine wpAny_bind (wpAny_pure ?_) | skip
  refine wpAny_bind (wpAny_sequenceKey ht.typeIs (by decide) ?_)
  refine wpAny_bind (wpAny_callSpecial?_slot (name := Str.ofString "__getitem__") ht.typeIs PyProof.Rows.slot_tuple_getitem
    (wpAny_call_entry PyProof.Rows.slot_tuple_getitem ht.typeIs PyProof.Rows.entry_tuple_getitem ?_ (PyProof.Rows.args_tuple_getitem _ _)))
  show wpAny _ _ (Builtin.Tuple.tupleItemsOf (.ref t) >>= _) _ _ s
  refine wpAny_bind (tupleItemsOf_ ht ?_)
  refine wpAny_bind (wpAny_typeOf hTs ?_)
  rw [if_pos (by decide)]
  rw [h5]
  refine wpAny_bind (sliceApplied_5 hs ?_)
  show wpAny _ _ (if ((0 : Int) == 0 && (1 : Int) == 1 && (5 : Nat) == 5) = true then _ else _) _ _ s
  rw [if_pos (by decide)]
  unfold Builtin.Tuple.tupleIsExact
  refine wpAny_bind (wpAny_bind (wpAny_typeOf ht.typeIs (wpAny_pure ?_)))
  show wpAny _ _ (if (Value.type "tuple" == Value.type "tuple") = true then _ else _) _ _ s
  rw [if_pos (by decide)]
  first
    | exact wpAny_bind (wpAny_rule (wpAny_pure ⟨_, rfl, wpAny_pure h⟩))
    | exact wpAny_bind (wpAny_rule (wpAny_bind (wpAny_pure (wpAny_pure ⟨_, rfl, wpAny_pure h⟩))))
    | exact wpAny_rule (wpAny_bind (wpAny_pure (wpAny_pure ⟨_, rfl, wpAny_pure h⟩)))
    | exact wpAny_rule (wpAny_pure ⟨_, rfl, wpAny_pure h⟩)
    | exact wpAny_bind (wpAny_bind (wpAny_rule (wpAny_pure (wpAny_pure ⟨_, rfl, wpAny_pure h⟩))))
theorem slice_tuple_5 {value slice : Expr} {t : Addr} {items : Array Value} {u : Tok} {Q : Value → Shared → Prop}
    (F : Fr h₀ L s.heap m) (N : News h₀ L s.heap news) (ht : IsTup s.heap t items) (h5 : items.size = 5)
    (h : ∀ h', Fr h₀ L h' m → News h₀ L h' news → Q (.ref t) { s with heap := h' })
    (hs : subscripted slice false (.ref t) (.ref s.heap.objs.size) = operate [.ref s.heap.objs.size, .ref t] (getItem (.ref t) (.ref s.heap.objs.size)) := by with_unfolding_all rfl)
    (hg : ∀ r, letTemporaryGo value (.ref t) r = pure () := by intro _; with_unfolding_all rfl) :
    wpAny (model prog w) A (subscriptTail value slice (.ref t) (.ref s.heap.objs.size)) Q E { s with heap := s.heap.push { cls := .type "slice", data := .fields #[.none, .int 5 u, .none] } } := by
  have ht' : IsTup (s.heap.push { cls := .type "slice", data := .fields #[.none, .int 5 u, .none] }) t items := ht.keeps fun _ _ e => Heap.get?_push_of_some _ e
  refine subscriptTail_ops (s := { s with heap := s.heap.push { cls := .type "slice", data := .fields #[.none, .int 5 u, .none] } }) ht'.typeIs PyProof.Rows.slot_tuple_getitem.lookup
    (getItem_tuple_5 ht' (Heap.IsSliceOf.new ..) h5 ?_) hs hg
  exact h _ (F.push _) (N.grown fun _ _ e => Heap.get?_push_of_some _ e)
theorem int_rmul_tuple (a : Int) (t : Tok) (l : Addr) (items : Array Value) (n : Nat) :
    Meets (Builtin.«int.__rmul__» ⟨[.int a t, .ref l], []⟩) (fun _ R s => s.heap.get? l = some { cls := .type "tuple", data := .seq items n } ∧ R (.ok (.ret Value.notImplemented)) s) :=
  .of_wp fun prog w A R s h => by obtain ⟨hp, g, d, tk, os⟩ := s; obtain ⟨hl, h⟩ := h; wp_walk; exact ⟨_, rfl, h⟩
theorem tuple_mul0 (u : Tok) (l : Addr) (n : Nat) :
    Meets (Builtin.«tuple.__mul__» ⟨[.ref l, .int 0 u], []⟩) (fun _ R s => s.heap.get? l = some { cls := .type "tuple", data := .seq #[.none] n } ∧ R (.ok (.ret (Value.ref s.heap.objs.size))) { s with heap := s.heap.push { cls := .type "tuple", data := .seq #[] } }) :=
  .of_wp fun prog w A R s h => by
    obtain ⟨hp, g, d, tk, os⟩ := s; obtain ⟨hl, h⟩ := h
    wp_walk
    exact ⟨_, rfl, h⟩
theorem noFill_tuple_mul : fillsNumberSlot (.type "tuple") "mul" = pure false := by
  exact PySem.fillsNumberSlot_seq (id := "tuple.__mul__") (r := some (.builtin "tuple.__rmul__")) PySem.F.slot_tuple_mul.lookup (by decide +kernel) PySem.F.slot_tuple_rmul.lookup (by decide +kernel)
theorem repeat_tuple : seqRepeat? (.type "tuple") = pure (some (.builtin "tuple.__mul__")) := by
  have a := PySem.seqSlot_of (T := "tuple") (name := "__mul__") (id := "tuple.__mul__") PySem.F.slot_tuple_mul.lookup (by decide +kernel)
  have b := PySem.seqSlot_of (T := "tuple") (name := "__rmul__") (id := "tuple.__rmul__") PySem.F.slot_tuple_rmul.lookup (by decide +kernel)
  unfold seqRepeat?
  rw [a, b]
  rfl
theorem mul_tuple_0 {l : Addr} {n : Nat} {u : Tok} {Q : Value → Shared → Prop} (F : Fr h₀ L s.heap m) (N : News h₀ L s.heap news) (hm : (l, ({ cls := .type "tuple", data := .seq #[.none] n } : Obj)) ∈ news)
    (h : ∀ D h', Fr h₀ L h' m → News h₀ L h' ((D, ({ cls := .type "tuple", data := .seq #[] } : Obj)) :: news) → (∀ p ∈ news, p.1 < D) → Q (.ref D) { s with heap := h' }) : wpAny (model prog w) A (binaryOp .Mult (.ref l) (.int 0 u)) Q E s := by
  have ho := (N _ hm).1
  exact wpAny_binaryOp_repeat_ref (T := "tuple") (U := "int") (by decide) ⟨_, ho, rfl⟩ (fun s' => typeIs_int s' 0 u) noFill_tuple_mul PySem.F.fills_int_mul PySem.F.slot_int_rmul repeat_tuple PySem.F.slot_int_index.lookup
    (call_meets PySem.F.slot_int_rmul (typeIs_int s 0 u) PySem.F.entry_int_rmul (PySem.F.args_int_rmul_2 _ _) (int_rmul_tuple 0 u l #[.none] n)
      ⟨ho, rfl, ⟨_, ho, rfl⟩, call_meets PySem.F.slot_tuple_mul ⟨_, ho, rfl⟩ PySem.F.entry_tuple_mul (PySem.F.args_tuple_mul_2 _ _)
        (tuple_mul0 u l n) ⟨ho, h _ _ (F.push _) (News.push F N _) fun p hp => Heap.lt_size (N p hp).1⟩⟩)
/-- a text or none -/
def kOpt : ItemKind (Option PySem.Str) := ⟨fun a v => match a with
    | some x => x.length ≤ 1000 ∧ ∃ t, v = .str x t
    | none => v = .none, fun v => match v with
    | .str x _ => some (some x)
    | .none => some none
    | _ => none, fun a v h => by
      cases a with
      | none => rw [show v = .none from h]
      | some x => obtain ⟨_, t, e⟩ := h; rw [e]⟩
def pOpt : Option PySem.Str → Bool
  | some x => (x.length : Int) != 0
  | none => false
def dOpt : Option PySem.Str → PyData
  | some x => .str x
  | none => .none
theorem eval_part {env : Env} {x : PySem.Str} {px : Pos} {v : Value} {mm : PySem.Str → Option Value} {Q : Value → Shared → Prop} (hk : env.scope.kind = .function) (hx : env.kindOf x = some .local) (hns : s.heap.Ns env.locals mm) (hv : mm x = some v) (h : Q v s) (hd : (x == ("__debug__" : Str)) = false) :
    wpAny (model prog w) A (eval (.Name x px) env) Q E s := wpAny_Name (wpAny_loadName_local hk hx hns hv h) hd
theorem parts_tup {env : Env} {x : PySem.Str} {p1 p2 : Pos} {scope : Scope} {Q : Value → Shared → Prop} {l : Addr} {t1 t2 : Tok} {k : Nat}
    (hh : A.handled = none) (F : Fr h₀ L s.heap m) (N : News h₀ L s.heap news) (hm : (l, ({ cls := .type "tuple", data := .seq #[.str (Str.ofString "en") t1, .none, .str (Str.ofString "US") t2, .none] k } : Obj)) ∈ news)
    (hk : ∀ C, (compEnv scope C env).scope.kind = .function) (hx : ∀ C, (compEnv scope C env).kindOf x = some .local) (hd : (x == ("__debug__" : Str)) = false)
    (h : ∀ D t1' t2' n h' tk, Fr h₀ L h' m → News h₀ L h' ((D, listOf #[.str (Str.ofString "en") t1', .str (Str.ofString "US") t2'] n) :: news) → Q (.ref D) { s with heap := h', toks := tk }) :
    wpAny (model prog w) A (pyIter (.ref l)) (CompPost prog w A env scope x [.Name x p1] (.Name x p2) Q) E s := by
  refine srcC_tupleD (K := kOpt) (pz := pOpt) (d := dOpt) (vs := [.str (Str.ofString "en") t1, .none, .str (Str.ofString "US") t2, .none]) (as := [some (Str.ofString "en"), none, some (Str.ofString "US"), none]) hh (News.isTup N hm)
    (.cons ⟨by decide +kernel, _, rfl⟩ (.cons rfl (.cons ⟨by decide +kernel, _, rfl⟩ (.cons rfl .nil)))) F N ?_ ?_ ?_ (by rw [PySem.sizeLine_eq]; decide)
  · intro C a v s₂ m₂ E' hK hns hmx _
    refine wpAny_tests_one (isTrue_plain (eval_part (hk C) (hx C) hns hmx ?_ hd))
    cases a with
    | none =>
      rw [show v = .none from hK]
      exact PyProof.Rows.truthy_none ⟨rfl, _, _, rfl, fun _ _ e => e⟩
    | some y =>
      obtain ⟨hy, t, e⟩ := hK
      rw [e]
      exact P.truthy_str (by omega) ⟨rfl, _, _, rfl, fun _ _ e => e⟩
  · intro C a v s₂ m₂ E' hK hp hns hmx _
    refine eval_part (hk C) (hx C) hns hmx ?_ hd
    cases a with
    | none => exact absurd hp (by decide)
    | some y =>
      obtain ⟨hy, t, e⟩ := hK
      rw [e]
      exact ⟨.str _ _, _, _, rfl, fun _ _ e => e⟩
  · intro D ys h' tk F' N' hD hl hpl hc
    have hDL : D ≠ L := hpl.ne_locals F'
    obtain ⟨⟨n, e⟩, _⟩ := hpl
    have hc' : CarriedAll ys [.str (Str.ofString "en"), .str (Str.ofString "US")] := hc
    cases hc' with
    | cons c1 r1 =>
      cases r1 with
      | cons c2 r2 =>
        cases r2
        cases c1; cases c2
        exact h D _ _ n h' tk F' (fun p hp => by
          rcases List.mem_cons.mp hp with rfl | hp
          · exact ⟨e, hDL, hD⟩
          · exact N' p hp)
end
end Mine
end
-- part Sd
section
open PySem PySem.W PyProof.Rows PySem.Calls PySem.Spec
set_option maxRecDepth 100000
set_option maxHeartbeats 2000000
namespace Mine

theorem textFrom_le : ∀ (ts : List PySem.Str) (k : Nat) (acc : PySem.Str) (B : Nat), (∀ t ∈ ts, t.length ≤ B) → (textFrom k acc ts).length ≤ acc.length + ts.length * (B + 2)
  | [], k, acc, B, _ => by show acc.length ≤ _; omega
  | t :: r, k, acc, B, h => by
    have ih := textFrom_le r (k + 1) (acc ++ (if k > 0 then ", " else "" : String) ++ t) B (fun x hx => h x (.tail _ hx))
    have ht := h t (.head _)
    have hsep : ((if k > 0 then ", " else "" : String) : PySem.Str).length ≤ 2 := by
      by_cases hk : k > 0
      · rw [if_pos hk]; decide +kernel
      · rw [if_neg hk]; decide +kernel
    refine Nat.le_trans ih ?_
    rw [PySem.Str.length_append, PySem.Str.length_append, List.length_cons, Nat.add_mul]
    omega
theorem listText_le {ts : List PySem.Str} {B : Nat} (h : ∀ t ∈ ts, t.length ≤ B) : (listText ts).length ≤ 2 + ts.length * (B + 2) := by
  have g := textFrom_le ts 0 "[" B h
  have e1 : (("[" : String) : PySem.Str).length = 1 := by decide +kernel
  have e2 : (("]" : String) : PySem.Str).length = 1 := by decide +kernel
  show (textFrom 0 "[" ts ++ "]").length ≤ _
  rw [PySem.Str.length_append]
  rw [e1] at g
  rw [e2]
  omega
theorem shownAll_strs : ∀ (ss : List PySem.Str), PyData.shownAll (ss.map .str) = ss.map reprText
  | [] => rfl
  | x :: r => by
    show PyData.shown (.str x) :: PyData.shownAll (r.map .str) = reprText x :: r.map reprText
    rw [shownAll_strs r]
    rfl
theorem shown_strs_le {ss : List PySem.Str} (h : ∀ z ∈ ss, (reprText z).length ≤ 40) : (PyData.list (ss.map .str)).shown.length ≤ 2 + ss.length * 42 := by
  show (listText (PyData.shownAll (ss.map .str))).length ≤ _
  rw [shownAll_strs]
  have g := listText_le (ts := ss.map reprText) (B := 40) (by
    intro t ht
    obtain ⟨z, hz, e⟩ := List.mem_map.mp ht
    exact e ▸ h z hz)
  rw [List.length_map] at g
  exact g
theorem showable_strs : ∀ (ss : List PySem.Str), PyData.showableAll (ss.map .str) = true
  | [] => rfl
  | x :: r => by
    show (PyData.showable (.str x) && PyData.showableAll (r.map .str)) = true
    rw [showable_strs r]; rfl
theorem hasDict_strs : ∀ (ss : List PySem.Str), PyData.hasDictAll (ss.map .str) = false
  | [] => rfl
  | x :: r => by
    show (PyData.hasDict (.str x) || PyData.hasDictAll (r.map .str)) = false
    rw [hasDict_strs r]; rfl
theorem depth_strs : ∀ (ss : List PySem.Str), PyData.depthAll (ss.map .str) = 0
  | [] => rfl
  | x :: r => by
    show max (PyData.depth (.str x)) (PyData.depthAll (r.map .str)) = 0
    rw [depth_strs r]; rfl
theorem readsAll_strs {h : Heap} : ∀ {vs : List Value} {ss : List PySem.Str}, StrsAre vs ss → ReadsAll h vs (ss.map .str) []
  | _, _, .nil => .nil
  | _, _, .cons x t r => ReadsAll.cons (as := []) (.str x t) (readsAll_strs r)
theorem strs_of_at {kvs : List (PySem.Str × Value)} : ∀ {vs : List Value} {ks : List PySem.Str}, vs.length = ks.length → (∀ (j : Nat) (v : Value), vs[j]? = some v → ∃ k t, ks[j]? = some k ∧ v = .str k t) → StrsAre vs ks
  | [], [], _, _ => .nil
  | [], _ :: _, h, _ => by simp at h
  | _ :: _, [], h, _ => by simp at h
  | v :: vs, k :: ks, h, hv => by
    obtain ⟨k', t, e1, e2⟩ := hv 0 v rfl
    have e1' : k = k' := by simpa using e1
    subst e1' e2
    exact .cons _ _ (strs_of_at (kvs := kvs) (by simpa using h) fun j v hj => hv (j + 1) v (by simpa using hj))
section
variable {prog : Program} {w : World} {A : Around} {E : Value → Shared → Prop} {s : Shared} {h₀ : Heap} {L d : Addr} {m : PySem.Str → Option Value} {news : List (Addr × Obj)} {o : Obj} {kvs : List (PySem.Str × Value)} {Q : Value → Shared → Prop}
theorem sorted_dict (hh : A.handled = none) (F : Fr h₀ L s.heap m) (N : News h₀ L s.heap news) (hp : (d, o) ∈ news) (hd : o.IsDictOf (PySem.strKind prog w) kvs) (lo : (d == sysModules) = false) (hn : kvs.length ≤ 20)
    (h : ∀ D h' tk vs ss e, Fr h₀ L h' m → News h₀ L h' ((D, seqObj "list" vs.toArray e) :: news) → StrsAre vs ss → ss.Perm (kvs.map (·.1)) → Q (.ref D) { s with heap := h', toks := tk }) :
    wpAny (model prog w) A (call (.builtin "sorted") [.ref d]) Q E s := by
  obtain ⟨ep, hat⟩ := (kda_dict N hp hd).dictAt
  refine kdu_sorted (kdl_dict (knd := PySem.strKind prog w) (kvs := kvs) (ep := ep) lo) hh F N hat (by rw [PySem.sizeLine_eq]; omega) fun D h' tk vs F' N' l1 hl hv => ?_
  have hS : StrsAre vs (kvs.map (·.1)) := strs_of_at (kvs := kvs) (by rw [hl, List.length_map]) fun j v hj => by
    obtain ⟨k, x, e1, e2⟩ := hv j v hj
    obtain ⟨t, e3⟩ := Value.isStrOf_shape e2
    exact ⟨k, t, by rw [List.getElem?_map, e1]; rfl, e3⟩
  have ho := (N' _ (.head _)).1
  have hDlt := Heap.lt_size ho
  refine wpAny_call_entry slot_list_sort ⟨_, ho, rfl⟩ entry_list_sort (list_sort_treeK strKind_oneLt (n := 0) ho hS.keysOf (fun v₁ v₂ rest e => keyKind_strs (by rw [← e]; exact hS)) (by rw [hl]; omega) fun st' a1 a2 => ⟨_, rfl, ?_⟩) (args_list_sort _)
  obtain ⟨ss', h1, h2, h3⟩ := sorted_out_str hS a1 a2
  obtain ⟨e, he⟩ := sortedHeap_at (vs := vs) (n := 0) (out := (arrOf st').map (·.2)) ho
  have hD := N' _ (.head _)
  have old : ∀ b ob, b ≠ D → h'.get? b = some ob → (sortedHeap h' D vs ((arrOf st').map (·.2))).get? b = some ob := fun b ob hb eb => (sortedHeap_old hb (Heap.lt_size eb)).trans eb
  refine h D _ _ ((arrOf st').map (·.2)).toList ss' e ?_ ?_ h1 h2
  · obtain ⟨oL, es, epL, hL, r⟩ := F'.ns
    refine ⟨⟨oL, es, epL, old _ _ (fun q => hD.2.1 q.symm) hL, r⟩, fun b x q => old _ _ (fun q' => ?_) (F'.keep b x q), F'.above⟩
    rw [q'] at q
    exact absurd (hD.2.2.symm.trans q) (by simp)
  · intro p hp'
    rcases List.mem_cons.mp hp' with rfl | hp'
    · exact ⟨he, hD.2⟩
    · have g := N' p (.tail _ hp')
      exact ⟨old _ _ (Nat.ne_of_lt (l1 p hp')) g.1, g.2⟩
theorem field_strs {D : Addr} {vs : List Value} {ss : List PySem.Str} {e : Nat} (F : Fr h₀ L s.heap m) (N : News h₀ L s.heap news) (hm : (D, seqObj "list" vs.toArray e) ∈ news) (hS : StrsAre vs ss) (hr : ∀ z ∈ ss, (reprText z).length ≤ 40) (hn : ss.length ≤ 20) (hg : A.guards = some []) (hu : A.units + (64 + 2) < cLine)
    (h : ∀ h' y u tk, y.length ≤ 1000 → Fr h₀ L h' m → News h₀ L h' news → Q (.str y u) { s with heap := h', toks := tk }) : wpAny (model prog w) A (formatField (.ref D) Str.empty) Q E s := by
  have hle := shown_strs_le hr
  have r : Reads s.heap (.ref D) (.list (ss.map .str)) [D] := Reads.list (as := []) (N _ hm).1 rfl rfl (readsAll_strs hS)
  refine field_HN F N r (hasDict_strs ss) (showable_strs ss) hg ?_ (fun h' u tk F' N' => h h' _ u tk (by omega) F' N') (by rw [PySem.sizeLine_eq]; omega)
  have e : (PyData.list (ss.map .str)).depth = 1 := by
    show PyData.depthAll (ss.map .str) + 1 = 1
    rw [depth_strs]
  rw [e]
  omega
end
end Mine
end
-- part Ce
section
open PySem PySem.W PyProof.Rows PySem.Calls PySem.Spec
set_option maxRecDepth 100000
set_option maxHeartbeats 2000000
namespace Mine
section
variable {prog : Program} {w : World} {A₀ : Around} {E : Value → Shared → Prop} {s' : Shared} {h₀ h : Heap} {outer : List Env} {L e t : Addr} {m : PySem.Str → Option Value} {Q : Flow → Shared → Prop} {news : List (Addr × Obj)} {vs : List Value} {X T' : String} {x : PySem.Str} {np pos : Pos} {b₀ : Stmt} {suite : List Stmt} {rest : List ExceptHandler}
/-- an except clause in any frame -/
theorem caught_any {env : Env} (hf : env.frame = some L) (K : Below A₀ h₀ outer h₀) (F : Fr h₀ L h m) (hsm : h.UpToSlots s'.heap) (R : RaisedK h₀ (env :: outer) e (.type X) t vs news s'.heap)
    (hname : ∀ {A : Around} {s₂ : Shared} {Q : Value → Shared → Prop} {E : Value → Shared → Prop}, Fr h₀ L s₂.heap m → Q (.type T') s₂ → wpAny (model prog w) A (eval (.Name x np) env) Q E s₂)
    (hexc : isSubtype (.type T') (.type "BaseException") = pure true) (hnt : isSubtype (.type ((Manifest.find? T').elim "type" fun y => y.metatype)) (.type "tuple") = pure false) (hsub : isSubtype (.type X) (.type T') = pure true)
    (k : ∀ h', Fr h₀ L h' m → News h₀ L h' news → wpAny (model prog w) ((A₀.deeper env).mark (some (.ref e))) (execs (b₀ :: suite) env) Q E { s' with heap := h' })
    (hE : PassesOwnAt (model prog w) ((A₀.deeper env).mark (some (.ref e))) (A₀.deeper env) env E) :
    wpAny (model prog w) (A₀.deeper env) (noteFrame (.ref e) env)
      (fun _ s₂ => wpAny (model prog w) (A₀.deeper env) (setFlight (.ref e) none) (fun _ s₃ =>
        wpAny (model prog w) (A₀.deeper env) (handleBy (.ref e) env (.ExceptHandler (some (.Name x np)) none (b₀ :: suite) pos :: rest)) Q E s₃) E s₂) E s' := by
  obtain ⟨⟨B, hB, hl, hfl, hnew⟩, htup⟩ := R
  have hL : B.get? L = none := by
    obtain ⟨_, ⟨L', _, hf', hn', _⟩, _⟩ := hfl.2.2.1
    have e1 : L = L' := Option.some.inj (hf.symm.trans hf')
    rw [e1]; exact hn'
  refine wpAny_looks_onW (Around.frames_deeper K.stack) hf hfl fun h₄ q₄ u₄ => ?_
  refine wpAny_landsW q₄ fun h₅ q₅ u₅ => ?_
  have U₅ := hsm.trans (u₄.trans u₅)
  have q₅' := flyingW_base hB q₅
  obtain ⟨ob, hob, hobc⟩ := q₅'.there
  refine wpAny_handleBy_builtin (X := X) (T := T') (b := true) hexc hnt hsub (hname (F.of_stays q₅'.1 U₅) ⟨rfl, ⟨ob, hob, hobc⟩, ?_⟩)
  refine lands_againW q₅ fun h₆ q₆ u₆ => ?_
  have q₆' := flyingW_base hB q₆
  exact wpAny_passesOwnAt hE (k h₆ (F.of_stays q₆'.1 (U₅.trans u₆)) fun p hp => ⟨q₆.1 _ _ (hl p hp).1, (fun z => by have g := (hl p hp).1; rw [z, hL] at g; cases g), (hl p hp).2⟩)
end
end Mine
end
-- part Fl
section
open PySem PySem.W PyProof.Rows PySem.Calls PySem.Spec
set_option maxRecDepth 100000
set_option maxHeartbeats 2000000
namespace Mine
open LCg

/-! texts -/
theorem app_assoc (a b c : PySem.Str) : (a ++ b) ++ c = a ++ (b ++ c) := by
  show PySem.Str.append (PySem.Str.append a b) c = PySem.Str.append a (PySem.Str.append b c)
  simp [PySem.Str.append, Array.append_assoc]
theorem e_app (a : PySem.Str) : Str.ofString "" ++ a = a := by
  have e : Str.ofString "" = (⟨#[]⟩ : PySem.Str) := by decide +kernel
  rw [e]
  show PySem.Str.append ⟨#[]⟩ a = a
  simp [PySem.Str.append]
theorem app_e (a : PySem.Str) : a ++ Str.ofString "" = a := by
  have e : Str.ofString "" = (⟨#[]⟩ : PySem.Str) := by decide +kernel
  rw [e]
  show PySem.Str.append a ⟨#[]⟩ = a
  simp [PySem.Str.append]
theorem fold_app : ∀ (r : List PySem.Str) (a b : Array Nat), r.foldl (fun acc (p : PySem.Str) => acc ++ #[] ++ p.cps) (a ++ b) = a ++ r.foldl (fun acc (p : PySem.Str) => acc ++ #[] ++ p.cps) b
  | [], _, _ => rfl
  | p :: r, a, b => by
    show r.foldl _ (a ++ b ++ #[] ++ p.cps) = a ++ r.foldl _ (b ++ #[] ++ p.cps)
    rw [← fold_app r a (b ++ #[] ++ p.cps)]
    congr 1
    simp [Array.append_assoc]
theorem join_e : ∀ (x : PySem.Str) (r : List PySem.Str), Txt.join (Str.ofString "") (x :: r) = x ++ Txt.join (Str.ofString "") r := by
  intro x r
  have e : Str.ofString "" = (⟨#[]⟩ : PySem.Str) := by decide +kernel
  cases r with
  | nil =>
    have h1 := join_one x
    have h2 : Txt.join (Str.ofString "") [x] = x := (eq_of_beq h1).symm
    have h3 : Txt.join (Str.ofString "") [] = Str.ofString "" := (eq_of_beq join_nil).symm
    rw [h2, h3, app_e]
  | cons y r =>
    rw [e]
    show (PySem.Txt.join ⟨#[]⟩ (x :: y :: r) : PySem.Str) = x ++ PySem.Txt.join ⟨#[]⟩ (y :: r)
    have g := fold_app r x.cps y.cps
    show (⟨(y :: r).foldl (fun acc (p : PySem.Str) => acc ++ #[] ++ p.cps) x.cps⟩ : PySem.Str) = ⟨x.cps ++ r.foldl (fun acc (p : PySem.Str) => acc ++ #[] ++ p.cps) y.cps⟩
    rw [← g]
    show (⟨r.foldl (fun acc (p : PySem.Str) => acc ++ #[] ++ p.cps) (x.cps ++ #[] ++ y.cps)⟩ : PySem.Str) = _
    rw [Array.append_empty]
def accOf (q : PySem.Str) (a : PySem.Str) (l : List PySem.Str) : PySem.Str := l.foldl (fun acc z => acc ++ (q ++ z)) a
theorem acc_join (q : PySem.Str) : ∀ (l : List PySem.Str) (a : PySem.Str), accOf q a l = a ++ Txt.join (Str.ofString "") (l.map (q ++ ·))
  | [], a => by
    have h3 : Txt.join (Str.ofString "") [] = Str.ofString "" := (eq_of_beq join_nil).symm
    show a = a ++ Txt.join (Str.ofString "") []
    rw [h3, app_e]
  | z :: r, a => by
    show accOf q (a ++ (q ++ z)) r = a ++ Txt.join (Str.ofString "") ((q ++ z) :: r.map (q ++ ·))
    rw [acc_join q r, join_e, app_assoc]
theorem acc_snoc (q a z : PySem.Str) (l : List PySem.Str) : accOf q a (l ++ [z]) = accOf q a l ++ (q ++ z) := by
  unfold accOf
  rw [List.foldl_append]; rfl
theorem two_eq (x q y : PySem.Str) : (x ++ (q ++ y) == (x ++ q) ++ y) = true := by
  rw [app_assoc]; exact beq_self_eq_true _
theorem more_eq (x0 q2 x1 q3 q4 z : PySem.Str) (l : List PySem.Str) :
    (accOf q3 (x0 ++ (q2 ++ x1)) l ++ (q4 ++ z) == ((((x0 ++ q2) ++ x1) ++ Txt.join (Str.ofString "") (l.map (q3 ++ ·))) ++ q4) ++ z) = true := by
  rw [acc_join, app_assoc x0 q2 x1, app_assoc _ q4 z]
  exact beq_self_eq_true _
theorem accOf_len {q : PySem.Str} (hq : q.length ≤ 5) : ∀ (l : List PySem.Str) (a : PySem.Str), (∀ z ∈ l, z.length ≤ 10) → (accOf q a l).length ≤ a.length + l.length * 15
  | [], a, _ => by show a.length ≤ _; omega
  | z :: r, a, h => by
    have g := accOf_len hq r (a ++ (q ++ z)) (fun y hy => h y (.tail _ hy))
    have hz := h z (.head _)
    refine Nat.le_trans (show (accOf q (a ++ (q ++ z)) r).length ≤ _ from g) ?_
    rw [PySem.Str.length_append, PySem.Str.length_append, List.length_cons, Nat.add_mul]
    omega
theorem sum_len {q : PySem.Str} (hq : q.length ≤ 5) : ∀ (l : List PySem.Str), (∀ z ∈ l, z.length ≤ 10) → ((l.map (q ++ ·)).map (·.length)).sum ≤ l.length * 15
  | [], _ => Nat.zero_le _
  | z :: r, h => by
    have g := sum_len hq r (fun y hy => h y (.tail _ hy))
    have hz := h z (.head _)
    simp only [List.map_cons, List.sum_cons, List.length_cons, PySem.Str.length_append, Nat.add_mul] at g ⊢
    omega
theorem join_len {q : PySem.Str} (hq : q.length ≤ 5) : ∀ (l : List PySem.Str), (∀ z ∈ l, z.length ≤ 10) → (Txt.join (Str.ofString "") (l.map (q ++ ·))).length ≤ l.length * 15
  | [], _ => by
    have h3 : Txt.join (Str.ofString "") [] = Str.ofString "" := (eq_of_beq join_nil).symm
    show (Txt.join (Str.ofString "") []).length ≤ _
    rw [h3, len_e]; omega
  | z :: r, h => by
    have g := join_len hq r (fun y hy => h y (.tail _ hy))
    have hz := h z (.head _)
    show (Txt.join (Str.ofString "") ((q ++ z) :: r.map (q ++ ·))).length ≤ _
    rw [join_e, PySem.Str.length_append, PySem.Str.length_append, List.length_cons, Nat.add_mul]
    omega
theorem pat_at2 (a b c d : Value) : valueAt [(Str.ofString "2", a), (Str.ofString "start", b), (Str.ofString "middle", c), (Str.ofString "end", d)] (Str.ofString "2") = some a := by rfl
theorem pat_ats (a b c d : Value) : valueAt [(Str.ofString "2", a), (Str.ofString "start", b), (Str.ofString "middle", c), (Str.ofString "end", d)] (Str.ofString "start") = some b := by rfl
theorem pat_atm (a b c d : Value) : valueAt [(Str.ofString "2", a), (Str.ofString "start", b), (Str.ofString "middle", c), (Str.ofString "end", d)] (Str.ofString "middle") = some c := by rfl
theorem pat_ate (a b c d : Value) : valueAt [(Str.ofString "2", a), (Str.ofString "start", b), (Str.ofString "middle", c), (Str.ofString "end", d)] (Str.ofString "end") = some d := by rfl
/-! the middle of a list -/
theorem mid_pick {x0 x1 : Value} {ys : List Value} {z : Value} : (slicePick (x0 :: x1 :: (ys ++ [z])).toArray (some 2) (some (-1)) none).toList = ys := by
  have e : sliceBounds (some 2) (some (-1)) none (x0 :: x1 :: (ys ++ [z])).toArray.size = (((2 : Nat) : Int), ((ys.length + 2 : Nat) : Int), 1) := by
    have hn : (x0 :: x1 :: (ys ++ [z])).toArray.size = ys.length + 3 := by simp
    rw [hn]
    unfold sliceBounds
    simp
    omega
  rw [kmk_pick_nat _ e]
  simp
section
variable {prog : Program} {w : World} {A : Around} {E : Value → Shared → Prop} {s : Shared} {h₀ : Heap} {L : Addr} {m : PySem.Str → Option Value} {news : List (Addr × Obj)} {Q : Value → Shared → Prop}
theorem item_last {value slice : PySem.Expr} {l : Addr} {x0 x1 z : Value} {ys : List Value} {u : Tok} (hl : s.heap.IsList l (x0 :: x1 :: (ys ++ [z])).toArray) (h : Q z s)
    (hs : subscripted slice false (.ref l) (.int (-1) u) = operate [.ref l, .int (-1) u] (getItem (.ref l) (.int (-1) u)) := by with_unfolding_all rfl) :
    wpAny (model prog w) A (subscriptTail value slice (.ref l) (.int (-1) u)) Q E s := by
  refine kde_neg (j := ys.length + 2) hl (by decide) (by decide) ?_ ?_ h hs
  · have hn : (x0 :: x1 :: (ys ++ [z])).length = ys.length + 3 := by simp
    rw [hn]
    unfold seqIndex?
    dsimp only
    have e1 : (if (-1 : Int) < 0 then -1 + ((ys.length + 3 : Nat) : Int) else -1) = ((ys.length + 2 : Nat) : Int) := by
      rw [if_pos (by decide)]; omega
    rw [e1, if_pos (by simp; omega)]
    rfl
  · simp
theorem eq_empty {a c : Addr} {v : Value} {its : List Value} {n1 n2 : Nat} (N : News h₀ L s.heap news) (h1 : (a, listOf (v :: its).toArray n1) ∈ news) (h2 : (c, listOf ([] : List Value).toArray n2) ∈ news) (hu : A.units < cLine) (h : Q (.bool false) s) :
    wpAny (model prog w) A (compareOp .Eq (.ref a) (.ref c)) Q E s := by
  exact P.eq_list_lengths (N _ h1).1 (N _ h2).1 (by simp) hu h
theorem eq_yes {a b : Int} {t u : Tok} {Q : Value → Shared → Prop} (he : a = b) (h : Q (.bool true) s) : wpAny (model prog w) A (compareOp .Eq (.int a t) (.int b u)) Q E s :=
  PyProof.Rows.eq_int (by rw [he, beq_self_eq_true]; exact h)
end
end Mine
end
-- part Ml
section
open PySem PySem.W PyProof.Rows PySem.Calls PySem.Spec
set_option maxRecDepth 100000
set_option maxHeartbeats 2000000
namespace Mine
open LCg

/-- the end of a turn over the middle -/
def MidEnd (h₀ : Heap) (L I : Addr) (oI : Obj) (news : List (Addr × Obj)) (s₁ : Shared) (J : (Str → Option Value) → Prop) (f : Flow) (s₂ : Shared) : Prop :=
  f = .next ∧ ∃ h' tk m', s₂ = { s₁ with heap := h', toks := tk } ∧ Fr h₀ L h' m' ∧ J m' ∧ News h₀ L h' ((I, oI) :: news)
section
variable {prog : Program} {w : World} {A : Around} {E : Value → Shared → Prop} {s : Shared} {env : Env} {h₀ : Heap} {body : List Stmt} {Q : Flow → Shared → Prop}
theorem mid_loop {D : Addr} {vs : List Value} {ws : List PySem.Str} {m₀ : Str → Option Value} {news : List (Addr × Obj)} {x : Str} {px : Pos} {o : Obj} {k b : Nat}
    (J : List PySem.Str → (Str → Option Value) → Prop) (hb : b ≤ s.toks)
    (hh : A.handled = none) (hT : Toks b vs ws) (F : Fr h₀ env.locals s.heap m₀) (N : News h₀ env.locals s.heap news) (hm : (D, o) ∈ news) (hc : o.cls = .type "list") (hd : o.data = .seq vs.toArray k) (h0 : J [] m₀)
    (turn : ∀ pre z t m₁ I oI h tk, z ∈ ws → @LT.lt Nat _ 0 t → @LT.lt Nat _ t b → b ≤ tk → pre.length < ws.length → (∀ y ∈ pre, y ∈ ws) → J pre m₁ → (∀ p ∈ news, p.1 ≠ I) → Fr h₀ env.locals h m₁ → News h₀ env.locals h ((I, oI) :: news) →
      wpAny (model prog w) A (assign (.Name x px) env (.str z t)) (fun _ s₂ => wpAny (model prog w) A (execs body env) (MidEnd h₀ env.locals I oI news { s with heap := h, toks := tk } (J (pre ++ [z]))) E s₂) E { s with heap := h, toks := tk })
    (done : ∀ m₁ h tk, b ≤ tk → J ws m₁ → Fr h₀ env.locals h m₁ → News h₀ env.locals h news → Q .next { s with heap := h, toks := tk })
    (hE : PassesOwn (model prog w) A env E) :
    wpAny (model prog w) A (pyIter (.ref D)) (fun it s₂ => codeAny (model prog w) A (.forLoop (.Name x px) it body [] env) (fun r s' => match r with | .ok f => Q f s' | .error e => cameBackBy (model prog w) A env E e s') s₂) E s := by
  have hl : s.heap.IsList D vs.toArray := ⟨o, (N _ hm).1, hc, k, hd⟩
  refine wpAny_pyIter_list hl ?_
  have hlt : D < s.heap.objs.size := Heap.lt_size (N _ hm).1
  have up : ∀ b' ob, s.heap.get? b' = some ob → (s.heap.push { cls := .type "list_iterator", data := .fields #[.ref D, .int 0 0] }).get? b' = some ob := fun b' ob e => Heap.get?_push_of_some _ e
  have W := Walks.list (prog := prog) (w := w) hh s.heap.objs.size D (Nat.ne_of_lt hlt) vs.toArray
  have hnw : ∀ p ∈ news, p.1 ≠ s.heap.objs.size := fun p hp => Nat.ne_of_lt (Heap.lt_size (N p hp).1)
  have hLI : env.locals ≠ s.heap.objs.size := Nat.ne_of_lt F.ns.lt
  have hI₀ : h₀.get? s.heap.objs.size = none := next_is_new F
  have hln : vs.toArray.size = ws.length := by rw [List.size_toArray]; exact hT.are.length
  refine codeAny_forLoop_any
    (fun j s' => ∃ h' tk m' i, s' = { s with heap := h', toks := tk } ∧ b ≤ tk ∧ (h'.IsListIter s.heap.objs.size D i ∧ h'.IsList D vs.toArray) ∧ Fr h₀ env.locals h' m' ∧ News h₀ env.locals h' news ∧ J (ws.take i) m' ∧ i ≤ ws.length ∧ j = ws.length + 1 - i) ?_ (ws.length + 1)
    ⟨_, s.toks, m₀, 0, rfl, hb, ⟨⟨_, Heap.get?_push_size _ rfl, rfl, rfl⟩, hl.push _⟩, F.keeps up, N.grown up, by rw [List.take_zero]; exact h0, Nat.zero_le _, rfl⟩
  rintro j s' ⟨h', tk, m', i, rfl, hbt, hst, F', N', hJ, hi, rfl⟩
  have next : ∀ h₁ : Heap, (∀ b' ob, b' ∉ [s.heap.objs.size] → h'.get? b' = some ob → h₁.get? b' = some ob) → Fr h₀ env.locals h₁ m' ∧ News h₀ env.locals h₁ news := fun h₁ hk₁ =>
    ⟨⟨F'.ns.at' fun ob e => hk₁ _ ob (by simpa using hLI) e, fun b' ob e => hk₁ b' ob (by simpa using fun q : b' = s.heap.objs.size => by rw [q, hI₀] at e; cases e) (F'.keep b' ob e), F'.above⟩,
      fun p hp => ⟨hk₁ _ _ (by simpa using hnw p hp) (N' p hp).1, (N' p hp).2⟩⟩
  refine wpAny_later ?_
  by_cases hlt' : i < ws.length
  · refine W.item i _ _ _ (by rw [hln]; exact hlt') hst fun v h₁ tk₁ hP hst₁ hk₁ => ?_
    intro hL
    have hL' : tk ≤ tk₁ := hL
    obtain ⟨F₁, N₁⟩ := next h₁ hk₁
    obtain ⟨t, et⟩ := hT.are.get i ws[i] (List.getElem?_eq_getElem hlt')
    have ev : v = .str ws[i] t := by
      have q : vs[i]? = some v := by simpa using hP
      rw [et] at q
      exact (Option.some.inj q).symm
    subst ev
    have ht := hT.at (List.mem_of_getElem? et)
    obtain ⟨⟨oI, hoI, hoc, hod⟩, _⟩ := id hst₁
    have N₂ : News h₀ env.locals h₁ ((s.heap.objs.size, oI) :: news) := fun p hp => by
      rcases List.mem_cons.mp hp with rfl | hp
      · exact ⟨hoI, Ne.symm hLI, hI₀⟩
      · exact N₁ _ hp
    have htk : (ws.take i).length < ws.length := by rw [List.length_take]; omega
    have hmw : ws[i] ∈ ws := List.getElem_mem hlt'
    refine wpAny_of_eq (t := letOwnedTupleGo (.Name x px) (.ref s.heap.objs.size) (.str ws[i] t)) rfl ?_
    refine wpAny_later (wpAny_mono (turn (ws.take i) ws[i] t m' s.heap.objs.size oI h₁ tk₁ hmw ht.2.1 ht.2.2 (Nat.le_trans hbt hL') htk (fun y hy => List.mem_of_mem_take hy) hJ hnw F₁ N₂) (fun _ s₂ h₂ => ?_) hE)
    intro hA
    have hA' : tk₁ ≤ s₂.toks := hA
    refine wpAny_later (wpAny_passesOwn hE (wpAny_mono h₂ (fun f s₃ h₃ => ?_) fun _ _ e => e))
    intro hB
    obtain ⟨rfl, h2, tk2, m2, rfl, F2, hJ2, N2'⟩ := h₃
    have hB' : s₂.toks ≤ tk2 := hB
    have gI := (N2' _ (List.mem_cons_self ..)).1
    have gD := (N2' _ (List.mem_cons_of_mem _ hm)).1
    refine ⟨ws.length + 1 - (i + 1), by omega, h2, tk2, m2, i + 1, rfl, Nat.le_trans hbt (Nat.le_trans hL' (Nat.le_trans hA' hB')), ⟨⟨oI, gI, hoc, hod⟩, ⟨o, gD, hc, k, hd⟩⟩, F2, fun p hp => N2' p (List.mem_cons_of_mem _ hp), ?_, hlt', rfl⟩
    have e : ws.take (i + 1) = ws.take i ++ [ws[i]] := by rw [List.take_add_one, List.getElem?_eq_getElem hlt']; rfl
    rw [e]
    exact hJ2
  · have hin : i = ws.length := by omega
    refine W.done _ _ _ (by rw [hln, ← hin]; exact hst) fun h₁ tk₁ hk₁ => ?_
    intro hL
    have hL' : tk ≤ tk₁ := hL
    obtain ⟨F₁, N₁⟩ := next h₁ hk₁
    rw [hin, List.take_length] at hJ
    exact wpAny_execs_nil (done m' h₁ tk₁ (Nat.le_trans hbt hL') hJ F₁ N₁)
end
section
variable {prog : Program} {w : World} {A : Around} {h₀ : Heap} {L : Addr} {m : Str → Option Value} {env : Env} {elt : Expr} {x : Str} {scope : Scope} {cl : List (Str × Addr)} {s : Shared} {S : List (Addr × Obj) → Prop} {Fin : Nat → List Value → List (Addr × Obj) → Prop} {news : List (Addr × Obj)}
theorem midB {q : PySem.Str} {vs : List Value} {ws : List PySem.Str} {b : Nat} (hi : StrsAre vs ws)
    (turn : ∀ z t I oI C oC D m₂ ys h tk (E' : Value → Shared → Prop), z ∈ ws → NsObj oC m₂ → m₂ x = some (.str z t) → Fr h₀ L h m → News h₀ L h ((I, oI) :: (C, oC) :: (D, lst ys) :: news) → Off3 I C D news → ((@Ne Nat I C) ∧ (@Ne Nat I D) ∧ (@Ne Nat C D)) →
      wpAny (model prog w) A (eval elt (compEnvC scope cl C env)) (BEnd h₀ L m { s with heap := h, toks := tk } I oI C oC D (lst ys) S (ReplEl (q ++ z) news)) E' { s with heap := h, toks := tk })
    (fin : ∀ b' ys, StrsAre ys (ws.map (q ++ ·)) → Fin b' ys news) :
    BRest prog w A h₀ L m env elt x scope cl s S (fun i v => vs.toArray[i]? = some v) Fin vs.toArray.size b 0 [] news := by
  have key : ∀ (j i b : Nat) (ys : List Value), i + j = ws.length → StrsAre ys ((ws.take i).map (q ++ ·)) → BRest prog w A h₀ L m env elt x scope cl s S (fun i v => vs.toArray[i]? = some v) Fin j b i ys news := by
    intro j
    induction j with
    | zero =>
      intro i b ys hij hy
      have e : ws.take i = ws := List.take_of_length_le (by omega)
      rw [e] at hy
      exact fin b ys hy
    | succ j ih =>
      intro i b ys hij hy v I oI C oC D m₂ h tk E' hbt hv hC hx F N off ne
      have hlt : i < ws.length := by omega
      obtain ⟨t, et⟩ := hi.get i ws[i] (List.getElem?_eq_getElem hlt)
      have ev : v = .str ws[i] t := by
        have g : vs[i]? = some v := by simpa using hv
        rw [et] at g
        exact (Option.some.inj g).symm
      subst ev
      refine wpAny_mono (turn ws[i] t I oI C oC D m₂ ys h tk E' (List.getElem_mem hlt) hC hx F N off ne) (fun y s₂ hq => ?_) fun _ _ e => e
      obtain ⟨h', tk', nw, e, F', N', off', hS, hn, t', hy'⟩ := hq
      subst hn hy' e
      refine ⟨h', tk', _, rfl, F', N', off', hS, ?_⟩
      refine ih (i + 1) tk' _ (by omega) ?_
      have e : ws.take (i + 1) = ws.take i ++ [ws[i]] := by rw [List.take_add_one, List.getElem?_eq_getElem hlt]; rfl
      rw [e, List.map_append]
      exact strs_snoc hy
  have e : vs.toArray.size = ws.length := by rw [List.size_toArray]; exact hi.length
  rw [e]
  exact key ws.length 0 b [] (by omega) .nil
end
theorem Toks.last {b : Nat} : ∀ {vs : List Value} {ws : List PySem.Str}, Toks b vs ws → (vs = [] ∧ ws = []) ∨ ∃ ys yw z t, vs = ys ++ [Value.str z t] ∧ ws = yw ++ [z] ∧ Toks b ys yw ∧ @LT.lt Nat _ 0 t ∧ @LT.lt Nat _ t b
  | _, _, .nil => .inl ⟨rfl, rfl⟩
  | _, _, .cons x t h1 h2 r => by
    rcases r.last with ⟨rfl, rfl⟩ | ⟨ys, yw, z, u, rfl, rfl, hr, g1, g2⟩
    · exact .inr ⟨[], [], x, t, rfl, rfl, .nil, h1, h2⟩
    · exact .inr ⟨.str x t :: ys, x :: yw, z, u, rfl, rfl, .cons x t h1 h2 hr, g1, g2⟩
theorem mem_len {yw : List PySem.Str} {z : PySem.Str} (h : ∀ y ∈ yw, y.length ≤ 10) (hz : z ∈ yw) : z.length ≤ 10 := h z hz
theorem fr_form_m {base : Heap} {L : Addr} {h : Heap} {m : PySem.Str → Option Value} {v1 v2 v3 : Value} (F : Fr base L h m) (h1 : m (Str.ofString "patterns") = some v1) (h2 : m (Str.ofString "lst") = some v2) (h3 : m (Str.ofString "result") = some v3) :
    Fr base L h (fun y => if y = Str.ofString "result" then some v3 else if y = Str.ofString "patterns" then some v1 else if y = Str.ofString "lst" then some v2 else m y) := by
  have e : (fun y => if y = Str.ofString "result" then some v3 else if y = Str.ofString "patterns" then some v1 else if y = Str.ofString "lst" then some v2 else m y) = m := by
    funext y
    by_cases e1 : y = Str.ofString "result"
    · rw [if_pos e1, e1, h3]
    · rw [if_neg e1]
      by_cases e2 : y = Str.ofString "patterns"
      · rw [if_pos e2, e2, h1]
      · rw [if_neg e2]
        by_cases e3 : y = Str.ofString "lst"
        · rw [if_pos e3, e3, h2]
        · rw [if_neg e3]
  rw [e]; exact F
end Mine
end
-- the walk
section
open PySem PySem.W PyProof.Rows PySem.Calls
set_option maxRecDepth 100000
set_option maxHeartbeats 8000000
namespace Mine
def GSMark : Prop := True
structure Box (P : Prop) : Prop where
  out : P
theorem items8 {r : PySem.Str} (h : r ∈ [Str.ofString "a", Str.ofString "bc", Str.ofString "", Str.ofString "{0}", Str.ofString "{1}", Str.ofString "x{1}y{0}", Str.ofString "}", Str.ofString "{2}"]) : r.length ≤ 8 := by
  revert r
  decide +kernel
local macro_rules | `(tactic| walk_at "execs cons") => `(tactic| (k_here; with_reducible refine gen_toks ?_; intro tk' htk'; (try dsimp only at htk')))
local macro_rules | `(tactic| walk_at "execs nil") => `(tactic| (k_here; with_reducible refine gen_toks ?_; intro tk' htk'; (try dsimp only at htk')))
local macro_rules | `(tactic| walk_at "Later") => `(tactic| (intro hL'; (try dsimp only at hL')))
local macro_rules | `(tactic| walk_at "And") => `(tactic| ((with_reducible show MethP _ _ _ _ _ ∧ _); refine ⟨?_, ?_⟩))
local macro_rules | `(tactic| walk_at "pyIter ref") => `(tactic| ((with_reducible show wpAny _ _ (pyIter (Value.ref _)) (fun it s₂ => TurnsAt _ _ _ _ _ _ _ _ _ it s₂) _ _); refine stop_intro ?_))
local macro_rules | `(tactic| walk_at "exec For Name Call cons nil") => `(tactic| (k_here; (first | (with_reducible show wpAny _ _ _ (fun _ _ => Later _ _ _) _ _) | refine wpAny_later ?_); (rename Fr _ _ _ _ => lF'); (with_unfolding_all refine' For_turns lF' ?_; k_whole)))
local macro_rules | `(tactic| walk_at "exec For Name Name cons nil") => `(tactic| (k_here; (first | (with_reducible show wpAny _ _ _ (fun _ _ => Later _ _ _) _ _) | refine wpAny_later ?_); (rename Fr _ _ _ _ => lF'); (with_unfolding_all refine' For_turns lF' ?_; k_whole)))
local macro_rules | `(tactic| walk_at "exec Assign cons ListComp") => `(tactic| (k_here; (with_reducible show wpAny _ _ (exec (Stmt.Assign [Expr.Name (Str.ofString "marks") _] _ _) _) _ _ _); k_dflt (refine' pairs_assign ?k1 ?k2 ?k3 ?k4 ?k5 ?k6 ?k7 ?k8 ?k9 ?k10 ?k11 ?k12 ?_; (case k1 => k_asm); (case k2 => rfl); (case k3 => with_unfolding_all rfl); (case k4 => with_unfolding_all rfl); (case k5 => decide); (case k6 => rfl); (case k7 => decide); (case k8 => rfl); (case k9 => rfl); (case k10 => decide); (case k11 => rfl); (case k12 => rfl))))
local macro_rules | `(tactic| walk_at "PairSrc") => `(tactic| (k_here; k_dflt (refine' PairSrc.marks ?khh ?kF ?kN ?khb (fun nw' a' b' ta' tb' I' oI' C' oC' D' m' ys' h' tk' E' ga' gb' gc' gd' hC' hx' hy' F' N' off' ne' N2' => ?_) (fun D' h' tk' om' q1' q2' q3' q4' mk' F' N' o1' => ?_); (case khh => rfl); (case kF => k_asm); (case kN => k_asm); (case khb => decide)); (all_goals (try simp only [LCg.Off1, and_true] at o1')); kcf_last))
local macro_rules | `(tactic| walk_at "subscriptTail") => `(tactic| (k_here; (with_reducible show wpAny _ _ (subscriptTail _ _ (Value.ref _) (Value.int _ _)) _ _ _); ktb_letter; k_dflt (refine' item_any ?ktbl ?ktbw ?ktb0 ?ktb1 ?ktbf ?_; (case ktbl => ktb_isList); (case ktbw => repeat constructor); (case ktb0 => ktb_idx); (case ktb1 => ktb_idx); (case ktbf => ktb_idx)); intro r' t' hr'))
local macro_rules | `(tactic| walk_at "subscriptTail") => `(tactic| (k_here; (with_reducible show wpAny _ _ (subscriptTail (Expr.Name (Str.ofString "_law_chains") _) _ (Value.ref _) (Value.int _ _)) _ _ _); k_dflt (refine' item_mem ?ktbl ?ktb0 ?ktb1 ?ktbf ?_; (case ktbl => ktb_isList); (case ktb0 => ktb_idx); (case ktb1 => ktb_idx); (case ktbf => ktb_idx)); intro v' hv'; refine stop_intro ?_))
local macro_rules | `(tactic| walk_at "subscriptTail") => `(tactic| (k_here; (with_reducible show wpAny _ _ (subscriptTail _ _ (Value.ref _) (Value.int 0 _)) _ _ _); k_dflt (refine item_zero (PySem.Heap.IsList.at (by assumption) (fun o e => Fr.keep (by assumption) _ _ e)) ?_)))
local macro_rules | `(tactic| walk_at "setItem ref str") => `(tactic| (k_here; k_dflt (refine' kda_set (knd := PySem.strKind _ _) ?F ?N ?U ?d (strKind_is _ _ _ _) ?z ?_; (case F => k_asm); (case N => k_asm); (case U => k_updF); (case d => k_asm); (case z => rw [PySem.sizeLine_eq]; omega)); intro h' o' F' N' hd'; (try dsimp only at N')))
local macro_rules | `(tactic| walk_at "eval DictComp") => `(tactic| (k_here; k_dflt (refine' dictzip_eval ?k1 ?k2 ?k3 ?k4 ?k5 ?k6 ?k7 ?k8 ?_; (case k1 => k_asm); (case k2 => with_unfolding_all rfl); (case k3 => decide); (case k4 => rfl); (case k5 => decide); (case k6 => rfl); (case k7 => rfl); (case k8 => decide))))
local macro_rules | `(tactic| walk_at "subscriptTail") => `(tactic| (k_here; (with_reducible show wpAny _ _ (subscriptTail _ _ (Value.ref _) (Value.str _ _)) _ _ _); k_dflt (refine' kda_item (knd := PySem.strKind _ _) ?kN ?km ?kd (strKind_is _ _ _ _) ?kl ?_; (case kN => k_asm); (case kl => assumption); (case kd => k_asm); (case km => k_mem))))
local macro_rules | `(tactic| walk_at "call type:zip") => `(tactic| (k_here; k_dflt (refine' zip_marks ?khh ?kF ?kN ?km ?kk (fun k' q' tq' tk' C' oC' m' h' tk2' E' hq' hC' h1' h2' F' N' => ?_) (fun D' h' tk' od' hpo' F' N' oD' lD' => ?_); (case khh => rfl); (case kF => k_asm); (case kN => k_asm); (case kk => assumption); (case km => k_mem)); (all_goals (try simp only [List.forall_mem_cons] at oD')); kcf_last))
local macro_rules | `(tactic| walk_at "Exists") => `(tactic| exact ⟨_, _, _, rfl, rfl, rfl⟩)
local macro_rules | `(tactic| walk_at "exec Assign cons ListComp") => `(tactic| (k_here; (with_reducible show wpAny _ _ (exec (Stmt.Assign [Expr.Name (Str.ofString "found") _] _ _) _) _ _ _); (first | (with_reducible show wpAny _ _ _ (fun _ _ => Later _ _ _) _ _) | refine wpAny_later ?_); lct_look; k_dflt (refine' LCt.Assign_ListComp_T ?k1 ?k2 ?k3 ?k4 ?k5 ?k6 ?k7 ?k8 ?k9 ?k10 ?_; (case k1 => k_asm); (case k2 => rfl); (case k3 => with_unfolding_all rfl); (case k4 => with_unfolding_all rfl); (case k5 => decide); (case k6 => rfl); (case k7 => decide); (case k8 => rfl); (case k9 => rfl); (case k10 => rfl))))
local macro_rules | `(tactic| walk_at "CompSrcT") => `(tactic| (k_here; k_dflt (refine' LCt.CompSrcT.base ?k1 ?k2 ?k3 ?k4 ?k5 ?_; (case k1 => rfl); (case k2 => k_asm); (case k3 => k_asm); (case k4 => assumption); (case k5 => rw [List.size_toArray]; assumption)); intro g'; (refine' found_rest (by assumption) (by assumption) (fun nm' t' y' I' oI' C' oC' D' m' ys' h' tk' E' hy' hC' hx' F' N' off' ne' => ?_) (fun nm' t' I' oI' C' oC' D' m' ys' h' tk' E' hy' hC' hx' F' N' off' ne' => ?_) ?_); kcf_last))
local macro_rules | `(tactic| walk_at "compareOp In str ref") => `(tactic| (k_here; k_dflt (first
  | (refine' in_some (knd := PySem.strKind _ _) ?kN ?km ?kd ?kl (strKind_is _ _ _ _) ?kb ?_; (case kN => k_asm); (case kb => assumption); (case kd => k_asm); (case km => k_mem); (case kl => assumption))
  | (refine' in_none (knd := PySem.strKind _ _) ?kN ?km ?kd ?kl (strKind_is _ _ _ _) ?kb ?_; (case kN => k_asm); (case kb => assumption); (case kd => k_asm); (case km => k_mem); (case kl => assumption)))))
local macro_rules | `(tactic| walk_at "CompEnd") => `(tactic| (k_here; refine mark_end (by assumption) (by assumption) (by assumption) (by assumption)))
local macro_rules | `(tactic| walk_at "CompEnd") => `(tactic| (k_here; first | refine sel_end (by assumption) (by assumption) (by assumption) (by assumption) | refine non_end (by assumption) (by assumption) (by assumption) (by assumption)))
local macro_rules | `(tactic| walk_at "call builtin:str.join") => `(tactic| (k_here; (with_reducible show wpAny _ _ (call (Value.builtin "str.join") [Value.str _ _, Value.ref _]) _ _ _); k_dflt (refine' PyProof.Rows.join_list ?kl ?ki ?kok ?_; (case kl => exact News.isList (by k_asm) (by k_mem)); (case ki => first | assumption | exact StrsAre.nil | exact StrsAre.cons _ _ StrsAre.nil); (case kok => simp only [List.map_cons, List.map_nil, List.sum_cons, List.sum_nil, List.length_cons, List.length_nil, PySem.Str.length_append, len_e]; omega)); intro t' k'))
local macro_rules | `(tactic| walk_at "truthy ref") => `(tactic| (k_here; k_dflt (refine' truthy_cons ?kl ?kn ?_; (case kl => exact News.isList (by k_asm) (by k_mem)); (case kn => omega))))
local macro_rules | `(tactic| walk_at "call builtin:len") => `(tactic| (k_here; (with_reducible show wpAny _ _ (call (Value.builtin "len") [Value.ref _]) _ _ _); k_dflt (refine' len_two ?kl ?kn ?_; (case kl => exact News.isList (by k_asm) (by k_mem)); (case kn => omega)); intro n' hn'))
local macro_rules | `(tactic| walk_at "compareOp Eq int int") => `(tactic| (k_here; k_dflt (refine' eq_no ?k1 ?_; (case k1 => omega))))
local macro_rules | `(tactic| walk_at "exec Assign cons ListComp") => `(tactic| (k_here; (with_reducible show wpAny _ _ (exec (Stmt.Assign [Expr.Name (Str.ofString "items") _] _ _) _) _ _ _); k_dflt (refine' assign_comp_B ?k1 ?k2 ?k3 ?k4 ?k5 ?k6 ?k7 ?k8 ?k9 ?k10 ?_; (case k1 => k_asm); (case k2 => rfl); (case k3 => with_unfolding_all rfl); (case k4 => with_unfolding_all rfl); (case k5 => decide); (case k6 => rfl); (case k7 => decide); (case k8 => rfl); (case k9 => rfl); (case k10 => rfl))))
local macro_rules | `(tactic| walk_at "BSrc") => `(tactic| (k_here; k_dflt (first
  | (refine BSrc.ledger (by rfl) (by k_asm) (by k_asm) (by k_mem) (by kcf_size) ?_; intro g'; (refine itB (by first | assumption | l_ints) (Nat.succ_pos _) (fun k' t' I' oI' C' oC' D' m' ys' h' tk' E' hpos' hC' hx' F' N' off' ne' hMark' => ?_) ?_); (all_goals (try (simp only [LCg.Off3, and_true] at off'))); kcf_last)
  | (refine BSrc.base (by rfl) (by k_asm) (by k_asm) (by assumption) (by size_fits) ?_; intro g'; (refine itB (by assumption) (Nat.succ_pos _) (fun k' t' I' oI' C' oC' D' m' ys' h' tk' E' hpos' hC' hx' F' N' off' ne' hMark' => ?_) ?_); (all_goals (try (simp only [LCg.Off3, and_true] at off'))); kcf_last))))
local macro_rules | `(tactic| walk_at "FinAB") => `(tactic| ((unfold FinAB); intro D' h' tk' hbt' F' N' o1'; (try simp only [LCg.Off1, and_true] at o1'); (try dsimp only)))
local macro_rules | `(tactic| walk_at "subscriptTail") => `(tactic| (k_here; (with_reducible show wpAny _ _ (subscriptTail (Expr.Call _ _ _ _) _ (Value.ref _) (Value.int _ _)) _ _ _); ktb_letter; k_dflt (refine' item_tok ?ktbl ?ktbw ?ktb0 ?ktb1 ?ktbf ?_; (case ktbl => ktb_isList); (case ktbw => exact (Toks.cons _ _ (by (try dsimp only); omega) (by (try dsimp only); omega) (Toks.cons _ _ (by (try dsimp only); omega) (by (try dsimp only); omega) (Toks.cons _ _ (by (try dsimp only); omega) (by (try dsimp only); omega) (Toks.cons _ _ (by (try dsimp only); omega) (by (try dsimp only); omega) (Toks.cons _ _ (by (try dsimp only); omega) (by (try dsimp only); omega) (Toks.cons _ _ (by (try dsimp only); omega) (by (try dsimp only); omega) (Toks.cons _ _ (by (try dsimp only); omega) (by (try dsimp only); omega) (Toks.cons _ _ (by (try dsimp only); omega) (by (try dsimp only); omega) Toks.nil))))))))); (case ktb0 => ktb_idx); (case ktb1 => ktb_idx); (case ktbf => ktb_idx)); walk_say "ITEM TOK"; intro r' t' hr' ht'; (try dsimp only at ht'); (have hl8 := items8 hr')))
local macro_rules | `(tactic| walk_at "binaryOp Mult str int") => `(tactic| (k_here; k_dflt (refine mulz_tok (by decide) (by kxi_fact) (by kxi_fact) (by constructor <;> (try dsimp only) <;> omega) ?_); intro r' t' k' hr2' ht' hk'; (try dsimp only at hk')))
local macro_rules | `(tactic| walk_at "binaryOp Add str str") => `(tactic| (k_here; k_dflt (refine add_tok (by constructor <;> (try dsimp only) <;> omega) (by constructor <;> (try dsimp only) <;> omega) ?_ (by rw [PySem.sizeLine_eq]; omega)); intro t' k' ht' hk'; (try dsimp only at hk')))
local macro_rules | `(tactic| walk_at "BEnd") => `(tactic| (k_here; refine itB_end (by assumption) (by assumption) (by kcf_all) (by first | assumption | (simp only [LCg.Off3, and_true]; done) | (simp only [LCg.Off3, and_true]; assumption)) (by first | lcg_src | assumption) (by rw [PySem.Str.length_append]; omega) (by constructor <;> omega)))
local macro_rules | `(tactic| walk_at "binaryOp Add str str") => `(tactic| (k_here; (with_reducible rename (_ ∈ marks6) => hq9); k_dflt (refine PyProof.Rows.add_str ?_ (by have hq8 := marks5 hq9; simp only [PySem.Str.length_append, len_b0, len_b1, PySem.sizeLine_eq]; omega)); intro t' k'))
local macro_rules | `(tactic| walk_at "newTuple") => `(tactic| (k_here; k_dflt (refine' kup_newTuple ?F ?N ?_ ?z; (case F => k_asm); (case N => k_asm); (case z => (rw [PySem.sizeLine_eq]; (try simp only [List.length_cons, List.length_append, List.length_nil]); rw [StrsAre.length (by assumption)]; omega))); intro D' h' F' N' l1; (try k_lt l1)))
local macro_rules | `(tactic| walk_at "call builtin:dict.get") => `(tactic| (k_here; (with_reducible show wpAny _ _ (call (Value.builtin "dict.get") [Value.ref 209, _, _]) _ _ _); k_dflt (refine get_chain (by k_in) (by assumption) (fun fa' fv' fl' fs' => ?_) (fun fe' => ?_))))
local macro_rules | `(tactic| walk_at "StarOf") => `(tactic| (k_here; k_dflt (first | (refine star_any (by k_asm) (by k_asm) (by first | assumption | exact News.isList (by k_asm) (by k_mem)) (by first | exact Nat.le_of_ble_eq_true rfl | (rw [PySem.sizeLine_eq, List.size_toArray, StrsAre.length (by assumption)]; omega)) ?_)); intro h' F' N'))
local macro_rules | `(tactic| walk_at "noteFrame ref") => `(tactic| (k_here; (rename RaisedK _ _ _ _ _ _ _ _ => rkX'); k_dflt (refine' caught_any (X := "ValueError") (T' := "ValueError") ?hf ?K ?F ?U ?R ?nm PySem.F.isExc_ValueError PySem.F.notTuple_ValueError ?sb ?_ ?pe; (case hf => rfl); (case R => exact rkX'); (case K => assumption); (case F => assumption); (case U => assumption); (case nm => (intro _ _ _ _ cF' cQ'; exact nameX_B cF' (by assumption) (by k_asm) (by k_is) PyProof.Rows.Boot.«ValueError» (by decide) cQ')); (case sb => (rw [isSubtype_type]; kernel_rfl)); (case pe => passes_own)); intro h' F' N'))
local macro_rules | `(tactic| walk_at "call builtin:sorted") => `(tactic| (k_here; (with_reducible show wpAny _ _ (call (Value.builtin "sorted") [Value.ref _]) _ _ _); k_dflt (refine' sorted_dict ?hh ?F ?N ?hm ?hd ?lo ?hn ?_; (case hh => rfl); (case F => k_asm); (case N => k_asm); (case hm => k_mem); (case hd => assumption); (case lo => assumption); (case hn => omega)); intro D' h' tk' sv' ss' e' F' N' sS' sP'))
local macro_rules | `(tactic| walk_at "formatField ref") => `(tactic| (k_here; (with_reducible rename List.Perm _ _ => sP'); (rename (∀ z ∈ List.map _ _, _ ≤ 40) => hk9); k_dflt (refine' field_strs ?F ?N ?hm ?hS ?hr ?hn ?hg ?hu ?_; (case F => k_asm); (case N => k_asm); (case hm => k_mem); (case hS => assumption); (case hr => exact (fun z hz => hk9 z (sP'.mem_iff.mp hz))); (case hn => (rw [sP'.length_eq, List.length_map]; omega)); (case hg => rfl); (case hu => k_units)); intro h' y' u' tk' hy' F' N'))
local macro_rules | `(tactic| walk_at "pyReprObj str") => `(tactic| (k_here; k_dflt (refine pyReprObj_str ?_ (by rw [PySem.sizeLine_eq]; omega))))
local macro_rules | `(tactic| walk_at "le") => `(tactic| (k_here; (rw [PySem.sizeLine_eq]; simp only [PySem.Str.length_append, PySem.Str.append_eq] ; omega)))
local macro_rules | `(tactic| walk_at "pyIter ref") => `(tactic| (k_here; (with_reducible show wpAny _ _ (pyIter _) (CompPost _ _ _ _ _ _ _ _ _) _ _); k_dflt (refine parts_tup (by rfl) (by k_asm) (by k_asm) (by k_mem) (by intro _; rfl) (by intro _; rfl) (by decide) ?_); intro D' t1' t2' n' h' tk' F' N'))
local macro_rules | `(tactic| walk_at "call builtin:str.join") => `(tactic| (k_here; (with_reducible show wpAny _ _ (call (Value.builtin "str.join") [Value.str _ _, Value.ref _]) _ _ _); k_dflt (refine' PyProof.Rows.join_list ?kl ?ki ?kok ?_; (case kl => exact News.isList (by k_asm) (by k_mem)); (case ki => exact StrsAre.cons _ _ (StrsAre.cons _ _ StrsAre.nil)); (case kok => decide +kernel)); intro t' k'))
local macro_rules | `(tactic| walk_at "binaryOp Mult ref int") => `(tactic| (k_here; k_dflt (refine mul_tuple_0 (by k_asm) (by k_asm) (by k_mem) ?_); intro D' h' F' N' l1; (try k_lt l1)))
local macro_rules | `(tactic| walk_at "subscriptTail Name Slice ref ref") => `(tactic| (k_here; (with_reducible show wpAny _ _ (subscriptTail (Expr.Name (Str.ofString "tup") _) (Expr.Slice _ _ _ _) (Value.ref _) (Value.ref _)) _ _ _); k_dflt (refine slice_tuple_5 (by k_asm) (by k_asm) (News.isTup (by k_asm) (by k_mem)) (by rfl) ?_); intro h' F' N'))
local macro_rules | `(tactic| walk_at "call type:tuple") => `(tactic| (k_here; (with_reducible show wpAny _ _ (call (Value.type _) [Value.ref _]) _ _ _); k_dflt (refine call_tuple_tup (News.isTup (by k_asm) (by k_mem)) ?_)))
local macro_rules | `(tactic| walk_at "exec Assign") => `(tactic| ((with_reducible rename GSMark => gm'); (with_reducible show wpAny _ _ (exec (Stmt.Assign [Expr.Name (Str.ofString "patterns") _] (Expr.Call _ _ _ _) _) _) _ _ _); refine stop_intro ?_))
local macro_rules | `(tactic| walk_at "exec For Name Tuple cons nil") => `(tactic| ((with_reducible show wpAny _ _ (exec (Stmt.For (Expr.Name (Str.ofString "style") _) _ _ _ _) _) _ _ _); refine stop_intro ?_))
local macro_rules | `(tactic| walk_at "FoundEnd") => `(tactic| (unfold FoundEnd; (try dsimp only)))
local macro_rules | `(tactic| walk_at "getItem ref str") => `(tactic| (k_here; k_dflt (refine' kdt_getItem (knd := PySem.strKind _ _) ?kN ?km ?kd (strKind_is _ _ _ _) ?kl ?_; (case kN => k_asm); (case km => k_mem); (case kd => assumption); (case kl => assumption))))
local macro_rules | `(tactic| walk_at "exec For Name Subscript cons nil") => `(tactic| (k_here; (first | (with_reducible show wpAny _ _ _ (fun _ _ => Later _ _ _) _ _) | refine wpAny_later ?_); k_dflt (refine wpAny_For ?_ (by intro _; rfl))))
local macro_rules | `(tactic| walk_at "pyIter ref") => `(tactic| ((with_reducible show wpAny _ _ (pyIter (Value.ref _)) (fun it s₂ => codeAny _ _ _ _ s₂) _ _); refine stop_intro ?_))
local macro_rules | `(tactic| walk_at "subscriptTail Name Slice ref ref") => `(tactic| (k_here; (with_reducible show wpAny _ _ (subscriptTail _ (PySem.Expr.Slice _ _ none _) (Value.ref _) (Value.ref _)) _ _ _); k_dflt (refine' kmk_slice_lit ?F ?N ?l ?p ?q mid_pick ?_ ?s ?t ?z; (case F => k_asm); (case N => k_asm); (case l => exact News.isList (by k_asm) (by k_mem)); (case p => kmk_part); (case q => kmk_part); (case s => with_unfolding_all rfl); (case t => kmk_pure); (case z => (rw [PySem.sizeLine_eq, List.size_toArray]; simp only [List.length_cons]; omega))); intro D' h' F' N' l1; (try k_lt l1)))
local macro_rules | `(tactic| walk_at "subscriptTail") => `(tactic| (k_here; (with_reducible show wpAny _ _ (subscriptTail _ (Expr.UnaryOp _ _ _) (Value.ref _) (Value.int _ _)) _ _ _); k_dflt (refine item_last (News.isList (by k_asm) (by k_mem)) ?_)))
local macro_rules | `(tactic| walk_at "eval ListComp") => `(tactic| (k_here; (with_reducible show wpAny _ _ (eval (Expr.ListComp (Expr.BinOp _ _ _ _) _ _ _) _) _ _ _); k_dflt (refine' eval_comp_B ?k1 ?k2 ?k3 ?k4 ?k5 ?k6 ?_; (case k1 => k_asm); (case k2 => with_unfolding_all rfl); (case k3 => decide); (case k4 => rfl); (case k5 => decide); (case k6 => rfl))))
local macro_rules | `(tactic| walk_at "BSrc") => `(tactic| ((with_reducible show BSrc _ _ _ _ _ _ _ _ _ _ _ (fun s₂ => FinEB _ _ _ s₂ _) _ _); refine stop_intro ?_))
local macro_rules | `(tactic| walk_at "FinEB") => `(tactic| ((unfold FinEB); intro D' h' tk' hbt' F' N' o1'; (try simp only [LCg.Off1, and_true] at o1'); (try dsimp only)))
local macro_rules | `(tactic| walk_at "BEnd") => `(tactic| (k_here; refine laid_end (by assumption) (by assumption) (fun _ h => h) (by assumption) (by first | lcg_src | assumption) (by rfl)))
local macro_rules | `(tactic| walk_at "call builtin:str.join") => `(tactic| (k_here; (with_reducible show wpAny _ _ (call (Value.builtin "str.join") [Value.str _ _, Value.ref _]) _ _ _); k_dflt (refine' PyProof.Rows.join_list (ys := List.map _ _) ?kl ?ki ?kok ?_; (case kl => exact News.isList (by k_asm) (by k_mem)); (case ki => assumption); (case kok => (simp only [List.length_map, len_e]; omega))); intro t' k'))
local macro_rules | `(tactic| walk_at "compareOp Eq int int") => `(tactic| (k_here; k_dflt (refine' eq_yes ?k1 ?_; (case k1 => first | omega | (simp only [List.length_nil] at *; omega)))))
local macro_rules | `(tactic| walk_at "compareOp Eq ref ref") => `(tactic| (k_here; k_dflt (refine' eq_empty ?N ?h1 ?h2 ?hu ?_; (case N => k_asm); (case h1 => k_mem); (case h2 => k_mem); (case hu => k_units))))
local macro_rules | `(tactic| walk_at "subscriptTail") => `(tactic| (k_here; (with_reducible show wpAny _ _ (subscriptTail (Expr.Name (Str.ofString "found") _) _ (Value.ref _) (Value.int 0 _)) _ _ _); k_dflt (refine item_zero (News.isList (by k_asm) (by k_mem)) ?_)))
local macro_rules | `(tactic| walk_at "call ref") => `(tactic| (k_here; (with_reducible show wpAny _ _ (call (Value.ref 200) [Value.str _ _, Value.str _ _, Value.str _ _]) _ _ _); k_dflt (refine' laid ?B ?F ?X ?N ?T ?hA ?hf ?hk ?hr ?hh ?hq ?hv ?hvs ?hx ?hz ?_; (case F => k_asm); (case N => k_asm); (case X => k_asm); (case B => k_asm); (case T => k_asm); (case hA => exact rfl); (case hf => exact rfl); (case hk => exact rfl); (case hr => k_room); (case hh => rfl); (case hq => assumption); (case hv => omega); (case hvs => (try dsimp only); omega); (case hx => ((try simp only [PySem.Str.length_append]); omega)); (case hz => omega)); intro h' t' k' F' N' hk'; (try dsimp only at hk')))
local macro_rules | `(tactic| k_all) => `(tactic| assumption)
local macro_rules | `(tactic| k_steps) => `(tactic| repeat' (first | (k_unfold; (try dsimp only)) | walk1 | (dsimp only; walk1) | (leave1; (try dsimp only)) | fail "no step"))
noncomputable def steps : (P1 : Prop) ×' (P2 : Prop) ×' (P3 : Prop) ×' (P4 : Prop) ×' (P5 : Prop) ×' (P6 : Prop) ×' (P7 : Prop) ×' (Box P1 → Box P2 → Box P3 → Box P4 → Box P5 → Box P6 → Box P7 → PySem.Challenge.rw_nk0011_01.Holds) := by
  refine' ⟨_, _, _, _, _, _, _, fun H1 H2 H3 H4 H5 H6 H7 => hd ?body⟩
  case body =>
    k_go0
    all_goals try k_fold
    rename Shared => s₁
    rename Frag.In _ _ => hKX
    refine split2 (by assumption) ?_ ?_
    · skip
      repeat (rename _ => hrv; revert hrv)
      intro H1 H2 H3 H4 H5 H6 H7
      exact H1.out
    · intro s' hJ
      obtain ⟨h1, tk1, mm, setting, code, t0, t1, il, vs, T, k0, c1, c2, c3, c4, v2, v3, v4, rfl, F1, N1, d1, d2, d3, d4, hT, hn, hb, ne1, ne2, ne3, ne4⟩ := hJ
      have hTa := hT.are
      k_steps
      show wpAny _ _ _ _ _ _
      rename IsRange _ _ _ _ _ _ _ _ => hr
      rename Fr _ _ _ _ => F2
      rename News _ _ _ _ => N2
      rename (_ == sysModules) = false => lo
      rename Obj.IsDictOf (PySem.strKind _ _) _ _ => hd
      refine styles_turns (by rfl) (by rfl) hr F2 N2 (by rfl) (by rfl) d3 hd (fun i t m₁ o c3' v3' kvs ext I oI h tk hi d3' hd' hs hl e1 e2 e3 off hm1 hm2 F' N' => ?turn) (fun m₁ o c3' v3' kvs ext h tk d3' hd' hs hl e1 e2 F' N' => ?done)
      case turn =>
        repeat (rename _ => hrv; revert hrv)
        intro H1 H2 H3 H4 H5 H6 H7
        exact H2.out
      case done =>
        clear F2 N2 hr
        dsimp only
        k_steps
        refine stop_out ?_
        rename Fr _ _ _ _ => F3
        rename News _ _ _ _ => N3
        rename Obj.IsDictOf (PySem.strKind _ _) _ [] => hdp
        rename (_ ∧ _ ∧ _ ∧ _ ∧ _ ∧ _ ∧ AllLt _ ext) => hlt3
        refine pats_turns (by rfl) (by rfl) lo F3 N3 (by rfl) (by rfl) hd' hdp hs (allLt_ne _ hlt3.2.2.2.2.2.2) (fun i y t m₂ op pvs ext' a oa q1 q2 q3 q4 I oI h' tk' hy hval hma hmk hop hs' hR hlen hnew hx hxI off3 hm1 hm2 F' N' => ?turn3) (fun m₂ op pvs ext' h' tk' hop hR hx F' N' => ?done3)
        case turn3 =>
          repeat (rename _ => hrv; revert hrv)
          intro H1 H2 H3 H4 H5 H6 H7
          exact H3.out
        case done3 =>
          clear F3 N3
          dsimp only
          k_steps
          refine stop_out ?_
          rename (_ ∈ ([Value.ref _, _, _, _, _, _, _, _, _] : List Value)) => hv
          have hch := mem_all (p := ChainAt s₁.heap) hv (by
            refine all9 ?_ ?_ ?_ ?_ ?_ ?_ ?_ ?_ ?_ <;> exact ChainAt.mk (lstK hKX (by k_is)) (by repeat constructor) (by unfold chains9; k_mem))
          obtain ⟨ca, st, ct, cr, cn, hcv, hcl, hcs, hcm⟩ := hch
          subst hcv
          clear hv
          have hcss : StrsAre (Value.str st ct :: cr) (st :: cn) := .cons _ _ hcs
          have hcsz : (Value.str st ct :: cr).length ≤ sizeLine := by
            have h5 := chains_len hcm
            rw [hcss.length, PySem.sizeLine_eq]
            omega
          k_steps
          rename Fr _ _ _ _ => F4
          rename News _ _ _ _ => N4
          have hTl := hn
          have hTb := hb

          rcases hT with _ | ⟨x0, u0, hp0, hq0, hT1⟩
          · skip
            repeat (rename _ => hrv; revert hrv)
            intro H1 H2 H3 H4 H5 H6 H7
            exact H4.out
          · rcases hT1 with _ | ⟨x1, u1, hp1, hq1, hT2⟩
            · skip
              repeat (rename _ => hrv; revert hrv)
              intro H1 H2 H3 H4 H5 H6 H7
              exact H5.out
            · have b0 := hTb _ (.head _)
              have b1 := hTb _ (.tail _ (.head _))
              have hTr := hTl
              simp only [List.length_cons] at hTr
              have hvl := hT2.are.length
              rcases first_look hR (st :: cn) with ⟨hys, hfi⟩ | ⟨a, oa, b, ob, q1, q2, q3, q4, rest, hys, hfi, hma, hmk, hmb, hpo⟩
              · skip
                repeat (rename _ => hrv; revert hrv)
                intro H1 H2 H3 H4 H5 H6 H7
                exact H6.out
              · skip
                repeat (rename _ => hrv; revert hrv)
                intro H1 H2 H3 H4 H5 H6 H7
                exact H7.out
theorem part1 : steps.1 := by
  intro _ _ s₁ _ _ _ _ _ _ _ _ _ _ hKX _ _ _ _ _ _ _ _ _ _ _ _ _ _ _ _ _ _ _ _ _ _ _ _ _ _ _ _ _ _ _ _ _ _ _ _ _ _ _ _ _ _ _ _ _ _ _ qk ek
  k_steps
  all_goals exact J2.mk (by assumption) (by assumption) (by k_mem) (by k_mem) (by k_mem) (by k_mem) (by k_mem) (by assumption) (by assumption) (by assumption) (by assumption) (by assumption) (by omega)
                      (by simp only [List.length_cons, List.length_nil] at *; omega) (by assumption) ⟨by k_ne, by k_ne, by k_ne, by k_ne⟩
theorem part2 : steps.2.1 := by
  intro _ _ s₁ _ _ _ _ _ _ _ _ _ _ hKX _ _ _ _ _ _ _ _ _ _ _ _ _ _ _ _ _ _ _ _ _ _ _ _ _ _ _ _ _ _ _ _ _ _ _ _ _ _ _ _ _ _ _ _ _ qk ek h1 tk1 mm setting code t0 t1 il vs T k0 c1 c2 c3 c4 v2 v3 v4 d1 d2 d3 d4 hT hn hb ne1 ne2 ne3 ne4 hTa _ _ _ lo hd _ _ _ _ _ _ _ _ _ _ _ _ _ _ hr F2 N2 _ i t m₁ o c3' v3' kvs ext I oI h tk hi d3' hd' hs hl e1 e2 e3 off hm1 hm2 F' N'
  clear F2 N2 hr
  k_steps
  · -- an entry more
    refine stop_out ?_
    rename (_ ∈ ([Value.ref _, _, _, _, _, _, _, _, _] : List Value)) => hv
    have hch := mem_all (p := ChainAt s₁.heap) hv (by
      refine all9 ?_ ?_ ?_ ?_ ?_ ?_ ?_ ?_ ?_ <;> exact ChainAt.mk (lstK hKX (by k_is)) (by repeat constructor) (by unfold chains9; k_mem))
    obtain ⟨ca, st, ct, cr, cn, hcv, hcl, hcs, hcm⟩ := hch
    subst hcv
    clear hv
    k_steps
    refine sty_end (by assumption) (by assumption) (by assumption) (by assumption) (sty_stored hs (by assumption) (names_repr hcm (.head _)))
      (by repeat (first | exact fun _ h => h | refine sub_all (by k_mem) ?_ | refine sub_tail ?_)) (by rfl) (by rfl) (Nat.le_trans (stored_length_le _ _ _) (Nat.succ_le_succ hl)) (off_cons (by k_ne) e1) (off_cons (by k_ne) e2) (off_cons (by k_ne) e3) off
  · dsimp only
    refine sty_end (by assumption) (by assumption) hd' (by assumption) hs (by repeat (first | exact fun _ h => h | refine sub_all (by k_mem) ?_ | refine sub_tail ?_)) (by rfl) (by rfl) (Nat.le_succ_of_le hl) e1 e2 e3 off
theorem part3 : steps.2.2.1 := by
  intro _ _ s₁ _ _ _ _ _ _ _ _ _ _ hKX _ _ _ _ _ _ _ _ _ _ _ _ _ _ _ _ _ _ _ _ _ _ _ _ _ _ _ _ _ _ _ _ _ _ _ _ _ _ _ _ _ _ _ _ _ qk ek h1 tk1 mm setting code t0 t1 il vs T k0 c1 c2 c3 c4 v2 v3 v4 d1 d2 d3 d4 hT hn hb ne1 ne2 ne3 ne4 hTa _ _ _ lo hd _ _ _ _ _ _ _ _ _ _ _ _ _ m₁ o c3' v3' kvs ext h tk d3' hd' hs hl e1 e2 _ _ _ _ _ hdp _ _ _ hlt3 _ F3 N3 _ _ i y t m₂ op pvs ext' a oa q1 q2 q3 q4 I oI h' tk' hy hval hma hmk hop hs' hR hlen hnew hx hxI off3 hm1 hm2 F' N'
  clear F3 N3
  k_steps
  refine pats_end (by assumption) (by assumption) (by assumption) (by assumption) hy hma hmk (lo_of (L := s₁.heap.objs.size) (modules_low (Top.nolimit (by assumption))) (by assumption)) hs' hR hnew
    (by repeat (first | exact fun _ h => h | refine sub_all (by k_mem) ?_ | refine sub_tail ?_)) (by rfl) (by rfl) (off_cons (by k_ne) hx) (off_cons (by k_ne) hxI) off3
theorem part4 : steps.2.2.2.1 := by
  intro _ _ s₁ _ _ _ _ _ _ _ _ _ _ hKX _ _ _ _ _ _ _ _ _ _ _ _ _ _ _ _ _ _ _ _ _ _ _ _ _ _ _ _ _ _ _ _ _ _ _ _ _ _ _ _ _ _ _ _ _ qk ek h1 tk1 mm setting code t0 t1 il k0 c1 c2 c3 c4 v2 v3 v4 d1 d2 d3 d4 ne1 ne2 ne3 ne4 _ _ _ lo hd _ _ _ _ _ _ _ _ _ _ _ _ _ m₁ o c3' v3' kvs ext h tk d3' hd' hs hl e1 e2 _ _ _ _ _ hdp _ _ _ hlt3 _ _ _ m₂ op pvs ext' h' tk' hop hR hx _ ca st ct cr cn hcl hcs hcm hcss hcsz _ _ _ _ _ _ _ _ F4 _ _ _ N4 hn hb hTl hTb hTa
  have N5 := kst_newsOf N4 (l' := _ :: _ :: _ :: _ :: _ :: _ :: _ :: _ :: []) (by
    refine sub_all (.head _) (sub_all (.tail _ (.head _)) (sub_all (.tail _ (.tail _ (.head _))) (sub_all (.tail _ (.tail _ (.tail _ (.head _)))) (sub_all (.tail _ (.tail _ (.tail _ (.tail _ (.head _))))) (sub_all (.tail _ (.tail _ (.tail _ (.tail _ (.tail _ (.head _)))))) (sub_all (.tail _ (.tail _ (.tail _ (.tail _ (.tail _ (.tail _ (.head _))))))) (sub_all (.tail _ (.tail _ (.tail _ (.tail _ (.tail _ (.tail _ (.tail _ (.head _)))))))) (fun _ h => nomatch h)))))))))
  clear N4

  refine wpAny_Try_except ?_
  k_steps
  refine good_true join_nil ?_
  kc_close
theorem part5 : steps.2.2.2.2.1 := by
  intro _ _ s₁ _ _ _ _ _ _ _ _ _ _ hKX _ _ _ _ _ _ _ _ _ _ _ _ _ _ _ _ _ _ _ _ _ _ _ _ _ _ _ _ _ _ _ _ _ _ _ _ _ _ _ _ _ _ _ _ _ qk ek h1 tk1 mm setting code t0 t1 il k0 c1 c2 c3 c4 v2 v3 v4 d1 d2 d3 d4 ne1 ne2 ne3 ne4 _ _ _ lo hd _ _ _ _ _ _ _ _ _ _ _ _ _ m₁ o c3' v3' kvs ext h tk d3' hd' hs hl e1 e2 _ _ _ _ _ hdp _ _ _ hlt3 _ _ _ m₂ op pvs ext' h' tk' hop hR hx _ ca st ct cr cn hcl hcs hcm hcss hcsz _ _ _ _ _ _ _ _ F4 _ _ x0 u0 hp0 hq0 _ N4 hn hb hTl hTb hTa
  have N5 := kst_newsOf N4 (l' := _ :: _ :: _ :: _ :: _ :: _ :: _ :: _ :: []) (by
    refine sub_all (.head _) (sub_all (.tail _ (.head _)) (sub_all (.tail _ (.tail _ (.head _))) (sub_all (.tail _ (.tail _ (.tail _ (.head _)))) (sub_all (.tail _ (.tail _ (.tail _ (.tail _ (.head _))))) (sub_all (.tail _ (.tail _ (.tail _ (.tail _ (.tail _ (.head _)))))) (sub_all (.tail _ (.tail _ (.tail _ (.tail _ (.tail _ (.tail _ (.head _))))))) (sub_all (.tail _ (.tail _ (.tail _ (.tail _ (.tail _ (.tail _ (.tail _ (.head _)))))))) (fun _ h => nomatch h)))))))))
  clear N4

  have b0 := hTb _ (.head _)
  refine wpAny_Try_except ?_
  k_steps
  refine good_true (join_one _) ?_
  kc_close
theorem part6 : steps.2.2.2.2.2.1 := by
  intro _ _ s₁ _ _ _ _ _ _ _ _ _ _ hKX _ _ _ _ _ _ _ _ _ _ _ _ _ _ _ _ _ _ _ _ _ _ _ _ _ _ _ _ _ _ _ _ _ _ _ _ _ _ _ _ _ _ _ _ _ qk ek h1 tk1 mm setting code t0 t1 il k0 c1 c2 c3 c4 v2 v3 v4 d1 d2 d3 d4 ne1 ne2 ne3 ne4 _ _ _ lo hd _ _ _ _ _ _ _ _ _ _ _ _ _ m₁ o c3' v3' kvs ext h tk d3' hd' hs hl e1 e2 _ _ _ _ _ hdp _ _ _ hlt3 _ _ _ m₂ op pvs ext' h' tk' hop hR hx _ ca st ct cr cn hcl hcs hcm hcss hcsz _ _ _ _ _ _ _ _ F4 _ _ x0 u0 hp0 hq0 x1 u1 _ _ hp1 hq1 hT2 _ N4 hn hb hTl hTb hTa b0 b1 hTr hvl hys hfi
  rw [hys] at N4

  have N5 := kst_newsOf N4 (l' := _ :: _ :: _ :: _ :: _ :: _ :: _ :: _ :: []) (by
    refine sub_all (.head _) (sub_all (.tail _ (.head _)) (sub_all (.tail _ (.tail _ (.head _))) (sub_all (.tail _ (.tail _ (.tail _ (.head _)))) (sub_all (.tail _ (.tail _ (.tail _ (.tail _ (.head _))))) (sub_all (.tail _ (.tail _ (.tail _ (.tail _ (.tail _ (.head _)))))) (sub_all (.tail _ (.tail _ (.tail _ (.tail _ (.tail _ (.tail _ (.head _))))))) (sub_all (.tail _ (.tail _ (.tail _ (.tail _ (.tail _ (.tail _ (.tail _ (.head _)))))))) (fun _ h => nomatch h)))))))))
  clear N4

  refine wpAny_Try_except ?_
  k_steps
  refine stop_out ?_

  have hcs5 := chains_len hcm
  simp only [List.length_cons] at hcs5
  have hkr := hR.reprs hs
  have hpl := hR.length
  have hl1 : (Str.ofString "Locale ").length = 7 := by decide +kernel
  have hl2 : (Str.ofString " does not support list formatting style ").length = 40 := by decide +kernel
  have hl3 : (Str.ofString " (supported are ").length = 16 := by decide +kernel
  have hl4 : (Str.ofString ")").length = 1 := by decide +kernel
  have hl5 : (Txt.join (Str.ofString "_") [Str.ofString "en", Str.ofString "US"]).length = 5 := by decide +kernel

  refine wpAny_later ?_
  rename Fr _ _ _ _ => lF'
  with_unfolding_all refine' For_turns lF' ?_
  refine tup_join (names := st :: cn) (by k_asm) (by k_asm) ?tup (fun tup' h' tk' tv' tn' F' N' tS' => ?loop)
  case tup =>
    k_steps
    · rename StrsAre _ cn => fS
      rename News _ _ _ _ => nN
      exact ⟨_, _, _, _, _, rfl, rfl, by assumption, (fun p hp => by
        rcases List.mem_cons.mp hp with rfl | hp
        · exact nN _ (.head _)
        · exact nN _ (.tail _ (.tail _ hp))), StrsAre.cons _ _ (by simpa using fS)⟩
    · rename cn = [] => hcn
      subst hcn
      rename News _ _ _ _ => nN
      exact ⟨_, _, _, _, _, rfl, rfl, by assumption, (fun p hp => by
        rcases List.mem_cons.mp hp with rfl | hp
        · exact nN _ (.head _)
        · exact nN _ (.tail _ (.tail _ hp))), StrsAre.cons _ _ .nil⟩
  case loop =>
    refine' find_turns pvs ?hh ?hS ?hF ?hN ?hm ?hc ?hd ?hmx ?hst ?turnN ?turnS ?fdone
    case hh => rfl
    case hF => exact F'
    case hN => exact N'
    case hm => exact (.head _)
    case hc => rfl
    case hd => rfl
    case hmx => rfl
    case hS => exact tS'
    case hst => exact .head _
    case turnN =>
      intro nm t st' t' I oI h tk hnm hvn hoI F'' N''
      clear F' N'
      dsimp only
      k_steps
      exact ⟨_, _, t, _, rfl, by assumption, fun y => by by_cases e : y = Str.ofString "style" <;> simp only [e, if_true, if_false], by assumption⟩
    case turnS =>
      intro nm t v st' t' I oI h tk hnm hvn hfs hoI F'' N''
      rw [hfi] at hfs; cases hfs
    case fdone =>
      intro st' t' h tk hfn hst' F'' N''
      have hrp := names_repr hcm hst'
      clear F' N'
      dsimp only
      k_steps
      kc_close
theorem part7 : steps.2.2.2.2.2.2.1 := by
  intro _ _ s₁ _ _ _ _ _ _ _ _ _ _ hKX _ _ _ _ _ _ _ _ _ _ _ _ _ _ _ _ _ _ _ _ _ _ _ _ _ _ _ _ _ _ _ _ _ _ _ _ _ _ _ _ _ _ _ _ _ qk ek h1 tk1 mm setting code t0 t1 il k0 c1 c2 c3 c4 v2 v3 v4 d1 d2 d3 d4 ne1 ne2 ne3 ne4 _ _ _ lo hd _ _ _ _ _ _ _ _ _ _ _ _ _ m₁ o c3' v3' kvs ext h tk d3' hd' hs hl e1 e2 _ _ _ _ _ hdp _ _ _ hlt3 _ _ _ m₂ op pvs ext' h' tk' hop hR hx _ ca st ct cr cn hcl hcs hcm hcss hcsz _ _ _ _ _ _ _ _ F4 _ _ x0 u0 hp0 hq0 x1 u1 _ _ hp1 hq1 hT2 _ N4 hn hb hTl hTb hTa b0 b1 hTr hvl a oa b ob q1 q2 q3 q4 rest hys hfi hma hmk hmb hpo
  rw [hys] at N4

  have N5 := kst_newsOf N4 (l' := _ :: (a, oa) :: (b, ob) :: _ :: _ :: _ :: _ :: _ :: _ :: _ :: []) (by
    refine sub_all (.head _) (sub_all (.tail _ (.tail _ (.tail _ (.tail _ (.tail _ (.tail _ (.tail _ (.tail _ hma)))))))) (sub_all (.tail _ (.tail _ (.tail _ (.tail _ (.tail _ (.tail _ (.tail _ (.tail _ hmb)))))))) (sub_all (.tail _ (.head _)) (sub_all (.tail _ (.tail _ (.head _))) (sub_all (.tail _ (.tail _ (.tail _ (.head _)))) (sub_all (.tail _ (.tail _ (.tail _ (.tail _ (.head _))))) (sub_all (.tail _ (.tail _ (.tail _ (.tail _ (.tail _ (.head _)))))) (sub_all (.tail _ (.tail _ (.tail _ (.tail _ (.tail _ (.tail _ (.head _))))))) (sub_all (.tail _ (.tail _ (.tail _ (.tail _ (.tail _ (.tail _ (.tail _ (.head _)))))))) (fun _ h => nomatch h)))))))))))
  clear N4

  obtain ⟨m1, m2, m3, m4, mk, rfl, mq1, mq2, mq3, mq4⟩ := hmk
  obtain ⟨lob, p1, p2, p3, p4, hdb⟩ := hpo
  have hmark : GSMark := True.intro
  refine wpAny_Try_except ?_
  k_steps
  refine stop_out ?_
  rename GSMark => hmark
  clear hmark

  have hcs5 := chains_len hcm
  simp only [List.length_cons] at hcs5
  refine pat_join (b := b) (by k_asm) (by k_asm) ?pat (fun h' tk' hL' F' N' => ?rest)
  case pat =>
    k_steps
    refine stop_out ?_
    refine wpAny_later ?_
    rename Fr _ _ _ _ => lF'
    with_unfolding_all refine' For_turns lF' ?_
    refine tup_join (names := st :: cn) (by k_asm) (by k_asm) ?tup (fun tup' h' tk' tv' tn' F' N' tS' => ?loop)
    case tup =>
      k_steps
      · rename StrsAre _ cn => fS
        rename News _ _ _ _ => nN
        exact ⟨_, _, _, _, _, rfl, rfl, by assumption, (fun p hp => by
          rcases List.mem_cons.mp hp with rfl | hp
          · exact nN _ (.head _)
          · exact nN _ (.tail _ (.tail _ hp))), StrsAre.cons _ _ (by simpa using fS)⟩
      · rename cn = [] => hcn
        subst hcn
        rename News _ _ _ _ => nN
        exact ⟨_, _, _, _, _, rfl, rfl, by assumption, (fun p hp => by
          rcases List.mem_cons.mp hp with rfl | hp
          · exact nN _ (.head _)
          · exact nN _ (.tail _ (.tail _ hp))), StrsAre.cons _ _ .nil⟩
    case loop =>
      refine' find_turns pvs ?hh ?hS ?hF ?hN ?hm ?hc ?hd ?hmx ?hst ?turnN ?turnS ?fdone
      case hh => rfl
      case hF => exact F'
      case hN => exact N'
      case hm => exact (.head _)
      case hc => rfl
      case hd => rfl
      case hmx => rfl
      case hS => exact tS'
      case hst => exact .head _
      case turnN =>
        intro nm t st' t' I oI h tk hnm hvn hoI F'' N''
        clear F' N'
        dsimp only
        k_steps
        exact ⟨_, _, t, _, rfl, by assumption, fun y => by by_cases e : y = Str.ofString "style" <;> simp only [e, if_true, if_false], by assumption⟩
      case turnS =>
        intro nm t v st' t' I oI h tk hnm hvn hfs hoI F'' N''
        rw [hfi] at hfs
        cases hfs
        clear F' N'
        dsimp only
        k_steps
        exact ⟨rfl, _, _, _, rfl, by assumption, (fun y => rfl), (fun p hp => by rename News _ _ _ _ => nN; exact nN p (by repeat (first | exact hp | refine List.Mem.tail _ ?_)))⟩
      case fdone =>
        intro st' t' h tk hfn hst' F'' N''
        rw [hfi] at hfn; cases hfn
  case rest => 
    try dsimp only at hL'
    have hv2 := pat_at2 (Value.str (pat q1) p1) (.str (pat q2) p2) (.str (pat q3) p3) (.str (pat q4) p4)
    have hv3 := pat_ats (Value.str (pat q1) p1) (.str (pat q2) p2) (.str (pat q3) p3) (.str (pat q4) p4)
    have hv4 := pat_atm (Value.str (pat q1) p1) (.str (pat q2) p2) (.str (pat q3) p3) (.str (pat q4) p4)
    have hv5 := pat_ate (Value.str (pat q1) p1) (.str (pat q2) p2) (.str (pat q3) p3) (.str (pat q4) p4)
    have hl1 := marks5 mq1
    have hl2 := marks5 mq2
    have hl3 := marks5 mq3
    have hl4 := marks5 mq4
    have hna : @Ne Nat a (s₁.heap.objs.size + 1 + 1 + 1 + 1) := obj_ne N' (oc := c4) (by k_mem) (by k_mem) (by rw [d4]; intro h; cases h)
    have hnb : @Ne Nat b (s₁.heap.objs.size + 1 + 1 + 1 + 1) := obj_ne N' (oc := c4) (by k_mem) (by k_mem) (by
      obtain ⟨es, ep, _, hde, _⟩ := hdb
      rw [hde, d4]; intro h; cases h)
    rcases hT2.last with ⟨rfl, rfl⟩ | ⟨ys, yw, z, zt, rfl, rfl, hTy, hz0, hz1⟩
    · skip
      k_steps
      repeat (first | (k_unfold; (try dsimp only)) | dsimp only)
      refine good_true (two_eq _ _ _) ?_
      kc_close
    · skip
      have hyb : ∀ y ∈ yw, y.length ≤ 10 := fun y hy => hTb y (.tail _ (.tail _ (List.mem_append_left _ hy)))
      have hzb : z.length ≤ 10 := hTb z (.tail _ (.tail _ (List.mem_append_right _ (.head _))))
      have hpl1 : (ys ++ [Value.str z zt]).length = ys.length + 1 := by simp
      have hpl2 : (yw ++ [z]).length = yw.length + 1 := by simp
      have hTya := hTy.are
      have hpl3 := hTya.length
      have hsum := sum_len hl3 yw hyb
      have hJl := join_len hl3 yw hyb
      k_steps
      refine stop_out ?_
      refine' mid_loop (b := tk1) (ws := yw) (fun pre m => m (Str.ofString "patterns") = some (.ref b) ∧ m (Str.ofString "lst") = some (.ref il) ∧ ∃ ta, m (Str.ofString "result") = some (.str (accOf q3 (x0 ++ (q2 ++ x1)) pre) ta)) ?hb ?hh hTy ?F ?N ?hm ?hc ?hd ?h0 ?turn ?done ?hE
      case hb => (try dsimp only); omega
      case hh => rfl
      case F => k_asm
      case N => k_asm
      case hm => exact .head _
      case hc => rfl
      case hd => rfl
      case h0 => exact ⟨rfl, rfl, _, rfl⟩
      case hE => passes_own
      case turn =>
        intro pre y t m₁ I oI h tk hy h0t htb hbt hpl hpm hJ hoI F'' N''
        obtain ⟨j1, j2, ta, j3⟩ := hJ
        have F3 := fr_form_m F'' j1 j2 j3
        clear F''
        have hal := accOf_len hl3 pre (x0 ++ (q2 ++ x1)) (fun v hv => hyb v (hpm v hv))
        simp only [PySem.Str.length_append] at hal
        have hy10 := hyb y hy
        dsimp only
        k_steps
        exact ⟨rfl, _, _, _, rfl, by assumption, ⟨rfl, rfl, _, by rw [acc_snoc]; rfl⟩, by assumption⟩
      case done =>
        intro m₁ h tk hbt hJ F'' N''
        obtain ⟨j1, j2, ta, j3⟩ := hJ
        have F3 := fr_form_m F'' j1 j2 j3
        clear F''
        have hal := accOf_len hl3 yw (x0 ++ (q2 ++ x1)) hyb
        simp only [PySem.Str.length_append] at hal
        dsimp only
        k_steps
        refine stop_out ?_
        refine' BSrc.ledger (k := 0) ?hh ?kF ?kN ?km ?ks ?_
        case hh => rfl
        case kF => k_asm
        case kN => k_asm
        case km => k_mem
        case ks => rw [PySem.sizeLine_eq, List.size_toArray]; omega
        intro g'
        refine midB (q := q3) hTya (fun zz zt' I' oI' C' oC' D' m' ys' h' tk' E' hz' hC' hx' F' N' off' ne' => ?_) (fun b' ys' hys' => ?_)
        all_goals (try (have hz10 := hyb _ hz'; have off0 := off'; simp only [LCg.Off3] at off'))
        kcf_last
        all_goals k_steps
        repeat (first | (k_unfold; (try dsimp only)) | dsimp only)
        refine good_true (more_eq _ _ _ _ _ _ _) ?_
        kc_close
end Mine
end
theorem PySem.Challenge.cw_nk0011_01_holds : PySem.Challenge.rw_nk0011_01.Holds := by
  exact Mine.steps.2.2.2.2.2.2.2 ⟨Mine.part1⟩ ⟨Mine.part2⟩ ⟨Mine.part3⟩ ⟨Mine.part4⟩ ⟨Mine.part5⟩ ⟨Mine.part6⟩ ⟨Mine.part7⟩
