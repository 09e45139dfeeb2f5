import PyProof.Rows.All
import Wide.All
import OpenK.AllK
import Wide.FinOn
import Lean
import PySem.Challenge.RW_nk0001_01
open PySem PySem.W PyProof.Rows
set_option Elab.async false
-- the part NKTop
namespace Mine
open PySem PySem.W PyProof.Rows
set_option maxRecDepth 100000 in
set_option maxHeartbeats 8000000 in
open_top tp for PySem.Challenge.rw_nk0001_01
end Mine


-- the part Lem
namespace Mine
open PySem PySem.W PyProof.Rows PySem.Calls PySem.Spec
open LCg LCt
section
variable {prog : Program} {w : World} {A : Around} {h₀ : Heap} {L : Addr} {m : Str → Option Value} {env : Env} {ct elt : Expr} {x : Str} {scope : Scope} {cl : List (Str × Addr)} {s : Shared} {S : List (Addr × Obj) → Prop} {P : Nat → Value → Prop} {Fin : List Value → List (Addr × Obj) → Prop} {news : List (Addr × Obj)}

theorem restT_inv {α : Type} {items : List α} {n : Nat} (R : α → Value → Prop) (Inv : List α → List Value → List (Addr × Obj) → Prop) (hn : items.length = n)
    (hP : ∀ i v, P i v → ∃ a, items[i]? = some a ∧ R a v) (h0 : Inv [] [] news)
    (turn : ∀ pre a v I oI C oC D m₂ ys nw h tk (E' : Value → Shared → Prop), a ∈ items → R a v → Inv pre ys nw → NsObj oC m₂ → m₂ x = some v → Fr h₀ L h m → News h₀ L h ((I, oI) :: (C, oC) :: (D, lst ys) :: nw) → Off3 I C D nw → ((@Ne Nat I C) ∧ (@Ne Nat I D) ∧ (@Ne Nat C D)) →
      wpAny (model prog w) A (isTrue ct (compEnvC scope cl C env) (eval ct (compEnvC scope cl C env))) (fun ok s' => if ok = true then
        wpAny (model prog w) A (eval elt (compEnvC scope cl C env)) (CompEnd h₀ L m { s with heap := h, toks := tk } I oI C oC D (lst ys) S (fun y news' => Inv (pre ++ [a]) (ys ++ [y]) news')) E' s'
        else CompEnd h₀ L m { s with heap := h, toks := tk } I oI C oC D (lst ys) S (fun _ news' => Inv (pre ++ [a]) ys news') Value.none s') E' { s with heap := h, toks := tk })
    (fin : ∀ ys nw, Inv items ys nw → Fin ys nw) : CompRestT prog w A h₀ L m env ct elt x scope cl s S P Fin n 0 [] news := by
  have key : ∀ (j i : Nat) (ys : List Value) (nw : List (Addr × Obj)), i + j = n → Inv (items.take i) ys nw → CompRestT prog w A h₀ L m env ct elt x scope cl s S P Fin j i ys nw := by
    intro j
    induction j with
    | zero =>
      intro i ys nw hi hy
      have e : items.length ≤ i := by omega
      rw [List.take_of_length_le e] at hy
      exact CompRestT.zero (fin ys nw hy)
    | succ j ih =>
      intro i ys nw hi hy
      refine CompRestT.succ ?_
      intro v I oI C oC D m₂ h tk E' hv hC hx F N off ne
      obtain ⟨a, ha, hR⟩ := hP i v hv
      have es : items.take (i + 1) = items.take i ++ [a] := by rw [List.take_add_one, ha]; rfl
      refine wpAny_mono (turn (items.take i) a v I oI C oC D m₂ ys nw h tk E' (List.mem_of_getElem? ha) hR hy hC hx F N off ne) (fun ok s₂ hq => ?_) fun _ _ e => e
      cases ok with
      | true =>
        simp only [if_true] at hq ⊢
        refine wpAny_mono hq (fun y s₃ hz => ?_) fun _ _ e => e
        obtain ⟨h', tk', nw', e, F', N', off', hS, hI⟩ := hz
        exact ⟨h', tk', nw', e, F', N', off', hS, ih (i + 1) _ _ (by omega) (es ▸ hI)⟩
      | false =>
        simp only [Bool.false_eq_true, if_false] at hq ⊢
        obtain ⟨h', tk', nw', e, F', N', off', hS, hI⟩ := hq
        exact ⟨h', tk', nw', e, F', N', off', hS, ih (i + 1) _ _ (by omega) (es ▸ hI)⟩
  exact key n 0 [] news (by omega) (by simpa using h0)

theorem restU_inv {α : Type} {items : List α} {n : Nat} (R : α → Value → Prop) (Inv : List α → List Value → List (Addr × Obj) → Prop) (hn : items.length = n)
    (hP : ∀ i v, P i v → ∃ a, items[i]? = some a ∧ R a v) (h0 : Inv [] [] news)
    (turn : ∀ pre a v I oI C oC D m₂ ys nw h tk (E' : Value → Shared → Prop), a ∈ items → R a v → Inv pre ys nw → NsObj oC m₂ → m₂ x = some v → Fr h₀ L h m → News h₀ L h ((I, oI) :: (C, oC) :: (D, lst ys) :: nw) → Off3 I C D nw → ((@Ne Nat I C) ∧ (@Ne Nat I D) ∧ (@Ne Nat C D)) →
      wpAny (model prog w) A (eval elt (compEnvC scope cl C env)) (CompEnd h₀ L m { s with heap := h, toks := tk } I oI C oC D (lst ys) S (fun y news' => Inv (pre ++ [a]) (ys ++ [y]) news')) E' { s with heap := h, toks := tk })
    (fin : ∀ ys nw, Inv items ys nw → Fin ys nw) : CompRest prog w A h₀ L m env elt x scope cl s S P Fin n 0 [] news := by
  have key : ∀ (j i : Nat) (ys : List Value) (nw : List (Addr × Obj)), i + j = n → Inv (items.take i) ys nw → CompRest prog w A h₀ L m env elt x scope cl s S P Fin j i ys nw := by
    intro j
    induction j with
    | zero =>
      intro i ys nw hi hy
      have e : items.length ≤ i := by omega
      rw [List.take_of_length_le e] at hy
      exact CompRest.zero (fin ys nw hy)
    | succ j ih =>
      intro i ys nw hi hy
      refine CompRest.succ ?_
      intro v I oI C oC D m₂ h tk E' hv hC hx F N off ne
      obtain ⟨a, ha, hR⟩ := hP i v hv
      have es : items.take (i + 1) = items.take i ++ [a] := by rw [List.take_add_one, ha]; rfl
      refine wpAny_mono (turn (items.take i) a v I oI C oC D m₂ ys nw h tk E' (List.mem_of_getElem? ha) hR hy hC hx F N off ne) (fun y s₃ hz => ?_) fun _ _ e => e
      obtain ⟨h', tk', nw', e, F', N', off', hS, hI⟩ := hz
      exact ⟨h', tk', nw', e, F', N', off', hS, ih (i + 1) _ _ (by omega) (es ▸ hI)⟩
  exact key n 0 [] news (by omega) (by simpa using h0)

end

theorem strs_at {vs : List Value} {xs : List Str} (h : StrsAre vs xs) : ∀ (i : Nat) (v : Value), vs.toArray[i]? = some v → ∃ a, xs[i]? = some a ∧ ∃ t, v = Value.str a t := by
  induction h with
  | nil => intro i v hv; simp at hv
  | cons x t r ih =>
    intro i v hv
    cases i with
    | zero =>
      refine ⟨x, rfl, t, ?_⟩
      simpa using hv.symm
    | succ i =>
      obtain ⟨a, ha, hb⟩ := ih i v (by simpa using hv)
      exact ⟨a, by simpa using ha, hb⟩
theorem strs_len {vs : List Value} {xs : List Str} (h : StrsAre vs xs) : xs.length = vs.toArray.size := by
  rw [List.size_toArray]; exact (h.length).symm
theorem strs_snoc {y : Str} {t : Tok} : ∀ {vs : List Value} {ys : List Str}, StrsAre vs ys → StrsAre (vs ++ [Value.str y t]) (ys ++ [y])
  | _, _, .nil => .cons y t .nil
  | _, _, .cons z u r => .cons z u (strs_snoc r)
theorem strs_append : ∀ {vs us : List Value} {ys zs : List Str}, StrsAre vs ys → StrsAre us zs → StrsAre (vs ++ us) (ys ++ zs)
  | _, _, _, _, .nil, h => h
  | _, _, _, _, .cons z u r, h => .cons z u (strs_append r h)
end Mine

-- the part Loop
namespace Mine
open PySem PySem.W PyProof.Rows PySem.Calls PySem.Spec
section
variable {prog : Program} {w : World} {A : Around} {E : Value → Shared → Prop} {s : Shared} {env : Env} {h₀ : Heap} {target iter : PySem.Expr} {pos : Pos} {body : List Stmt} {Q : Flow → Shared → Prop}

/-- a loop over a list of the ledger: any target, the ledger may grow, and the tokens' count is never below n0 -/
def ListFor (prog : Program) (w : World) (A : Around) (h₀ : Heap) (env : Env) (target : PySem.Expr) (body : List Stmt) (Q : Flow → Shared → Prop) (E : Value → Shared → Prop) (n0 : Nat) (xv : Value) (s₁ : Shared) : Prop :=
  ∃ (ax : Addr) (vs : List Value) (nn : Nat) (m₀ : Str → Option Value) (news : List (Addr × Obj)) (J : List Value → (Str → Option Value) → List (Addr × Obj) → Prop),
    xv = .ref ax ∧ n0 ≤ s₁.toks ∧ Fr h₀ env.locals s₁.heap m₀ ∧ News h₀ env.locals s₁.heap news ∧ (ax, listOf vs.toArray nn) ∈ news ∧ J [] m₀ news ∧
    (∀ pre v post m₁ nw I (it : Obj) h tk, vs = pre ++ v :: post → J pre m₁ nw → (ax, listOf vs.toArray nn) ∈ nw → (∀ p ∈ nw, p.1 ≠ I) → it.cls = .type "list_iterator" → n0 ≤ tk → Fr h₀ env.locals h m₁ → News h₀ env.locals h ((I, it) :: nw) →
      wpAny (model prog w) A (assign target env v) (fun _ s₃ => wpAny (model prog w) A (execs body env) (UnrPost h₀ env.locals { s₁ with heap := h, toks := tk } I it (fun m' n' => (ax, listOf vs.toArray nn) ∈ n' ∧ J (pre ++ [v]) m' n') Q) E s₃) E { s₁ with heap := h, toks := tk }) ∧
    (∀ m₁ nw h tk, J vs m₁ nw → n0 ≤ tk → Fr h₀ env.locals h m₁ → News h₀ env.locals h nw → Q .next { s₁ with heap := h, toks := tk })

theorem for_list (hh : A.handled = none) (n0 : Nat) (h : wpAny (model prog w) A (eval iter env) (ListFor prog w A h₀ env target body Q E n0) E s)
    (hs : ∀ x, foldedSetIterable iter env x = pure x := by intro _; rfl) (hE : PassesOwn (model prog w) A env E := by passes_own) :
    wpAny (model prog w) A (exec (.For target iter body [] pos) env) Q E s := by
  refine wpAny_For (wpAny_mono h (fun xv s₁ h₁ => ?_) fun _ _ e => e) hs
  obtain ⟨ax, vs, nn, m₀, news, J, rfl, htk, F, N, hm, hj, turn, done⟩ := h₁
  have hax := N _ hm
  have hl : s₁.heap.IsList ax vs.toArray := ⟨_, hax.1, rfl, nn, rfl⟩
  refine wpAny_pyIter_list hl ?_
  generalize hI : s₁.heap.objs.size = I
  have hIL : env.locals ≠ I := by rw [← hI]; exact Nat.ne_of_lt F.ns.lt
  have hI₀ : h₀.get? I = none := by rw [← hI]; exact next_is_new F
  have hIx : ax ≠ I := by rw [← hI]; exact Nat.ne_of_lt (Heap.lt_size hax.1)
  have frm : ∀ {h h' : Heap} {m : Str → Option Value}, Fr h₀ env.locals h m → (∀ b o, b ≠ I → h.get? b = some o → h'.get? b = some o) → Fr h₀ env.locals h' m := fun F hk =>
    ⟨F.ns.at' fun o e => hk _ o hIL e, fun b o e => hk b o (fun q => by rw [q, hI₀] at e; cases e) (F.keep b o e), F.above⟩
  have nws : ∀ {h h' : Heap} {nw : List (Addr × Obj)}, News h₀ env.locals h nw → (∀ p ∈ nw, p.1 ≠ I) → (∀ b o, b ≠ I → h.get? b = some o → h'.get? b = some o) → News h₀ env.locals h' nw := fun N ho hk p hp =>
    ⟨hk _ _ (ho p hp) (N p hp).1, (N p hp).2⟩
  refine codeAny_forLoop_any
    (fun k s' => ∃ pre post m nw h tk, vs = pre ++ post ∧ s' = { s₁ with heap := h, toks := tk } ∧ n0 ≤ tk ∧ h.IsListIter I ax pre.length ∧ Fr h₀ env.locals h m ∧ News h₀ env.locals h nw ∧ (ax, listOf vs.toArray nn) ∈ nw ∧ (∀ p ∈ nw, p.1 ≠ I) ∧ J pre m nw ∧ k = post.length) ?_ vs.length
    ⟨[], vs, m₀, news, _, _, rfl, rfl, htk, by rw [← hI]; exact ⟨_, Heap.get?_push_size _ rfl, rfl, rfl⟩, F.push _, (fun p hp => ⟨Heap.get?_push_of_some _ (N p hp).1, (N p hp).2⟩), hm, (fun p hp => by rw [← hI]; exact Nat.ne_of_lt (Heap.lt_size (N p hp).1)), hj, rfl⟩
  rintro k s' ⟨pre, post, m, nw, h', tk, hvs, rfl, htk', hit, F', N', hm', hoff, hJ, rfl⟩
  have hl' : h'.IsList ax vs.toArray := ⟨_, (N' _ hm').1, rfl, nn, rfl⟩
  cases post with
  | nil =>
    refine wpAny_pyNext_list_end hh hit hl' (by rw [hvs]; simp) fun h₂ hx => ?_
    have hk : ∀ b o, b ≠ I → h'.get? b = some o → h₂.get? b = some o := fun b o hb e => hx b o hb e
    refine wpAny_execs_nil ?_
    rw [List.append_nil] at hvs
    exact done m nw h₂ tk (hvs ▸ hJ) htk' (frm F' hk) (nws N' hoff hk)
  | cons v post =>
    refine wpAny_pyNext_list_item (x := v) hit hl' (by rw [hvs]; simp) fun h₂ hit₂ hx => ?_
    have hk : ∀ b o, b ≠ I → h'.get? b = some o → h₂.get? b = some o := fun b o hb e => hx.extBut b o hb e
    obtain ⟨it, hiI, hic, hid⟩ := id hit₂
    refine letGo_listiter hit₂ ?_
    have N₂ : News h₀ env.locals h₂ ((I, it) :: nw) := fun p hp => by
      rcases List.mem_cons.mp hp with rfl | hp
      · exact ⟨hiI, Ne.symm hIL, hI₀⟩
      · exact nws N' hoff hk p hp
    refine wpAny_passesOwn hE (wpAny_mono (wpAny_toks_of (n := n0) htk' (turn pre v post m nw I it h₂ tk hvs hJ hm' hoff hic htk' (frm F' hk) N₂)) (fun _ s₂ h₂' => ?_) fun _ _ e => e.2)
    refine wpAny_passesOwn hE (wpAny_mono (wpAny_toks_of (n := n0) h₂'.1 h₂'.2) (fun f s₃ h₃ => ?_) fun _ _ e => e.2)
    have step : n0 ≤ s₃.toks → UnrEnd h₀ env.locals { s₁ with heap := h₂, toks := tk } I it (fun m' n' => (ax, listOf vs.toArray nn) ∈ n' ∧ J (pre ++ [v]) m' n') s₃ →
        ∃ k, k < (v :: post).length ∧ ∃ pre post m nw h tk, vs = pre ++ post ∧ s₃ = { s₁ with heap := h, toks := tk } ∧ n0 ≤ tk ∧ h.IsListIter I ax pre.length ∧ Fr h₀ env.locals h m ∧ News h₀ env.locals h nw ∧ (ax, listOf vs.toArray nn) ∈ nw ∧ (∀ p ∈ nw, p.1 ≠ I) ∧ J pre m nw ∧ k = post.length := by
      rintro hn ⟨h₄, tk₄, m₄, nw₄, rfl, F₄, N₄, off₄, hm₄, hJ₄⟩
      refine ⟨post.length, by simp, pre ++ [v], post, m₄, nw₄, h₄, tk₄, by rw [hvs, List.append_assoc]; rfl, rfl, hn, ?_, F₄, (fun p hp => N₄ p (List.mem_cons_of_mem _ hp)), hm₄, off₄, hJ₄, rfl⟩
      exact ⟨it, (N₄ _ List.mem_cons_self).1, hic, by rw [List.length_append, List.length_singleton]; exact hid⟩
    cases f with
    | ret v => exact h₃.2
    | brk => exact h₃.2
    | next => exact step h₃.1 h₃.2
    | cont => exact step h₃.1 h₃.2
end
/-- a mark: the tokens' count is watched from n on -/
structure TokOf (n : Nat) : Prop where
  mark : True
theorem execs_tok {M : Model} {A : Around} {E : Value → Shared → Prop} {s : Shared} {env : Env} {Q : Flow → Shared → Prop} {n : Nat} {st : Stmt} {rest : List Stmt} (_ : TokOf n) (hn : n ≤ s.toks)
    (h : ∀ tk, n ≤ tk → wpAny M A (exec st env) (fun f s' => n ≤ s'.toks → match f with | .next => wpAny M A (execs rest env) Q E s' | f => Q f s') E { heap := s.heap, gens := s.gens, drawn := s.drawn, toks := tk, os := s.os }) :
    wpAny M A (execs (st :: rest) env) Q E s :=
  wpAny_execs_cons (wpAny_mono (wpAny_toks_of hn (h s.toks hn)) (fun _ _ x => x.2 x.1) fun _ _ x => x.2)
theorem ne_of_stored {stored : List Str} {z k : Str} (hz : stored.contains z = false) (hk : stored.contains k = true) : z ≠ k := by
  rintro rfl
  rw [hk] at hz
  cases hz
section
variable {prog : Program} {w : World} {A : Around} {E : Value → Shared → Prop} {s : Shared} {env : Env} {h₀ : Heap} {x : Str} {body : List Stmt} {Q : Flow → Shared → Prop}
/-- the frame beside the stored names stands as it stood -/
def Kept (stored : List Str) (mB m : Str → Option Value) : Prop := ∀ z, stored.contains z = false → m z = mB z
theorem Kept.eq {stored : List Str} {mB m : Str → Option Value} (k : Kept stored mB m) : m = fun z => if stored.contains z then m z else mB z := by
  funext z
  cases h : stored.contains z with
  | true => simp
  | false => simp only [Bool.false_eq_true, if_false]; exact k z h

theorem listFor_kept {target : PySem.Expr} {n0 : Nat} {ax : Addr} {vs : List Value} {nn : Nat} {mB : Str → Option Value} {news : List (Addr × Obj)} (stored : List Str) (K : List Value → (Str → Option Value) → List (Addr × Obj) → Prop)
    (hn : n0 ≤ s.toks) (F : Fr h₀ env.locals s.heap mB) (N : News h₀ env.locals s.heap news) (hm : (ax, listOf vs.toArray nn) ∈ news) (h0 : K [] mB news)
    (turn : ∀ pre v post (u : Str → Option Value) nw I (it : Obj) h tk, vs = pre ++ v :: post → K pre u nw → (ax, listOf vs.toArray nn) ∈ nw → (∀ p ∈ nw, p.1 ≠ I) → it.cls = .type "list_iterator" → n0 ≤ tk → Fr h₀ env.locals h (fun y => if stored.contains y then u y else mB y) → News h₀ env.locals h ((I, it) :: nw) →
      wpAny (model prog w) A (assign target env v) (fun _ s₃ => wpAny (model prog w) A (execs body env) (UnrPost h₀ env.locals { heap := h, gens := s.gens, drawn := s.drawn, toks := tk, os := s.os } I it (fun m' n' => (ax, listOf vs.toArray nn) ∈ n' ∧ Kept stored mB m' ∧ K (pre ++ [v]) m' n') Q) E s₃) E { heap := h, gens := s.gens, drawn := s.drawn, toks := tk, os := s.os })
    (done : ∀ (u : Str → Option Value) nw h tk, K vs u nw → n0 ≤ tk → Fr h₀ env.locals h (fun y => if stored.contains y then u y else mB y) → News h₀ env.locals h nw → Q .next { heap := h, gens := s.gens, drawn := s.drawn, toks := tk, os := s.os }) :
    ListFor prog w A h₀ env target body Q E n0 (.ref ax) s := by
  refine ⟨ax, vs, nn, mB, news, fun pre m nw => Kept stored mB m ∧ K pre m nw, rfl, hn, F, N, hm, ⟨fun _ _ => rfl, h0⟩, ?_, ?_⟩
  · rintro pre v post m₁ nw I it h tk e ⟨k, hk⟩ hx ho hic ht F' N'
    rw [k.eq] at F'
    exact turn pre v post m₁ nw I it h tk e hk hx ho hic ht F' N'
  · rintro m₁ nw h tk ⟨k, hk⟩ ht F' N'
    rw [k.eq] at F'
    exact done m₁ nw h tk hk ht F' N'
end
theorem strs_split : ∀ {pre : List Value} {v : Value} {post : List Value} {xs : List Str}, StrsAre (pre ++ v :: post) xs → ∃ xpre x xpost t, xs = xpre ++ x :: xpost ∧ v = Value.str x t ∧ StrsAre pre xpre
  | [], _, _, _, .cons x t r => ⟨[], x, _, t, rfl, rfl, .nil⟩
  | _ :: _, _, _, _, .cons y u r => by
    obtain ⟨xpre, x, xpost, t, e, ev, h⟩ := strs_split r
    exact ⟨y :: xpre, x, xpost, t, by rw [e]; rfl, ev, .cons y u h⟩
theorem strs_fun : ∀ {vs : List Value} {a b : List Str}, StrsAre vs a → StrsAre vs b → a = b
  | _, _, _, .nil, .nil => rfl
  | _, _, _, .cons _ _ h, .cons _ _ h' => by rw [strs_fun h h']
end Mine

-- the part Spec
namespace Mine
open PySem PySem.W PyProof.Rows PySem.Calls PySem.Spec PyProof.V
set_option maxRecDepth 100000

/-- a written table: key, value, the tokens of both -/
def rows1 : List (Str × Str × Nat × Nat) := [(Str.ofString "ar", Str.ofString "ar_SY", 189, 190), (Str.ofString "bg", Str.ofString "bg_BG", 192, 193), (Str.ofString "bs", Str.ofString "bs_BA", 195, 196), (Str.ofString "ca", Str.ofString "ca_ES", 198, 199), (Str.ofString "cs", Str.ofString "cs_CZ", 201, 202), (Str.ofString "da", Str.ofString "da_DK", 204, 205), (Str.ofString "de", Str.ofString "de_DE", 207, 208), (Str.ofString "el", Str.ofString "el_GR", 210, 211), (Str.ofString "en", Str.ofString "en_US", 213, 214), (Str.ofString "es", Str.ofString "es_ES", 216, 217), (Str.ofString "et", Str.ofString "et_EE", 219, 220), (Str.ofString "fa", Str.ofString "fa_IR", 222, 223), (Str.ofString "fi", Str.ofString "fi_FI", 225, 226), (Str.ofString "fr", Str.ofString "fr_FR", 228, 229), (Str.ofString "gl", Str.ofString "gl_ES", 231, 232), (Str.ofString "he", Str.ofString "he_IL", 234, 235), (Str.ofString "hu", Str.ofString "hu_HU", 237, 238), (Str.ofString "id", Str.ofString "id_ID", 240, 241), (Str.ofString "is", Str.ofString "is_IS", 243, 244), (Str.ofString "it", Str.ofString "it_IT", 246, 247), (Str.ofString "ja", Str.ofString "ja_JP", 249, 250), (Str.ofString "km", Str.ofString "km_KH", 252, 253), (Str.ofString "ko", Str.ofString "ko_KR", 255, 256), (Str.ofString "lt", Str.ofString "lt_LT", 258, 259), (Str.ofString "lv", Str.ofString "lv_LV", 261, 262), (Str.ofString "mk", Str.ofString "mk_MK", 264, 265), (Str.ofString "nl", Str.ofString "nl_NL", 267, 268), (Str.ofString "nn", Str.ofString "nn_NO", 270, 271), (Str.ofString "no", Str.ofString "nb_NO", 273, 274), (Str.ofString "pl", Str.ofString "pl_PL", 276, 277), (Str.ofString "pt", Str.ofString "pt_PT", 279, 280), (Str.ofString "ro", Str.ofString "ro_RO", 282, 283), (Str.ofString "ru", Str.ofString "ru_RU", 285, 286), (Str.ofString "sk", Str.ofString "sk_SK", 288, 289), (Str.ofString "sl", Str.ofString "sl_SI", 291, 292), (Str.ofString "sv", Str.ofString "sv_SE", 293, 294), (Str.ofString "th", Str.ofString "th_TH", 295, 296), (Str.ofString "tr", Str.ofString "tr_TR", 297, 298), (Str.ofString "uk", Str.ofString "uk_UA", 299, 300)]
def rows2 : List (Str × Str × Nat × Nat) := [(Str.ofString "en", Str.ofString "en_US", 328, 329), (Str.ofString "no", Str.ofString "sv", 330, 331)]

def entOf (P : Params) (r : Str × Str × Nat × Nat) : DictEntry := { hash := PyData.keyHash P r.1, key := .str r.1 r.2.2.1, val := .str r.2.1 r.2.2.2 }
def tabD (T : List (Str × Str)) : List (PyData × PyData) := T.map fun p => (PyData.str p.1, PyData.str p.2)
def pairsOf (rs : List (Str × Str × Nat × Nat)) : List (Str × Str) := rs.map fun r => (r.1, r.2.1)
def look (T : List (Str × Str)) (k : Str) : Option Str := (T.find? fun p => decide (p.1 = k)).map (·.2)

theorem tabD_lookup (k : Str) : ∀ T : List (Str × Str), PySem.Spec.lookup (PyData.str k) (tabD T) = (look T k).map PyData.str
  | [] => rfl
  | (i, v) :: c => by
    show (if PySem.Spec.same (PyData.str i) (PyData.str k) = true then some (PyData.str v) else PySem.Spec.lookup (PyData.str k) (tabD c)) = _
    rw [PyProof.V.same_str, tabD_lookup k c]
    unfold look
    rw [List.find?_cons]
    by_cases h : i = k
    · simp [h]
    · simp [h]

section
variable {prog : Program} {w : World}
theorem ent_pairs : ∀ rs : List (Str × Str × Nat × Nat), Pairs (PySem.strKind prog w) (rs.map (entOf w.params)) (rs.map fun r => (r.1, Value.str r.2.1 r.2.2.2))
  | [] => .nil
  | r :: rs => .cons (by exact strKind_is prog w r.1 r.2.2.1) rfl (ent_pairs rs)
theorem ent_keys (rs : List (Str × Str × Nat × Nat)) : KeysOf (PySem.strKind prog w) (rs.map (entOf w.params)).toArray := by
  intro e he
  have he' : e ∈ rs.map (entOf w.params) := by simpa using he
  obtain ⟨r, _, rfl⟩ := List.mem_map.mp he'
  exact ⟨r.1, strKind_is prog w r.1 r.2.2.1, rfl⟩
theorem ent_flat : ∀ rs : List (Str × Str × Nat × Nat), FlatPairs PyData.str (rs.map fun r => (r.1, Value.str r.2.1 r.2.2.2)) (tabD (pairsOf rs))
  | [] => .nil
  | r :: rs => .cons (PyProof.V.Flat.str r.2.1 r.2.2.2) (ent_flat rs)
theorem ent_tab {h : Heap} {d : Addr} (rs : List (Str × Str × Nat × Nat)) (n : Nat) (lo : (d == sysModules) = false) (hn : (rs.map (·.1)).Nodup) (ho : h.get? d = some { cls := .type "dict", data := .dict (rs.map (entOf w.params)).toArray n }) : StrTab prog w h d (tabD (pairsOf rs)) := by
  refine TabAt.ofObj lo ho ⟨_, _, ⟨rfl, rfl, rfl⟩, rfl, ent_keys rs, ?_, ?_⟩ (ent_flat rs)
  · exact ent_pairs rs
  · rw [List.map_map]; exact hn
theorem tab15 {h : Heap} (X : (tp.heap_39 w.params).In h) : StrTab prog w h 15 (tabD (pairsOf rows1)) :=
  ent_tab rows1 39 (by decide +kernel) (by decide +kernel) (X 15 _ (by with_unfolding_all rfl))
theorem tab38 {h : Heap} (X : (tp.heap_39 w.params).In h) : StrTab prog w h 38 (tabD (pairsOf rows2)) :=
  ent_tab rows2 2 (by decide +kernel) (by decide +kernel) (X 38 _ (by with_unfolding_all rfl))
end

theorem booked_K {w : World} {h : Heap} (X : (tp.heap_39 w.params).In h) : NoneBooked h :=
  ⟨fun _ => none, ⟨_, #[], 0, X 2 _ (by with_unfolding_all rfl), rfl, by intro e he; simp at he, fun _ => rfl⟩, rfl⟩
/-- the aliases' value, and the pairs that it stands for -/
def IsAlias (v : Value) (T : List (Str × Str)) : Prop := (v = .none ∧ T = []) ∨ (v = .ref 15 ∧ T = pairsOf rows1) ∨ (v = .ref 38 ∧ T = pairsOf rows2)
def IsSep (sep : Str) : Prop := sep = Str.ofString "_" ∨ sep = Str.ofString "-"
theorem IsSep.one {sep : Str} (h : IsSep sep) : sep.length = 1 := by rcases h with rfl | rfl <;> decide +kernel
def ValOk (sep v : Str) : Prop := v.length ≤ 8 ∧ (v.length == 0) = false ∧ (Txt.replace v (Str.ofString "_") sep).length ≤ 64
theorem vals1 : ∀ p ∈ pairsOf rows1, ValOk (Str.ofString "_") p.2 ∧ ValOk (Str.ofString "-") p.2 := by delta ValOk; decide +kernel
theorem vals2 : ∀ p ∈ pairsOf rows2, ValOk (Str.ofString "_") p.2 ∧ ValOk (Str.ofString "-") p.2 := by delta ValOk; decide +kernel
theorem alias_open {prog : Program} {w : World} {h : Heap} {v : Value} {T : List (Str × Str)} {sep : Str} (X : (tp.heap_39 w.params).In h) (a : IsAlias v T) (hs : IsSep sep) :
    (v = .none ∧ T = []) ∨ ∃ d, v = .ref d ∧ StrTab prog w h d (tabD T) ∧ T ≠ [] ∧ T.length ≤ 39 ∧ ∀ p ∈ T, ValOk sep p.2 := by
  rcases a with ⟨rfl, rfl⟩ | ⟨rfl, rfl⟩ | ⟨rfl, rfl⟩
  · exact .inl ⟨rfl, rfl⟩
  · exact .inr ⟨15, rfl, tab15 X, by decide +kernel, by decide +kernel, fun p hp => by rcases hs with rfl | rfl; exact (vals1 p hp).1; exact (vals1 p hp).2⟩
  · exact .inr ⟨38, rfl, tab38 X, by decide +kernel, by decide +kernel, fun p hp => by rcases hs with rfl | rfl; exact (vals2 p hp).1; exact (vals2 p hp).2⟩
theorem look_mem {T : List (Str × Str)} {k v : Str} (h : look T k = some v) : ∃ p ∈ T, p.2 = v := by
  unfold look at h
  cases hf : T.find? fun p => decide (p.1 = k) with
  | none => rw [hf] at h; cases h
  | some p => rw [hf] at h; exact ⟨p, List.mem_of_find?_eq_some hf, Option.some.inj h⟩

section
variable {prog : Program} {w : World} {A : Around} {E : Value → Shared → Prop} {s : Shared} {g : Heap} {L d : Addr} {m : Str → Option Value} {T : List (Str × Str)} {k : Str} {tk : Tok}
theorem tab_truthy {Q : Bool → Shared → Prop} (F : Fr g L s.heap m) (TT : StrTab prog w g d (tabD T)) (tne : T ≠ []) (tlen : T.length ≤ 39) (h : Q true { s with toks := s.toks + 1 + 1 }) : wpAny (model prog w) A (truthy (.ref d)) Q E s := by
  have hl : (tabD T).length = T.length := by unfold tabD; rw [List.length_map]
  refine truthy_tab (TT.keep F.keep) (by rw [hl]; omega) ?_
  have e : (!(tabD T).isEmpty) = true := by cases T with | nil => exact absurd rfl tne | cons _ _ => rfl
  rw [e]; exact h
theorem tab_method {pl : Sem Bool} {Q : Value × List Value → Shared → Prop} (F : Fr g L s.heap m) (TT : StrTab prog w g d (tabD T)) (h : Q (.builtin "dict.get", [.ref d]) s) : wpAny (model prog w) A (getMethod (.ref d) (Str.ofString "get") pl) Q E s :=
  getMethod_strTab_get (TT.keep F.keep) h
theorem len_strs {l : Addr} {vs : List Value} {xs : List Str} {c : Nat} {news : List (Addr × Obj)} {Q : Value → Shared → Prop} (N : News g L s.heap news) (hm : (l, listOf vs.toArray c) ∈ news) (hs : StrsAre vs xs) (hb : xs.length ≤ 1000)
    (h : ∀ t, Q (.int (xs.length : Nat) t) { s with toks := s.toks + 1 + 1 }) : wpAny (model prog w) A (call (.builtin "len") [.ref l]) Q E s := by
  have hl : s.heap.IsList l vs.toArray := ⟨_, (N _ hm).1, rfl, c, rfl⟩
  have e2 : vs.toArray.size = xs.length := (strs_len hs).symm
  exact len_list hl (by rw [e2]; omega) (by rw [e2]; exact h _)
theorem tab_get {sep : Str} {Q : Value → Shared → Prop} (F : Fr g L s.heap m) (TT : StrTab prog w g d (tabD T)) (tbd : ∀ p ∈ T, ValOk sep p.2) (h1 : ∀ v t, look T k = some v → v.length ≤ 8 → (v.length : Int) ≠ 0 → (Txt.replace v (Str.ofString "_") sep).length ≤ 64 → Q (.str v t) { s with toks := s.toks + 1 }) (h2 : look T k = none → Q .none { s with toks := s.toks + 1 }) :
    wpAny (model prog w) A (call (.builtin "dict.get") [.ref d, .str k tk]) Q E s :=
  call_get1_strTab (TT.keep F.keep) fun v hv => by
    rw [tabD_lookup] at hv
    cases hk : look T k with
    | none => rw [hk] at hv; have hv' : Flat v .none := hv; rw [hv'.none_inv]; exact h2 hk
    | some x =>
      rw [hk] at hv; obtain ⟨t, rfl⟩ := PyProof.V.Flat.str_inv hv
      obtain ⟨p, hp, rfl⟩ := look_mem hk
      have b := tbd p hp
      exact h1 _ t hk b.1 (by have := b.2.1; intro e; rw [beq_eq_false_iff_ne] at this; omega) b.2.2
theorem replace_any {x z : Str} {n u v : Nat} {t : Tok} {Q : Value → Shared → Prop} (F : Fr g L s.heap m) (X : (tp.heap_39 w.params).In g) (hz : IsSep z) (hx : x.length ≤ 8) (hv : v ≠ 0) (hn : v + 1 = n) (hu : n ≤ u) (h : ∀ t' k', Q (.str (Txt.replace x (Str.ofString "_") z) t') { s with toks := k' }) :
    wpAny (model prog w) A (call (.builtin "str.replace") [.str x t, .str (Str.ofString "_") u, .str z v]) Q E s :=
  have h1 : u ≠ 0 := by omega
  have h2 : u ≠ v := by omega
  SC.replaceW2 8 1 (by decide) h1 hv h2 hx (by rw [hz.one]; exact Nat.le_refl _) h (booked_K (X.keeps F.keep))
theorem truthy_ne {x : Str} {t : Tok} {Q : Bool → Shared → Prop} (h1 : x.length ≤ 8) (h2 : (x.length : Int) ≠ 0) (h : Q true { s with toks := s.toks + 1 + 1 }) : wpAny (model prog w) A (truthy (.str x t)) Q E s :=
  SBL.truthy (by omega) (by have e : ((x.length : Int) != 0) = true := by simpa using h2
                            rw [e]; exact h)
theorem part_ok {x y : Str} {i : Nat} (h : x.length ≤ 64) : ((Txt.split x y).getD i Str.empty).length ≤ 5592405 := by
  rw [List.getD_eq_getElem?_getD]
  cases e : (Txt.split x y)[i]? with
  | none => simp only [Option.getD_none]; decide
  | some a =>
    simp only [Option.getD_some]
    exact Nat.le_trans (part_short (List.mem_of_getElem? e)) (by omega)
theorem tab_in {Q : Value → Shared → Prop} (F : Fr g L s.heap m) (TT : StrTab prog w g d (tabD T)) (h : Q (.bool (look T k).isSome) { s with toks := s.toks + 1 }) :
    wpAny (model prog w) A (compareOp .In (.str k tk) (.ref d)) Q E s :=
  in_strTab (TT.keep F.keep) (by rw [tabD_lookup, Option.isSome_map]; exact h)
theorem tab_item {v : Str} {value slice : PySem.Expr} {Q : Value → Shared → Prop} (F : Fr g L s.heap m) (TT : StrTab prog w g d (tabD T)) (hk : look T k = some v) (h : ∀ t, Q (.str v t) { s with toks := s.toks + 1 })
    (hs : subscripted slice false (.ref d) (.str k tk) = operate [.ref d, .str k tk] (getItem (.ref d) (.str k tk)) := by with_unfolding_all rfl) (hg : ∀ r, letTemporaryGo value (.ref d) r = pure () := by intro _; with_unfolding_all rfl) :
    wpAny (model prog w) A (subscriptTail value slice (.ref d) (.str k tk)) Q E s :=
  item_strTab (TT.keep F.keep) (by rw [tabD_lookup, hk]; rfl) (fun u hu => by
    obtain ⟨t, rfl⟩ := PyProof.V.Flat.str_inv hu
    exact h t) hs hg
theorem split_any {x y : Str} {t u : Tok} {news : List (Addr × Obj)} {Q : Value → Shared → Prop} (hF : Fr g L s.heap m) (hN : News g L s.heap news) (hy : (y.length == 0) = false) (hx : x.length ≤ 64)
    (h : ∀ D (vs : List Value) h' k, StrsAre vs (Txt.split x y) → Fr g L h' m → News g L h' ((D, listOf vs.toArray 0) :: news) → (∀ p ∈ news, p.1 < D) → Q (.ref D) { s with heap := h', toks := k }) :
    wpAny (model prog w) A (call (.builtin "str.split") [.str x t, .str y u]) Q E s :=
  KSpl.split1 hF hN hy (fun D l h' k e hs F N hl => h D _ h' k (e ▸ hs) F N hl) (by rw [sizeLine_eq]; omega)
end
/-- the names that are there, in small letters, the empty ones left out -/
def knownOf (as : List Str) : List Str := (as.filter fun a => !(a == Str.ofString "")).map Txt.lower
theorem str_len0 {x : Str} (h : (x.length : Int) = 0) : x = Str.ofString "" := by
  have h1 : x.cps.size = 0 := by have h2 : (x.cps.size : Int) = 0 := h; omega
  have h3 : x.cps = #[] := Array.eq_empty_of_size_eq_zero h1
  cases x; simp only at h3; subst h3; rfl
theorem knownOf_ne {as : List Str} {x : Str} (h : (x.length : Int) ≠ 0) : knownOf (as ++ [x]) = knownOf as ++ [Txt.lower x] := by
  have h1 : (x == Str.ofString "") = false := by
    refine beq_eq_false_iff_ne.mpr fun e => h ?_
    subst e; rfl
  unfold knownOf
  rw [List.filter_append, List.filter_cons, h1]
  simp
theorem knownOf_eq {as : List Str} {x : Str} (h : (x.length : Int) = 0) : knownOf (as ++ [x]) = knownOf as := by
  have h1 : (x == Str.ofString "") = true := by rw [str_len0 h]; exact beq_self_eq_true _
  unfold knownOf
  rw [List.filter_append, List.filter_cons, h1]
  simp
theorem knownOf_bne {as : List Str} {x : Str} (h : (x != Str.ofString "") = true) : knownOf (as ++ [x]) = knownOf as ++ [Txt.lower x] := by
  unfold knownOf
  have h1 : (x == Str.ofString "") = false := by simpa [bne] using h
  rw [List.filter_append, List.filter_cons, h1]
  simp
theorem knownOf_beq {as : List Str} {x : Str} (h : (x != Str.ofString "") = false) : knownOf (as ++ [x]) = knownOf as := by
  unfold knownOf
  have h1 : (x == Str.ofString "") = true := by simpa [bne] using h
  rw [List.filter_append, List.filter_cons, h1]
  simp
/-- is a text in the list -/
def isIn (kn : List Str) (x : Str) : Bool := kn.any fun y => y == x
def byAlias (T : List (Str × Str)) (sep x : Str) : Option Str := (look T (Txt.lower x)).map fun a => Txt.replace a (Str.ofString "_") sep
def tryName (kn : List Str) (x : Str) : Option Str := if isIn kn (Txt.lower x) then some x else none
def part0 (sep x : Str) : Str := (Txt.split x sep).getD (Int.toNat 0) Str.empty
/-- what one turn of negotiate_locale's loop hands back -/
def negoOne (T : List (Str × Str)) (sep : Str) (kn : List Str) (x : Str) : Option Str :=
  if isIn kn (Txt.lower x) then some x
  else match (byAlias T sep x).bind (tryName kn) with
    | some y => some y
    | none => if (1 : Int) < ((Txt.split x sep).length : Nat) ∧ isIn kn (Txt.lower (part0 sep x)) = true then some (part0 sep x) else none
def nego (T : List (Str × Str)) (sep : Str) (kn ps : List Str) : Option Str := ps.findSome? (negoOne T sep kn)
theorem nego_hit {T : List (Str × Str)} {sep x y : Str} {kn xp xq : List Str} (h : nego T sep kn xp = none) (h1 : negoOne T sep kn x = some y) : nego T sep kn (xp ++ x :: xq) = some y := by
  unfold nego at h ⊢
  rw [List.findSome?_append, h, Option.none_or, List.findSome?_cons, h1]
theorem nego_miss {T : List (Str × Str)} {sep x : Str} {kn xp : List Str} (h : nego T sep kn xp = none) (h1 : negoOne T sep kn x = none) : nego T sep kn (xp ++ [x]) = none := by
  unfold nego at h ⊢
  rw [List.findSome?_append, h, Option.none_or, List.findSome?_cons, h1]
  rfl
section
variable {T : List (Str × Str)} {sep x v : Str} {kn : List Str}
theorem one_self (h : (kn.any fun y => y == Txt.lower x) = true) : negoOne T sep kn x = some x := by
  unfold negoOne
  exact if_pos h
theorem one_rest (h : (kn.any fun y => y == Txt.lower x) = false) : negoOne T sep kn x = (match (byAlias T sep x).bind (tryName kn) with
    | some y => some y
    | none => if (1 : Int) < ((Txt.split x sep).length : Nat) ∧ isIn kn (Txt.lower (part0 sep x)) = true then some (part0 sep x) else none) := by
  unfold negoOne
  exact if_neg (by unfold isIn; rw [h]; exact Bool.false_ne_true)
theorem one_alias (h : (kn.any fun y => y == Txt.lower x) = false) (hv : look T (Txt.lower x) = some v) (h2 : (kn.any fun y => y == Txt.lower (Txt.replace v (Str.ofString "_") sep)) = true) : negoOne T sep kn x = some (Txt.replace v (Str.ofString "_") sep) := by
  rw [one_rest h]
  unfold byAlias tryName
  rw [hv]
  simp only [Option.map_some, Option.bind_some]
  have h3 : isIn kn (Txt.lower (Txt.replace v (Str.ofString "_") sep)) = true := h2
  rw [if_pos h3]
theorem no_alias0 (hv : look T (Txt.lower x) = none) : (byAlias T sep x).bind (tryName kn) = none := by
  unfold byAlias
  rw [hv]; rfl
theorem no_alias1 (hv : look T (Txt.lower x) = some v) (h2 : (kn.any fun y => y == Txt.lower (Txt.replace v (Str.ofString "_") sep)) = false) : (byAlias T sep x).bind (tryName kn) = none := by
  unfold byAlias tryName
  rw [hv]
  simp only [Option.map_some, Option.bind_some]
  exact if_neg (by unfold isIn; rw [h2]; exact Bool.false_ne_true)
theorem one_part (h : (kn.any fun y => y == Txt.lower x) = false) (ha : (byAlias T sep x).bind (tryName kn) = none) (hl : (1 : Int) < ((Txt.split x sep).length : Nat)) (h2 : (kn.any fun y => y == Txt.lower ((Txt.split x sep).getD (Int.toNat 0) Str.empty)) = true) :
    negoOne T sep kn x = some ((Txt.split x sep).getD (Int.toNat 0) Str.empty) := by
  rw [one_rest h, ha]
  exact if_pos ⟨hl, h2⟩
theorem one_none1 (h : (kn.any fun y => y == Txt.lower x) = false) (ha : (byAlias T sep x).bind (tryName kn) = none) (hl : ¬ (1 : Int) < ((Txt.split x sep).length : Nat)) : negoOne T sep kn x = none := by
  rw [one_rest h, ha]
  exact if_neg fun q => hl q.1
theorem one_none2 (h : (kn.any fun y => y == Txt.lower x) = false) (ha : (byAlias T sep x).bind (tryName kn) = none) (h2 : (kn.any fun y => y == Txt.lower ((Txt.split x sep).getD (Int.toNat 0) Str.empty)) = false) : negoOne T sep kn x = none := by
  rw [one_rest h, ha]
  refine if_neg fun q => ?_
  have q2 := q.2
  unfold isIn part0 at q2
  rw [h2] at q2
  cases q2
end
/-- what the law holds due of one row: the names that would do, in order -/
def cands (T : List (Str × Str)) (sep : Str) (r : Str × Str) : List Str := r.2 :: ((byAlias T sep r.2).toList ++ (if r.2 = r.1 then [] else [r.1]))
def dueRow (T : List (Str × Str)) (sep : Str) (kn : List Str) (r : Str × Str) : List Str := (cands T sep r).filter fun x => kn.any fun y => y == Txt.lower x
def dueOf (T : List (Str × Str)) (sep : Str) (kn : List Str) (rs : List (Str × Str)) : List Str := rs.flatMap (dueRow T sep kn)
theorem dueRow_len (T : List (Str × Str)) (sep : Str) (kn : List Str) (r : Str × Str) : (dueRow T sep kn r).length ≤ 3 := by
  unfold dueRow
  refine Nat.le_trans (List.length_filter_le _ _) ?_
  unfold cands
  rw [List.length_cons, List.length_append]
  have h1 : ((byAlias T sep r.2).toList).length ≤ 1 := by cases byAlias T sep r.2 <;> simp
  have h2 : (if r.2 = r.1 then ([] : List Str) else [r.1]).length ≤ 1 := by split <;> simp
  omega
theorem dueOf_len (T : List (Str × Str)) (sep : Str) (kn : List Str) : ∀ rs : List (Str × Str), (dueOf T sep kn rs).length ≤ 3 * rs.length
  | [] => Nat.le_refl _
  | r :: rs => by
    have h1 := dueRow_len T sep kn r
    have h2 := dueOf_len T sep kn rs
    unfold dueOf at h2 ⊢
    rw [List.flatMap_cons, List.length_append, List.length_cons]
    omega
theorem dueOf_snoc (T : List (Str × Str)) (sep : Str) (kn : List Str) (rs : List (Str × Str)) (r : Str × Str) : dueOf T sep kn (rs ++ [r]) = dueOf T sep kn rs ++ dueRow T sep kn r := by
  unfold dueOf
  rw [List.flatMap_append]
  simp
section
variable {T : List (Str × Str)} {sep Lg Nm v : Str}
theorem cands_n0 (h : look T (Txt.lower Nm) = none) (e : (Nm != Lg) = false) : cands T sep (Lg, Nm) = [Nm] := by
  have e' : Nm = Lg := by simpa using e
  unfold cands byAlias
  simp only [h, Option.map_none, Option.toList_none, List.nil_append]
  rw [if_pos e']
theorem cands_n1 (h : look T (Txt.lower Nm) = none) (e : (Nm != Lg) = true) : cands T sep (Lg, Nm) = [Nm, Lg] := by
  have e' : Nm ≠ Lg := by simpa using e
  unfold cands byAlias
  simp only [h, Option.map_none, Option.toList_none, List.nil_append]
  rw [if_neg e']
theorem cands_s0 (h : look T (Txt.lower Nm) = some v) (e : (Nm != Lg) = false) : cands T sep (Lg, Nm) = [Nm, Txt.replace v (Str.ofString "_") sep] := by
  have e' : Nm = Lg := by simpa using e
  unfold cands byAlias
  simp only [h, Option.map_some, Option.toList_some, List.cons_append, List.nil_append]
  rw [if_pos e']
theorem cands_s1 (h : look T (Txt.lower Nm) = some v) (e : (Nm != Lg) = true) : cands T sep (Lg, Nm) = [Nm, Txt.replace v (Str.ofString "_") sep, Lg] := by
  have e' : Nm ≠ Lg := by simpa using e
  unfold cands byAlias
  simp only [h, Option.map_some, Option.toList_some, List.cons_append, List.nil_append]
  rw [if_neg e']
end
theorem dueOf_take {T : List (Str × Str)} {sep : Str} {kn : List Str} {rws rpre rpost : List (Str × Str)} {r : Str × Str} {k : Nat} (e : rws = rpre ++ r :: rpost) (hk : rpre.length = k) :
    dueOf T sep kn (rws.take (k + 1)) = dueOf T sep kn (rws.take k) ++ dueRow T sep kn r := by
  subst hk
  have h1 : rws.take rpre.length = rpre := by rw [e]; simp
  have h2 : rws.take (rpre.length + 1) = rpre ++ [r] := by rw [e, List.take_append, List.take_of_length_le (Nat.le_succ _)]; simp
  rw [h1, h2, dueOf_snoc]
end Mine

-- the part NegA
namespace Mine
open PySem PySem.W PyProof.Rows PySem.Calls PySem.Spec
set_option maxRecDepth 100000
set_option maxHeartbeats 8000000

noncomputable abbrev LL : List Str := looseW tp.view_39 [Str.ofString "LOCALE_ALIASES", Str.ofString "negotiate_locale", Str.ofString "_law_own"]
theorem with_tk {P : Nat → Prop} {n k : Nat} (h : ∀ t, n ≤ t → P t) : P (n + k) := h _ (Nat.le_add_right _ _)

local macro_rules | `(tactic| walk_at "truthy ref") => `(tactic| (k_here; (refine tab_truthy (by k_asm) (by assumption) (by assumption) (by assumption) ?_)))
local macro_rules | `(tactic| walk_at "truthy str") => `(tactic| (k_here; (refine truthy_ne (by assumption) (by assumption) ?_)))
local macro_rules | `(tactic| walk_at "getMethod ref") => `(tactic| (k_here; (refine tab_method (by k_asm) (by assumption) ?_)))
local macro_rules | `(tactic| walk_at "call builtin:dict.get") => `(tactic| (k_here; (refine tab_get (by k_asm) (by assumption) (by assumption) ?_ ?_); (all_goals intros)))
local macro_rules | `(tactic| walk_at "call builtin:str.replace") => `(tactic| (k_here; (refine replace_any (by k_asm) (by k_asm) (by assumption) (by assumption) (by assumption) rfl (by ((try dsimp only); first | assumption | omega)) ?_); intro _ _))
local macro_rules | `(tactic| walk_at "call builtin:str.lower") => `(tactic| (k_here; (try dsimp only); (refine SCL.lower (part_ok (by assumption)) ?_); intro _))
local macro_rules | `(tactic| walk_at "call builtin:len") => `(tactic| (k_here; (refine len_strs (by k_asm) (by k_mem) (by assumption) (Nat.le_trans (split_le _ _) (by omega)) ?_); intro _))
local macro_rules | `(tactic| walk_at "call builtin:str.split") => `(tactic| (k_here; (refine split_any (by k_asm) (by k_asm) (by assumption) (by assumption) ?_); intro D' vs' h' k' hvs' F' N' l1'; k_lt l1'))
local macro_rules | `(tactic| walk_at "execs cons") => `(tactic| (k_here; (refine execs_tok (by assumption) (by ((try dsimp only); first | assumption | omega)) ?_); intro _ _; (try dsimp only)))

theorem neg_call {w : World} {mg mb : Str → Option Value} {mean : ExcName → Option Value} {dp un : Nat} {gd : Option (List Code)} {cn : Str} {cs : Scope} {a : Addr} {ccd : Value} {cl : List (Str × Addr)} {outer : List Env} {A₀ : Around} {base h₀ : Heap} {L : Addr} {m : Str → Option Value} {news : List (Addr × Obj)} {s : Shared} {Q E : Value → Shared → Prop}
   (B : Below A₀ base outer h₀) (F : Fr h₀ L s.heap m) (N : News h₀ L s.heap news) (T : Top tp.view_39 LL mean mg mb h₀) (hk : cs.kind = .function)
   {pA aA : Addr} {pv av : List Value} {ps as : List Str} {np na : Nat} (hp : (pA, listOf pv.toArray np) ∈ news) (ha : (aA, listOf av.toArray na) ∈ news)
   (hps : StrsAre pv ps) (has : StrsAre av as) (hpl : ∀ x ∈ ps, x.length ≤ 64) (hal : ∀ x ∈ as, x.length ≤ 64) (hpn : ps.length ≤ 64) (han : as.length ≤ 64) {sep : Str} {st : Nat} {alv : Value} {tab : List (Str × Str)} (hsep : IsSep sep) (hst : st ≠ 0) (hlt : st + 1 ≤ s.toks) (htab : IsAlias alv tab)
   (hdep : dp + 1 < recursionLimit) (hu : un + 8 < cLine)
   (ret : ∀ v h' tk', (match nego tab sep (knownOf as) ps with | none => v = .none | some x => ∃ t, v = .str x t) → Fr h₀ L h' m → News h₀ L h' news → Q v { s with heap := h', toks := tk' }) :
   (tp.heap_39 w.params).In h₀ → wpAny (model PySem.Challenge.rw_nk0001_01.row.prog w) (ktrTop dp un gd cn cs L a ccd cl outer) (call (.ref 23) [.ref pA, .ref aA, .str sep st, alv]) Q E s := by
  k_fill
  intro X
  refine wpAny_call ?_
  k_dflt (refine' code_def ?k1 ?k2 ?k3 ?k4 ?k5 ?kA ?kF ?kK ?k6 ?k7 ?k8 ?k9 ?kB ?_ ?c2 ?c3 ?c4 ?c5; (case kA => exact rfl); (case kF => exact rfl); (case kK => assumption); (case k1 => k_asm); (case k2 => k_asm); (case k3 => k_asm); (case k4 => k_asm); (case k5 => k_asm); (case k6 => k_is); (case k7 => k_is); (case k8 => ktr_room); (case k9 => exact binds_K (by k_in) rfl (by k_is) rfl rfl rfl); (case c5 => decide); (case kB => exact locs rfl); (case c2 => exact rfl); (case c3 => exact rfl); (case c4 => exact rfl); k_whole; intro g' L' h' FG' F' N' B' X' T'; (try dsimp only); (try k_lift B'); (try k_fold))
  have tm : TokOf (st + 1) := ⟨trivial⟩
  have hsy : (sep.length == 0) = false := by rw [hsep.one]; rfl
  k_dflt (refine execs_tok tm (Nat.le_trans hlt (Nat.le_add_right _ _)) ?_)
  intro tk0 htk0
  dsimp only
  k_dflt (refine LCt.Assign_ListComp_T (F₀ := by k_asm) (by rfl) (by with_unfolding_all rfl) (by with_unfolding_all rfl) (by decide) (by rfl) (by decide) (by rfl) (by rfl) (by rfl) ?_)
  walk1
  have hsz : av.toArray.size ≤ sizeLine := by rw [← strs_len has, sizeLine_eq]; omega
  k_dflt (refine LCt.CompSrcT.ledger (by rfl) (by k_asm) (by k_asm) ha hsz ?_)
  intro g1
  refine restT_inv (items := as) (fun x v => ∃ t, v = .str x t) (fun pre ys nw => nw = news ∧ StrsAre ys (knownOf pre)) (strs_len has) (strs_at has) ⟨rfl, .nil⟩ ?_ ?_
  · rintro pre x v I oI C oC D m₂ ys nw h1 tk1 E' hx ⟨t, rfl⟩ ⟨rfl, hys⟩ hC hm F1 N1 off ne
    have hxl := hal x hx
    k_steps
    · refine LCg.CompEnd.intro F1 N1 nw (fun p hp => hp) off (Or.inr ⟨_, ha, rfl, _, rfl⟩) ⟨rfl, ?_⟩
      rw [knownOf_ne (by assumption)]
      exact strs_snoc hys
    · refine LCg.CompEnd.intro F1 N1 nw (fun p hp => hp) off (Or.inr ⟨_, ha, rfl, _, rfl⟩) ⟨rfl, ?_⟩
      rw [knownOf_eq (by assumption)]
      exact hys
  · rintro ys nw ⟨rfl, hys⟩
    intro D h2 tk2 F2 N2 off2
    dsimp only
    intro htk2
    try k_fold
    walk1
    k_dflt (refine for_list (h₀ := g') (by rfl) (st + 1) ?_)
    walk1
    k_dflt (refine listFor_kept [Str.ofString "locale", Str.ofString "ll", Str.ofString "alias", Str.ofString "parts"] (fun pre _ n' => n' = (D, LCg.lst ys) :: nw ∧ ∃ xp, StrsAre pre xp ∧ nego tab sep (knownOf as) xp = none) (by assumption) F2 N2 (.tail _ hp) ⟨rfl, [], .nil, rfl⟩ ?_ ?_)
    · rintro pre v post u _ I it h3 tk3 epv ⟨rfl, xp, hxp, hno⟩ _ hoff hit htk3 F3 N3
      rw [epv] at hps
      obtain ⟨xp', x, xq, t, ex, rfl, hxp'⟩ := strs_split hps
      obtain rfl := strs_fun hxp hxp'
      have hxl : x.length ≤ 64 := hpl x (by rw [ex]; simp)
      clear F2 N2 F' FG' htk2
      rcases alias_open (prog := PySem.Challenge.rw_nk0001_01.row.prog) X' htab hsep with ⟨rfl, rfl⟩ | ⟨d, rfl, TT, tne, tlen, tbd⟩
      · have hv : look ([] : List (Str × Str)) (Txt.lower x) = none := rfl
        k_steps
        all_goals first
          | (refine ret _ _ _ ?_ (by assumption) (cb_drop (by assumption) (fun p hp => by simp [hp]))
             rw [ex, nego_hit hno (by first | exact one_self (by assumption) | exact one_part (by assumption) (no_alias0 hv) (by assumption) (by assumption))]
             exact ⟨_, rfl⟩)
          | (refine UnrEnd.intro (by assumption) (by assumption) ((D, LCg.lst ys) :: nw) (fun p hp => by first | exact hp | exact List.mem_cons_of_mem _ hp) hoff ⟨.tail _ hp, ?_, rfl, xp ++ [x], strs_snoc hxp', nego_miss hno (by first | exact one_none1 (by assumption) (no_alias0 hv) (by assumption) | exact one_none2 (by assumption) (no_alias0 hv) (by assumption))⟩
             intro z hz
             have n1 := ne_of_stored hz (k := Str.ofString "locale") (by decide)
             have n2 := ne_of_stored hz (k := Str.ofString "ll") (by decide)
             have n3 := ne_of_stored hz (k := Str.ofString "alias") (by decide)
             have n4 := ne_of_stored hz (k := Str.ofString "parts") (by decide)
             simp only [n1, n2, n3, n4, hz, if_false, Bool.false_eq_true])
      · k_steps
        all_goals first
          | (refine ret _ _ _ ?_ (by assumption) (cb_drop (by assumption) (fun p hp => by simp [hp]))
             rw [ex, nego_hit hno (by first
               | exact one_self (by assumption)
               | exact one_alias (by assumption) (by assumption) (by assumption)
               | exact one_part (by assumption) (no_alias0 (by assumption)) (by assumption) (by assumption)
               | exact one_part (by assumption) (no_alias1 (by assumption) (by assumption)) (by assumption) (by assumption))]
             exact ⟨_, rfl⟩)
          | (refine UnrEnd.intro (by assumption) (by assumption) ((D, LCg.lst ys) :: nw) (fun p hp => by first | exact hp | exact List.mem_cons_of_mem _ hp) hoff ⟨.tail _ hp, ?_, rfl, xp ++ [x], strs_snoc hxp', nego_miss hno (by first
               | exact one_none1 (by assumption) (no_alias0 (by assumption)) (by assumption)
               | exact one_none2 (by assumption) (no_alias0 (by assumption)) (by assumption)
               | exact one_none1 (by assumption) (no_alias1 (by assumption) (by assumption)) (by assumption)
               | exact one_none2 (by assumption) (no_alias1 (by assumption) (by assumption)) (by assumption))⟩
             intro z hz
             have n1 := ne_of_stored hz (k := Str.ofString "locale") (by decide)
             have n2 := ne_of_stored hz (k := Str.ofString "ll") (by decide)
             have n3 := ne_of_stored hz (k := Str.ofString "alias") (by decide)
             have n4 := ne_of_stored hz (k := Str.ofString "parts") (by decide)
             simp only [n1, n2, n3, n4, hz, if_false, Bool.false_eq_true])
    · intro u _ h3 tk3 ⟨e, xp, hxp, hno⟩ htk3 F3 N3
      subst e
      obtain rfl := strs_fun hxp hps
      intro _
      dsimp only
      k_steps
      refine ret _ _ _ ?_ (by assumption) (cb_drop (by assumption) (fun p hp => .tail _ hp))
      rw [hno]
end Mine

-- the part Cut
namespace Mine
open PySem PySem.W PyProof.Rows PySem.Calls PySem.Spec
def CutInt (s : Shared) (v : Value) (s' : Shared) : Prop := ∃ (x : Int) (t : Tok) (k : Nat), v = .int x t ∧ s' = { heap := s.heap, gens := s.gens, drawn := s.drawn, toks := k, os := s.os }
def CutSep (s : Shared) (v : Value) (s' : Shared) : Prop := ∃ (x : Str) (t k : Nat), v = .str x t ∧ IsSep x ∧ t ≠ 0 ∧ t + 1 ≤ k ∧ s' = { heap := s.heap, gens := s.gens, drawn := s.drawn, toks := k, os := s.os }
def CutAlias (h₀ : Heap) (L : Addr) (m : Str → Option Value) (news : List (Addr × Obj)) (s : Shared) (v : Value) (s' : Shared) : Prop :=
  ∃ (T : List (Str × Str)) (h : Heap) (k : Nat), IsAlias v T ∧ s' = { heap := h, gens := s.gens, drawn := s.drawn, toks := k, os := s.os } ∧ Fr h₀ L h m ∧ News h₀ L h news
def CutNums (b : Nat) (h₀ : Heap) (L : Addr) (m : Str → Option Value) (news : List (Addr × Obj)) (s : Shared) (v : Value) (s' : Shared) : Prop :=
  ∃ (D : Addr) (vs : List Value) (ns : List Int) (c : Nat) (h : Heap) (k : Nat), v = .ref D ∧ IntsAre vs ns ∧ ns.length ≤ b ∧ s' = { heap := h, gens := s.gens, drawn := s.drawn, toks := k, os := s.os } ∧ Fr h₀ L h m ∧ News h₀ L h ((D, listOf vs.toArray c) :: news)
theorem sep_item (x : Int) : IsSep (Txt.item (Str.ofString "_-") (Int.fmod x 2)) := by
  have h0 : 0 ≤ Int.fmod x 2 := Int.fmod_nonneg_of_pos _ (by decide)
  have h1 : Int.fmod x 2 < 2 := Int.fmod_lt_of_pos _ (by decide)
  have h2 : Int.fmod x 2 = 0 ∨ Int.fmod x 2 = 1 := by omega
  rcases h2 with h | h <;> rw [h]
  · exact .inl (by decide +kernel)
  · exact .inr (by decide +kernel)
theorem pick_len {vs : List Value} {ns : List Int} {b : Nat} (h : IntsAre vs ns) (hb : ns.length ≤ b) (lo hi st : Option Int) : (pickNums ns lo hi st).length ≤ b := Nat.le_trans (length_pickNums_le h lo hi st) hb
theorem ints_append : ∀ {vs us : List Value} {ns ms : List Int}, IntsAre vs ns → IntsAre us ms → IntsAre (vs ++ us) (ns ++ ms)
  | _, _, _, _, .nil, h => h
  | _, _, _, _, .cons n t r, h => .cons n t (ints_append r h)
theorem ints_at {vs : List Value} {ns : List Int} (h : IntsAre vs ns) : ∀ (i : Nat) (v : Value), vs.toArray[i]? = some v → ∃ a, ns[i]? = some a ∧ ∃ t, v = Value.int a t := by
  intro i v hv
  obtain ⟨n, t, rfl, hn⟩ := h.at i v (by simpa using hv)
  exact ⟨n, hn, t, rfl⟩
theorem ints_len {vs : List Value} {ns : List Int} (h : IntsAre vs ns) : ns.length = vs.toArray.size := by
  rw [List.size_toArray]; exact (h.length).symm
theorem nums_intro {b : Nat} {h₀ h : Heap} {L D : Addr} {m : Str → Option Value} {news : List (Addr × Obj)} {s : Shared} {vs : List Value} {ns : List Int} {c k : Nat} (h1 : IntsAre vs ns) (h2 : ns.length ≤ b) (F : Fr h₀ L h m) (N : News h₀ L h ((D, listOf vs.toArray c) :: news)) :
    CutNums b h₀ L m news s (.ref D) { heap := h, gens := s.gens, drawn := s.drawn, toks := k, os := s.os } := ⟨D, vs, ns, c, h, k, rfl, h1, h2, rfl, F, N⟩
section
variable {M : Model} {A : Around} {E : Value → Shared → Prop} {s : Shared} {t : Sem Value} {Q : Value → Shared → Prop}
theorem cut_int (h1 : wpAny M A t (CutInt s) E s) (h2 : ∀ x tk k, Q (.int x tk) { heap := s.heap, gens := s.gens, drawn := s.drawn, toks := k, os := s.os }) : wpAny M A t Q E s :=
  wpAny_mono h1 (fun v s' => by rintro ⟨x, t, k, rfl, rfl⟩; exact h2 _ _ _) fun _ _ e => e
theorem cut_sep (h1 : wpAny M A t (CutSep s) E s) (h2 : ∀ (x : Str) (t k : Nat), IsSep x → t ≠ 0 → t + 1 ≤ k → Q (.str x t) { heap := s.heap, gens := s.gens, drawn := s.drawn, toks := k, os := s.os }) : wpAny M A t Q E s :=
  wpAny_mono h1 (fun v s' => by rintro ⟨x, t, k, rfl, a, b, c, rfl⟩; exact h2 _ _ _ a b c) fun _ _ e => e
theorem cut_alias {h₀ : Heap} {L : Addr} {m : Str → Option Value} {news : List (Addr × Obj)} {n : Nat} (hn : n ≤ s.toks) (_F : Fr h₀ L s.heap m) (_N : News h₀ L s.heap news) (h1 : wpAny M A t (CutAlias h₀ L m news s) E s)
    (h2 : ∀ (v : Value) (T : List (Str × Str)) (h : Heap) (k : Nat), IsAlias v T → n ≤ k → Fr h₀ L h m → News h₀ L h news → Q v { heap := h, gens := s.gens, drawn := s.drawn, toks := k, os := s.os }) : wpAny M A t Q E s :=
  wpAny_mono (wpAny_toks_of hn h1) (fun v s' => by rintro ⟨hk, T, h, k, a, rfl, b, c⟩; exact h2 _ _ _ _ a hk b c) fun _ _ e => e.2
theorem cut_nums {h₀ : Heap} {L : Addr} {m : Str → Option Value} {news : List (Addr × Obj)} {n : Nat} (b : Nat) (hn : n ≤ s.toks) (_F : Fr h₀ L s.heap m) (_N : News h₀ L s.heap news) (h1 : wpAny M A t (CutNums b h₀ L m news s) E s)
    (h2 : ∀ (D : Addr) (vs : List Value) (ns : List Int) (c : Nat) (h : Heap) (k : Nat), IntsAre vs ns → ns.length ≤ b → n ≤ k → Fr h₀ L h m → News h₀ L h ((D, listOf vs.toArray c) :: news) → Q (.ref D) { heap := h, gens := s.gens, drawn := s.drawn, toks := k, os := s.os }) : wpAny M A t Q E s :=
  wpAny_mono (wpAny_toks_of hn h1) (fun v s' => by rintro ⟨hk, D, vs, ns, c, h, k, rfl, a, b, rfl, e, f⟩; exact h2 _ _ _ _ _ _ a b hk e f) fun _ _ e => e.2
end
end Mine

-- the part NameA
namespace Mine
open PySem PySem.W PyProof.Rows PySem.Calls PySem.Spec
set_option maxRecDepth 100000
set_option maxHeartbeats 8000000

noncomputable abbrev LL2 : List Str := looseW tp.view_39 [Str.ofString "LOCALE_ALIASES", Str.ofString "negotiate_locale", Str.ofString "_law_own"]
section
variable {prog : Program} {w : World} {A : Around} {E : Value → Shared → Prop} {s : Shared} {g : Heap} {L l : Addr} {m : Str → Option Value}
theorem menu_item {vs : List Value} {ws : List Str} {c : Nat} {news : List (Addr × Obj)} {value slice : PySem.Expr} {i : Int} {u : Tok} {Q : Value → Shared → Prop} (N : News g L s.heap news) (hm : (l, listOf vs.toArray c) ∈ news) (hw : StrsAre vs ws)
    (h0 : 0 ≤ i) (h1 : i < (ws.length : Int)) (hb : ws.length ≤ 64) (hl : ∀ x ∈ ws, x.length ≤ 8) (h : ∀ x t', x ∈ ws → x.length ≤ 8 → Q (.str x t') s)
    (hs : subscripted slice false (.ref l) (.int i u) = operate [.ref l, .int i u] (getItem (.ref l) (.int i u)) := by with_unfolding_all rfl) :
    wpAny (model prog w) A (subscriptTail value slice (.ref l) (.int i u)) Q E s :=
  KTb.item_list ⟨_, (N _ hm).1, rfl, c, rfl⟩ hw h0 h1 (by omega) (fun t' hlt => by
    have e : ws.getD i.toNat Str.empty ∈ ws := by
      rw [List.getD_eq_getElem?_getD, List.getElem?_eq_getElem hlt]
      exact List.getElem_mem hlt
    exact h _ t' e (hl _ e)) hs
end
local macro_rules | `(tactic| walk_at "subscriptTail") => `(tactic| (k_here; (with_reducible show wpAny _ _ (subscriptTail _ _ (Value.ref _) (Value.int _ _)) _ _ _); (refine menu_item (by k_asm) (by k_mem) (by repeat' constructor) (by exact Int.fmod_nonneg_of_pos _ (by decide)) (by exact Int.fmod_lt_of_pos _ (by decide)) (by decide) (by decide +kernel) ?_); (intro _ _ _ _)))

local macro_rules | `(tactic| walk_at "call ref") => `(tactic| (k_here; (refine wpAny_call ?_); k_dflt (refine' code_def ?k1 ?k2 ?k3 ?k4 ?k5 ?kA ?kF ?kK ?k6 ?k7 ?k8 ?k9 ?kB ?_ ?c2 ?c3 ?c4 ?c5; (case kA => exact rfl); (case kF => exact rfl); (case kK => exact rfl); (case k1 => k_asm); (case k2 => k_asm); (case k3 => k_asm); (case k4 => k_asm); (case k5 => k_asm); (case k6 => k_is); (case k7 => k_is); (case k8 => ktr_room); (case k9 => exact BindsTo.of_eq rfl); (case c5 => decide); (case kB => exact locs rfl); (case c2 => exact rfl); (case c3 => exact rfl); (case c4 => exact rfl); k_whole; intro g' L' h' FG' F' N' B' X' T'; (try dsimp only); (try k_lift B'); (try k_fold))))
def langs : List Str := [Str.ofString "en", Str.ofString "de", Str.ofString "no", Str.ofString "nb", Str.ofString "fil", Str.ofString "fi", Str.ofString "sv"]
def terrs : List Str := [Str.ofString "US", Str.ofString "DE", Str.ofString "NO", Str.ofString "", Str.ofString "FI"]
/-- what holds of a built row -/
def GoodRow (sep Lg Nm : Str) : Prop := Lg.length ≤ 16 ∧ Nm.length ≤ 16 ∧ ((Nm = Lg ∧ ¬ (1 : Int) < ((Txt.split Nm sep).length : Nat)) ∨ (Nm ≠ Lg ∧ (1 : Int) < ((Txt.split Nm sep).length : Nat) ∧ part0 sep Nm = Lg))
theorem cut_once {c : Nat} : ∀ {p l R t : List Nat}, p ++ c :: R = l ++ c :: t → c ∉ p → c ∉ l → p = l ∧ R = t
  | [], [], _, _, e, _, _ => ⟨rfl, by simpa using e⟩
  | [], b :: l, _, _, e, _, hl => absurd (by have := (List.cons.inj e).1; rw [this]; exact List.mem_cons_self) hl
  | a :: p, [], _, _, e, hp, _ => absurd (by have := (List.cons.inj e).1; rw [← this]; exact List.mem_cons_self) hp
  | a :: p, b :: l, _, _, e, hp, hl => by
    obtain ⟨e1, e2⟩ := List.cons.inj e
    obtain ⟨h1, h2⟩ := cut_once e2 (fun h => hp (.tail _ h)) (fun h => hl (.tail _ h))
    exact ⟨by rw [e1, h1], h2⟩
theorem cps_app (a b : Str) : (a ++ b).cps.toList = a.cps.toList ++ b.cps.toList := by
  show (a.cps ++ b.cps).toList = _
  exact Array.toList_append
theorem str_of_list {a b : Str} (h : a.cps.toList = b.cps.toList) : a = b := by
  cases a; cases b
  simp only [Str.mk.injEq]
  exact Array.toList_inj.mp h
theorem split_one {c : Nat} {l : Str} (hl : c ∉ l.cps.toList) : Txt.split l ⟨#[c]⟩ = [l] := by
  have hj := StrLaws.join_split l ⟨#[c]⟩
  have hp := split_pos l ⟨#[c]⟩
  generalize Txt.split l ⟨#[c]⟩ = P at hj hp
  match P, hj, hp with
  | [p], hj, _ => exact congrArg (· :: []) hj
  | p :: q :: r, hj, _ =>
    refine absurd ?_ hl
    have hj' : p ++ ⟨#[c]⟩ ++ Str.join ⟨#[c]⟩ (q :: r) = l := hj
    rw [← hj', cps_app, cps_app]
    simp
theorem split_two {c : Nat} {l t : Str} (hl : c ∉ l.cps.toList) (ht : c ∉ t.cps.toList) : Txt.split (l ++ ⟨#[c]⟩ ++ t) ⟨#[c]⟩ = [l, t] := by
  have hj := StrLaws.join_split (l ++ ⟨#[c]⟩ ++ t) ⟨#[c]⟩
  have hp := split_pos (l ++ ⟨#[c]⟩ ++ t) ⟨#[c]⟩
  have hf := StrLaws.split_free (l ++ ⟨#[c]⟩ ++ t) c
  generalize Txt.split (l ++ ⟨#[c]⟩ ++ t) ⟨#[c]⟩ = P at hj hp hf
  match P, hj, hp, hf with
  | [p], hj, _, hf =>
    have hj' : p = l ++ ⟨#[c]⟩ ++ t := hj
    refine absurd ?_ (hf p (.head _))
    rw [hj', cps_app, cps_app]
    simp
  | p :: q :: r, hj, _, hf =>
    have hj' : p ++ ⟨#[c]⟩ ++ Str.join ⟨#[c]⟩ (q :: r) = l ++ ⟨#[c]⟩ ++ t := hj
    have e := congrArg (fun z : Str => z.cps.toList) hj'
    simp only [cps_app, List.append_assoc] at e
    obtain ⟨e1, e2⟩ := cut_once (c := c) e (hf p (.head _)) hl
    have e3 := str_of_list e2
    match r, e3 with
    | [], e3 =>
      have e4 : q = t := e3
      rw [str_of_list e1, e4]
    | s :: r, e3 =>
      have e4 : q ++ ⟨#[c]⟩ ++ Str.join ⟨#[c]⟩ (s :: r) = t := e3
      refine absurd ?_ ht
      rw [← e4, cps_app, cps_app]
      simp
def Short (x : Str) : Prop := x.length ≤ 3 ∧ 95 ∉ x.cps.toList ∧ 45 ∉ x.cps.toList
theorem Short.free {x : Str} (h : Short x) {c : Nat} (hc : c = 95 ∨ c = 45) : c ∉ x.cps.toList := by
  rcases hc with rfl | rfl
  · exact h.2.1
  · exact h.2.2
theorem langs_short : ∀ l ∈ langs, Short l ∧ Short (Txt.upper l) := by delta Short; decide +kernel
theorem terrs_short : ∀ t ∈ terrs, Short t ∧ Short (Txt.lower t) := by delta Short; decide +kernel
theorem none_short : Short (Str.ofString "") := by delta Short; decide +kernel
theorem good_one {c : Nat} {l : Str} (h : Short l) (hc : c = 95 ∨ c = 45) : GoodRow ⟨#[c]⟩ l l :=
  ⟨Nat.le_trans h.1 (by decide), Nat.le_trans h.1 (by decide), .inl ⟨rfl, by rw [split_one (h.free hc)]; show ¬ (1 : Int) < ((1 : Nat) : Int); decide⟩⟩
theorem good_two {c : Nat} {l t : Str} (h : Short l) (g : Short t) (hc : c = 95 ∨ c = 45) : GoodRow ⟨#[c]⟩ l (l ++ ⟨#[c]⟩ ++ t) := by
  have h1 := h.1
  have g1 := g.1
  have n1 : (⟨#[c]⟩ : Str).length = 1 := rfl
  refine ⟨by omega, by rw [Str.length_append, Str.length_append, n1]; omega, .inr ⟨fun e => ?_, ?_, ?_⟩⟩
  · have e1 := congrArg Str.length e
    rw [Str.length_append, Str.length_append, n1] at e1
    omega
  · rw [split_two (h.free hc) (g.free hc)]; show (1 : Int) < ((2 : Nat) : Int); decide
  · unfold part0
    rw [split_two (h.free hc) (g.free hc)]; rfl
theorem goods : ∀ sep ∈ [Str.ofString "_", Str.ofString "-"], GoodRow sep (Str.ofString "") (Str.ofString "") ∧ ∀ l ∈ langs, (GoodRow sep l l ∧ GoodRow sep (Txt.upper l) (Txt.upper l)) ∧ ∀ t ∈ terrs,
    ((t != Str.ofString "") = true → GoodRow sep l (l ++ sep ++ t) ∧ GoodRow sep (Txt.upper l) (Txt.upper l ++ sep ++ t)) ∧
    ((Txt.lower t != Str.ofString "") = true → GoodRow sep l (l ++ sep ++ Txt.lower t) ∧ GoodRow sep (Txt.upper l) (Txt.upper l ++ sep ++ Txt.lower t)) := by
  intro sep hs
  obtain ⟨c, rfl, hc⟩ : ∃ c, sep = ⟨#[c]⟩ ∧ (c = 95 ∨ c = 45) := by
    rcases List.mem_cons.mp hs with rfl | hs
    · exact ⟨95, by decide +kernel, .inl rfl⟩
    · rcases List.mem_cons.mp hs with rfl | hs
      · exact ⟨45, by decide +kernel, .inr rfl⟩
      · cases hs
  refine ⟨good_one none_short hc, fun l hl => ?_⟩
  obtain ⟨l1, l2⟩ := langs_short l hl
  refine ⟨⟨good_one l1 hc, good_one l2 hc⟩, fun t ht => ?_⟩
  obtain ⟨t1, t2⟩ := terrs_short t ht
  exact ⟨fun _ => ⟨good_two l1 t1 hc, good_two l2 t1 hc⟩, fun _ => ⟨good_two l1 t2 hc, good_two l2 t2 hc⟩⟩
theorem IsSep.mem {sep : Str} (h : IsSep sep) : sep ∈ [Str.ofString "_", Str.ofString "-"] := by rcases h with rfl | rfl <;> simp
abbrev tupOf (Lg : Str) (t1 : Tok) (Nm : Str) (t2 : Tok) (c : Nat) : Obj := { cls := .type "tuple", data := .seq #[.str Lg t1, .str Nm t2] c }
theorem name_ret {h₀ h' : Heap} {L D : Addr} {m : Str → Option Value} {news : List (Addr × Obj)} {s : Shared} {Q : Value → Shared → Prop} {sep Lg Nm : Str} {t1 t2 : Tok} {c tk' : Nat} {p1 p2 : Addr × Obj}
    (ret : ∀ D Lg Nm t1 t2 c h' tk', GoodRow sep Lg Nm → Fr h₀ L h' m → News h₀ L h' ((D, tupOf Lg t1 Nm t2 c) :: news) → (∀ p ∈ news, p.1 < D) → Q (.ref D) { s with heap := h', toks := tk' })
    (F : Fr h₀ L h' m) (N : News h₀ L h' ((D, tupOf Lg t1 Nm t2 c) :: p1 :: p2 :: news)) (l : p1.1 < D ∧ p2.1 < D ∧ AllLt D news) (g : GoodRow sep Lg Nm) : Q (.ref D) { s with heap := h', toks := tk' } :=
  ret _ _ _ _ _ _ _ _ g F (cb_drop N fun p hp => by
    rcases List.mem_cons.mp hp with rfl | hp
    · exact .head _
    · exact .tail _ (.tail _ (.tail _ hp))) (kst_ltOf l.2.2)
theorem name_call {w : World} {mg mb : Str → Option Value} {mean : ExcName → Option Value} {dp un : Nat} {gd : Option (List Code)} {cn : Str} {cs : Scope} {a : Addr} {ccd : Value} {cl : List (Str × Addr)} {outer : List Env} {A₀ : Around} {base h₀ : Heap} {L : Addr} {m : Str → Option Value} {news : List (Addr × Obj)} {s : Shared} {Q E : Value → Shared → Prop}
   (B : Below A₀ base outer h₀) (F : Fr h₀ L s.heap m) (N : News h₀ L s.heap news) (T : Top tp.view_39 LL2 mean mg mb h₀) (hk : cs.kind = .function)
   {n : Int} {nt : Tok} {sep : Str} {st : Tok} (hsep : IsSep sep)
   (hdep : dp + 2 < recursionLimit) (hu : un + 16 < cLine)
   (ret : ∀ D Lg Nm t1 t2 c h' tk', GoodRow sep Lg Nm → Fr h₀ L h' m → News h₀ L h' ((D, tupOf Lg t1 Nm t2 c) :: news) → (∀ p ∈ news, p.1 < D) → Q (.ref D) { s with heap := h', toks := tk' }) :
   (tp.heap_39 w.params).In h₀ → wpAny (model PySem.Challenge.rw_nk0001_01.row.prog w) (ktrTop dp un gd cn cs L a ccd cl outer) (call (.ref 45) [.int n nt, .str sep st]) Q E s := by
  k_fill
  intro X
  refine wpAny_call ?_
  k_dflt (refine' code_def ?k1 ?k2 ?k3 ?k4 ?k5 ?kA ?kF ?kK ?k6 ?k7 ?k8 ?k9 ?kB ?_ ?c2 ?c3 ?c4 ?c5; (case kA => exact rfl); (case kF => exact rfl); (case kK => assumption); (case k1 => k_asm); (case k2 => k_asm); (case k3 => k_asm); (case k4 => k_asm); (case k5 => k_asm); (case k6 => k_is); (case k7 => k_is); (case k8 => ktr_room); (case k9 => exact BindsTo.of_eq rfl); (case c5 => decide); (case kB => exact locs rfl); (case c2 => exact rfl); (case c3 => exact rfl); (case c4 => exact rfl); k_whole; intro g' L' h' FG' F' N' B' X' T'; (try dsimp only); (try k_lift B'); (try k_fold))
  have hsl : sep.length = 1 := hsep.one
  k_steps
  all_goals (refine name_ret ret (by assumption) (by assumption) (by assumption) ?_)
  all_goals have hg := goods sep hsep.mem
  all_goals first
    | exact hg.1
    | exact (hg.2 _ (by assumption)).1.1
    | exact (hg.2 _ (by assumption)).1.2
    | exact (((hg.2 _ (by assumption)).2 _ (by assumption)).1 (by assumption)).1
    | exact (((hg.2 _ (by assumption)).2 _ (by assumption)).1 (by assumption)).2
    | exact (((hg.2 _ (by assumption)).2 _ (by assumption)).2 (by assumption)).1
    | exact (((hg.2 _ (by assumption)).2 _ (by assumption)).2 (by assumption)).2
end Mine

-- the part Rows
namespace Mine
open PySem PySem.W PyProof.Rows PySem.Calls PySem.Spec
set_option maxRecDepth 100000
/-- references to built rows -/
inductive TupRows (sep : Str) (ts : List (Addr × Obj)) : List Value → List (Str × Str) → Prop
  | nil : TupRows sep ts [] []
  | cons {D : Addr} {Lg Nm : Str} {t1 t2 : Tok} {c : Nat} {vs : List Value} {rs : List (Str × Str)} : (D, tupOf Lg t1 Nm t2 c) ∈ ts → GoodRow sep Lg Nm → TupRows sep ts vs rs → TupRows sep ts (.ref D :: vs) ((Lg, Nm) :: rs)
namespace TupRows
variable {sep : Str} {ts ts' : List (Addr × Obj)}
theorem mono (hs : ∀ p ∈ ts, p ∈ ts') : ∀ {vs : List Value} {rs : List (Str × Str)}, TupRows sep ts vs rs → TupRows sep ts' vs rs
  | _, _, .nil => .nil
  | _, _, .cons h g r => .cons (hs _ h) g (mono hs r)
theorem snoc {D : Addr} {Lg Nm : Str} {t1 t2 : Tok} {c : Nat} (h : (D, tupOf Lg t1 Nm t2 c) ∈ ts) (g : GoodRow sep Lg Nm) : ∀ {vs : List Value} {rs : List (Str × Str)}, TupRows sep ts vs rs → TupRows sep ts (vs ++ [.ref D]) (rs ++ [(Lg, Nm)])
  | _, _, .nil => .cons h g .nil
  | _, _, .cons h' g' r => .cons h' g' (snoc h g r)
theorem len : ∀ {vs : List Value} {rs : List (Str × Str)}, TupRows sep ts vs rs → rs.length = vs.length
  | _, _, .nil => rfl
  | _, _, .cons _ _ r => by rw [List.length_cons, List.length_cons, len r]
theorem good : ∀ {vs : List Value} {rs : List (Str × Str)}, TupRows sep ts vs rs → ∀ r ∈ rs, GoodRow sep r.1 r.2
  | _, _, .nil, _, h => nomatch h
  | _, _, .cons _ g r, x, h => by
    rcases List.mem_cons.mp h with rfl | h
    · exact g
    · exact good r x h
theorem atI : ∀ {vs : List Value} {rs : List (Str × Str)}, TupRows sep ts vs rs → ∀ (i : Nat) (v : Value), vs[i]? = some v → ∃ r, rs[i]? = some r ∧ GoodRow sep r.1 r.2 ∧ ∃ D t1 t2 c, v = Value.ref D ∧ (D, tupOf r.1 t1 r.2 t2 c) ∈ ts
  | _, _, .nil, i, v, h => by simp at h
  | _, _, .cons hm g r, 0, v, h => ⟨_, rfl, g, _, _, _, _, by simpa using h.symm, hm⟩
  | _, _, .cons _ _ r, i + 1, v, h => by
    obtain ⟨x, hx, q⟩ := atI r i v (by simpa using h)
    exact ⟨x, by simpa using hx, q⟩
theorem at' {vs : List Value} {rs : List (Str × Str)} (h : TupRows sep ts vs rs) (i : Nat) (v : Value) (hv : vs.toArray[i]? = some v) : ∃ r, rs[i]? = some r ∧ GoodRow sep r.1 r.2 ∧ ∃ D t1 t2 c, v = Value.ref D ∧ (D, tupOf r.1 t1 r.2 t2 c) ∈ ts := atI h i v (by simpa using hv)
theorem split : ∀ {pre : List Value} {v : Value} {post : List Value} {rs : List (Str × Str)}, TupRows sep ts (pre ++ v :: post) rs → ∃ rpre r rpost D t1 t2 c, rs = rpre ++ r :: rpost ∧ v = Value.ref D ∧ (D, tupOf r.1 t1 r.2 t2 c) ∈ ts ∧ GoodRow sep r.1 r.2 ∧ rpre.length = pre.length
  | [], _, _, _, .cons hm g r => ⟨[], _, _, _, _, _, _, rfl, rfl, hm, g, rfl⟩
  | _ :: _, _, _, _, .cons _ _ r => by
    obtain ⟨rpre, x, rpost, D, t1, t2, c, e, ev, hm, g, hl⟩ := split r
    exact ⟨_ :: rpre, x, rpost, D, t1, t2, c, by rw [e]; rfl, ev, hm, g, by rw [List.length_cons, List.length_cons, hl]⟩
end TupRows
section
variable {prog : Program} {w : World} {A : Around} {E : Value → Shared → Prop} {s : Shared} {g : Heap} {L D : Addr} {m : Str → Option Value} {news : List (Addr × Obj)}
theorem tup_item1 {Lg Nm : Str} {t1 t2 u : Tok} {c : Nat} {value slice : PySem.Expr} {Q : Value → Shared → Prop} (N : News g L s.heap news) (hm : (D, tupOf Lg t1 Nm t2 c) ∈ news) (h : Q (.str Nm t2) s)
    (hs : subscripted slice false (.ref D) (.int 1 u) = operate [.ref D, .int 1 u] (getItem (.ref D) (.int 1 u)) := by with_unfolding_all rfl) :
    wpAny (model prog w) A (subscriptTail value slice (.ref D) (.int 1 u)) Q E s :=
  have ht : IsTup s.heap D #[.str Lg t1, .str Nm t2] := ⟨_, (N _ hm).1, rfl, c, rfl⟩
  tail_any ht.typeIs slot_tuple_getitem.lookup (getItem_tuple ht (by decide) (by decide) (seqIndex_of (by decide) (show (1 : Int) < ((2 : Nat) : Int) by decide)) (x := .str Nm t2) rfl h) hs
end
theorem cell_first {h₀ h : Heap} {L : Addr} {a1 a2 a3 a4 a5 a6 a7 c e : Addr × Obj} {ts : List (Addr × Obj)} (N : News h₀ L h (a1 :: a2 :: a3 :: a4 :: a5 :: a6 :: a7 :: c :: e :: ts)) : News h₀ L h (c :: a1 :: a2 :: a4 :: a5 :: e :: ts) :=
  cb_drop N fun p hp => by
    simp only [List.mem_cons] at hp ⊢
    rcases hp with h | h | h | h | h | h | h <;> simp [h]
theorem cell_ne {a1 a2 a4 a5 c e : Addr × Obj} {ts : List (Addr × Obj)} (h1 : (@Ne Nat c.1 a1.1)) (h2 : (@Ne Nat c.1 a2.1)) (h4 : (@Ne Nat c.1 a4.1)) (h5 : (@Ne Nat c.1 a5.1)) (h6 : (@Ne Nat c.1 e.1)) (ht : ∀ p ∈ ts, c.1 < p.1) : ∀ p ∈ (a1 :: a2 :: a4 :: a5 :: e :: ts), p.1 ≠ c.1 := by
  intro p hp
  simp only [List.mem_cons] at hp
  rcases hp with h | h | h | h | h | h
  · rw [h]; exact Ne.symm h1
  · rw [h]; exact Ne.symm h2
  · rw [h]; exact Ne.symm h4
  · rw [h]; exact Ne.symm h5
  · rw [h]; exact Ne.symm h6
  · exact Nat.ne_of_gt (ht p h)
open LCg in
/-- where the call of a row's builder comes back -/
def RowEnd (sep : Str) (h₀ : Heap) (L : Addr) (m : Str → Option Value) (led : List (Addr × Obj)) (s : Shared) (y : Value) (s' : Shared) : Prop :=
  ∃ D Lg Nm t1 t2 c h' tk', y = Value.ref D ∧ s' = { heap := h', gens := s.gens, drawn := s.drawn, toks := tk', os := s.os } ∧ GoodRow sep Lg Nm ∧ Fr h₀ L h' m ∧ News h₀ L h' ((D, tupOf Lg t1 Nm t2 c) :: led) ∧ ∀ p ∈ led, p.1 < D
theorem row_end {sep : Str} {h₀ h' : Heap} {L D : Addr} {m : Str → Option Value} {led : List (Addr × Obj)} {s : Shared} {Lg Nm : Str} {t1 t2 : Tok} {c tk' : Nat} (g : GoodRow sep Lg Nm) (F : Fr h₀ L h' m) (N : News h₀ L h' ((D, tupOf Lg t1 Nm t2 c) :: led)) (l : ∀ p ∈ led, p.1 < D) :
    RowEnd sep h₀ L m led s (.ref D) { heap := h', gens := s.gens, drawn := s.drawn, toks := tk', os := s.os } := ⟨D, Lg, Nm, t1, t2, c, h', tk', rfl, rfl, g, F, N, l⟩
section
open LCg
variable {prog : Program} {w : World} {A : Around} {h₀ : Heap} {L : Addr} {m : Str → Option Value} {env : Env} {ct elt : PySem.Expr} {x : Str} {scope : Scope} {cl : List (Str × Addr)} {s : Shared} {S : List (Addr × Obj) → Prop} {P : Nat → Value → Prop} {Fin : List Value → List (Addr × Obj) → Prop} {base : List (Addr × Obj)}
theorem rest_rows {sep : Str} {items : List Int} {n : Nat} (hn : items.length = n) (hP : ∀ (i : Nat) v, P i v → ∃ a, items[i]? = some a ∧ ∃ t, v = Value.int a t) (hS : ∀ ts, S (base ++ ts))
    (turn : ∀ k t I oI C oC D m₂ ys ts h tk (E' : Value → Shared → Prop), NsObj oC m₂ → m₂ x = some (.int k t) → Fr h₀ L h m → News h₀ L h ((I, oI) :: (C, oC) :: (D, lst ys) :: (base ++ ts)) → ((@Ne Nat I C) ∧ (@Ne Nat I D) ∧ (@Ne Nat C D)) →
      wpAny (model prog w) A (eval elt (compEnvC scope cl C env)) (RowEnd sep h₀ L m ((I, oI) :: (C, oC) :: (D, lst ys) :: (base ++ ts)) { heap := h, gens := s.gens, drawn := s.drawn, toks := tk, os := s.os }) E' { heap := h, gens := s.gens, drawn := s.drawn, toks := tk, os := s.os })
    (fin : ∀ ys ts rs, TupRows sep ts ys rs → rs.length = n → (∀ p ∈ ts, ∀ q ∈ base, q.1 < p.1) → Fin ys (base ++ ts)) : CompRest prog w A h₀ L m env elt x scope cl s S P Fin n 0 [] base := by
  refine restU_inv (items := items) (fun a v => ∃ t, v = Value.int a t) (fun pre ys nw => ∃ ts rs, nw = base ++ ts ∧ TupRows sep ts ys rs ∧ rs.length = pre.length ∧ ∀ p ∈ ts, ∀ q ∈ base, q.1 < p.1) hn hP ⟨[], [], by simp, .nil, rfl, fun _ h => nomatch h⟩ ?_ ?_
  · rintro pre a v I oI C oC D m₂ ys nw h tk E' _ ⟨t, rfl⟩ ⟨ts, rs, rfl, hr, hl, hlt⟩ hC hm F N off ne
    refine wpAny_mono (turn a t I oI C oC D m₂ ys ts h tk E' hC hm F N ne) (fun y s' => ?_) fun _ _ e => e
    rintro ⟨D', Lg, Nm, t1, t2, c, h', tk', rfl, rfl, g, F', N', l⟩
    have off3 := off.mem
    refine CompEnd.intro F' N' (base ++ (D', tupOf Lg t1 Nm t2 c) :: ts) (fun p hp => ?_) (Off3.of fun p hp => ?_) (hS _) ⟨_, _, rfl, (hr.mono fun p hp => List.mem_cons_of_mem _ hp).snoc List.mem_cons_self g, by simp [hl], ?_⟩
    · rcases List.mem_cons.mp hp with e | hp
      · exact e ▸ .tail _ (.head _)
      · rcases List.mem_cons.mp hp with e | hp
        · exact e ▸ .tail _ (.tail _ (.head _))
        · rcases List.mem_cons.mp hp with e | hp
          · exact e ▸ .tail _ (.tail _ (.tail _ (.head _)))
          · rcases List.mem_append.mp hp with hp | hp
            · exact .tail _ (.tail _ (.tail _ (.tail _ (List.mem_append_left _ hp))))
            · rcases List.mem_cons.mp hp with e | hp
              · exact e ▸ .head _
              · exact .tail _ (.tail _ (.tail _ (.tail _ (List.mem_append_right _ hp))))
    · have hI : I < D' := l (I, oI) (.head _)
      have hC' : C < D' := l (C, oC) (.tail _ (.head _))
      have hD : D < D' := l (D, lst ys) (.tail _ (.tail _ (.head _)))
      rcases List.mem_append.mp hp with hp | hp
      · exact off3 p (List.mem_append_left _ hp)
      · rcases List.mem_cons.mp hp with e | hp
        · rw [e]
          exact ⟨Nat.ne_of_gt hI, Nat.ne_of_gt hC', Nat.ne_of_gt hD⟩
        · exact off3 p (List.mem_append_right _ hp)
    · intro p hp q hq
      rcases List.mem_cons.mp hp with e | hp
      · rw [e]
        exact l q (.tail _ (.tail _ (.tail _ (List.mem_append_left _ hq))))
      · exact hlt p hp q hq
  · rintro ys nw ⟨ts, rs, rfl, hr, hl, hlt⟩
    exact fin ys ts rs hr (by rw [hl, hn]) hlt
theorem restT_filter {cvs : List Value} {cxs : List Str} (p : Str → Bool) (hc : StrsAre cvs cxs) (hb : ∀ x ∈ cxs, x.length ≤ 64)
    (turn : ∀ y t I oI C oC D m₂ ys h tk (E' : Value → Shared → Prop), y.length ≤ 64 → NsObj oC m₂ → m₂ x = some (.str y t) → Fr h₀ L h m → News h₀ L h ((I, oI) :: (C, oC) :: (D, lst ys) :: base) → Off3 I C D base → ((@Ne Nat I C) ∧ (@Ne Nat I D) ∧ (@Ne Nat C D)) →
      wpAny (model prog w) A (isTrue ct (compEnvC scope cl C env) (eval ct (compEnvC scope cl C env))) (fun ok s' => if ok = true then
        wpAny (model prog w) A (eval elt (compEnvC scope cl C env)) (CompEnd h₀ L m { s with heap := h, toks := tk } I oI C oC D (lst ys) S (fun v news' => news' = base ∧ p y = true ∧ ∃ u, v = Value.str y u)) E' s'
        else CompEnd h₀ L m { s with heap := h, toks := tk } I oI C oC D (lst ys) S (fun _ news' => news' = base ∧ p y = false) Value.none s') E' { s with heap := h, toks := tk })
    (fin : ∀ ys, StrsAre ys (cxs.filter p) → Fin ys base) : LCt.CompRestT prog w A h₀ L m env ct elt x scope cl s S (fun i v => cvs.toArray[i]? = some v) Fin cvs.toArray.size 0 [] base := by
  refine restT_inv (items := cxs) (fun y v => ∃ t, v = Value.str y t) (fun pre ys nw => nw = base ∧ StrsAre ys (pre.filter p)) (strs_len hc) (strs_at hc) ⟨rfl, .nil⟩ ?_ ?_
  · rintro pre y v I oI C oC D m₂ ys nw h tk E' hy ⟨t, rfl⟩ ⟨rfl, hys⟩ hC hm F N off ne
    refine wpAny_mono (turn y t I oI C oC D m₂ ys h tk E' (hb y hy) hC hm F N off ne) (fun ok s' hq => ?_) fun _ _ e => e
    cases ok with
    | true =>
      simp only [if_true] at hq ⊢
      refine wpAny_mono hq (fun v s'' hz => ?_) fun _ _ e => e
      obtain ⟨h', tk', nw', e, F', N', off', hS, rfl, hp, u, rfl⟩ := hz
      refine ⟨h', tk', nw', e, F', N', off', hS, rfl, ?_⟩
      rw [List.filter_append, List.filter_cons, hp]
      exact strs_snoc hys
    | false =>
      simp only [Bool.false_eq_true, if_false] at hq ⊢
      obtain ⟨h', tk', nw', e, F', N', off', hS, rfl, hp⟩ := hq
      refine ⟨h', tk', nw', e, F', N', off', hS, rfl, ?_⟩
      rw [List.filter_append, List.filter_cons, hp]
      simpa using hys
  · rintro ys nw ⟨rfl, hys⟩
    exact fin ys hys
theorem restA_filter {arr : Array Value} {cxs : List Str} (p : Str → Bool) (hc : StrsAre arr.toList cxs) (hb : ∀ x ∈ cxs, x.length ≤ 64)
    (turn : ∀ y t I oI C oC D m₂ ys h tk (E' : Value → Shared → Prop), y.length ≤ 64 → NsObj oC m₂ → m₂ x = some (.str y t) → Fr h₀ L h m → News h₀ L h ((I, oI) :: (C, oC) :: (D, lst ys) :: base) → Off3 I C D base → ((@Ne Nat I C) ∧ (@Ne Nat I D) ∧ (@Ne Nat C D)) →
      wpAny (model prog w) A (isTrue ct (compEnvC scope cl C env) (eval ct (compEnvC scope cl C env))) (fun ok s' => if ok = true then
        wpAny (model prog w) A (eval elt (compEnvC scope cl C env)) (CompEnd h₀ L m { s with heap := h, toks := tk } I oI C oC D (lst ys) S (fun v news' => news' = base ∧ p y = true ∧ ∃ u, v = Value.str y u)) E' s'
        else CompEnd h₀ L m { s with heap := h, toks := tk } I oI C oC D (lst ys) S (fun _ news' => news' = base ∧ p y = false) Value.none s') E' { s with heap := h, toks := tk })
    (fin : ∀ ys, StrsAre ys (cxs.filter p) → Fin ys base) : LCt.CompRestT prog w A h₀ L m env ct elt x scope cl s S (fun i v => arr[i]? = some v) Fin arr.size 0 [] base := by
  obtain ⟨cvs⟩ := arr
  exact restT_filter p hc hb turn fin
theorem add_strs {l b : Addr} {vs us : List Value} {xs zs : List Str} {c1 c2 : Nat} {Q : Value → Shared → Prop} {E : Value → Shared → Prop} {news : List (Addr × Obj)} (F : Fr h₀ L s.heap m) (N : News h₀ L s.heap news) (h1 : (l, listOf vs.toArray c1) ∈ news) (h2 : (b, listOf us.toArray c2) ∈ news)
    (hs1 : StrsAre vs xs) (hs2 : StrsAre us zs) (hb1 : xs.length ≤ 1000) (hb2 : zs.length ≤ 1000)
    (h : ∀ D h', Fr h₀ L h' m → News h₀ L h' ((D, listOf (vs ++ us).toArray 0) :: news) → (∀ p ∈ news, p.1 < D) → StrsAre (vs ++ us) (xs ++ zs) → Q (.ref D) { s with heap := h' }) :
    wpAny (model prog w) A (binaryOp .Add (.ref l) (.ref b)) Q E s :=
  add_lists F N ⟨_, (N _ h1).1, rfl, _, rfl⟩ ⟨_, (N _ h2).1, rfl, _, rfl⟩ (fun h' F' N' => h _ h' F' N' (fun p hp => Heap.lt_size (N p hp).1) (strs_append hs1 hs2))
    (by have e1 := hs1.length; have e2 := hs2.length; rw [sizeLine_eq]; omega)
end
end Mine

-- the part Plain
namespace Mine
open PySem PySem.W PyProof.Rows PySem.Calls PySem.Spec
theorem row_head {T : List (Str × Str)} {sep Lg Nm : Str} {kn : List Str} (g : GoodRow sep Lg Nm) : negoOne T sep kn Nm = (dueRow T sep kn (Lg, Nm)).head? := by
  have g3 := g.2.2
  have rest : (if (1 : Int) < ((Txt.split Nm sep).length : Nat) ∧ isIn kn (Txt.lower (part0 sep Nm)) = true then some (part0 sep Nm) else none)
      = ((if Nm = Lg then ([] : List Str) else [Lg]).filter fun x => kn.any fun y => y == Txt.lower x).head? := by
    rcases g3 with ⟨e, hl⟩ | ⟨e, hl, hp⟩
    · rw [if_pos e, if_neg (fun q => hl q.1)]; rfl
    · rw [if_neg e, hp]
      cases hk : (kn.any fun y => y == Txt.lower Lg) with
      | true =>
        rw [if_pos ⟨hl, hk⟩, List.filter_cons, if_pos hk]; rfl
      | false =>
        rw [if_neg (fun q => by have q2 := q.2; unfold isIn at q2; rw [hk] at q2; cases q2), List.filter_cons, if_neg (by rw [hk]; exact Bool.false_ne_true)]; rfl
  unfold dueRow cands
  dsimp only
  revert rest
  generalize hp : (fun x : Str => kn.any fun y => y == Txt.lower x) = p
  intro rest
  have hpx : ∀ x, p x = kn.any fun y => y == Txt.lower x := fun x => by rw [← hp]
  cases hn : p Nm with
  | true =>
    rw [one_self (by rw [← hpx]; exact hn), List.filter_cons_of_pos hn]; rfl
  | false =>
    rw [one_rest (by rw [← hpx]; exact hn), rest, List.filter_cons_of_neg (by rw [hn]; exact Bool.false_ne_true), List.filter_append]
    cases ha : byAlias T sep Nm with
    | none => rfl
    | some a =>
      cases hk : p a with
      | true =>
        have e : tryName kn a = some a := by unfold tryName; exact if_pos (by unfold isIn; rw [← hpx]; exact hk)
        rw [Option.bind_some, e, Option.toList_some, List.filter_cons_of_pos hk]; rfl
      | false =>
        have e : tryName kn a = none := by unfold tryName; exact if_neg (by unfold isIn; rw [← hpx, hk]; exact Bool.false_ne_true)
        rw [Option.bind_some, e, Option.toList_some, List.filter_cons_of_neg (by rw [hk]; exact Bool.false_ne_true)]; rfl
theorem nego_due {T : List (Str × Str)} {sep : Str} {kn : List Str} : ∀ {rs : List (Str × Str)}, (∀ r ∈ rs, GoodRow sep r.1 r.2) → nego T sep kn (rs.map (·.2)) = (dueOf T sep kn rs).head?
  | [], _ => rfl
  | (Lg, Nm) :: rs, h => by
    have ih := nego_due (T := T) (kn := kn) (rs := rs) fun r hr => h r (.tail _ hr)
    have h1 := row_head (T := T) (kn := kn) (h (Lg, Nm) (.head _))
    unfold nego dueOf at ih ⊢
    rw [List.map_cons, List.findSome?_cons, List.flatMap_cons, List.head?_append, ← ih, h1]
    cases (dueRow T sep kn (Lg, Nm)).head? <;> rfl
theorem nego_more {T : List (Str × Str)} {sep y : Str} {kn ps qs : List Str} (h : nego T sep kn ps = some y) : nego T sep kn (ps ++ qs) = some y := by
  unfold nego at h ⊢
  rw [List.findSome?_append, h, Option.some_or]
end Mine

-- the part LawA
namespace Mine
open PySem PySem.W PyProof.Rows PySem.Calls PySem.Spec
set_option maxRecDepth 100000
set_option maxHeartbeats 8000000
local macro_rules | `(tactic| walk_at "execs cons") => `(tactic| (k_here; (refine execs_tok (by assumption) (by ((try dsimp only); first | assumption | omega)) ?_); intro _ _; (try dsimp only)))
local macro_rules | `(tactic| walk_at "call ref") => `(tactic| (k_here; k_dflt (refine' name_call ?k1 ?k2 ?k3 ?k4 ?k5 ?k6 ?k7 ?k8 ?k9 ?k10; (case k1 => k_asm); (case k2 => k_asm); (case k3 => k_asm); (case k4 => k_asm); (case k5 => exact rfl); (case k6 => assumption); (case k7 => ktr_room); (case k8 => ktr_units); (case k10 => k_asm)); intro D' Lg' Nm' t1' t2' c' h' tk' g' F' N' l'))
local macro_rules | `(tactic| k_mem) => `(tactic| assumption)
local macro_rules | `(tactic| walk_at "subscriptTail") => `(tactic| (k_here; (with_reducible show wpAny _ _ (subscriptTail _ _ (Value.ref _) (Value.int 1 _)) _ _ _); (refine tup_item1 (by k_asm) (by k_mem) ?_)))
/-- a stop for the walker -/
def Shield (P : Prop) : Prop := P
theorem shield {P : Prop} (h : P) : Shield P := h
theorem unshield {P : Prop} (h : Shield P) : P := h
theorem for_list_at {prog : Program} {w : World} {A : Around} {E : Value → Shared → Prop} {s : Shared} {env : Env} {h₀ h₁ : Heap} {m₁ : Str → Option Value} {target iter : PySem.Expr} {pos : Pos} {body : List Stmt} {Q : Flow → Shared → Prop}
    (_ : Fr h₀ env.locals h₁ m₁) (hh : A.handled = none) (n0 : Nat) (h : wpAny (model prog w) A (eval iter env) (ListFor prog w A h₀ env target body Q E n0) E s)
    (hs : ∀ x, foldedSetIterable iter env x = pure x := by intro _; rfl) (hE : PassesOwn (model prog w) A env E := by passes_own) :
    wpAny (model prog w) A (exec (.For target iter body [] pos) env) Q E s := for_list hh n0 h hs hE
theorem kept_read {stored : List Str} {k : Str} {v : Value} {u mB : Str → Option Value} (hu : u k = some v) (hk : stored.contains k = true) :
    (fun y => if stored.contains y then u y else mB y) = fun y => if y = k then some v else (fun y => if stored.contains y then u y else mB y) y := by
  funext y
  by_cases e : y = k
  · subst e; simp only [hk, hu, if_true]
  · simp only [e, if_false]
section
variable {prog : Program} {w : World} {A : Around} {E : Value → Shared → Prop} {s : Shared} {g : Heap} {L d : Addr} {m : Str → Option Value} {T : List (Str × Str)} {k : Str} {tk : Tok}
theorem tab_in_some {v : Str} {Q : Value → Shared → Prop} (F : Fr g L s.heap m) (TT : StrTab prog w g d (tabD T)) (hk : look T k = some v) (h : Q (.bool true) { s with toks := s.toks + 1 }) :
    wpAny (model prog w) A (compareOp .In (.str k tk) (.ref d)) Q E s := tab_in F TT (by rw [hk]; exact h)
theorem tab_in_none {Q : Value → Shared → Prop} (F : Fr g L s.heap m) (TT : StrTab prog w g d (tabD T)) (hk : look T k = none) (h : Q (.bool false) { s with toks := s.toks + 1 }) :
    wpAny (model prog w) A (compareOp .In (.str k tk) (.ref d)) Q E s := tab_in F TT (by rw [hk]; exact h)
end
local macro_rules | `(tactic| walk_at "compareOp In str ref") => `(tactic| (k_here; first | (refine tab_in_some (by k_asm) (by assumption) (by assumption) ?_) | (refine tab_in_none (by k_asm) (by assumption) (by assumption) ?_)))
local macro_rules | `(tactic| walk_at "subscriptTail") => `(tactic| (k_here; (with_reducible show wpAny _ _ (subscriptTail _ _ (Value.ref _) (Value.str _ _)) _ _ _); (refine tab_item (by k_asm) (by assumption) (by assumption) ?_); intro _))
local macro_rules | `(tactic| walk_at "call builtin:str.replace") => `(tactic| (k_here; (refine replace_any (by k_asm) (by k_asm) (by assumption) (by assumption) (by assumption) rfl (by ((try dsimp only); first | assumption | omega)) ?_); intro _ _))
section
variable {prog : Program} {w : World} {A : Around} {E : Value → Shared → Prop} {s : Shared} {g : Heap} {L a b : Addr} {v : Value} {vs : List Value} {c1 c2 : Nat} {news : List (Addr × Obj)} {Q : Value → Shared → Prop}
theorem ne_empty (N : News g L s.heap news) (h1 : (a, listOf (v :: vs).toArray c1) ∈ news) (h2 : (b, listOf #[] c2) ∈ news) (hu : A.units < cLine) (h : Q (.bool true) s) :
    wpAny (model prog w) A (compareOp .NotEq (.ref a) (.ref b)) Q E s :=
  have ha : s.heap.IsList a (v :: vs).toArray := ⟨_, (N _ h1).1, rfl, _, rfl⟩
  have hb : s.heap.IsList b #[] := ⟨_, (N _ h2).1, rfl, _, rfl⟩
  PySem.SeqAt.RcNeAt.lists_lengths ha hb (by simp) hu prog w E Q h
theorem head_item {t : Tok} {value slice : PySem.Expr} (N : News g L s.heap news) (h1 : (a, listOf (v :: vs).toArray c1) ∈ news) (h : Q v s)
    (hs : subscripted slice false (.ref a) (.int 0 t) = operate [.ref a, .int 0 t] (getItem (.ref a) (.int 0 t)) := by with_unfolding_all rfl) :
    wpAny (model prog w) A (subscriptTail value slice (.ref a) (.int 0 t)) Q E s :=
  have ha : s.heap.IsList a (v :: vs).toArray := ⟨_, (N _ h1).1, rfl, _, rfl⟩
  tail_any ha.typeIs list_getitem_lookup (wpAny_getItem_list ha (by decide) (by decide) (by simp) h) hs
end
local macro_rules | `(tactic| walk_at "compareOp NotEq ref ref") => `(tactic| (k_here; (with_reducible show wpAny _ _ (compareOp CmpOp.NotEq (Value.ref _) (Value.ref _)) _ _ _); (refine ne_empty (by k_asm) (.tail _ (.head _)) (.head _) (by ktr_units) ?_)))
local macro_rules | `(tactic| walk_at "subscriptTail") => `(tactic| (k_here; (with_reducible show wpAny _ _ (subscriptTail _ _ (Value.ref _) (Value.int 0 _)) _ _ _); (refine head_item (by k_asm) (.tail _ (.head _)) ?_)))
local macro_rules | `(tactic| walk_at "binaryOp Add ref ref") => `(tactic| (k_here; (with_reducible show wpAny _ _ (binaryOp Operator.Add (Value.ref _) (Value.ref _)) _ _ _); refine unshield ?_))
/-- where the loop over the rows stands -/
def DueK (base : List (Addr × Obj)) (T : List (Str × Str)) (sep : Str) (kn : List Str) (rws : List (Str × Str)) (pre : List Value) (u : Str → Option Value) (n' : List (Addr × Obj)) : Prop :=
  ∃ (Dd : Addr) (ds : List Value), n' = (Dd, listOf ds.toArray 0) :: base ∧ u (Str.ofString "due") = some (.ref Dd) ∧ StrsAre ds (dueOf T sep kn (rws.take pre.length))
local macro_rules | `(tactic| walk_at "eval ListComp") => `(tactic| (k_here; k_dflt (refine LCt.ListComp_T (F₀ := by k_asm) (by with_unfolding_all rfl) (by decide) (by rfl) (by decide) (by rfl) ?_); refine unshield ?_))
local macro_rules | `(tactic| walk_at "call ref") => `(tactic| (k_here; (with_reducible show wpAny _ _ (call (Value.ref 23) _) _ _ _); refine unshield ?_))
theorem w1 : PySem.Challenge.rw_nk0001_01.Holds := tp (by
  k_go0
  all_goals try k_fold
  rename Fr _ _ _ _ => F0
  rename (Frag.In _ _) => X0
  walk1
  walk1
  refine cut_int ?_ ?_
  · k_steps
    all_goals exact ⟨_, _, _, rfl, rfl⟩
  intro setting st0 k0
  walk1
  walk1
  walk1
  refine cut_sep ?_ ?_
  · k_steps
    all_goals exact ⟨_, _, _, rfl, sep_item _, Nat.succ_ne_zero _, Nat.le_refl _, rfl⟩
  intro sep st k1 hsep hst hk1
  try dsimp only
  walk1
  try dsimp only
  have tm : TokOf (st + 1) := ⟨trivial⟩
  walk1
  walk1
  k_dflt (refine cut_alias (n := st + 1) (by ((try dsimp only); omega)) (by k_asm) (by k_asm) ?_ ?_)
  · k_steps
    all_goals exact ⟨_, _, _, by first | exact .inr (.inl ⟨rfl, rfl⟩) | exact .inr (.inr ⟨rfl, rfl⟩) | exact .inl ⟨rfl, rfl⟩, rfl, by assumption, cb_drop (by assumption) (fun p hp => .tail _ hp)⟩
  intro alv tab h2 k2 htab hk2 F2 N2
  try dsimp only
  walk1
  try dsimp only
  walk1
  walk1
  walk1
  k_dflt (refine cut_nums (n := st + 1) 9 (by ((try dsimp only); first | assumption | omega)) (by k_asm) (by k_asm) ?_ ?_)
  · k_steps
    all_goals (dsimp only; refine' nums_intro ?q1 ?q2 ?q3 ?q4; (case q4 => assumption); (case q3 => assumption); (case q1 => first | assumption | (repeat' constructor)); (case q2 => first | omega | decide))
  intro nA nvs ns nc h3 k3 hns hn9 hk3 F3 N3
  try dsimp only
  walk1
  walk1
  try dsimp only
  walk1
  have B0 := below_caller (Top.heap (by assumption))
  k_dflt (refine LCg.Assign_ListComp_U (F₀ := by k_asm) (by rfl) (by with_unfolding_all rfl) (by with_unfolding_all rfl) (by decide) (by rfl) (by decide) (by rfl) (by rfl) (by rfl) ?_)
  k_dflt (refine cut_nums (n := st + 1) 9 (by ((try dsimp only); first | assumption | omega)) (by k_asm) (by k_asm) ?_ ?_)
  · k_steps
    all_goals (dsimp only; refine nums_intro (IntsAre.pick hns _ _ _) (pick_len hns hn9 _ _ _) (by assumption) (by assumption))
  intro rA rvs rs rc h4 k4 hrs hr9 hk4 F4 N4
  have hsz4 : rvs.toArray.size ≤ sizeLine := by rw [← ints_len hrs, sizeLine_eq]; omega
  k_dflt (refine LCg.CompSrc.ledger (by rfl) F4 N4 (.head _) hsz4 ?_)
  intro g4
  k_dflt (refine rest_rows (sep := sep) (ints_len hrs) (ints_at hrs) (fun ts => Or.inr ⟨_, List.mem_append_left _ (.head _), rfl, _, rfl⟩) ?_ ?_)
  · intro k t I oI C oC D m₂ ys ts h tk E' hC hm F5 N5 ne
    simp only [List.cons_append, List.nil_append] at N5 ⊢
    k_steps
    exact row_end (by assumption) (by assumption) (by assumption) (by assumption)
  intro ys ts rws hrw hrl hlt
  intro DR h5 tk5 F5 N5 off5
  simp only [List.cons_append, List.nil_append] at N5 off5
  try dsimp only
  intro htk5
  walk1
  try dsimp only
  k_dflt (refine LCg.Assign_ListComp_U (F₀ := by k_asm) (by rfl) (by with_unfolding_all rfl) (by with_unfolding_all rfl) (by decide) (by rfl) (by decide) (by rfl) (by rfl) (by rfl) ?_)
  walk1
  have hrl9 : rws.length ≤ 9 := by rw [hrl, ← ints_len hrs]; exact hr9
  have hsz5 : ys.toArray.size ≤ sizeLine := by rw [List.size_toArray, ← hrw.len, sizeLine_eq]; omega
  k_dflt (refine LCg.CompSrc.ledger (by rfl) F5 N5 (.head _) hsz5 ?_)
  intro g5
  k_dflt (refine restU_inv (items := rws) (fun r v => GoodRow sep r.1 r.2 ∧ ∃ D t1 t2 c, v = Value.ref D ∧ (D, tupOf r.1 t1 r.2 t2 c) ∈ ts) (fun pre zs nw => nw = _ ∧ StrsAre zs (pre.map (·.2))) (by rw [List.size_toArray]; exact hrw.len) hrw.at' ⟨rfl, .nil⟩ ?_ ?_)
  · rintro pre r v I oI C oC D m₂ zs nw h tk E' hr ⟨hg, Dt, t1, t2, c, rfl, hmt⟩ ⟨rfl, hzs⟩ hC hm F6 N6 off ne
    k_steps
    try dsimp only
    exact LCg.CompEnd.intro F6 N6 _ (fun p hp => hp) off (Or.inr ⟨_, .head _, rfl, _, rfl⟩) ⟨rfl, by rw [List.map_append]; exact strs_snoc hzs⟩
  rintro zs nw ⟨rfl, hzs⟩
  intro DP h6 tk6 F6 N6 off6
  try dsimp only
  intro htk6
  walk1
  try dsimp only
  k_dflt (refine LCg.Assign_ListComp_U (F₀ := by k_asm) (by rfl) (by with_unfolding_all rfl) (by with_unfolding_all rfl) (by decide) (by rfl) (by decide) (by rfl) (by rfl) (by rfl) ?_)
  k_dflt (refine cut_nums (n := st + 1) 18 (by ((try dsimp only); first | assumption | omega)) (by k_asm) (by k_asm) ?_ ?_)
  · walk1
    k_dflt (refine cut_nums (n := st + 1) 9 (by ((try dsimp only); first | assumption | omega)) (by k_asm) (by k_asm) ?_ ?_)
    · k_steps
      all_goals (dsimp only; refine nums_intro (IntsAre.pick hns _ _ _) (pick_len hns hn9 _ _ _) (by assumption) (by assumption))
    intro aA avs as ac ha ka has ha9 hka FA NA
    try dsimp only
    k_dflt (refine cut_nums (n := st + 1) 9 (by ((try dsimp only); first | assumption | omega)) (by k_asm) (by k_asm) ?_ ?_)
    · k_steps
      all_goals (dsimp only; refine nums_intro (by assumption) (by omega) (by assumption) (by assumption))
    intro bA bvs bs bc hb kb hbs hb9 hkb FB NB
    try dsimp only
    k_dflt (refine kmk_add_ints FB NB ⟨_, (NB _ (.tail _ (.head _))).1, rfl, _, rfl⟩ ⟨_, (NB _ (.head _)).1, rfl, _, rfl⟩ has hbs ?_ (by rw [sizeLine_eq]; omega))
    intro qA qvs hq FQ NQ _ hqs
    try dsimp only
    exact nums_intro hqs (by rw [List.length_append]; omega) FQ (cb_drop NQ fun p hp => by
      rcases List.mem_cons.mp hp with e | hp
      · exact e ▸ .head _
      · exact .tail _ (.tail _ (.tail _ hp)))
  intro qA qvs qs qc h7 k7 hqs hq18 hk7 F7 N7
  try dsimp only
  have hsz7 : qvs.toArray.size ≤ sizeLine := by rw [← ints_len hqs, sizeLine_eq]; omega
  k_dflt (refine LCg.CompSrc.ledger (by rfl) F7 N7 (.head _) hsz7 ?_)
  intro g7
  k_dflt (refine restU_inv (items := qs) (fun k v => ∃ t, v = Value.int k t) (fun pre zs nw => nw = _ ∧ ∃ xs, StrsAre zs xs ∧ xs.length = pre.length ∧ ∀ x ∈ xs, x.length ≤ 64) (ints_len hqs) (ints_at hqs) ⟨rfl, [], .nil, rfl, fun _ h => nomatch h⟩ ?_ ?_)
  · rintro pre k v I oI C oC D m₂ us nw h tk E' hk ⟨t, rfl⟩ ⟨rfl, xs, hxs, hxl, hxb⟩ hC hm F8 N8 off ne
    iterate 11 (first | walk1 | (dsimp only; walk1))
    k_dflt (refine' name_call ?k1 ?k2 ?k3 ?k4 ?k5 ?k6 ?k7 ?k8 ?k9 ?k10)
    (case k1 => k_asm); (case k2 => k_asm); (case k3 => k_asm); (case k4 => k_asm); (case k5 => exact rfl); (case k6 => assumption); (case k7 => ktr_room); (case k8 => ktr_units); (case k10 => k_asm)
    intro D' Lg' Nm' t1' t2' c' h' tk' g' F' N' l'
    k_steps
    try dsimp only
    exact LCg.CompEnd.intro F' N' _ (fun p hp => .tail _ hp) off (Or.inr ⟨_, .head _, rfl, _, rfl⟩) ⟨rfl, xs ++ [Nm'], strs_snoc hxs, by rw [List.length_append, List.length_append, hxl]; rfl, fun x hx => by
      rcases List.mem_append.mp hx with hx | hx
      · exact hxb x hx
      · rw [List.mem_singleton.mp hx]
        exact Nat.le_trans g'.2.1 (by decide)⟩
  rintro us nw ⟨rfl, as, has, hasl, hasb⟩
  intro DT h9 tk9 F9 N9 off9
  try dsimp only
  intro htk9
  have has64 : as.length ≤ 64 := by rw [hasl]; omega
  walk1
  try dsimp only
  walk1
  k_dflt (refine LCt.ListComp_T (F₀ := by k_asm) (by with_unfolding_all rfl) (by decide) (by rfl) (by decide) (by rfl) ?_)
  walk1
  have hsz9 : us.toArray.size ≤ sizeLine := by rw [← strs_len has, sizeLine_eq]; omega
  k_dflt (refine LCt.CompSrcT.ledger (by rfl) F9 N9 (.head _) hsz9 ?_)
  intro g9
  k_dflt (refine restT_inv (items := as) (fun x v => ∃ t, v = Value.str x t) (fun pre ks nw => nw = _ ∧ StrsAre ks (knownOf pre)) (strs_len has) (strs_at has) ⟨rfl, .nil⟩ ?_ ?_)
  · rintro pre x v I oI C oC D m₂ ks nw h tk E' hx ⟨t, rfl⟩ ⟨rfl, hks⟩ hC hm FA NA off ne
    have hxl := hasb x hx
    k_steps
    · try dsimp only
      refine LCg.CompEnd.intro FA NA _ (fun p hp => hp) off (Or.inr ⟨_, .head _, rfl, _, rfl⟩) ⟨rfl, ?_⟩
      rw [knownOf_bne (by assumption)]
      exact strs_snoc hks
    · try dsimp only
      refine LCg.CompEnd.intro FA NA _ (fun p hp => hp) off (Or.inr ⟨_, .head _, rfl, _, rfl⟩) ⟨rfl, ?_⟩
      rw [knownOf_beq (by assumption)]
      exact hks
  rintro ks nw ⟨rfl, hks⟩
  intro DK h10 tk10 F10 N10 off10
  try dsimp only
  k_dflt (refine storeX_C F10 (cell_first N10) rfl (UpdF.head (cell_ne off10.2.2.2.2.2.2.1 off9.2.2.2.2.2.1 off6.2.2.2.1 off5.2.2.1 (Nat.succ_ne_self _) (fun p hp => hlt p hp _ (.tail _ (.tail _ (.head _)))))) (by assumption) ?_)
  intro h11 okn F11 N11 hokn
  try dsimp only
  intro htk11
  iterate 5 walk1
  iterate 2 walk1
  rename_i F12 N12 tk12 htk12
  k_dflt (refine for_list_at F12 (by rfl) (st + 1) ?_)
  walk1
  k_dflt (refine listFor_kept [Str.ofString "language", Str.ofString "one", Str.ofString "candidates", Str.ofString "due"] (DueK _ tab sep (knownOf as) rws) htk12 F12 N12 (.tail _ (.tail _ (.tail _ (.tail _ (.tail _ (.head _)))))) ⟨_, [], rfl, rfl, .nil⟩ ?_ ?_)
  · rintro pre v post u nw I it h13 tk13 epv ⟨Dd, ds, rfl, hud, hds⟩ hmr hoff hit htk13 F13 N13
    rw [kept_read hud (by decide)] at F13
    clear F12 N12
    have hrw0 := hrw
    rw [epv] at hrw
    obtain ⟨rpre, r, rpost, Dt, t1, t2, c, er, rfl, hmt, hg, hrpl⟩ := hrw.split
    obtain ⟨Lg, Nm⟩ := r
    dsimp only at hmt hg
    have hLg : Lg.length ≤ 64 := Nat.le_trans hg.1 (by decide)
    have hNm : Nm.length ≤ 64 := Nat.le_trans hg.2.1 (by decide)
    have hdl : (dueOf tab sep (knownOf as) (rws.take pre.length)).length ≤ 1000 := Nat.le_trans (dueOf_len _ _ _ _) (by rw [List.length_take]; omega)
    rcases alias_open (prog := PySem.Challenge.rw_nk0001_01.row.prog) X0 htab hsep with ⟨e1, e2⟩ | ⟨d, e1, TT, tne, tlen, tbd⟩
    · subst e1
      have hlk : look tab (Txt.lower Nm) = none := by rw [e2]; rfl
      k_steps
      all_goals
        refine shield ?_
        walk1
        k_dflt (refine LCt.CompSrcT.ledger (by rfl) (by k_asm) (by k_asm) (by k_mem) (by rw [sizeLine_eq]; exact Nat.le_of_ble_eq_true rfl) ?_)
        intro gg
        first
          | have hcs := cands_n0 (sep := sep) hlk (by assumption)
          | have hcs := cands_n1 (sep := sep) hlk (by assumption)
          | have hcs := cands_s0 (sep := sep) hlk (by assumption)
          | have hcs := cands_s1 (sep := sep) hlk (by assumption)
        k_dflt (refine restA_filter (cxs := cands tab sep (Lg, Nm)) (fun x => (knownOf as).any fun y => y == Txt.lower x) (by rw [hcs]; first | exact .cons _ _ .nil | exact .cons _ _ (.cons _ _ .nil) | exact .cons _ _ (.cons _ _ (.cons _ _ .nil))) (by rw [hcs]; (repeat' (refine List.forall_mem_cons.2 ⟨by assumption, ?_⟩)); exact fun _ h => nomatch h) ?_ ?_)
        · rintro y t I' oI' C' oC' D' m₂' zs' h14 tk14 E' hy hC' hm' F14 N14 off' ne'
          k_steps
          · exact LCg.CompEnd.intro (by assumption) (by assumption) _ (fun p hp => hp) off' (Or.inr ⟨_, .head _, rfl, _, rfl⟩) ⟨rfl, by assumption, _, rfl⟩
          · exact LCg.CompEnd.intro (by assumption) (by assumption) _ (fun p hp => hp) off' (Or.inr ⟨_, .head _, rfl, _, rfl⟩) ⟨rfl, by assumption⟩
        · intro fs hfs Dc h15 tk15 F15 N15 off15
          try dsimp only
          k_dflt (refine add_strs F15 N15 (.tail _ (.tail _ (.tail _ (.head _)))) (.head _) hds hfs hdl (Nat.le_trans (dueRow_len tab sep (knownOf as) (Lg, Nm)) (by decide)) ?_)
          intro D16 h16 F16 N16 l16 hs16
          k_steps
          refine UnrEnd.intro (by assumption) (by assumption) ((D16, listOf (ds ++ fs).toArray 0) :: _) (fun p hp => ?_) (fun p hp => ?_) ⟨.tail _ (.tail _ (.tail _ (.tail _ (.tail _ (.head _))))), ?_, D16, _, rfl, rfl, ?_⟩
          · rcases List.mem_cons.mp hp with e | hp
            · exact e ▸ .tail _ (.tail _ (.tail _ (.head _)))
            · rcases List.mem_cons.mp hp with e | hp
              · exact e ▸ .head _
              · exact .tail _ (.tail _ (.tail _ (.tail _ (.tail _ hp))))
          · rcases List.mem_cons.mp hp with e | hp
            · rw [e]; exact Nat.ne_of_gt (l16 (I, it) (.tail _ (.tail _ (.head _))))
            · exact hoff p (.tail _ hp)
          · intro z hz
            have n1 := ne_of_stored hz (k := Str.ofString "language") (by decide)
            have n2 := ne_of_stored hz (k := Str.ofString "one") (by decide)
            have n3 := ne_of_stored hz (k := Str.ofString "candidates") (by decide)
            have n4 := ne_of_stored hz (k := Str.ofString "due") (by decide)
            simp only [n1, n2, n3, n4, hz, if_false, Bool.false_eq_true]
          · rw [List.length_append, List.length_singleton, dueOf_take er hrpl]
            exact hs16
    · subst e1
      cases hlk : look tab (Txt.lower Nm) with
      | none =>
        k_steps
        all_goals
          refine shield ?_
          walk1
          k_dflt (refine LCt.CompSrcT.ledger (by rfl) (by k_asm) (by k_asm) (by k_mem) (by rw [sizeLine_eq]; exact Nat.le_of_ble_eq_true rfl) ?_)
          intro gg
          first
            | have hcs := cands_n0 (sep := sep) hlk (by assumption)
            | have hcs := cands_n1 (sep := sep) hlk (by assumption)
            | have hcs := cands_s0 (sep := sep) hlk (by assumption)
            | have hcs := cands_s1 (sep := sep) hlk (by assumption)
          k_dflt (refine restA_filter (cxs := cands tab sep (Lg, Nm)) (fun x => (knownOf as).any fun y => y == Txt.lower x) (by rw [hcs]; first | exact .cons _ _ .nil | exact .cons _ _ (.cons _ _ .nil) | exact .cons _ _ (.cons _ _ (.cons _ _ .nil))) (by rw [hcs]; (repeat' (refine List.forall_mem_cons.2 ⟨by assumption, ?_⟩)); exact fun _ h => nomatch h) ?_ ?_)
          · rintro y t I' oI' C' oC' D' m₂' zs' h14 tk14 E' hy hC' hm' F14 N14 off' ne'
            k_steps
            · exact LCg.CompEnd.intro (by assumption) (by assumption) _ (fun p hp => hp) off' (Or.inr ⟨_, .head _, rfl, _, rfl⟩) ⟨rfl, by assumption, _, rfl⟩
            · exact LCg.CompEnd.intro (by assumption) (by assumption) _ (fun p hp => hp) off' (Or.inr ⟨_, .head _, rfl, _, rfl⟩) ⟨rfl, by assumption⟩
          · intro fs hfs Dc h15 tk15 F15 N15 off15
            try dsimp only
            k_dflt (refine add_strs F15 N15 (.tail _ (.tail _ (.tail _ (.head _)))) (.head _) hds hfs hdl (Nat.le_trans (dueRow_len tab sep (knownOf as) (Lg, Nm)) (by decide)) ?_)
            intro D16 h16 F16 N16 l16 hs16
            k_steps
            refine UnrEnd.intro (by assumption) (by assumption) ((D16, listOf (ds ++ fs).toArray 0) :: _) (fun p hp => ?_) (fun p hp => ?_) ⟨.tail _ (.tail _ (.tail _ (.tail _ (.tail _ (.head _))))), ?_, D16, _, rfl, rfl, ?_⟩
            · rcases List.mem_cons.mp hp with e | hp
              · exact e ▸ .tail _ (.tail _ (.tail _ (.head _)))
              · rcases List.mem_cons.mp hp with e | hp
                · exact e ▸ .head _
                · exact .tail _ (.tail _ (.tail _ (.tail _ (.tail _ hp))))
            · rcases List.mem_cons.mp hp with e | hp
              · rw [e]; exact Nat.ne_of_gt (l16 (I, it) (.tail _ (.tail _ (.head _))))
              · exact hoff p (.tail _ hp)
            · intro z hz
              have n1 := ne_of_stored hz (k := Str.ofString "language") (by decide)
              have n2 := ne_of_stored hz (k := Str.ofString "one") (by decide)
              have n3 := ne_of_stored hz (k := Str.ofString "candidates") (by decide)
              have n4 := ne_of_stored hz (k := Str.ofString "due") (by decide)
              simp only [n1, n2, n3, n4, hz, if_false, Bool.false_eq_true]
            · rw [List.length_append, List.length_singleton, dueOf_take er hrpl]
              exact hs16
      | some v =>
        obtain ⟨p, hp, hpv⟩ := look_mem hlk
        have hv3 := hpv ▸ tbd p hp
        have hv8 := hv3.1
        have hv64 := hv3.2.2
        k_steps
        all_goals
          refine shield ?_
          walk1
          k_dflt (refine LCt.CompSrcT.ledger (by rfl) (by k_asm) (by k_asm) (by k_mem) (by rw [sizeLine_eq]; exact Nat.le_of_ble_eq_true rfl) ?_)
          intro gg
          first
            | have hcs := cands_n0 (sep := sep) hlk (by assumption)
            | have hcs := cands_n1 (sep := sep) hlk (by assumption)
            | have hcs := cands_s0 (sep := sep) hlk (by assumption)
            | have hcs := cands_s1 (sep := sep) hlk (by assumption)
          k_dflt (refine restA_filter (cxs := cands tab sep (Lg, Nm)) (fun x => (knownOf as).any fun y => y == Txt.lower x) (by rw [hcs]; first | exact .cons _ _ .nil | exact .cons _ _ (.cons _ _ .nil) | exact .cons _ _ (.cons _ _ (.cons _ _ .nil))) (by rw [hcs]; (repeat' (refine List.forall_mem_cons.2 ⟨by assumption, ?_⟩)); exact fun _ h => nomatch h) ?_ ?_)
          · rintro y t I' oI' C' oC' D' m₂' zs' h14 tk14 E' hy hC' hm' F14 N14 off' ne'
            k_steps
            · exact LCg.CompEnd.intro (by assumption) (by assumption) _ (fun p hp => hp) off' (Or.inr ⟨_, .head _, rfl, _, rfl⟩) ⟨rfl, by assumption, _, rfl⟩
            · exact LCg.CompEnd.intro (by assumption) (by assumption) _ (fun p hp => hp) off' (Or.inr ⟨_, .head _, rfl, _, rfl⟩) ⟨rfl, by assumption⟩
          · intro fs hfs Dc h15 tk15 F15 N15 off15
            try dsimp only
            k_dflt (refine add_strs F15 N15 (.tail _ (.tail _ (.tail _ (.head _)))) (.head _) hds hfs hdl (Nat.le_trans (dueRow_len tab sep (knownOf as) (Lg, Nm)) (by decide)) ?_)
            intro D16 h16 F16 N16 l16 hs16
            k_steps
            refine UnrEnd.intro (by assumption) (by assumption) ((D16, listOf (ds ++ fs).toArray 0) :: _) (fun p hp => ?_) (fun p hp => ?_) ⟨.tail _ (.tail _ (.tail _ (.tail _ (.tail _ (.head _))))), ?_, D16, _, rfl, rfl, ?_⟩
            · rcases List.mem_cons.mp hp with e | hp
              · exact e ▸ .tail _ (.tail _ (.tail _ (.head _)))
              · rcases List.mem_cons.mp hp with e | hp
                · exact e ▸ .head _
                · exact .tail _ (.tail _ (.tail _ (.tail _ (.tail _ hp))))
            · rcases List.mem_cons.mp hp with e | hp
              · rw [e]; exact Nat.ne_of_gt (l16 (I, it) (.tail _ (.tail _ (.head _))))
              · exact hoff p (.tail _ hp)
            · intro z hz
              have n1 := ne_of_stored hz (k := Str.ofString "language") (by decide)
              have n2 := ne_of_stored hz (k := Str.ofString "one") (by decide)
              have n3 := ne_of_stored hz (k := Str.ofString "candidates") (by decide)
              have n4 := ne_of_stored hz (k := Str.ofString "due") (by decide)
              simp only [n1, n2, n3, n4, hz, if_false, Bool.false_eq_true]
            · rw [List.length_append, List.length_singleton, dueOf_take er hrpl]
              exact hs16
  · intro u nw h17 tk17 hK htk17 F17 N17
    obtain ⟨Dd, ds, e, hud, hds⟩ := hK
    subst e
    rw [kept_read hud (by decide)] at F17
    rw [List.take_of_length_le (Nat.le_of_eq (by rw [hrw.len]))] at hds
    clear F12 N12
    intro _
    dsimp only
    k_steps
    have hpl : ∀ x ∈ rws.map (·.2), x.length ≤ 64 := fun x hx => by
      obtain ⟨r, hr, rfl⟩ := List.mem_map.mp hx
      exact Nat.le_trans (hrw.good r hr).2.1 (by decide)
    have hpn : (rws.map (·.2)).length ≤ 64 := by rw [List.length_map]; omega
    refine shield ?_
    k_dflt (refine neg_call (by k_asm) (by k_asm) (by k_asm) (by k_asm) rfl (.tail _ (.tail _ (.tail _ (.tail _ (.head _))))) (.tail _ (.tail _ (.tail _ (.head _)))) hzs has hpl hasb hpn has64 hsep hst (by (try dsimp only); first | assumption | omega) htab (by ktr_room) (by ktr_units) ?_ (by k_asm))
    intro tv h18 tk18 htv F18 N18
    rw [nego_due hrw.good] at htv
    clear F17 N17
    generalize hdd : dueOf tab sep (knownOf as) rws = dd at hds htv
    cases hds with
    | nil =>
      obtain rfl := htv
      k_steps
    | cons y t r =>
      obtain ⟨t', rfl⟩ := htv
      have hng : nego tab sep (knownOf as) (rws.map (·.2)) = some y := by rw [nego_due hrw.good, hdd]; rfl
      have has18 : as.length ≤ 18 := by rw [hasl]; exact hq18
      have hpn2 : (rws.map (·.2) ++ as).length ≤ 64 := by rw [List.length_append, List.length_map]; omega
      have hpl2 : ∀ x ∈ rws.map (·.2) ++ as, x.length ≤ 64 := fun x hx => (List.mem_append.mp hx).elim (hpl x) (hasb x)
      k_steps
      refine shield ?_
      k_dflt (refine add_strs (by k_asm) (by k_asm) (.tail _ (.tail _ (.tail _ (.tail _ (.tail _ (.head _)))))) (.tail _ (.tail _ (.tail _ (.tail _ (.head _))))) hzs has (Nat.le_trans hpn (by decide)) (Nat.le_trans has64 (by decide)) ?_)
      intro D21 h21 F21 N21 l21 hs21
      k_steps

      refine shield ?_
      k_dflt (refine neg_call (by k_asm) (by k_asm) (by k_asm) (by k_asm) rfl (.head _) (.tail _ (.tail _ (.tail _ (.tail _ (.tail _ (.head _)))))) hs21 has hpl2 hasb hpn2 has64 hsep hst (by (try dsimp only); first | assumption | omega) htab (by ktr_room) (by ktr_units) ?_ (by k_asm))
      intro tv2 h22 tk22 htv2 F22 N22
      rw [nego_more hng] at htv2
      obtain ⟨t2, rfl⟩ := htv2
      k_steps)
end Mine

theorem PySem.Challenge.cw_nk0001_01_holds : PySem.Challenge.rw_nk0001_01.Holds := by
  exact Mine.w1

