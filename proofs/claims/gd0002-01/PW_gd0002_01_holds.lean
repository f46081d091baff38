import PyProof.Rows.All
import Wide.All
import OpenK.AllK
import Wide.FinOn
import PySem.Challenge.RW_gd0002_01
set_option Elab.async false
set_option maxRecDepth 100000
set_option rowWalk.seconds 0

section
open PySem PySem.W PyProof.Rows
set_option maxHeartbeats 8000000
namespace Mine
open_top hd for PySem.Challenge.rw_gd0002_01
end Mine
end

section
open PySem PySem.W PyProof.Rows
open PySem.Calls PySem.Spec Builtin Builtin.Str
namespace Mine

/-- str.find between two bounds -/
def fnd (g w : Str) (lo hi : Nat) : Int := match occurrences g w lo hi 1 with
  | k :: _ => (k : Int)
  | [] => -1

theorem gives_find4 (x y : Str) (i j : Int) (t u v z : Tok) : Gives («str.find» ⟨[.str x t, .str y u, .int i v, .int j z], []⟩) (.int (fnd x y (fromIndex x.length i) (min (fromIndex x.length j) x.length))) := by
  show Gives (match occurrences x y (fromIndex x.length i) (min (fromIndex x.length j) x.length) 1 with | k :: _ => retInt k | [] => (do rule "str.find.not-found"; retInt (-1))) _
  unfold fnd
  cases occurrences x y (fromIndex x.length i) (min (fromIndex x.length j) x.length) 1 with
  | nil => exact .rule (.of_eq rfl)
  | cons k _ => exact .of_eq rfl

section
variable {prog : Program} {w : World} {A : Around} {E : Value → Shared → Prop} {s : Shared} {Q : Value → Shared → Prop} {x y : Str} {t u v z : Tok}
theorem find4 {i j : Int} (hi : 0 ≤ i) (hj : 0 ≤ j) (hjx : j ≤ x.length) (hq : ∀ t' k, Q (.int (fnd x y i.toNat j.toNat) t') { s with toks := k }) : wpAny (model prog w) A (call (.builtin "str.find") [.str x t, .str y u, .int i v, .int j z]) Q E s := by
  have h := hq s.toks (s.toks + 1)
  have e : fnd x y i.toNat j.toNat = fnd x y (fromIndex x.length i) (min (fromIndex x.length j) x.length) := by
    have e1 : fromIndex x.length i = i.toNat := by unfold fromIndex; omega
    have e2 : min (fromIndex x.length j) x.length = j.toNat := by unfold fromIndex; omega
    rw [e1, e2]
  rw [e] at h
  exact call_gives F.slot_str_find (typeIs_str _ _ _) F.entry_str_find (F.args_str_find_4 _ _ _ _) (gives_find4 x y i j t u v z) h

theorem truthy_two {Q : Bool → Shared → Prop} (h63 : x.length ≤ 1048576) (h0 : x.length = 0 → ∀ k, Q false { s with toks := k }) (h1 : x.length ≠ 0 → ∀ k, Q true { s with toks := k }) : wpAny (model prog w) A (PySem.truthy (.str x t)) Q E s := by
  refine SBL.truthy (by omega) ?_
  by_cases e : x.length = 0
  · have := h0 e (s.toks + 1 + 1)
    rw [e]; exact this
  · have e' : ((x.length : Int) != 0) = true := by simp; omega
    rw [e']; exact h1 e _

theorem notin_false (h : (occurrences x y 0 x.length 1).isEmpty = false) (hq : Q (.bool false) s) : wpAny (model prog w) A (compareOp .NotIn (.str y u) (.str x t)) Q E s := by
  refine notIn_str ?_
  rw [h]; exact hq
theorem notin_true (h : (occurrences x y 0 x.length 1).isEmpty = true) (hq : Q (.bool true) s) : wpAny (model prog w) A (compareOp .NotIn (.str y u) (.str x t)) Q E s := by
  refine notIn_str ?_
  rw [h]; exact hq
end

theorem StrsAre.snoc_inv {vs : List Value} {ps : List Str} {p : Str} (h : StrsAre vs (ps ++ [p])) : ∃ us t, vs = us ++ [.str p t] ∧ StrsAre us ps := by
  induction ps generalizing vs with
  | nil =>
    obtain ⟨t, vs', rfl, h'⟩ := StrsAre.cons_inv h
    cases h'
    exact ⟨[], t, rfl, .nil⟩
  | cons q r ih =>
    obtain ⟨t, vs', rfl, h'⟩ := StrsAre.cons_inv h
    obtain ⟨us, t', rfl, h''⟩ := ih h'
    exact ⟨.str q t :: us, t', rfl, .cons q t h''⟩

section
variable {prog : Program} {w : World} {A : Around} {E : Value → Shared → Prop} {s : Shared} {h₀ : Heap} {L D : Addr} {m : Str → Option Value} {news rest : List (Addr × Obj)} {vs : List Value} {ps : List Str} {n : Nat}

theorem isList_led (N : News h₀ L s.heap news) (hm : (D, listOf vs.toArray n) ∈ news) : s.heap.IsList D vs.toArray := ⟨_, (N _ hm).1, rfl, n, rfl⟩

theorem len_led {Q : Value → Shared → Prop} (N : News h₀ L s.heap news) (hm : (D, listOf vs.toArray n) ∈ news) (hS : StrsAre vs ps) (hz : ps.length ≤ 1048576)
    (h : ∀ t k, Q (.int ps.length t) { s with toks := k }) : wpAny (model prog w) A (call (.builtin "len") [.ref D]) Q E s :=
  len_strsA (isList_led N hm) hS (by omega) (h _ _)

theorem item_first {Q : Value → Shared → Prop} {value slice : Expr} {u : Tok} {p : Str} {r : List Str} (N : News h₀ L s.heap news) (hm : (D, listOf vs.toArray n) ∈ news) (hS : StrsAre vs (p :: r))
    (h : ∀ t, Q (.str p t) s)
    (hs : subscripted slice false (.ref D) (.int 0 u) = operate [.ref D, .int 0 u] (getItem (.ref D) (.int 0 u)) := by with_unfolding_all rfl) :
    wpAny (model prog w) A (subscriptTail value slice (.ref D) (.int 0 u)) Q E s :=
  item_strsR (isList_led N hm) hS (by omega) (by simp) (by omega) (fun t => h t) hs

theorem item_last {Q : Value → Shared → Prop} {value slice : Expr} {u : Tok} {p : Str} {r : List Str} (N : News h₀ L s.heap news) (hm : (D, listOf vs.toArray n) ∈ news) (hS : StrsAre vs (r ++ [p])) (hz : r.length ≤ 1048576)
    (h : ∀ t, Q (.str p t) s)
    (hs : subscripted slice false (.ref D) (.int (-1) u) = operate [.ref D, .int (-1) u] (getItem (.ref D) (.int (-1) u)) := by with_unfolding_all rfl) :
    wpAny (model prog w) A (subscriptTail value slice (.ref D) (.int (-1) u)) Q E s := by
  refine item_strs_negR (isList_led N hm) hS (by omega) (by simp; omega) (by omega) (fun t => ?_) hs
  have e : ((-1 : Int) + ((r ++ [p]).length : Int)).toNat = r.length := by simp only [List.length_append, List.length_cons, List.length_nil]; omega
  rw [e]
  have e2 : (r ++ [p]).getD r.length Str.empty = p := by simp [List.getD]
  rw [e2]
  exact h t

theorem del_at {Q : Unit → Shared → Prop} {i : Int} {u : Tok} {k : Nat} {q : List Value} (F : Fr h₀ L s.heap m) (N : News h₀ L s.heap news) (hm : (D, listOf vs.toArray n) ∈ news) (hne : ∀ p ∈ rest, p.1 ≠ D) (hsub : ∀ p ∈ rest, p ∈ news)
    (hf : Builtin.List.listFitsIndex i = true) (hk : seqIndex? i vs.toArray.size = some k) (e : vs.eraseIdx k = q) (hlt : k < vs.length) (hz : vs.length ≤ sizeLine)
    (h : ∀ h', Fr h₀ L h' m → News h₀ L h' ((D, listOf q.toArray (n + 1)) :: rest) → Q () { s with heap := h' }) : wpAny (model prog w) A (delItem (.ref D) (.int i u)) Q E s := by
  have N₂ : News h₀ L s.heap ((D, listOf vs.toArray n) :: rest) := fun p hp => by
    rcases List.mem_cons.mp hp with rfl | hp
    · exact N _ hm
    · exact N _ (hsub p hp)
  have hlen : q.length + 1 = vs.length := by
    rw [← e, List.length_eraseIdx, if_pos hlt]; omega
  have e' : ki_delL vs.toArray.toList k = some q := by
    show ki_delL vs k = some q
    clear hk hz h N₂ hm N hlen
    subst e
    induction vs generalizing k with
    | nil => exact absurd hlt (Nat.not_lt_zero _)
    | cons v r ih =>
      cases k with
      | zero => rfl
      | succ k =>
        have := ih (k := k) (by simpa using hlt)
        simp only [ki_delL, this, List.eraseIdx_cons_succ]
  exact ki_del F N₂ hf hk e' (.head hne) (by simpa using hz) h

theorem del_first {Q : Unit → Shared → Prop} {u : Tok} {p : Str} {r : List Str} (F : Fr h₀ L s.heap m) (N : News h₀ L s.heap news) (hm : (D, listOf vs.toArray n) ∈ news) (hne : ∀ p ∈ rest, p.1 ≠ D) (hsub : ∀ p ∈ rest, p ∈ news)
    (hS : StrsAre vs (p :: r)) (hz : r.length ≤ 1048576)
    (h : ∀ h' vs' n', StrsAre vs' r → Fr h₀ L h' m → News h₀ L h' ((D, listOf vs'.toArray n') :: rest) → Q () { s with heap := h' }) : wpAny (model prog w) A (delItem (.ref D) (.int 0 u)) Q E s := by
  obtain ⟨t, vs', rfl, hS'⟩ := StrsAre.cons_inv hS
  have hl := StrsAre.len_eq hS'
  refine del_at (k := 0) F N hm hne hsub (by decide) ?_ rfl (by simp) (by rw [sizeLine_eq]; simp; omega) (fun h' F' N' => h h' _ _ hS' F' N')
  rw [PySem.StrLaws.seqIndex_nonneg (by omega) (by simp)]; rfl

theorem del_last {Q : Unit → Shared → Prop} {u : Tok} {p : Str} {r : List Str} (F : Fr h₀ L s.heap m) (N : News h₀ L s.heap news) (hm : (D, listOf vs.toArray n) ∈ news) (hne : ∀ p ∈ rest, p.1 ≠ D) (hsub : ∀ p ∈ rest, p ∈ news)
    (hS : StrsAre vs (r ++ [p])) (hz : r.length ≤ 1048576)
    (h : ∀ h' vs' n', StrsAre vs' r → Fr h₀ L h' m → News h₀ L h' ((D, listOf vs'.toArray n') :: rest) → Q () { s with heap := h' }) : wpAny (model prog w) A (delItem (.ref D) (.int (-1) u)) Q E s := by
  obtain ⟨us, t, rfl, hS'⟩ := StrsAre.snoc_inv hS
  have hl := StrsAre.len_eq hS'
  refine del_at (k := us.length) F N hm hne hsub (by decide) ?_ (q := us) (by rw [List.eraseIdx_append_of_length_le (Nat.le_refl _)]; simp) (by simp) (by rw [sizeLine_eq]; simp; omega) (fun h' F' N' => h h' _ _ hS' F' N')
  rw [PySem.seqIndex_neg (by omega) (by simp; omega)]
  congr 1
  simp; omega
end

section
variable {prog : Program} {w : World} {A : Around} {E : Value → Shared → Prop} {s : Shared} {env : Env} {h₀ : Heap} {x : Str} {body : List Stmt} {Q : Flow → Shared → Prop}
/-- a loop over a list of texts of the ledger, its state one int name -/
theorem iter_strs1 {l : Addr} {vs : List Value} {qs : List Str} {nn : Nat} {m₀ : Str → Option Value} {news : List (Addr × Obj)} {y : Str} {a₀ : Int} {t₀ : Tok} (J : Nat → Int → Prop)
    (hh : A.handled = none) (hl : (l, listOf vs.toArray nn) ∈ news) (hi : StrsAre vs qs) (F : Fr h₀ env.locals s.heap m₀) (N : News h₀ env.locals s.heap news)
    (hy : m₀ y = some (.int a₀ t₀)) (hj : J 0 a₀)
    (turn : ∀ i q t a ta h tk own, qs[i]? = some q → J i a → Fr h₀ env.locals h (fun z => if z = x then some (.str q t) else if z = y then some (.int a ta) else m₀ z) → News h₀ env.locals h (own ++ news) →
      wpAny (model prog w) A (execs body env) (InvPost h₀ env.locals (fun m' => (∃ a' t', m' y = some (.int a' t') ∧ J (i + 1) a') ∧ ∀ z, z ≠ x → z ≠ y → m' z = m₀ z) (own ++ news) { s with heap := h, toks := tk } Q) E { s with heap := h, toks := tk })
    (done : ∀ (u : Str → Option Value) a t h tk, J qs.length a → Fr h₀ env.locals h (fun z => if z = x then u z else if z = y then some (.int a t) else m₀ z) → News h₀ env.locals h news → Q .next { s with heap := h, toks := tk }) (hyx : y ≠ x := by decide) :
    wpAny (model prog w) A (pyIter (.ref l)) (fun it s₂ => LoopAtV prog w A h₀ env x body Q E it s₂) E s := by
  have hol : s.heap.get? l = some (listOf vs.toArray nn) := (N _ hl).1
  have hls : s.heap.IsList l vs.toArray := ⟨_, hol, rfl, nn, rfl⟩
  have hne : l ≠ s.heap.objs.size := Nat.ne_of_lt (Heap.lt_size hol)
  refine wpAny_pyIter_list hls ?_
  have W := Walks.list (prog := prog) (w := w) hh s.heap.objs.size l hne vs.toArray
  have hlen : vs.toArray.size = qs.length := by simp [hi.length]
  rw [hlen] at W
  let J' : Nat → (Str → Option Value) → List (Addr × Obj) → Prop := fun i m₁ news₁ => news₁ = news ∧ (∃ a t, m₁ y = some (.int a t) ∧ J i a) ∧ ∀ z, z ≠ x → z ≠ y → m₁ z = m₀ z
  refine ⟨_, _, _, qs.length, _, _, m₀, news, J', rfl, W, ?_, ?_, ?_, ⟨⟨_, Heap.get?_push_size _ rfl, rfl, rfl⟩, hls.at fun o e => Heap.get?_push_of_some _ e⟩, F.push _, (fun p hp => ⟨Heap.get?_push_of_some _ (N p hp).1, (N p hp).2⟩), ⟨rfl, ⟨a₀, t₀, hy, hj⟩, fun _ _ _ => rfl⟩, ?_, ?_⟩
  · intro hm
    rcases List.mem_cons.mp hm with e | hm
    · exact absurd F.ns.lt (e ▸ Nat.lt_irrefl _)
    · exact (N _ hl).2.1 ((List.mem_singleton.mp hm).symm)
  · intro b hb
    rw [List.mem_singleton.mp hb]
    exact next_is_new F
  · intro p hp hI
    exact absurd (Heap.lt_size (N p hp).1) ((List.mem_singleton.mp hI) ▸ Nat.lt_irrefl _)
  · rintro i v m₁ news₁ s₁ own ⟨hh', tk', rfl⟩ hin hP ⟨rfl, ⟨a, ta, hma, hJ⟩, hmz⟩ hoff _ _ _ _ F₁ N₁
    have hlt' : i < qs.length := hin
    obtain ⟨t, hx⟩ := hi.get i qs[i] (by simp [hlt'])
    have hv : v = .str qs[i] t := by
      have hP' : vs[i]? = some v := by simpa using hP
      rw [hx] at hP'; exact (Option.some.inj hP').symm
    subst hv
    have e : (fun z => if z = x then some (Value.str qs[i] t) else m₁ z) = fun z => if z = x then some (Value.str qs[i] t) else if z = y then some (Value.int a ta) else m₀ z := by
      funext z
      by_cases h1 : z = x
      · simp [h1]
      · simp only [if_neg h1]
        by_cases h2 : z = y
        · subst h2; simp [hma]
        · simp only [if_neg h2]; exact hmz z h1 h2
    rw [e] at F₁
    refine wpAny_mono (turn i qs[i] t a ta hh' tk' own (by simp [hlt']) hJ F₁ N₁) (fun f s₂ p => ?_) fun _ _ e => e
    have fin : InvEnd h₀ env.locals (fun m' => (∃ a' t', m' y = some (.int a' t') ∧ J (i + 1) a') ∧ ∀ z, z ≠ x → z ≠ y → m' z = m₀ z) (own ++ news₁) { s with heap := hh', toks := tk' } s₂ → LoopStepU h₀ env.locals [s.heap.objs.size] own (J' (i + 1)) { s with heap := hh', toks := tk' } .next s₂ := by
      rintro ⟨h', tk, m', news', e, F', N', hn, hm⟩
      exact ⟨rfl, h', tk, m', news₁, e, F', fun p hp => N' p (hn p hp), hoff, rfl, hm⟩
    cases f with
    | ret v => exact .ret p
    | brk => exact .brk p
    | next => exact .next (fin p)
    | cont => exact .cont (fin p)
  · rintro h' tk m' news' F' N' _ ⟨rfl, ⟨a, t, hma, hJ⟩, hmz⟩
    refine done m' a t h' tk hJ ?_ N'
    have e : (fun z => if z = x then m' z else if z = y then some (Value.int a t) else m₀ z) = m' := by
      funext z
      by_cases h1 : z = x
      · simp [h1]
      · simp only [if_neg h1]
        by_cases h2 : z = y
        · subst h2; simp [hma]
        · simp only [if_neg h2]; exact (hmz z h1 h2).symm
    rw [e]; exact F'
end

/-- what _ellipsis_match reckons: the pieces left, the place -/
def emGo (g : Str) (ep : Int) : List Str → Int → Bool
  | [], _ => true
  | w :: r, sp => if fnd g w sp.toNat ep.toNat < 0 then false else emGo g ep r (fnd g w sp.toNat ep.toNat + w.length)
def em (p0 : Str) (mid : List Str) (pn : Str) (g : Str) : Bool :=
  if p0.length ≠ 0 ∧ Txt.startswith g p0 = false then false
  else if pn.length ≠ 0 ∧ Txt.endswith g pn = false then false
  else if (p0.length : Int) > (g.length : Int) - pn.length then false
  else emGo g ((g.length : Int) - pn.length) ((if p0.length = 0 then [p0] else []) ++ mid ++ (if pn.length = 0 then [pn] else [])) p0.length
end Mine
end

section
open PySem PySem.W PyProof.Rows
open PySem.Calls PySem.Spec Builtin Builtin.Str
namespace Mine
section
variable {prog : Program} {w : World} {A : Around} {E : Value → Shared → Prop} {s : Shared} {env : Env} {h₀ : Heap} {x : Str} {px : Pos} {body : List Stmt} {Q : Flow → Shared → Prop}
/-- a loop over a list of texts of the ledger, its target a cell, its state one int name and two names that are forgotten -/
theorem iter_cell1 {l c : Addr} {vs : List Value} {qs : List Str} {nn : Nat} {m₀ : Str → Option Value} {rest : List (Addr × Obj)} {oc : Obj} {v₀ : Option Value} {y j1 j2 : Str} {a₀ : Int} {t₀ : Tok} (J : Nat → Int → Prop)
    (hh : A.handled = none) (hk : env.scope.kind = .function) (hx : env.kindOf x = some .cell) (hc : env.cells.lookup x = some c) (hl : (l, listOf vs.toArray nn) ∈ rest) (hi : StrsAre vs qs)
    (F : Fr h₀ env.locals s.heap m₀) (N : News h₀ env.locals s.heap ((c, oc) :: rest)) (hoc : oc.data = .cell v₀) (hne : ∀ p ∈ rest, p.1 ≠ c)
    (hy : m₀ y = some (.int a₀ t₀)) (hj : J 0 a₀)
    (turn : ∀ i q t a ta h tk I oI o' u1 u2, qs[i]? = some q → J i a → Fr h₀ env.locals h (fun z => if z = y then some (.int a ta) else if z = j1 then u1 else if z = j2 then u2 else m₀ z) →
      News h₀ env.locals h ((I, oI) :: (c, o') :: rest) → o'.data = .cell (some (.str q t)) →
      wpAny (model prog w) A (execs body env) (InvPost h₀ env.locals (fun m' => (∃ a' t', m' y = some (.int a' t') ∧ J (i + 1) a') ∧ ∀ z, z ≠ y → z ≠ j1 → z ≠ j2 → m' z = m₀ z) ((I, oI) :: (c, o') :: rest) { s with heap := h, toks := tk } Q) E { s with heap := h, toks := tk })
    (done : ∀ a t h tk u1 u2 o', J qs.length a → Fr h₀ env.locals h (fun z => if z = y then some (.int a t) else if z = j1 then u1 else if z = j2 then u2 else m₀ z) → News h₀ env.locals h ((c, o') :: rest) → Q .next { s with heap := h, toks := tk })
    (hE : PassesOwn (model prog w) A env E) :
    wpAny (model prog w) A (pyIter (.ref l)) (fun it s₂ => codeAny (model prog w) A (.forLoop (.Name x px) it body [] env) (fun r s' => match r with | .ok f => Q f s' | .error e => cameBackBy (model prog w) A env E e s') s₂) E s := by
  have hol : s.heap.get? l = some (listOf vs.toArray nn) := (N _ (.tail _ hl)).1
  have hls : s.heap.IsList l vs.toArray := ⟨_, hol, rfl, nn, rfl⟩
  have hlI : l ≠ s.heap.objs.size := Nat.ne_of_lt (Heap.lt_size hol)
  have hcI : c ≠ s.heap.objs.size := Nat.ne_of_lt (Heap.lt_size (N _ (.head _)).1)
  have hcL : c ≠ env.locals := (N _ (.head _)).2.1
  have hlc : l ≠ c := hne _ hl
  have hLI : env.locals ≠ s.heap.objs.size := fun e => absurd F.ns.lt (e ▸ Nat.lt_irrefl _)
  have hlL : l ≠ env.locals := (N _ (.tail _ hl)).2.1
  have hnew : ∀ p ∈ (c, oc) :: rest, p.1 ≠ s.heap.objs.size := fun p hp => Nat.ne_of_lt (Heap.lt_size (N p hp).1)
  have hold : h₀.get? s.heap.objs.size = none := next_is_new F
  refine wpAny_pyIter_list hls ?_
  have W := Walks.list (prog := prog) (w := w) hh s.heap.objs.size l hlI vs.toArray
  have hlen : vs.toArray.size = qs.length := by simp [hi.length]
  rw [hlen] at W
  have nx : ∀ (h h₁ : Heap) (m' : Str → Option Value) (o' : Obj), (∀ b o, b ∉ [s.heap.objs.size] → h.get? b = some o → h₁.get? b = some o) → Fr h₀ env.locals h m' → News h₀ env.locals h ((c, o') :: rest) →
      Fr h₀ env.locals h₁ m' ∧ News h₀ env.locals h₁ ((c, o') :: rest) := by
    intro h h₁ m' o' hk₁ F' N'
    refine ⟨⟨F'.ns.at' fun o e => hk₁ _ o (fun hb => hLI (List.mem_singleton.mp hb)) e, fun b o e => hk₁ b o (fun hb => ?_) (F'.keep b o e), F'.above⟩, fun p hp => ⟨hk₁ _ _ (fun hb => ?_) (N' p hp).1, (N' p hp).2⟩⟩
    · rw [List.mem_singleton.mp hb, hold] at e; cases e
    · have : p.1 ≠ s.heap.objs.size := by
        rcases List.mem_cons.mp hp with rfl | hp
        · exact hcI
        · exact hnew p (.tail _ hp)
      exact this (List.mem_singleton.mp hb)
  refine codeAny_forLoop
    (fun k s' => ∃ h' tk m' i o' v' a t, s' = { s with heap := h', toks := tk } ∧ (h'.IsListIter s.heap.objs.size l i ∧ h'.IsList l vs.toArray) ∧ Fr h₀ env.locals h' m' ∧ News h₀ env.locals h' ((c, o') :: rest) ∧ o'.data = .cell v' ∧
      m' y = some (.int a t) ∧ J i a ∧ (∀ z, z ≠ y → z ≠ j1 → z ≠ j2 → m' z = m₀ z) ∧ i ≤ qs.length ∧ k = qs.length + 1 - i) ?_ (qs.length + 1)
    ⟨_, _, m₀, 0, oc, v₀, a₀, t₀, rfl, ⟨⟨_, Heap.get?_push_size _ rfl, rfl, rfl⟩, hls.at fun o e => Heap.get?_push_of_some _ e⟩, F.push _, (fun p hp => ⟨Heap.get?_push_of_some _ (N p hp).1, (N p hp).2⟩), hoc, hy, hj, fun _ _ _ _ => rfl, Nat.zero_le _, rfl⟩
  rintro k s' ⟨h', tk, m', i, o', v', a, t, rfl, hst', F', N', ho', hya, hJ, hmz, hin, rfl⟩
  have fe : ∀ m' : Str → Option Value, m' y = some (.int a t) → (∀ z, z ≠ y → z ≠ j1 → z ≠ j2 → m' z = m₀ z) → (fun z => if z = y then some (Value.int a t) else if z = j1 then m' j1 else if z = j2 then m' j2 else m₀ z) = m' := by
    intro m' e1 e2
    funext z
    by_cases h1 : z = y
    · subst h1; simp [e1]
    · by_cases h2 : z = j1
      · subst h2; simp [h1]
      · by_cases h3 : z = j2
        · subst h3; simp [h1, h2]
        · simp only [if_neg h1, if_neg h2, if_neg h3]; exact (e2 z h1 h2 h3).symm
  by_cases hlt : i < qs.length
  · refine W.item i _ _ _ hlt hst' fun v h₁ tk₁ hP hst₁ hk₁ => ?_
    obtain ⟨F₁, N₁⟩ := nx h' h₁ m' o' hk₁ F' N'
    obtain ⟨tq, hxq⟩ := hi.get i qs[i] (by simp [hlt])
    have hv : v = .str qs[i] tq := by
      have hP' : vs[i]? = some v := by simpa using hP
      rw [hxq] at hP'; exact (Option.some.inj hP').symm
    subst hv
    refine wpAny_assign_Name (wpAny_storeName_cell hk hx hc ⟨o', (N₁ _ (.head _)).1, ho'⟩ fun h₂ hv₂ hs₂ => ?_)
    obtain ⟨o₂, ho₂, hd₂⟩ := hv₂
    obtain ⟨oI, hoI, hcI1, hcI2⟩ := hst₁.1
    have F₂ : Fr h₀ env.locals h₂ m' := ⟨F₁.ns.sameBut hs₂ (Ne.symm hcL), fun b ob e => (hs₂.2 b (fun q => by have := (N _ (.head _)).2.2; rw [← q, e] at this; cases this)).trans (F₁.keep b ob e), F₁.above⟩
    have N₂ : News h₀ env.locals h₂ ((s.heap.objs.size, oI) :: (c, o₂) :: rest) := by
      intro p hp
      rcases List.mem_cons.mp hp with rfl | hp
      · exact ⟨(hs₂.2 _ (Ne.symm hcI)).trans hoI, Ne.symm hLI, hold⟩
      · rcases List.mem_cons.mp hp with rfl | hp
        · exact ⟨ho₂, (N _ (.head _)).2⟩
        · have z := N₁ p (.tail _ hp)
          exact ⟨(hs₂.2 _ (hne p hp)).trans z.1, z.2⟩
    have hst₂ : h₂.IsListIter s.heap.objs.size l (i + 1) ∧ h₂.IsList l vs.toArray := ⟨⟨oI, (N₂ _ (.head _)).1, hcI1, hcI2⟩, ⟨_, (N₂ _ (.tail _ (.tail _ hl))).1, rfl, nn, rfl⟩⟩
    rw [← fe m' hya hmz] at F₂
    refine wpAny_mono (wpAny_passesOwn hE (turn i qs[i] tq a t h₂ tk₁ _ oI o₂ (m' j1) (m' j2) (by simp [hlt]) hJ F₂ N₂ hd₂)) (fun f s₃ h₃ => ?_) fun _ _ e => e
    have fin : InvEnd h₀ env.locals (fun m' => (∃ a' t', m' y = some (.int a' t') ∧ J (i + 1) a') ∧ ∀ z, z ≠ y → z ≠ j1 → z ≠ j2 → m' z = m₀ z) ((s.heap.objs.size, oI) :: (c, o₂) :: rest) { s with heap := h₂, toks := tk₁ } s₃ →
        ∃ mm, mm < qs.length + 1 - i ∧ ∃ h' tk m' i o' v' a t, s₃ = { s with heap := h', toks := tk } ∧ (h'.IsListIter s.heap.objs.size l i ∧ h'.IsList l vs.toArray) ∧ Fr h₀ env.locals h' m' ∧ News h₀ env.locals h' ((c, o') :: rest) ∧ o'.data = .cell v' ∧
          m' y = some (.int a t) ∧ J i a ∧ (∀ z, z ≠ y → z ≠ j1 → z ≠ j2 → m' z = m₀ z) ∧ i ≤ qs.length ∧ mm = qs.length + 1 - i := by
      rintro ⟨h₄, tk₃, m₃, news₃, rfl, F₃, N₃, hn₃, ⟨a', t', hy₃, hJ₃⟩, hz₃⟩
      have N₄ : News h₀ env.locals h₄ ((s.heap.objs.size, oI) :: (c, o₂) :: rest) := fun p hp => N₃ p (hn₃ p hp)
      refine ⟨qs.length + 1 - (i + 1), by omega, h₄, tk₃, m₃, i + 1, o₂, _, a', t', rfl, ⟨⟨oI, (N₄ _ (.head _)).1, hcI1, hcI2⟩, ⟨_, (N₄ _ (.tail _ (.tail _ hl))).1, rfl, nn, rfl⟩⟩, F₃, fun p hp => N₄ p (.tail _ hp), hd₂, hy₃, hJ₃, hz₃, hlt, rfl⟩
    cases f with
    | ret v => exact h₃
    | brk => exact h₃
    | next => exact fin h₃
    | cont => exact fin h₃
  · have hin' : i = qs.length := by omega
    subst hin'
    refine W.done _ _ _ hst' fun h₁ tk₁ hk₁ => wpAny_execs_nil ?_
    obtain ⟨F₁, N₁⟩ := nx h' h₁ m' o' hk₁ F' N'
    rw [← fe m' hya hmz] at F₁
    exact done a t h₁ tk₁ _ _ o' hJ F₁ N₁
end
end Mine
namespace Mine
section
variable {prog : Program} {w : World} {A : Around} {E : Value → Shared → Prop} {s : Shared} {h₀ : Heap} {L l : Addr} {m : Str → Option Value} {news : List (Addr × Obj)} {value slice : PySem.Expr} {vs : List Value} {n : Nat} {vl vu : Value} {p pn : Str} {mid r : List Str} {Q : Value → Shared → Prop}
theorem pick_tail (vs : List Value) : slicePick vs.toArray (some 1) none none = (vs.drop 1).toArray := by
  have e : sliceBounds (some 1) none none vs.toArray.size = (((min 1 vs.toArray.size : Nat) : Int), ((vs.toArray.size : Nat) : Int), 1) := by
    simp only [sliceBounds, Option.getD_none, show (1 : Int) > 0 by decide, if_true, if_neg (show ¬ ((1 : Int) < 0) by omega)]
    congr 1
    omega
  rw [kmk_pick_nat _ e]
  rw [List.size_toArray, kmk_drop_min, List.take_of_length_le (by rw [List.length_drop]; omega)]
theorem pick_mid (vs : List Value) : slicePick vs.toArray (some 1) (some (-1)) none = ((vs.drop 1).take (vs.length - 1 - 1)).toArray := by
  have e : sliceBounds (some 1) (some (-1)) none vs.toArray.size = (((min 1 vs.toArray.size : Nat) : Int), ((vs.toArray.size - 1 : Nat) : Int), 1) := by
    simp only [sliceBounds, Option.getD_none, show (1 : Int) > 0 by decide, if_true, if_neg (show ¬ ((1 : Int) < 0) by omega), if_pos (show (-1 : Int) < 0 by omega)]
    congr 1
    · omega
    · congr 1
      omega
  rw [kmk_pick_nat _ e]
  rw [List.size_toArray, kmk_drop_min]
  congr 2
  omega
theorem slice_mid (F : Fr h₀ L s.heap m) (N : News h₀ L s.heap news) (hm : (l, listOf vs.toArray n) ∈ news) (pl : IsPart vl (some 1)) (pu : IsPart vu (some (-1))) (hS : StrsAre vs (p :: (mid ++ [pn]))) (hz : mid.length ≤ 1000000)
    (h : ∀ D ws h', StrsAre ws mid → Fr h₀ L h' m → News h₀ L h' ((D, listOf (List.toArray ws) 0) :: news) → (∀ p ∈ news, p.1 < D) → Q (.ref D) { s with heap := h' })
    (hs : subscripted slice false (.ref l) (.ref s.heap.objs.size) = operate [.ref s.heap.objs.size, .ref l] (getItem (.ref l) (.ref s.heap.objs.size))) (ht : ∀ r, letTemporaryGo value (.ref l) r = pure ()) :
    wpAny (model prog w) A (subscriptTail value slice (.ref l) (.ref s.heap.objs.size)) Q E { s with heap := s.heap.push { cls := .type "slice", data := .fields #[vl, vu, .none] } } := by
  have hl := StrsAre.len_eq hS
  have hl' : vs.length = mid.length + 2 := by rw [hl]; simp
  refine kmk_slice F N (isList_led N hm) pl pu (fun D h' F' N' l1 => h D _ h' ?_ F' (by rw [pick_mid] at N'; exact N') l1) hs ht (by rw [sizeLine_eq, List.size_toArray]; omega)
  have := (hS.drop' 1).take' (vs.length - 1 - 1)
  have e : List.take (vs.length - 1 - 1) (List.drop 1 (p :: (mid ++ [pn]))) = mid := by
    rw [hl']; simp
  rw [e] at this
  exact this
theorem slice_tail (F : Fr h₀ L s.heap m) (N : News h₀ L s.heap news) (hm : (l, listOf vs.toArray n) ∈ news) (pl : IsPart vl (some 1)) (pu : IsPart vu none) (hS : StrsAre vs (p :: r)) (hz : r.length ≤ 1000000)
    (h : ∀ D ws h', StrsAre ws r → Fr h₀ L h' m → News h₀ L h' ((D, listOf (List.toArray ws) 0) :: news) → (∀ p ∈ news, p.1 < D) → Q (.ref D) { s with heap := h' })
    (hs : subscripted slice false (.ref l) (.ref s.heap.objs.size) = operate [.ref s.heap.objs.size, .ref l] (getItem (.ref l) (.ref s.heap.objs.size))) (ht : ∀ r, letTemporaryGo value (.ref l) r = pure ()) :
    wpAny (model prog w) A (subscriptTail value slice (.ref l) (.ref s.heap.objs.size)) Q E { s with heap := s.heap.push { cls := .type "slice", data := .fields #[vl, vu, .none] } } := by
  have hl := StrsAre.len_eq hS
  refine kmk_slice F N (isList_led N hm) pl pu (fun D h' F' N' l1 => h D _ h' ?_ F' (by rw [pick_tail] at N'; exact N') l1) hs ht (by rw [sizeLine_eq, List.size_toArray]; simp at hl; omega)
  exact hS.drop' 1
end
end Mine
namespace Mine
theorem swap12 {h₀ h : Heap} {L : Addr} {a b : Addr × Obj} {r : List (Addr × Obj)} (N : News h₀ L h (a :: b :: r)) : News h₀ L h (b :: a :: r) := fun p hp => N p (by
  rcases List.mem_cons.mp hp with rfl | hp
  · exact .tail _ (.head _)
  · rcases List.mem_cons.mp hp with rfl | hp
    · exact .head _
    · exact .tail _ (.tail _ hp))
end Mine
namespace Mine
/-- what a def of the text gives back, called from any frame of the text's with room -/
abbrev Cl (dpn unn : Nat) (prog : Program) (w : World) (K : Frag) (p : Program) (loose : List Str) (mean : ExcName → Option Value) (mg mb : Str → Option Value) (f : Addr) (news : List (Addr × Obj)) (vs : List Value) (R : Tok → Value) : Prop :=
  ∀ (dp un : Nat) (gd : Option (List Code)) (cn : Str) (cs : Scope) (a : Addr) (ccd : Value) (cl : List (Str × Addr)) (outer : List Env) (A₀ : Around) (base h₀ : Heap) (L : Addr) (m : Str → Option Value) (s : Shared) (Q E : Value → Shared → Prop),
    Below A₀ base outer h₀ → Fr h₀ L s.heap m → K.In h₀ → News h₀ L s.heap news → Top p loose mean mg mb h₀ → cs.kind = .function →
    dp + dpn < recursionLimit → un + unn < cLine → CbRet h₀ L m news s Q R →
      wpAny (model prog w) (ktrTop dp un gd cn cs L a ccd cl outer) (call (.ref f) vs) Q E s
end Mine
end

section
open PySem PySem.W PyProof.Rows
open PySem.Calls PySem.Spec Builtin Builtin.Str
namespace Mine
/-- how many are below -/
def bis (ks : List Int) (x : Int) : Nat := (ks.takeWhile (fun k => decide (k < x))).length
theorem bis_le (ks : List Int) (x : Int) : bis ks x ≤ ks.length := by
  unfold bis
  induction ks with
  | nil => simp
  | cons k r ih => rw [List.takeWhile_cons]; split <;> simp; exact ih
theorem bis_lt {ks : List Int} {x : Int} (hs : ks.Pairwise (· < ·)) : ∀ {i : Nat}, i < ks.length → (ks.getD i 0 < x ↔ i < bis ks x) := by
  induction ks with
  | nil => intro i h; exact absurd h (Nat.not_lt_zero _)
  | cons k r ih =>
    intro i h
    obtain ⟨h1, h2⟩ := List.pairwise_cons.mp hs
    have ih' := @ih h2
    unfold bis at ih' ⊢
    rw [List.takeWhile_cons]
    cases i with
    | zero =>
      by_cases hk : k < x
      · simp [hk]
      · simp [hk]
    | succ i =>
      have hi : i < r.length := by simpa using h
      by_cases hk : k < x
      · have := ih' hi
        simpa [hk] using this
      · have hm : r.getD i 0 ∈ r := by
          have : r.getD i 0 = r[i] := by simp [List.getD, hi]
          rw [this]; exact List.getElem_mem hi
        have := h1 _ hm
        have h3 : ¬ r.getD i 0 < x := by omega
        have h4 : (k :: r).getD (i + 1) 0 = r.getD i 0 := by simp [List.getD]
        rw [h4]
        simp only [hk, decide_false, Bool.false_eq_true, if_false, List.length_nil, Nat.not_lt_zero, iff_false]
        exact h3

section
variable {prog : Program} {w : World} {A : Around} {E : Value → Shared → Prop} {Q : Flow → Shared → Prop} {s : Shared} {env : Env} {h₀ : Heap} {L : Addr}
theorem while2 {test : Expr} {body : List Stmt} {pos : Pos} {m₀ : Str → Option Value} {news : List (Addr × Obj)} {y1 y2 y3 : Str} {a₀ b₀ : Int} {t₀ u₀ : Tok} (J : Int → Int → Prop)
    (F : Fr h₀ L s.heap m₀) (N : News h₀ L s.heap news) (hy1 : m₀ y1 = some (.int a₀ t₀)) (hy2 : m₀ y2 = some (.int b₀ u₀)) (hJ : J a₀ b₀) (h12 : y2 ≠ y1)
    (turn : ∀ a b ta tb u h tk, J a b → Fr h₀ L h (fun z => if z = y1 then some (.int a ta) else if z = y2 then some (.int b tb) else if z = y3 then u else m₀ z) → News h₀ L h news →
      wpAny (model prog w) A (isTrue test env (eval test env)) (fun c s₂ =>
        if c = true then wpAny (model prog w) A (execs body env) (InvPost h₀ L (fun m' => (∃ a' b' ta' tb', m' y1 = some (.int a' ta') ∧ m' y2 = some (.int b' tb') ∧ J a' b' ∧ (b' - a').toNat < (b - a).toNat) ∧ ∀ z, z ≠ y1 → z ≠ y2 → z ≠ y3 → m' z = m₀ z) news { s with heap := h, toks := tk } Q) E s₂ else Q .next s₂) E { s with heap := h, toks := tk })
    (hE : PassesOwn (model prog w) A env E) :
    wpAny (model prog w) A (exec (.While test body [] pos) env) Q E s := by
  refine While_inv2 (fun n m nx => nx = news ∧ ∃ a b ta tb, m y1 = some (.int a ta) ∧ m y2 = some (.int b tb) ∧ J a b ∧ (b - a).toNat = n ∧ ∀ z, z ≠ y1 → z ≠ y2 → z ≠ y3 → m z = m₀ z) F N ⟨rfl, a₀, b₀, t₀, u₀, hy1, hy2, hJ, rfl, fun _ _ _ _ => rfl⟩ ?_ hE
  rintro n m₁ nx h tk F₁ N₁ ⟨rfl, a, b, ta, tb, e1, e2, hj, rfl, ez⟩
  have fe : (fun z => if z = y1 then some (Value.int a ta) else if z = y2 then some (Value.int b tb) else if z = y3 then m₁ y3 else m₀ z) = m₁ := by
    funext z
    by_cases h1 : z = y1
    · subst h1; simp [e1]
    · by_cases h2 : z = y2
      · subst h2; simp [h12, e2]
      · by_cases h3 : z = y3
        · subst h3; simp [h1, h2]
        · simp only [if_neg h1, if_neg h2, if_neg h3]; exact (ez z h1 h2 h3).symm
  rw [← fe] at F₁
  refine wpAny_mono (turn a b ta tb (m₁ y3) h tk hj F₁ N₁) (fun c s₂ p => ?_) fun _ _ x => x
  cases c with
  | false => simpa using p
  | true =>
    simp only [if_true] at p ⊢
    refine wpAny_mono p (fun f s₃ q => ?_) fun _ _ x => x
    have fin : InvEnd h₀ L (fun m' => (∃ a' b' ta' tb', m' y1 = some (.int a' ta') ∧ m' y2 = some (.int b' tb') ∧ J a' b' ∧ (b' - a').toNat < (b - a).toNat) ∧ ∀ z, z ≠ y1 → z ≠ y2 → z ≠ y3 → m' z = m₀ z) nx { s with heap := h, toks := tk } s₃ →
        ∃ h' tk m₂ news₂ n', s₃ = { s with heap := h', toks := tk } ∧ Fr h₀ L h' m₂ ∧ News h₀ L h' news₂ ∧ n' < (b - a).toNat ∧ news₂ = nx ∧ ∃ a b ta tb, m₂ y1 = some (.int a ta) ∧ m₂ y2 = some (.int b tb) ∧ J a b ∧ (b - a).toNat = n' ∧ ∀ z, z ≠ y1 → z ≠ y2 → z ≠ y3 → m₂ z = m₀ z := by
      rintro ⟨h', tk', m', news', rfl, F', N', hn, ⟨a', b', ta', tb', x1, x2, x3, x4⟩, xz⟩
      exact ⟨h', tk', m', nx, _, rfl, F', fun p hp => N' p (hn p hp), x4, rfl, a', b', ta', tb', x1, x2, x3, rfl, xz⟩
    cases f with
    | ret v => exact q
    | brk => exact q
    | next => exact fin q
    | cont => exact fin q
end

section
variable {prog : Program} {w : World} {A : Around} {E : Value → Shared → Prop} {s : Shared} {h₀ : Heap} {L D : Addr} {m : Str → Option Value} {news rest : List (Addr × Obj)} {vs : List Value} {ks : List Int} {n : Nat}
theorem len_ints_led {Q : Value → Shared → Prop} (N : News h₀ L s.heap news) (hm : (D, listOf vs.toArray n) ∈ news) (hI : IntsAre vs ks) (hz : ks.length ≤ 1048576)
    (h : ∀ t k, Q (.int ks.length t) { s with toks := k }) : wpAny (model prog w) A (call (.builtin "len") [.ref D]) Q E s := by
  have e : vs.toArray.size = ks.length := by rw [List.size_toArray]; exact hI.length
  refine len_list (isList_led N hm) (by rw [e]; omega) ?_
  rw [e]; exact h _ _
theorem item_int_led {Q : Value → Shared → Prop} {value slice : Expr} {u : Tok} {k : Int} (N : News h₀ L s.heap news) (hm : (D, listOf vs.toArray n) ∈ news) (hI : IntsAre vs ks) (h0 : 0 ≤ k) (hk : k < ks.length) (hz : ks.length ≤ 1048576)
    (h : ∀ t, Q (.int (ks.getD k.toNat 0) t) s)
    (hs : subscripted slice false (.ref D) (.int k u) = operate [.ref D, .int k u] (getItem (.ref D) (.int k u))) (hg : ∀ r, letTemporaryGo value (.ref D) r = pure ()) :
    wpAny (model prog w) A (subscriptTail value slice (.ref D) (.int k u)) Q E s := by
  have hlt : k.toNat < ks.length := by omega
  obtain ⟨t, hx⟩ := hI.get k.toNat ks[k.toNat] (by simp [hlt])
  have e : ks.getD k.toNat 0 = ks[k.toNat] := by simp [List.getD, hlt]
  have := h t
  rw [e] at this
  exact item_listL (isList_led N hm) h0 (by omega) hx this hs hg
end
end Mine
namespace Mine
structure BiIs (ks : List Int) (x : Int) : Prop where
  sorted : ks.Pairwise (· < ·)
  short : ks.length ≤ 1048576
def biJ (ks : List Int) (x : Int) (a b : Int) : Prop := 0 ≤ a ∧ a ≤ bis ks x ∧ (bis ks x : Int) ≤ b ∧ b ≤ ks.length
abbrev biJof {ks : List Int} {x : Int} (_ : BiIs ks x) : Int → Int → Prop := biJ ks x
theorem biJ_zero {ks : List Int} {x : Int} (h : BiIs ks x) : biJof h 0 ks.length := ⟨by omega, by omega, by have := bis_le ks x; omega, by omega⟩
theorem mid_facts {a b : Int} (h0 : 0 ≤ a) (h : a < b) : a ≤ (a + b).fdiv 2 ∧ (a + b).fdiv 2 < b := by
  rw [Int.fdiv_eq_ediv_of_nonneg _ (by omega)]
  omega
theorem biJ_mid {ks : List Int} {x : Int} (B : BiIs ks x) {a b : Int} (h : biJof B a b) (hab : a < b) : 0 ≤ (a + b).fdiv 2 ∧ (a + b).fdiv 2 < ks.length := by
  obtain ⟨h0, h1, h2, h3⟩ := h
  have := mid_facts h0 hab
  omega
theorem biJ_up {ks : List Int} {x : Int} (B : BiIs ks x) {a b : Int} (h : biJof B a b) (hab : a < b) (hk : ks.getD ((a + b).fdiv 2).toNat 0 < x) : biJof B ((a + b).fdiv 2 + 1) b ∧ (b - ((a + b).fdiv 2 + 1)).toNat < (b - a).toNat := by
  have hm := biJ_mid B h hab
  obtain ⟨h0, h1, h2, h3⟩ := h
  have hf := mid_facts h0 hab
  have := (bis_lt B.sorted (i := ((a + b).fdiv 2).toNat) (by omega)).mp hk
  refine ⟨⟨by omega, by omega, h2, h3⟩, by omega⟩
theorem biJ_dn {ks : List Int} {x : Int} (B : BiIs ks x) {a b : Int} (h : biJof B a b) (hab : a < b) (hk : ¬ ks.getD ((a + b).fdiv 2).toNat 0 < x) : biJof B a ((a + b).fdiv 2) ∧ ((a + b).fdiv 2 - a).toNat < (b - a).toNat := by
  have hm := biJ_mid B h hab
  obtain ⟨h0, h1, h2, h3⟩ := h
  have hf := mid_facts h0 hab
  have := mt (bis_lt B.sorted (i := ((a + b).fdiv 2).toNat) (by omega)).mpr hk
  refine ⟨⟨h0, h1, by omega, by omega⟩, by omega⟩
theorem biJ_done {ks : List Int} {x : Int} (B : BiIs ks x) {a b : Int} (h : biJof B a b) (hab : ¬ a < b) : a = bis ks x := by
  obtain ⟨h0, h1, h2, h3⟩ := h
  omega
end Mine
end

section
open PySem PySem.W PyProof.Rows
open PySem.Calls PySem.Spec Builtin Builtin.Str
namespace Mine
section
variable {prog : Program} {w : World} {A : Around} {E : Value → Shared → Prop} {s : Shared} {env : Env} {h₀ : Heap} {x : Str} {body : List Stmt} {Q : Flow → Shared → Prop}
/-- a loop over a range that stores nothing but its own name -/
theorem iter_range0 {r : Addr} {a₀ b₀ : Int} {t₀ u₀ v₀ : Tok} {n : Nat} {m₀ : Str → Option Value} {news : List (Addr × Obj)} (J : Nat → Prop)
    (hh : A.handled = none) (hr : IsRange s.heap r a₀ b₀ 1 t₀ u₀ v₀) (hsmall : Builtin.Range.small a₀ b₀ 1 = true) (hn : Builtin.Range.rangeSize a₀ b₀ 1 = (n : Int)) (F : Fr h₀ env.locals s.heap m₀) (N : News h₀ env.locals s.heap news) (hj : J 0)
    (turn : ∀ i t h tk own, i < n → J i → Fr h₀ env.locals h (fun z => if z = x then some (.int (a₀ + (i : Int)) t) else m₀ z) → News h₀ env.locals h (own ++ news) →
      wpAny (model prog w) A (execs body env) (InvPost h₀ env.locals (fun m' => J (i + 1) ∧ ∀ z, z ≠ x → m' z = m₀ z) (own ++ news) { s with heap := h, toks := tk } Q) E { s with heap := h, toks := tk })
    (done : ∀ (u : Option Value) h tk, J n → Fr h₀ env.locals h (fun z => if z = x then u else m₀ z) → News h₀ env.locals h news → Q .next { s with heap := h, toks := tk }) :
    wpAny (model prog w) A (pyIter (.ref r)) (fun it s₂ => LoopAtV prog w A h₀ env x body Q E it s₂) E s := by
  refine wpAny_pyIter_range hr hsmall ?_
  have W : Walks prog w A s.heap.objs.size [s.heap.objs.size] [s.heap.objs.size] n (fun i v => i < n ∧ ∃ t, v = .int (a₀ + i * 1) t)
      (fun i h => IsRangeIter h s.heap.objs.size (a₀ + (i : Nat) * 1) ((n : Int) - (i : Nat)) 1) := (Walks.range hh _ a₀ 1 n).bound
  let J' : Nat → (Str → Option Value) → List (Addr × Obj) → Prop := fun i m₁ news₁ => news₁ = news ∧ J i ∧ ∀ z, z ≠ x → m₁ z = m₀ z
  refine ⟨_, _, _, n, _, _, m₀, news, J', rfl, W, ?_, ?_, ?_, (by show IsRangeIter _ _ _ _ _; rw [hn]; simpa using Heap.get?_push_size _ rfl), F.push _, (fun p hp => ⟨Heap.get?_push_of_some _ (N p hp).1, (N p hp).2⟩), ⟨rfl, hj, fun _ _ => rfl⟩, ?_, ?_⟩
  · intro hm
    exact absurd F.ns.lt ((List.mem_singleton.mp hm) ▸ Nat.lt_irrefl _)
  · intro b hb
    rw [List.mem_singleton.mp hb]
    exact next_is_new F
  · intro p hp hI
    exact absurd (Heap.lt_size (N p hp).1) ((List.mem_singleton.mp hI) ▸ Nat.lt_irrefl _)
  · rintro i v m₁ news₁ s₁ own ⟨hh', tk', rfl⟩ hin ⟨_, t, rfl⟩ ⟨rfl, hJ, hmz⟩ hoff _ _ _ _ F₁ N₁
    have e : (fun z => if z = x then some (Value.int (a₀ + (i : Int) * 1) t) else m₁ z) = fun z => if z = x then some (Value.int (a₀ + (i : Int)) t) else m₀ z := by
      funext z
      by_cases h1 : z = x
      · simp [h1]
      · simp only [if_neg h1]
        exact hmz z h1
    rw [e] at F₁
    refine wpAny_mono (turn i t hh' tk' own hin hJ F₁ N₁) (fun f s₂ p => ?_) fun _ _ e => e
    have fin : InvEnd h₀ env.locals (fun m' => J (i + 1) ∧ ∀ z, z ≠ x → m' z = m₀ z) (own ++ news₁) { s with heap := hh', toks := tk' } s₂ → LoopStepU h₀ env.locals [s.heap.objs.size] own (J' (i + 1)) { s with heap := hh', toks := tk' } .next s₂ := by
      rintro ⟨h', tk, m', news', e, F', N', hn, hm⟩
      exact ⟨rfl, h', tk, m', news₁, e, F', fun p hp => N' p (hn p hp), hoff, rfl, hm⟩
    cases f with
    | ret v => exact .ret p
    | brk => exact .brk p
    | next => exact .next (fin p)
    | cont => exact .cont (fin p)
  · rintro h' tk m' news' F' N' _ ⟨rfl, hJ, hmz⟩
    refine done (m' x) h' tk hJ ?_ N'
    have e : (fun z => if z = x then m' x else m₀ z) = m' := by
      funext z
      by_cases h1 : z = x
      · simp [h1]
      · simp only [if_neg h1]; exact (hmz z h1).symm
    rw [e]; exact F'
end

/-- what _law_tried reckons -/
def trS (g p : Str) (k : Int) : Bool := Txt.slice g (some k) (some (k + p.length)) == p
def tr (g : Str) : List Str → Int → Bool
  | [], _ => false
  | [p], here => (p == Str.ofString "") || (decide ((g.length : Int) - p.length ≥ here) && (Txt.slice g (some ((g.length : Int) - p.length)) none == p))
  | p :: q :: r, here => (List.range ((g.length : Int) + 1 - here).toNat).any fun i => trS g p (here + (i : Int)) && tr g (q :: r) (here + (i : Int) + p.length)
theorem tr_cons (g p q : Str) (r : List Str) (here : Int) : tr g (p :: q :: r) here = (List.range ((g.length : Int) + 1 - here).toNat).any fun i => trS g p (here + (i : Int)) && tr g (q :: r) (here + (i : Int) + p.length) := by
  rw [tr]
theorem tr_one (g p : Str) (here : Int) : tr g [p] here = ((p == Str.ofString "") || (decide ((g.length : Int) - p.length ≥ here) && (Txt.slice g (some ((g.length : Int) - p.length)) none == p))) := by
  rw [tr]
structure TrIs (g : Str) (p q : Str) (r : List Str) (here : Int) : Prop where
def trJ (g : Str) (p q : Str) (r : List Str) (here : Int) (i : Nat) : Prop := ∀ j, j < i → (trS g p (here + (j : Int)) && tr g (q :: r) (here + (j : Int) + p.length)) = false
abbrev trJof {g p q : Str} {r : List Str} {here : Int} (_ : TrIs g p q r here) : Nat → Prop := trJ g p q r here
theorem trJ_zero {g p q : Str} {r : List Str} {here : Int} : trJ g p q r here 0 := fun _ h => absurd h (Nat.not_lt_zero _)
theorem trJ_next1 {g p q : Str} {r : List Str} {here : Int} {i : Nat} (h : trJ g p q r here i) (h1 : (Txt.slice g (some (here + (i : Int))) (some (here + (i : Int) + p.length)) == p) = false) : trJ g p q r here (i + 1) := by
  intro j hj
  by_cases e : j = i
  · subst e; unfold trS; rw [h1]; rfl
  · exact h j (by omega)
theorem trJ_next2 {g p q : Str} {r : List Str} {here : Int} {i : Nat} (h : trJ g p q r here i) (h1 : tr g (q :: r) (here + (i : Int) + p.length) = false) : trJ g p q r here (i + 1) := by
  intro j hj
  by_cases e : j = i
  · subst e; rw [h1, Bool.and_false]
  · exact h j (by omega)
theorem trJ_done {g p q : Str} {r : List Str} {here : Int} (h : trJ g p q r here ((g.length : Int) + 1 - here).toNat) : false = tr g (p :: q :: r) here := by
  rw [tr_cons]
  symm
  rw [List.any_eq_false]
  intro j hj
  rw [h j (List.mem_range.mp hj)]
  decide
theorem trJ_true {g p q : Str} {r : List Str} {here : Int} {i : Nat} (hi : i < ((g.length : Int) + 1 - here).toNat) (h1 : (Txt.slice g (some (here + (i : Int))) (some (here + (i : Int) + p.length)) == p) = true) (h2 : tr g (q :: r) (here + (i : Int) + p.length) = true) : true = tr g (p :: q :: r) here := by
  rw [tr_cons]
  symm
  rw [List.any_eq_true]
  exact ⟨i, List.mem_range.mpr hi, by unfold trS; rw [h1, h2]; rfl⟩
end Mine
end

section
open PySem PySem.W PyProof.Rows
open PySem.Calls PySem.Spec Builtin Builtin.Str
namespace Mine
section
variable {M : Model} {A : Around} {E : Value → Shared → Prop} {s : Shared} {h₀ : Heap} {L a : Addr} {m : Str → Option Value} {cn : Str} {cs : Scope} {ccd : Value} {cl : List (Str × Addr)}
  {x : Str} {v : Value} {Q : Unit → Shared → Prop} {news rest : List (Addr × Obj)} {c : Addr} {o : Obj} {v₀ : Option Value}
theorem store_cell (F : Fr h₀ L s.heap m) (N : News h₀ L s.heap news) (hc : cl.lookup x = some c) (hm : (c, o) ∈ news) (hd : o.data = .cell v₀) (hne : ∀ p ∈ rest, p.1 ≠ c) (hsub : ∀ p ∈ rest, p ∈ news)
    (h : ∀ h' o', Fr h₀ L h' m → News h₀ L h' ((c, o') :: rest) → o'.data = .cell (some v) → Q () { s with heap := h' })
    (hk : cs.kind = .function) (hx : (envX cn cs L a ccd cl).kindOf x = some .cell) : wpAny M A (storeName (envX cn cs L a ccd cl) x v) Q E s :=
  storeX_C (news := (c, o) :: rest) F (fun p hp => by
    rcases List.mem_cons.mp hp with rfl | hp
    · exact N _ hm
    · exact N _ (hsub p hp)) hc (.head hne) hd h hk hx
end
end Mine
namespace Mine
def isAB (q : Str) : Prop := ∀ c ∈ q.cps.toList, c = 97 ∨ c = 98
def OneAB (q : Str) : Prop := q.length = 1 ∧ isAB q
def UpAB (n : Nat) (q : Str) : Prop := q.length ≤ n ∧ isAB q
/-- an element that is a text with a property -/
def KsEl (news : List (Addr × Obj)) (P : Str → Prop) (y : Value) (news' : List (Addr × Obj)) : Prop := news' = news ∧ ∃ (r : Str) (t : Tok), y = .str r t ∧ P r
section
variable {prog : Program} {w : World} {A : Around} {h₀ : Heap} {L : Addr} {m : Str → Option Value} {env : Env} {elt : Expr} {x : Str} {scope : Scope} {cl : List (Str × Addr)} {s : Shared} {S : List (Addr × Obj) → Prop} {P' : Nat → Value → Prop} {Fin : List Value → List (Addr × Obj) → Prop} {news : List (Addr × Obj)}
theorem comp_strs {n : Nat} {ks : List Int} (P : Str → Prop) (hks : ks.length = n) (hP : ∀ i v, i < n → P' i v → ∃ k t, ks[i]? = some k ∧ v = .int k t)
    (turn : ∀ k t I oI C oC D m₂ ys h tk (E' : Value → Shared → Prop), k ∈ ks → LCg.NsObj oC m₂ → m₂ x = some (.int k t) → Fr h₀ L h m → News h₀ L h ((I, oI) :: (C, oC) :: (D, LCg.lst ys) :: news) → LCg.Off3 I C D news → ((@Ne Nat I C) ∧ (@Ne Nat I D) ∧ (@Ne Nat C D)) →
      wpAny (model prog w) A (eval elt (compEnvC scope cl C env)) (LCg.CompEnd h₀ L m { s with heap := h, toks := tk } I oI C oC D (LCg.lst ys) S (fun y news' => KsEl news P y news')) E' { s with heap := h, toks := tk })
    (fin : ∀ ys qs, StrsAre ys qs → qs.length = n → (∀ q ∈ qs, P q) → Fin ys news) : LCg.CompRest prog w A h₀ L m env elt x scope cl s S P' Fin n 0 [] news := by
  have key : ∀ (j i : Nat) (ys : List Value) (qs : List Str), i + j = n → StrsAre ys qs → qs.length = i → (∀ q ∈ qs, P q) → LCg.CompRest prog w A h₀ L m env elt x scope cl s S P' Fin j i ys news := by
    intro j
    induction j with
    | zero =>
      intro i ys qs hi hy hq hp
      exact LCg.CompRest.zero (fin ys qs hy (by omega) hp)
    | succ j ih =>
      intro i ys qs hi hy hq hp
      refine LCg.CompRest.succ ?_
      intro v I oI C oC D m₂ h tk E' hv hC hx F N off ne
      obtain ⟨k, t, hk, hv'⟩ := hP i v (by omega) hv
      rw [hv'] at hx
      refine wpAny_mono (turn k t I oI C oC D m₂ ys h tk E' (List.mem_of_getElem? hk) hC hx F N off ne) (fun y s₂ hq' => ?_) fun _ _ e => e
      obtain ⟨h', tk', nw, e, F', N', off', hS, hn, r, t', hy', hr⟩ := hq'
      rw [hn] at N' off' hS
      refine ⟨h', tk', news, e, F', N', off', hS, ?_⟩
      rw [hy']
      refine ih (i + 1) _ (qs ++ [r]) (by omega) (kct_snoc hy) (by simp; omega) ?_
      intro q hq2
      rcases List.mem_append.mp hq2 with h1 | h1
      · exact hp q h1
      · rw [List.mem_singleton.mp h1]; exact hr
  exact key n 0 [] [] (by omega) .nil rfl (fun _ h => nomatch h)
end
theorem end_str {h₀ h' : Heap} {L I C D : Addr} {m : Str → Option Value} {s₁ : Shared} {oI oC oD : Obj} {all news : List (Addr × Obj)} {S : List (Addr × Obj) → Prop} {tk : Nat} {r : Str} {t : Tok} {P : Str → Prop}
    (F : Fr h₀ L h' m) (N : News h₀ L h' all) (sub : ∀ p ∈ (I, oI) :: (C, oC) :: (D, oD) :: news, p ∈ all) (off : LCg.Off3 I C D news) (hS : S news) (e : P r) :
    LCg.CompEnd h₀ L m s₁ I oI C oC D oD S (fun y news' => KsEl news P y news') (.str r t) { s₁ with heap := h', toks := tk } := LCg.CompEnd.intro F N news sub off hS ⟨rfl, r, t, rfl, e⟩
section
variable {prog : Program} {w : World} {A : Around} {E : Value → Shared → Prop} {s : Shared} {h₀ : Heap} {L D : Addr} {m : Str → Option Value} {news rest : List (Addr × Obj)} {vs : List Value} {ks : List Int} {n : Nat}
theorem join_led {Q : Value → Shared → Prop} {x : Str} {t : Tok} {qs : List Str} (N : News h₀ L s.heap news) (hm : (D, listOf vs.toArray n) ∈ news) (hS : StrsAre vs qs) (hB : ∀ q ∈ qs, q.length ≤ 1000) (hn : qs.length ≤ 100) (hx : x.length ≤ 64)
    (h : ∀ t' k, Q (.str (Txt.join x qs) t') { s with toks := k }) : wpAny (model prog w) A (call (.builtin "str.join") [.str x t, .ref D]) Q E s := by
  refine join_list (isList_led N hm) (by simpa using hS) ?_ h
  have h1 := StrLaws.sumLen_le qs hB
  have h2 : qs.length * 1000 ≤ 100 * 1000 := Nat.mul_le_mul_right _ hn
  have h3 : qs.length * x.length ≤ 100 * 64 := Nat.mul_le_mul hn hx
  omega
theorem item_ab {Q : Value → Shared → Prop} {value slice : Expr} {t u : Tok} {i : Int} (h0 : 0 ≤ i) (h1 : i < 2) (h : ∀ r t k, OneAB r → Q (.str r t) { s with toks := k })
    (hs : subscripted slice false (.str (Str.ofString "ab") t) (.int i u) = operate [.str (Str.ofString "ab") t, .int i u] (getItem (.str (Str.ofString "ab") t) (.int i u)))
    (ht : ∀ r, letTemporaryGo value (.str (Str.ofString "ab") t) r = pure ()) :
    wpAny (model prog w) A (subscriptTail value slice (.str (Str.ofString "ab") t) (.int i u)) Q E s := by
  refine KXi.item (n := 2) (by decide +kernel) (by omega) (by omega) (by decide) (fun _ => h _ _ _ ?_) hs ht
  have : i = 0 ∨ i = 1 := by omega
  rcases this with rfl | rfl
  · exact ⟨by decide +kernel, by unfold isAB; decide +kernel⟩
  · exact ⟨by decide +kernel, by unfold isAB; decide +kernel⟩
end
end Mine
namespace Mine
section
variable {prog : Program} {w : World} {A : Around} {E : Value → Shared → Prop} {s : Shared} {h₀ : Heap} {L l : Addr} {m : Str → Option Value} {news : List (Addr × Obj)} {value slice : PySem.Expr} {vs : List Value} {ns : List Int} {n : Nat} {vl vu : Value} {Q : Value → Shared → Prop}
theorem mod_small {a b : Int} {t u : Tok} (hb : 0 < b) (h : ∀ r t' k, 0 ≤ r → r < b → Q (.int r t') { s with toks := k }) : wpAny (model prog w) A (binaryOp .Mod (.int a t) (.int b u)) Q E s :=
  mod_int' (by omega) (h _ _ _ (fmod_lo a hb) (fmod_hi a hb))
theorem slice_ints_led {lo hi : Int} (F : Fr h₀ L s.heap m) (N : News h₀ L s.heap news) (hm : (l, listOf vs.toArray n) ∈ news) (pl : IsPart vl (some lo)) (pu : IsPart vu (some hi)) (hI : IntsAre vs ns) (h0 : 0 ≤ lo) (h1 : 0 ≤ hi) (hz : ns.length ≤ 1000)
    (h : ∀ D ws ms h', IntsAre ws ms → ws.length ≤ (hi - lo).toNat → Fr h₀ L h' m → News h₀ L h' ((D, listOf (List.toArray ws) 0) :: news) → (∀ p ∈ news, p.1 < D) → Q (.ref D) { s with heap := h' })
    (hs : subscripted slice false (.ref l) (.ref s.heap.objs.size) = operate [.ref s.heap.objs.size, .ref l] (getItem (.ref l) (.ref s.heap.objs.size))) (ht : ∀ r, letTemporaryGo value (.ref l) r = pure ()) :
    wpAny (model prog w) A (subscriptTail value slice (.ref l) (.ref s.heap.objs.size)) Q E { s with heap := s.heap.push { cls := .type "slice", data := .fields #[vl, vu, .none] } } := by
  have hl := hI.length
  have hk := kmk_run hI h0 h1
  refine kmk_slice F N (isList_led N hm) pl pu (fun D h' F' N' l1 => h D _ _ h' hk ?_ F' (by rw [Array.toArray_toList]; exact N') l1) hs ht (by rw [sizeLine_eq, List.size_toArray]; omega)
  rw [hk.length, List.length_take]
  omega
theorem join_ones_up {n : Nat} {qs : List Str} (h : ∀ q ∈ qs, OneAB q) (hn : qs.length ≤ n) : UpAB n (Txt.join (Str.ofString "") qs) := by
  have e : ∀ qs : List Str, (∀ q ∈ qs, OneAB q) → (Str.join (Str.ofString "") qs).length = qs.length ∧ isAB (Str.join (Str.ofString "") qs) := by
    intro qs
    induction qs with
    | nil => intro _; exact ⟨rfl, fun c hc => by simp [Str.join, Str.empty] at hc⟩
    | cons q r ih =>
      intro h
      have hq := h q (.head _)
      have hr := ih fun y hy => h y (.tail _ hy)
      cases r with
      | nil => exact ⟨hq.1, hq.2⟩
      | cons y z =>
        have e1 : Str.join (Str.ofString "") (q :: y :: z) = q ++ Str.ofString "" ++ Str.join (Str.ofString "") (y :: z) := rfl
        have e0 : Str.ofString "" = Str.empty := by decide +kernel
        rw [e1]
        constructor
        · rw [Str.length_append, Str.length_append, hr.1, hq.1, e0]
          show 1 + 0 + _ = _
          simp; omega
        · intro c hc
          rw [Str.cps_append, Str.cps_append, e0] at hc
          rw [e0] at hr
          simp only [Array.toList_append, List.mem_append] at hc
          rcases hc with (hc | hc) | hc
          · exact hq.2 c hc
          · simp [Str.empty] at hc
          · exact hr.2 c hc
  obtain ⟨h1, h2⟩ := e qs h
  have e2 : Txt.join (Str.ofString "") qs = Str.join (Str.ofString "") qs := StrLaws.glued_eq_join _ _
  rw [e2]
  exact ⟨by omega, h2⟩
end
end Mine
namespace Mine
section
variable {prog : Program} {w : World} {A : Around} {h₀ : Heap} {L : Addr} {m : Str → Option Value} {env : Env} {elt : Expr} {x : Str} {scope : Scope} {cl : List (Str × Addr)} {s : Shared} {S : List (Addr × Obj) → Prop} {Fin : List Value → List (Addr × Obj) → Prop} {news : List (Addr × Obj)}
theorem comp_strs_led {ws : List Value} {ms : List Int} (hI : IntsAre ws ms) (P : Str → Prop)
    (turn : ∀ k t I oI C oC D m₂ ys h tk (E' : Value → Shared → Prop), k ∈ ms → LCg.NsObj oC m₂ → m₂ x = some (.int k t) → Fr h₀ L h m → News h₀ L h ((I, oI) :: (C, oC) :: (D, LCg.lst ys) :: news) → LCg.Off3 I C D news → ((@Ne Nat I C) ∧ (@Ne Nat I D) ∧ (@Ne Nat C D)) →
      wpAny (model prog w) A (eval elt (compEnvC scope cl C env)) (LCg.CompEnd h₀ L m { s with heap := h, toks := tk } I oI C oC D (LCg.lst ys) S (fun y news' => KsEl news P y news')) E' { s with heap := h, toks := tk })
    (fin : ∀ ys qs, StrsAre ys qs → qs.length = ws.length → (∀ q ∈ qs, P q) → Fin ys news) : LCg.CompRest prog w A h₀ L m env elt x scope cl s S (fun i v => ws.toArray[i]? = some v) Fin ws.toArray.size 0 [] news :=
  comp_strs (ks := ms) P (by rw [List.size_toArray]; exact hI.length.symm) (fun i v _ hv => by
    obtain ⟨k, t, e, hk⟩ := IntsAre.at hI i v (by simpa using hv)
    exact ⟨k, t, hk, e⟩) turn (fun ys qs a b c => fin ys qs a (by rw [b, List.size_toArray]) c)
end
end Mine
end

section
open PySem PySem.W PyProof.Rows
open PySem.Calls PySem.Spec
set_option maxHeartbeats 1500000
namespace Mine

theorem sub0 {news : List (Addr × Obj)} : ∀ p ∈ news, p ∈ news := fun _ h => h
theorem sub1 {news : List (Addr × Obj)} {a : Addr × Obj} : ∀ p ∈ news, p ∈ a :: news := fun _ h => .tail _ h
theorem sub2 {news : List (Addr × Obj)} {a b : Addr × Obj} : ∀ p ∈ news, p ∈ a :: b :: news := fun _ h => .tail _ (.tail _ h)
theorem sub3 {news own : List (Addr × Obj)} {a : Addr × Obj} : ∀ p ∈ news, p ∈ own ++ a :: news := fun _ h => List.mem_append_right _ (.tail _ h)
theorem sub4 {news own : List (Addr × Obj)} {a b : Addr × Obj} : ∀ p ∈ news, p ∈ own ++ a :: b :: news := fun _ h => List.mem_append_right _ (.tail _ (.tail _ h))
section
variable {p0 pn : Str} {mid : List Str}
theorem bd_en (h : ∀ q ∈ p0 :: (mid ++ [pn]), q.length ≤ 1048576) : ∀ q ∈ p0 :: mid, q.length ≤ 1048576 := fun q hq => h q (by simp at hq ⊢; rcases hq with h | h <;> simp [h])
theorem bd_ne (h : ∀ q ∈ p0 :: (mid ++ [pn]), q.length ≤ 1048576) : ∀ q ∈ mid ++ [pn], q.length ≤ 1048576 := fun q hq => h q (.tail _ hq)
theorem bd_nn (h : ∀ q ∈ p0 :: (mid ++ [pn]), q.length ≤ 1048576) : ∀ q ∈ mid, q.length ≤ 1048576 := fun q hq => h q (.tail _ (List.mem_append_left _ hq))
end
theorem ne_of_lts {D : Addr} {l : List (Addr × Obj)} (h : ∀ p ∈ l, p.1 < D) : ∀ p ∈ l, p.1 ≠ D := fun p hp => Nat.ne_of_lt (h p hp)
section
variable {prog : Program} {w : World} {A : Around} {E : Value → Shared → Prop} {s : Shared} {h₀ : Heap} {L : Addr} {m : Str → Option Value} {news : List (Addr × Obj)} {x y : Str} {t u : Tok} {p0 pn : Str} {mid : List Str} {Q : Value → Shared → Prop}
theorem split_ends (hF : Fr h₀ L s.heap m) (hN : News h₀ L s.heap news) (hy : (y.length == 0) = false) (hsp : Txt.split x y = p0 :: (mid ++ [pn])) (hsz : x.length ≤ 1048576)
    (h : ∀ D vs h' k, StrsAre vs (p0 :: (mid ++ [pn])) → Fr h₀ L h' m → News h₀ L h' ((D, listOf vs.toArray 0) :: news) → (∀ p ∈ news, p.1 < D) → Q (.ref D) { s with heap := h', toks := k }) :
    wpAny (model prog w) A (call (.builtin "str.split") [.str x t, .str y u]) Q E s :=
  KSpl.split1 hF hN hy (fun D l h' k e hS F N lt => h D (strValues l) h' k (by rw [← hsp, ← e]; exact hS) F N lt) (by rw [sizeLine_eq]; omega)
theorem len_em {D : Addr} {vs : List Value} {n : Nat} (N : News h₀ L s.heap news) (hm : (D, listOf vs.toArray n) ∈ news) (hS : StrsAre vs (p0 :: (mid ++ [pn]))) (hz : mid.length ≤ 1000000)
    (h : ∀ t k, Q (.int ((mid.length : Int) + 2) t) { s with toks := k }) : wpAny (model prog w) A (call (.builtin "len") [.ref D]) Q E s :=
  len_led N hm hS (by simp; omega) fun t k => by
    have e : ((p0 :: (mid ++ [pn])).length : Int) = (mid.length : Int) + 2 := by simp; omega
    rw [e]; exact h t k
end

section
variable {prog : Program} {w : World} {A : Around} {E : Value → Shared → Prop} {s : Shared} {h₀ : Heap} {L D : Addr} {m : Str → Option Value} {news rest : List (Addr × Obj)} {vs : List Value} {n : Nat} {q p : Str} {r : List Str}
theorem item_last' {Q : Value → Shared → Prop} {value slice : Expr} {u : Tok} (N : News h₀ L s.heap news) (hm : (D, listOf vs.toArray n) ∈ news) (hS : StrsAre vs (q :: (r ++ [p]))) (hz : r.length ≤ 1000000)
    (h : ∀ t, Q (.str p t) s)
    (hs : subscripted slice false (.ref D) (.int (-1) u) = operate [.ref D, .int (-1) u] (getItem (.ref D) (.int (-1) u)) := by with_unfolding_all rfl) :
    wpAny (model prog w) A (subscriptTail value slice (.ref D) (.int (-1) u)) Q E s :=
  item_last (r := q :: r) N hm hS (by simp; omega) h hs
theorem del_last' {Q : Unit → Shared → Prop} {u : Tok} (F : Fr h₀ L s.heap m) (N : News h₀ L s.heap news) (hm : (D, listOf vs.toArray n) ∈ news) (hne : ∀ p ∈ rest, p.1 ≠ D) (hsub : ∀ p ∈ rest, p ∈ news)
    (hS : StrsAre vs (q :: (r ++ [p]))) (hz : r.length ≤ 1000000)
    (h : ∀ h' vs' n', StrsAre vs' (q :: r) → Fr h₀ L h' m → News h₀ L h' ((D, listOf vs'.toArray n') :: rest) → Q () { s with heap := h' }) : wpAny (model prog w) A (delItem (.ref D) (.int (-1) u)) Q E s :=
  del_last (r := q :: r) F N hm hne hsub hS (by simp; omega) h
end

def emJ (g : Str) (ep : Int) (qs : List Str) (b : Bool) (i : Nat) (a : Int) : Prop := 0 ≤ a ∧ emGo g ep (qs.drop i) a = b

theorem em_body {p0 pn g : Str} {mid : List Str} (h1 : p0.length ≠ 0 → Txt.startswith g p0 = true) (h2 : pn.length ≠ 0 → Txt.endswith g pn = true) (h3 : ¬ (p0.length : Int) > (g.length : Int) - pn.length) :
    em p0 mid pn g = emGo g ((g.length : Int) - pn.length) ((if p0.length = 0 then [p0] else []) ++ mid ++ (if pn.length = 0 then [pn] else [])) p0.length := by
  unfold em
  have e1 : ¬ (p0.length ≠ 0 ∧ Txt.startswith g p0 = false) := fun ab => by have := h1 ab.1; rw [ab.2] at this; cases this
  have e2 : ¬ (pn.length ≠ 0 ∧ Txt.endswith g pn = false) := fun ab => by have := h2 ab.1; rw [ab.2] at this; cases this
  rw [if_neg e1, if_neg e2, if_neg h3]
theorem em_ee {p0 pn g : Str} {mid : List Str} (hp : p0.length = 0) (hn : pn.length = 0) : emGo g g.length (p0 :: (mid ++ [pn])) 0 = em p0 mid pn g := by
  rw [em_body (fun h => absurd hp h) (fun h => absurd hn h) (by omega), hp, hn]
  simp
theorem em_en {p0 pn g : Str} {mid : List Str} (hp : p0.length = 0) (hn : pn.length ≠ 0) (he : Txt.endswith g pn = true) (h3 : ¬ (0 : Int) > (g.length : Int) - pn.length) : emGo g ((g.length : Int) - pn.length) (p0 :: mid) 0 = em p0 mid pn g := by
  rw [em_body (fun h => absurd hp h) (fun _ => he) (by omega), hp, if_neg hn]
  simp
theorem em_ne {p0 pn g : Str} {mid : List Str} (hp : p0.length ≠ 0) (hs : Txt.startswith g p0 = true) (hn : pn.length = 0) (h3 : ¬ (p0.length : Int) > (g.length : Int)) : emGo g g.length (mid ++ [pn]) p0.length = em p0 mid pn g := by
  rw [em_body (fun _ => hs) (fun h => absurd hn h) (by omega), hn, if_neg hp]
  simp
theorem em_nn {p0 pn g : Str} {mid : List Str} (hp : p0.length ≠ 0) (hs : Txt.startswith g p0 = true) (hn : pn.length ≠ 0) (he : Txt.endswith g pn = true) (h3 : ¬ (p0.length : Int) > (g.length : Int) - pn.length) : emGo g ((g.length : Int) - pn.length) mid p0.length = em p0 mid pn g := by
  rw [em_body (fun _ => hs) (fun _ => he) (by omega), if_neg hp, if_neg hn]
  simp
theorem em_f1 {p0 pn g : Str} {mid : List Str} (hp : p0.length ≠ 0) (hs : Txt.startswith g p0 = false) : false = em p0 mid pn g := by
  unfold em; rw [if_pos ⟨hp, hs⟩]
theorem em_f2 {p0 pn g : Str} {mid : List Str} (hp : pn.length ≠ 0) (hs : Txt.endswith g pn = false) : false = em p0 mid pn g := by
  unfold em; rw [if_pos (c := pn.length ≠ 0 ∧ _) ⟨hp, hs⟩]; split <;> rfl
theorem em_f3 {p0 pn g : Str} {mid : List Str} (h : (p0.length : Int) > (g.length : Int) - pn.length) : false = em p0 mid pn g := by
  unfold em; rw [if_pos h]; split
  · rfl
  · split <;> rfl
theorem emJ_zero {g : Str} {ep : Int} {qs : List Str} {b : Bool} {a : Int} (h0 : 0 ≤ a) (h : emGo g ep qs a = b) : emJ g ep qs b 0 a := ⟨h0, h⟩
theorem emJ_false {g : Str} {ep : Int} {qs : List Str} {b : Bool} {i : Nat} {a : Int} {q : Str} (hJ : emJ g ep qs b i a) (hq : qs[i]? = some q) (hn : fnd g q a.toNat ep.toNat < 0) : false = b := by
  obtain ⟨_, h⟩ := hJ
  obtain ⟨hlt, rfl⟩ := List.getElem?_eq_some_iff.mp hq
  rw [List.drop_eq_getElem_cons hlt, emGo, if_pos hn] at h
  exact h
theorem emJ_next {g : Str} {ep : Int} {qs : List Str} {b : Bool} {i : Nat} {a : Int} {q : Str} (hJ : emJ g ep qs b i a) (hq : qs[i]? = some q) (hn : ¬ fnd g q a.toNat ep.toNat < 0) : emJ g ep qs b (i + 1) (fnd g q a.toNat ep.toNat + q.length) := by
  obtain ⟨h0, h⟩ := hJ
  obtain ⟨hlt, rfl⟩ := List.getElem?_eq_some_iff.mp hq
  rw [List.drop_eq_getElem_cons hlt, emGo, if_neg hn] at h
  exact ⟨by omega, h⟩
theorem emJ_done {g : Str} {ep : Int} {qs : List Str} {b : Bool} {a : Int} (hJ : emJ g ep qs b qs.length a) : true = b := by
  obtain ⟨_, h⟩ := hJ
  rw [List.drop_length] at h
  exact h

section
variable {prog : Program} {w : World} {A : Around} {E : Value → Shared → Prop} {s : Shared} {env : Env} {h₀ : Heap} {x : Str} {body : List Stmt} {Q : Flow → Shared → Prop}
theorem em_iter {l : Addr} {vs : List Value} {qs : List Str} {nn : Nat} {m₀ : Str → Option Value} {news : List (Addr × Obj)} {y : Str} {a₀ : Int} {t₀ : Tok} {yg ye : Str} {g : Str} {ep : Int} {tg te : Tok} {b : Bool}
    (hh : A.handled = none) (hl : (l, listOf vs.toArray nn) ∈ news) (hi : StrsAre vs qs) (F : Fr h₀ env.locals s.heap m₀) (N : News h₀ env.locals s.heap news)
    (hy : m₀ y = some (.int a₀ t₀)) (_hg : m₀ yg = some (.str g tg)) (_he : m₀ ye = some (.int ep te)) (hj : emJ g ep qs b 0 a₀) (hB : ∀ q ∈ qs, q.length ≤ 1048576)
    (turn : ∀ i q t a ta h tk own, qs[i]? = some q → q.length ≤ 1048576 → emJ g ep qs b i a → Fr h₀ env.locals h (fun z => if z = x then some (.str q t) else if z = y then some (.int a ta) else m₀ z) → News h₀ env.locals h (own ++ news) →
      wpAny (model prog w) A (execs body env) (InvPost h₀ env.locals (fun m' => (∃ a' t', m' y = some (.int a' t') ∧ emJ g ep qs b (i + 1) a') ∧ ∀ z, z ≠ x → z ≠ y → m' z = m₀ z) (own ++ news) { s with heap := h, toks := tk } Q) E { s with heap := h, toks := tk })
    (done : ∀ (u : Str → Option Value) a t h tk, emJ g ep qs b qs.length a → Fr h₀ env.locals h (fun z => if z = x then u z else if z = y then some (.int a t) else m₀ z) → News h₀ env.locals h news → Q .next { s with heap := h, toks := tk }) (hyx : y ≠ x := by decide) :
    wpAny (model prog w) A (pyIter (.ref l)) (fun it s₂ => LoopAtV prog w A h₀ env x body Q E it s₂) E s :=
  iter_strs1 (emJ g ep qs b) hh hl hi F N hy hj (fun i q t a ta h tk own hq => turn i q t a ta h tk own hq (hB q (List.mem_of_getElem? hq))) done hyx
end

section
local macro_rules | `(tactic| walk_at "call builtin:len") => `(tactic| (k_here; (with_reducible show wpAny _ _ (call (Value.builtin "len") [Value.ref _]) _ _ _); (refine len_em (by k_asm) (by k_mem) (by assumption) (by assumption) ?_); intro t' tk'))
local macro_rules | `(tactic| walk_at "subscriptTail Name Constant ref int") => `(tactic| (k_here; (with_reducible show wpAny _ _ (subscriptTail _ _ (Value.ref _) (Value.int _ _)) _ _ _); (with_unfolding_all refine' item_first ?k1 ?k2 ?k3 ?_ ?k4; (case k1 => k_asm); (case k2 => k_mem); (case k3 => assumption); (case k4 => with_unfolding_all rfl); k_whole); intro t'))
local macro_rules | `(tactic| walk_at "compareOp NotIn str str") => `(tactic| (k_here; refine notin_false (by assumption) ?_))
local macro_rules | `(tactic| walk_at "call builtin:str.split") => `(tactic| (k_here; (with_reducible show wpAny _ _ (call (Value.builtin "str.split") [Value.str _ _, Value.str _ _]) _ _ _); (refine split_ends (by k_asm) (by k_asm) (by decide) (by assumption) (by assumption) ?_); intro D' vs' h' tk' hS' F' N' l1; (have hneD := ne_of_lts l1); (try k_lt l1)))
local macro_rules | `(tactic| walk_at "truthy str") => `(tactic| (k_here; (refine truthy_two (by assumption) ?_ ?_); all_goals intro hb' tk'))
local macro_rules | `(tactic| walk_at "subscriptTail Name UnaryOp ref int") => `(tactic| (k_here; (with_reducible show wpAny _ _ (subscriptTail _ _ (Value.ref _) (Value.int _ _)) _ _ _); (first
  | (with_unfolding_all refine' item_last ?k1 ?k2 ?k3 ?k5 ?_ ?k4; (case k1 => k_asm); (case k2 => k_mem); (case k3 => with_reducible assumption); (case k5 => omega); (case k4 => with_unfolding_all rfl); k_whole)
  | (with_unfolding_all refine' item_last' ?k1 ?k2 ?k3 ?k5 ?_ ?k4; (case k1 => k_asm); (case k2 => k_mem); (case k3 => with_reducible assumption); (case k5 => omega); (case k4 => with_unfolding_all rfl); k_whole)); intro t'))
local macro_rules | `(tactic| walk_at "delItem ref int") => `(tactic| (k_here; (first
  | ((with_reducible show wpAny _ _ (delItem (Value.ref _) (Value.int 0 _)) _ _ _); refine' del_first ?k1 ?k2 ?k3 ?k0 ?k4 ?k5 ?k6 ?_; (case k1 => k_asm); (case k2 => k_asm); (case k3 => k_mem); (case k0 => with_reducible assumption); (case k4 => intro p' hp'; first | exact .tail _ hp' | exact .tail _ (.tail _ hp')); (case k5 => with_reducible assumption); (case k6 => simp; omega))
  | ((with_reducible show wpAny _ _ (delItem (Value.ref _) (Value.int (-1) _)) _ _ _); refine' del_last ?k1 ?k2 ?k3 ?k0 ?k4 ?k5 ?k6 ?_; (case k1 => k_asm); (case k2 => k_asm); (case k3 => k_mem); (case k0 => with_reducible assumption); (case k4 => intro p' hp'; first | exact .tail _ hp' | exact .tail _ (.tail _ hp')); (case k5 => with_reducible assumption); (case k6 => omega))
  | ((with_reducible show wpAny _ _ (delItem (Value.ref _) (Value.int (-1) _)) _ _ _); refine' del_last' ?k1 ?k2 ?k3 ?k0 ?k4 ?k5 ?k6 ?_; (case k1 => k_asm); (case k2 => k_asm); (case k3 => k_mem); (case k0 => with_reducible assumption); (case k4 => intro p' hp'; first | exact .tail _ hp' | exact .tail _ (.tail _ hp')); (case k5 => with_reducible assumption); (case k6 => omega))); intro h' vs' n' hS' F' N'))
local macro_rules | `(tactic| walk_at "exec For Name Name cons nil") => `(tactic| (k_here; (rename Fr _ _ _ _ => lF'); (with_unfolding_all refine' For_invVF lF' ?k1 ?k2 ?_; (case k1 => exact rfl); (case k2 => exact rfl); k_whole)))
local macro_rules | `(tactic| walk_at "pyIter ref") => `(tactic| (
   k_here
   (with_unfolding_all refine' em_iter (y := Str.ofString "startpos") (yg := Str.ofString "got") (ye := Str.ofString "endpos") (by rfl) ?hl ?hi ?F ?N ?hy ?hg ?he ?hj ?hB ?_ ?_)
   (case F => k_asm)
   (case N => k_asm)
   (case hl => k_mem)
   (case hi => with_reducible assumption)
   (case hy => rfl)
   (case hg => rfl)
   (case he => rfl)
   (case hj => (refine' emJ_zero ?hz ?hw; (case hz => omega); (case hw => first | ((with_reducible refine em_ee ?_ ?_) <;> first | assumption | omega) | ((with_reducible refine em_en ?_ ?_ ?_ ?_) <;> first | assumption | omega) | ((with_reducible refine em_ne ?_ ?_ ?_ ?_) <;> first | assumption | omega) | ((with_reducible refine em_nn ?_ ?_ ?_ ?_ ?_) <;> first | assumption | omega))))
   (case hB => (with_reducible rename (∀ q ∈ _ :: (_ ++ [_]), Str.length q ≤ 1048576) => hA'); first | exact hA' | exact bd_en hA' | exact bd_ne hA' | exact bd_nn hA')
   (all_goals first | intro i' q' t' a' ta' h' tk' own' hq' hlq' hJ' F' N' | intro u' a' t' h' tk' hJ' F' N')))
local macro_rules | `(tactic| walk_at "call builtin:str.find") => `(tactic| (k_here; (refine' find4 ?k1 ?k2 ?k3 ?_; (case k1 => (with_reducible rename emJ _ _ _ _ _ _ => hJ'); exact hJ'.1); (case k2 => omega); (case k3 => omega)); intro t' tk'))
local macro_rules | `(tactic| walk_at "call builtin:len") => `(tactic| (k_here; (with_reducible show wpAny _ _ (call (Value.builtin "len") [Value.str _ _]) _ _ _); (refine P.len_str (by omega) ?_)))
local macro_rules | `(tactic| walk_at "InvEnd") => `(tactic| (refine InvEnd.intro (by assumption) (by assumption) (by intro p' hp'; first | exact hp' | exact .tail _ hp' | exact .tail _ (.tail _ hp')) ⟨⟨_, _, by with_unfolding_all rfl, emJ_next (by assumption) (by assumption) (by assumption)⟩, by k_same2⟩))
theorem em_walk {w : World} {mean : ExcName → Option Value} {mg mb : Str → Option Value} {news : List (Addr × Obj)} {want got : Str} {t1 t2 : Tok} {p0 pn : Str} {mid : List Str}
   (hfound : (Builtin.Str.occurrences want (Str.ofString "...") 0 want.length 1).isEmpty = false) (hsp : Txt.split want (Str.ofString "...") = p0 :: (mid ++ [pn])) (hw : want.length ≤ 1048576) (hg : got.length ≤ 1048576) (hmid : mid.length ≤ 1000000) (hall : ∀ q ∈ p0 :: (mid ++ [pn]), q.length ≤ 1048576) :
   CbClaim PySem.Challenge.rw_gd0002_01.row.prog w (hd.heap_39 w.params) hd.view_39 (looseW hd.view_39 [Str.ofString "bisect_left"]) mean mg mb 21 news [] True [.str want t1, .str got t2] (fun _ => .bool (em p0 mid pn got)) := by
  have hp0 := hall p0 (.head _)
  have hpn := hall pn (.tail _ (List.mem_append_right _ (.head _)))
  w_top off
  k_fill
  dsimp only [CbClaim, CbLists, CbRet]
  intros; rename_i hret
  refine wpAny_call ?_
  k_dflt cell_enter
  k_steps
  all_goals try (
    refine' cb_retB hret ?e ?F ?N
    (case F => k_asm)
    (case N => first | k_asm | (refine' cb_drop ?n ?s; (case n => assumption); (case s => first | exact sub0 | exact sub1 | exact sub2 | exact sub3 | exact sub4)))
    (case e => first
      | exact em_f1 (by assumption) (by assumption)
      | exact em_f2 (by assumption) (by assumption)
      | exact emJ_done (by assumption)
      | exact emJ_false (by assumption) (by assumption) (by assumption)
      | exact em_f3 (by omega)))
end
end Mine
end

section
open PySem PySem.W PyProof.Rows
open PySem.Calls PySem.Spec
set_option maxHeartbeats 2000000
namespace Mine
section
local macro_rules | `(tactic| k_mem) => `(tactic| assumption)
local macro_rules | `(tactic| walk_at "call builtin:len") => `(tactic| (k_here; (with_reducible show wpAny _ _ (call (Value.builtin "len") [Value.ref _]) _ _ _); (refine len_ints_led (by k_asm) (by k_mem) (by assumption) (by assumption) ?_); intro t' tk'))
local macro_rules | `(tactic| walk_at "exec While Compare cons nil") => `(tactic| (
  k_here
  (with_reducible rename BiIs _ _ => hB')
  (with_unfolding_all refine' while2 (y1 := Str.ofString "lo") (y2 := Str.ofString "hi") (y3 := Str.ofString "mid") (biJof hB') ?F ?N ?e1 ?e2 ?hJ ?ne ?_ ?hE)
  (case F => k_asm)
  (case N => k_asm)
  (case e1 => rfl)
  (case e2 => rfl)
  (case hJ => exact biJ_zero hB')
  (case ne => decide)
  (case hE => passes_own)
  intro a' b' ta' tb' u' h' tk' hJ' F' N'))
local macro_rules | `(tactic| walk_at "subscriptTail Name Name ref int") => `(tactic| (
  k_here
  (with_reducible rename biJof _ _ _ => hJ')
  (have hM' := biJ_mid _ hJ' (by assumption))
  (with_unfolding_all refine' item_int_led ?k1 ?k2 ?k3 hM'.1 hM'.2 ?kz ?_ ?k4 ?k5)
  (case k1 => k_asm)
  (case k2 => k_mem)
  (case k3 => assumption)
  (case kz => assumption)
  (case k4 => with_unfolding_all rfl)
  (case k5 => intro _; with_unfolding_all rfl)
  intro t'))
local macro_rules | `(tactic| walk_at "InvEnd") => `(tactic| (
  (with_reducible rename biJof _ _ _ => hJ')
  first
    | (have hU' := biJ_up _ hJ' (by assumption) (by assumption); refine InvEnd.intro (by assumption) (by assumption) (by first | exact sub0 | exact sub1) ⟨⟨_, _, _, _, by with_unfolding_all rfl, by with_unfolding_all rfl, hU'.1, hU'.2⟩, ?_⟩; intro z h1 h2 h3; simp [h1, h2, h3])
    | (have hU' := biJ_dn _ hJ' (by assumption) (by assumption); refine InvEnd.intro (by assumption) (by assumption) (by first | exact sub0 | exact sub1) ⟨⟨_, _, _, _, by with_unfolding_all rfl, by with_unfolding_all rfl, hU'.1, hU'.2⟩, ?_⟩; intro z h1 h2 h3; simp [h1, h2, h3])))
theorem bi_walk {w : World} {mean : ExcName → Option Value} {mg mb : Str → Option Value} {news : List (Addr × Obj)} {t1 : Tok} {l : Addr} {vs : List Value} {n : Nat} {ks : List Int} {x : Int}
   (hm : (l, listOf vs.toArray n) ∈ news) (hI : IntsAre vs ks) (hB : BiIs ks x) :
   CbClaim PySem.Challenge.rw_gd0002_01.row.prog w (hd.heap_39 w.params) hd.view_39 (looseW hd.view_39 [Str.ofString "bisect_left"]) mean mg mb 30 news [] True [.ref l, .int x t1] (fun t => .int (bis ks x) t) := by
  have hz := hB.short
  w_top off
  k_fill
  dsimp only [CbClaim, CbLists, CbRet]
  intros; rename_i hret
  refine wpAny_call ?_
  (refine' code_def ?k1 ?k2 ?k3 ?k4 ?k5 ?kA ?kF ?kK ?k6 ?k7 ?k8 ?k9 ?kB ?_ ?c2 ?c3 ?c4 ?c5; (case kA => exact rfl); (case kF => exact rfl); (case kK => assumption); (case k1 => k_asm); (case k2 => k_asm); (case k3 => k_asm); (case k4 => k_asm); (case k5 => k_asm); (case k6 => k_is); (case k7 => k_is); (case k8 => ktr_room); (case k9 => (refine' kp_binds ?kx ?ke; (case kx => k_in); (case ke => exact fun _ => rfl))); (case c5 => decide); (case kB => exact locs rfl); (case c2 => exact rfl); (case c3 => exact rfl); (case c4 => exact rfl); k_whole; intro g' L' h' FG' F' N' B' X' T'; (try dsimp only); (try k_lift B'); (try k_fold))
  k_steps
  all_goals try (
    refine' cb_retI hret ?e ?F ?N
    (case F => k_asm)
    (case N => first | k_asm | (refine' cb_drop ?n ?s; (case n => assumption); (case s => first | exact sub0 | exact sub1 | exact sub2 | exact sub3 | exact sub4)))
    (case e => exact biJ_done (ks := ks) (x := x) (by assumption) (by assumption) (by assumption)))
end
theorem bi_call {w : World} {mean : ExcName → Option Value} {mg mb : Str → Option Value} {news : List (Addr × Obj)} {t1 : Tok} {l : Addr} {vs : List Value} {n : Nat} {ks : List Int} {x : Int}
    {dp un : Nat} {gd : Option (List Code)} {cn : Str} {cs : Scope} {a : Addr} {ccd : Value} {cl : List (Str × Addr)} {outer : List Env} {A₀ : Around} {base h₀ : Heap} {L : Addr} {m : Str → Option Value} {s : Shared} {Q E : Value → Shared → Prop}
    (hm : (l, listOf vs.toArray n) ∈ news) (hI : IntsAre vs ks) (hB : BiIs ks x)
    (B : Below A₀ base outer h₀) (F : Fr h₀ L s.heap m) (X : (hd.heap_39 w.params).In h₀) (N : News h₀ L s.heap news) (T : Top hd.view_39 (looseW hd.view_39 [Str.ofString "bisect_left"]) mean mg mb h₀) (hk : cs.kind = .function)
    (hd : dp + 1 < recursionLimit) (hu : un + 8 < cLine) (hret : CbRet h₀ L m news s Q (fun t => .int (bis ks x) t)) :
    wpAny (model PySem.Challenge.rw_gd0002_01.row.prog w) (ktrTop dp un gd cn cs L a ccd cl outer) (call (.ref 30) [.ref l, .int x t1]) Q E s :=
  bi_walk hm hI hB dp un gd cn cs a ccd cl outer A₀ base h₀ L m s Q E B F X N T hk trivial hd hu hret
end Mine
end

section
open PySem PySem.W PyProof.Rows
open PySem.Calls PySem.Spec
set_option maxHeartbeats 2000000
namespace Mine

/-- the places of a piece in the word -/
def plc (g p : Str) : List Int := (rangeKs 0 (g.length + 1)).filter fun k => Txt.slice g (some k) (some (k + p.length)) == p
theorem plc_fold_aux (p : Int → Bool) (ks l : List Int) : ks.foldl (fun l k => if p k = true then l ++ [k] else l) l = l ++ ks.filter p := by
  induction ks generalizing l with
  | nil => simp
  | cons k r ih =>
    rw [List.foldl_cons, ih]
    cases h : p k <;> simp [h]
structure PlcIs (g p : Str) : Prop where
def plcG (g p : Str) (l : List Int) (k : Int) : List Int := if (Txt.slice g (some k) (some (k + p.length)) == p) = true then l ++ [k] else l
abbrev plcGof {g p : Str} (_ : PlcIs g p) : List Int → Int → List Int := plcG g p
theorem plc_fold {g p : Str} (h : PlcIs g p) {n : Nat} (e : n = g.length + 1) : (rangeKs 0 n).foldl (plcGof h) [] = plc g p := by
  subst e
  exact (plc_fold_aux (fun k => Txt.slice g (some k) (some (k + p.length)) == p) _ _).trans (List.nil_append _)
theorem plcG_pos {g p : Str} (h : PlcIs g p) {l : List Int} {k : Int} (e : (Txt.slice g (some k) (some (k + p.length)) == p) = true) : plcGof h l k = l ++ [k] := if_pos e
theorem plcG_neg {g p : Str} (h : PlcIs g p) {l : List Int} {k : Int} (e : (Txt.slice g (some k) (some (k + p.length)) == p) = false) : plcGof h l k = l := if_neg (by rw [e]; decide)
theorem plcG_grows {g p : Str} (h : PlcIs g p) : KPfGrows (plcGof h) := by
  intro l k
  show (if _ then _ else _ : List Int).length ≤ _
  split
  · simp
  · exact Nat.le_succ _
theorem end_el {h₀ h' : Heap} {L I C D : Addr} {m : Str → Option Value} {s₁ : Shared} {oI oC oD : Obj} {all news : List (Addr × Obj)} {tk : Nat} {l r : List Int} {k : Int} {t : Tok}
    (F : Fr h₀ L h' m) (N : News h₀ L h' all) (sub : ∀ p ∈ (I, oI) :: (C, oC) :: (D, oD) :: news, p ∈ all) (off : LCg.Off3 I C D news) (e : r = l ++ [k]) :
    LCg.CompEnd h₀ L m s₁ I oI C oC D oD (fun _ => True) (fun y news' => KCiEl news l r y news') (.int k t) { s₁ with heap := h', toks := tk } := LCg.CompEnd.intro F N news sub off trivial (kci_el e rfl rfl)
theorem end_no {h₀ h' : Heap} {L I C D : Addr} {m : Str → Option Value} {s₁ : Shared} {oI oC oD : Obj} {all news : List (Addr × Obj)} {tk : Nat} {l r : List Int}
    (F : Fr h₀ L h' m) (N : News h₀ L h' all) (sub : ∀ p ∈ (I, oI) :: (C, oC) :: (D, oD) :: news, p ∈ all) (off : LCg.Off3 I C D news) (e : r = l) :
    LCg.CompEnd h₀ L m s₁ I oI C oC D oD (fun _ => True) (fun _ news' => KCiNo news l r news') Value.none { s₁ with heap := h', toks := tk } := LCg.CompEnd.intro F N news sub off trivial (kci_no e rfl)
def fiM (g pn : Str) : List Str → Int → Bool
  | [], here => decide ((g.length : Int) - pn.length ≥ here) && Txt.endswith g pn
  | p :: r, here => if bis (plc g p) here = (plc g p).length then false else fiM g pn r ((plc g p).getD (bis (plc g p) here) 0 + p.length)
def fi (p0 : Str) (mid : List Str) (pn g : Str) : Bool := if (Txt.slice g none (some (p0.length : Int)) != p0) = true then false else fiM g pn mid p0.length
def fiJ (g pn : Str) (qs : List Str) (b : Bool) (i : Nat) (a : Int) : Prop := fiM g pn (qs.drop i) a = b

theorem plc_bi (g p : Str) (hg : g.length ≤ 1000000) (a : Int) : BiIs (plc g p) a := by
  constructor
  · refine List.Pairwise.filter _ ?_
    have : rangeKs 0 (g.length + 1) = (List.range (g.length + 1)).map fun (i : Nat) => (0 : Int) + (i : Int) := rfl
    rw [this]
    refine List.Pairwise.map _ (fun a b h => ?_) List.pairwise_lt_range
    omega
  · have h1 : (plc g p).length ≤ (rangeKs 0 (g.length + 1)).length := List.length_filter_le _ _
    rw [rangeKs_length] at h1
    omega
theorem fiJ_false {g pn : Str} {qs : List Str} {b : Bool} {i : Nat} {a : Int} {q : Str} (hJ : fiJ g pn qs b i a) (hq : qs[i]? = some q) (h : (bis (plc g q) a : Int) = ((plc g q).length : Int)) : false = b := by
  obtain ⟨hlt, rfl⟩ := List.getElem?_eq_some_iff.mp hq
  unfold fiJ at hJ
  rw [List.drop_eq_getElem_cons hlt, fiM, if_pos (by omega)] at hJ
  exact hJ
theorem fiJ_next {g pn : Str} {qs : List Str} {b : Bool} {i : Nat} {a : Int} {q : Str} (hJ : fiJ g pn qs b i a) (hq : qs[i]? = some q) (h : ¬ (bis (plc g q) a : Int) = ((plc g q).length : Int)) :
    fiJ g pn qs b (i + 1) ((plc g q).getD (bis (plc g q) a : Int).toNat 0 + q.length) := by
  obtain ⟨hlt, rfl⟩ := List.getElem?_eq_some_iff.mp hq
  unfold fiJ at hJ
  rw [List.drop_eq_getElem_cons hlt, fiM, if_neg (by omega)] at hJ
  exact hJ
theorem fiJ_in {g q : Str} {a : Int} (h : ¬ (bis (plc g q) a : Int) = ((plc g q).length : Int)) : 0 ≤ (bis (plc g q) a : Int) ∧ (bis (plc g q) a : Int) < ((plc g q).length : Int) := by
  have := bis_le (plc g q) a
  omega
theorem fiJ_done {g pn : Str} {qs : List Str} {b : Bool} {a : Int} (hJ : fiJ g pn qs b qs.length a) : (decide ((g.length : Int) - pn.length ≥ a) && Txt.endswith g pn) = b := by
  unfold fiJ at hJ
  rw [List.drop_length] at hJ
  exact hJ
theorem fiJ_done_f {g pn : Str} {qs : List Str} {b : Bool} {a : Int} (hJ : fiJ g pn qs b qs.length a) (h : ¬ (g.length : Int) - pn.length ≥ a) : false = b := by
  rw [← fiJ_done hJ, decide_eq_false h]; rfl
theorem fiJ_done_d {g pn : Str} {qs : List Str} {b : Bool} {a : Int} (hJ : fiJ g pn qs b qs.length a) (h : ¬ a ≤ (g.length : Int) - pn.length) : decide (a ≤ (g.length : Int) - pn.length) = b := by
  rw [decide_eq_false h]; exact fiJ_done_f hJ h
theorem fiJ_done_t {g pn : Str} {qs : List Str} {b : Bool} {a : Int} (hJ : fiJ g pn qs b qs.length a) (h : (g.length : Int) - pn.length ≥ a) : Txt.endswith g pn = b := by
  rw [← fiJ_done hJ, decide_eq_true h]; rfl

section
local macro_rules | `(tactic| k_mem) => `(tactic| assumption)
local macro_rules | `(tactic| walk_at "subscriptTail Name Constant ref int") => `(tactic| (k_here; (with_reducible show wpAny _ _ (subscriptTail _ _ (Value.ref _) (Value.int 0 _)) _ _ _); (with_unfolding_all refine' item_first ?k1 ?k2 ?k3 ?_ ?k4; (case k1 => k_asm); (case k2 => k_mem); (case k3 => assumption); (case k4 => with_unfolding_all rfl); k_whole); intro t'))
local macro_rules | `(tactic| walk_at "call builtin:len") => `(tactic| (k_here; (with_reducible show wpAny _ _ (call (Value.builtin "len") [Value.str _ _]) _ _ _); (refine P.len_str (by omega) ?_)))
local macro_rules | `(tactic| walk_at "exec For Name Subscript cons nil") => `(tactic| (k_here; refine wpAny_For ?_))
local macro_rules | `(tactic| walk_at "subscriptTail Name Slice ref ref") => `(tactic| (k_here; (with_reducible show wpAny _ _ (subscriptTail _ (PySem.Expr.Slice _ _ none _) (Value.ref _) (Value.ref _)) _ _ _); k_dflt (refine' slice_mid ?F ?N ?l ?p ?q ?i ?z ?_ ?s ?t; (case F => k_asm); (case N => k_asm); (case l => k_mem); (case p => kmk_part); (case q => kmk_part); (case i => with_reducible assumption); (case z => omega); (case s => with_unfolding_all rfl); (case t => kmk_pure)); intro D' ws' h' hS' F' N' l1; (have hneD := ne_of_lts l1); (try k_lt l1)))
local macro_rules | `(tactic| walk_at "CompSrcT") => `(tactic| (
  k_here
  (with_reducible rename PlcIs _ _ => hP')
  (k_dflt (refine LCt.CompSrcT.range (by rfl) (by k_asm) (by k_asm) (by assumption) (by first | decide | exact small_one (by kcf_bnd) (by kcf_bnd) (by kcf_bnd) (by kcf_bnd)) (by first | exact rangeSize_nat _ _ | rfl) ?_ ?_))
  (rw [PySem.sizeLine_eq]; omega)
  (intro g')
  (k_dflt (refine kci_range (plcGof hP') ?_ ?_ (plcG_grows hP')))
  (intro k' t' I' oI' C' oC' D' m' ys' l' h' tk' E' hlo' hhi' hI' hC' hx' F' N' off' ne' hMark')
  (try simp only [LCg.Off3, and_true] at off')
  try k_fold
  rotate_left
  (k_dflt unfold KPfDone)
  (intro ys' hI' hL')
  (rw [plc_fold hP' (by omega)] at hI')))
local macro_rules | `(tactic| walk_at "CompEnd") => `(tactic| (k_here; first
  | (refine end_el (by k_asm) (by k_asm) (by first | exact sub0 | exact sub1) (by assumption) ?_; exact plcG_pos _ (by assumption))
  | (refine end_no (by k_asm) (by k_asm) (by first | exact sub0 | exact sub1) (by assumption) ?_; exact plcG_neg _ (by assumption))))
local macro_rules | `(tactic| walk_at "call ref") => `(tactic| (
  k_here
  (with_reducible show wpAny _ _ (call (Value.ref 30) [Value.ref _, Value.int _ _]) _ _ _)
  k_dflt (refine' bi_call ?k1 ?k2 ?k3 ?k4 ?k5 ?k6 ?k7 ?k8 ?k9 ?ka ?kb ?_)
  (case k5 => k_asm)
  (case k7 => k_asm)
  (case k1 => k_mem)
  (case k2 => assumption)
  (case k3 => assumption)
  (case k4 => k_asm)
  (case k6 => k_asm)
  (case k8 => k_asm)
  (case k9 => first | exact rfl | assumption)
  (case ka => ktr_room)
  (case kb => ktr_units)
  intro t9 h9 tk9 F9 N9
  (try dsimp only)
  (try k_fold)))
local macro_rules | `(tactic| walk_at "call builtin:len") => `(tactic| (k_here; (with_reducible show wpAny _ _ (call (Value.builtin "len") [Value.ref _]) _ _ _); (refine len_ints_led (by k_asm) (by k_mem) (by assumption) (BiIs.short (by assumption)) ?_); intro t' tk'))
local macro_rules | `(tactic| walk_at "subscriptTail Name Name ref int") => `(tactic| (
  k_here
  (have hM' := fiJ_in (by assumption))
  (with_unfolding_all refine' item_int_led ?k1 ?k2 ?k3 hM'.1 hM'.2 ?kz ?_ ?k4 ?k5)
  (case k1 => k_asm)
  (case k2 => k_mem)
  (case k3 => assumption)
  (case kz => exact BiIs.short (by assumption))
  (case k4 => with_unfolding_all rfl)
  (case k5 => intro _; with_unfolding_all rfl)
  intro t'))
local macro_rules | `(tactic| walk_at "InvEnd") => `(tactic| (
  (with_reducible rename fiJ _ _ _ _ _ _ => hJ')
  (refine InvEnd.intro (by assumption) (by assumption) (by intro p' hp'; first | exact .tail _ hp' | kcf_m) ⟨⟨_, _, by with_unfolding_all rfl, fiJ_next hJ' (by assumption) (by assumption)⟩, ?_⟩)
  intro z h1 h2 h3; simp [h1, h2, h3]))
local macro_rules | `(tactic| walk_at "subscriptTail Name UnaryOp ref int") => `(tactic| (k_here; (with_reducible show wpAny _ _ (subscriptTail _ _ (Value.ref _) (Value.int (-1) _)) _ _ _); (with_unfolding_all refine' item_last' ?k1 ?k2 ?k3 ?k5 ?_ ?k4; (case k1 => k_asm); (case k2 => k_mem); (case k3 => with_reducible assumption); (case k5 => omega); (case k4 => with_unfolding_all rfl); k_whole); intro t'))
theorem fi_walk {w : World} {mean : ExcName → Option Value} {mg mb : Str → Option Value} {news : List (Addr × Obj)} {word : Str} {t1 : Tok} {l : Addr} {vs : List Value} {n : Nat} {p0 pn : Str} {mid : List Str}
   (hm : (l, listOf vs.toArray n) ∈ news) (hS : StrsAre vs (p0 :: (mid ++ [pn]))) (hw : word.length ≤ 1000000) (hmid : mid.length ≤ 1000000) (hall : ∀ q ∈ p0 :: (mid ++ [pn]), q.length ≤ 1048576) :
   Cl 2 16 PySem.Challenge.rw_gd0002_01.row.prog w (hd.heap_39 w.params) hd.view_39 (looseW hd.view_39 [Str.ofString "bisect_left"]) mean mg mb 47 news [.ref l, .str word t1] (fun _ => .bool (fi p0 mid pn word)) := by
  have hp0 := hall p0 (.head _)
  have hpn := hall pn (.tail _ (List.mem_append_right _ (.head _)))
  w_top off
  k_fill
  dsimp only [Cl, CbRet]
  intros; rename_i hret
  refine wpAny_call ?_
  (refine' code_defC ?k1 ?k2 ?k3 ?k4 ?k5 ?kA ?kF ?kK ?k6 ?k7 ?k8 ?k9 ?kB ?kD ?_ ?c2 ?c3 ?c4; (case kA => exact rfl); (case kF => exact rfl); (case kK => assumption); (case k1 => k_asm); (case k2 => k_asm); (case k3 => k_asm); (case k4 => k_asm); (case k5 => k_asm); (case k6 => k_is); (case k7 => k_is); (case k8 => ktr_room); (case k9 => exact BindsTo.of_eq rfl); (case kB => exact rfl); (case kD => decide +kernel); (case c2 => exact rfl); (case c3 => exact rfl); (case c4 => exact rfl); k_whole; intro g' L' h' tk' cells' FG' F' N' Y' B' X' T' l1; (try k_lt l1); k_cells Y'; (try simp only [List.cons_append, List.nil_append] at N'); (try dsimp only); (try k_lift B'); (try k_fold))
  k_steps
  · refine' cb_retB hret ?e ?F ?N
    (case F => k_asm)
    (case N => first | k_asm | (refine' cb_drop ?n ?s; (case n => assumption); (case s => first | exact sub0 | exact sub1 | exact sub2 | exact sub3 | exact sub4)))
    (case e => unfold fi; rw [if_pos (by assumption)])
  · (rename StrsAre _ mid => hSm)
    (rename News _ _ _ _ => N1)
    (rename Fr _ _ _ _ => F1)
    (rename (∀ p ∈ (_ :: _ : List (Addr × Obj)), p.1 ≠ _) => hD)
    (rename Obj.data _ = Data.cell none => dp)
    (rename Obj.data _ = Data.cell (some _) => dw)
    have hne1 : ∀ p ∈ news, p.1 ≠ L' + 1 + 1 := fun p hp => Nat.ne_of_lt (Nat.lt_succ_of_lt (Nat.lt_succ_of_lt (l1 p hp)))
    have hDp := hD _ (.head _)
    have hDw := hD _ (.tail _ (.head _))
    have N2 := swap12 N1
    refine iter_cell1 (y := Str.ofString "here") (j1 := Str.ofString "places") (j2 := Str.ofString "at") (fiJ word pn mid (fi p0 mid pn word)) (by rfl) (by rfl) (by rfl) (by rfl) (.head _) hSm F1 N2 dp ?hne (by rfl) ?hj ?_ ?_ ?hE
    case hne =>
      intro p hp
      rcases List.mem_cons.mp hp with rfl | hp
      · exact Ne.symm hDp
      · rcases List.mem_cons.mp hp with rfl | hp
        · exact Nat.ne_of_lt (Nat.lt_succ_self _)
        · exact hne1 p hp
    case hj =>
      unfold fiJ fi
      rw [List.drop_zero, if_neg (by rw [‹(Txt.slice word none (some (p0.length : Int)) != p0) = false›]; decide)]
    case hE => passes_own
    · clear F1 N1 N2
      intro i q t a ta h tk I oI o' u1 u2 hq hJ F' N' ho'
      have hPl : PlcIs word q := ⟨⟩
      have hBi : BiIs (plc word q) a := plc_bi word q hw a
      have hql : q.length ≤ 1048576 := bd_nn hall q (List.mem_of_getElem? hq)
      k_steps
      all_goals (
        refine' cb_retB hret ?e ?F ?N
        (case F => k_asm)
        (case N => refine' cb_drop ?n ?s; (case n => assumption); (case s => intro p' hp'; kcf_m))
        (case e => exact fiJ_false (by assumption) (by assumption) (by assumption)))
    · clear F1 N1 N2
      intro a t h tk u1 u2 o' hJ F' N'
      k_steps
      all_goals try (
        refine' cb_retB hret ?e ?F ?N
        (case F => k_asm)
        (case N => refine' cb_drop ?n ?s; (case n => assumption); (case s => intro p' hp'; kcf_m))
        (case e => first | exact fiJ_done_d (by assumption) (by assumption) | exact fiJ_done_t (by assumption) (by assumption)))
end
end Mine
end

section
open PySem PySem.W PyProof.Rows
open PySem.Calls PySem.Spec
set_option maxHeartbeats 2000000
namespace Mine
section
variable {prog : Program} {w : World} {A : Around} {E : Value → Shared → Prop} {s : Shared} {h₀ : Heap} {L D : Addr} {news : List (Addr × Obj)} {vs : List Value} {n : Nat} {p q : Str} {r : List Str} {Q : Value → Shared → Prop}
theorem len_s1 (N : News h₀ L s.heap news) (hm : (D, listOf vs.toArray n) ∈ news) (hS : StrsAre vs [p]) (h : ∀ t k, Q (.int 1 t) { s with toks := k }) : wpAny (model prog w) A (call (.builtin "len") [.ref D]) Q E s :=
  len_led N hm hS (by simp) h
theorem len_s2 (N : News h₀ L s.heap news) (hm : (D, listOf vs.toArray n) ∈ news) (hS : StrsAre vs (p :: q :: r)) (hz : r.length ≤ 1000) (h : ∀ t k, Q (.int ((r.length : Int) + 2) t) { s with toks := k }) : wpAny (model prog w) A (call (.builtin "len") [.ref D]) Q E s :=
  len_led N hm hS (by simp; omega) fun t k => by
    have e : ((p :: q :: r).length : Int) = (r.length : Int) + 2 := by simp; omega
    rw [e]; exact h t k
end
theorem eq_int_no {prog : Program} {w : World} {A : Around} {E : Value → Shared → Prop} {s : Shared} {x y : Int} {t u : Tok} {Q : Value → Shared → Prop} (h : ¬ x = y) (hq : Q (.bool false) s) : wpAny (model prog w) A (compareOp .Eq (.int x t) (.int y u)) Q E s :=
  eq_int (by rw [show (x == y) = false by simpa using h]; exact hq)
theorem tr1_a {g p : Str} {here : Int} (h : (p == Str.ofString "") = true) : (p == Str.ofString "") = tr g [p] here := by rw [tr_one, h]; rfl
theorem tr1_b {g p : Str} {here : Int} (h : (p == Str.ofString "") = false) (h2 : here ≤ (g.length : Int) - p.length) : (Txt.slice g (some ((g.length : Int) - p.length)) none == p) = tr g [p] here := by rw [tr_one, h, decide_eq_true h2]; rfl
theorem tr1_c {g p : Str} {here : Int} (h : (p == Str.ofString "") = false) (h2 : ¬ here ≤ (g.length : Int) - p.length) : decide (here ≤ (g.length : Int) - p.length) = tr g [p] here := by rw [tr_one, h, decide_eq_false h2]; rfl
section
local macro_rules | `(tactic| k_mem) => `(tactic| assumption)
local macro_rules | `(tactic| walk_at "subscriptTail Name Constant ref int") => `(tactic| (k_here; (with_reducible show wpAny _ _ (subscriptTail _ _ (Value.ref _) (Value.int 0 _)) _ _ _); (with_unfolding_all refine' item_first ?k1 ?k2 ?k3 ?_ ?k4; (case k1 => k_asm); (case k2 => k_mem); (case k3 => assumption); (case k4 => with_unfolding_all rfl); k_whole); intro t'))
local macro_rules | `(tactic| walk_at "call builtin:len") => `(tactic| (k_here; (with_reducible show wpAny _ _ (call (Value.builtin "len") [Value.str _ _]) _ _ _); (refine P.len_str (by omega) ?_)))
local macro_rules | `(tactic| walk_at "call builtin:len") => `(tactic| (k_here; (with_reducible show wpAny _ _ (call (Value.builtin "len") [Value.ref _]) _ _ _); first | (refine len_s1 (by k_asm) (by k_mem) (by assumption) ?_; intro t' tk') | (refine len_s2 (by k_asm) (by k_mem) (by assumption) (by assumption) ?_; intro t' tk')))
theorem tr_walk1 {w : World} {mean : ExcName → Option Value} {mg mb : Str → Option Value} {news : List (Addr × Obj)} {word : Str} {t1 t3 : Tok} {l : Addr} {vs : List Value} {n : Nat} {p : Str} {here : Int}
   (hm : (l, listOf vs.toArray n) ∈ news) (hS : StrsAre vs [p]) (hw : word.length ≤ 1000) (hp : p.length ≤ 1000) (h0 : 0 ≤ here) (h1 : here ≤ 3000) :
   Cl 1 8 PySem.Challenge.rw_gd0002_01.row.prog w (hd.heap_39 w.params) hd.view_39 (looseW hd.view_39 [Str.ofString "bisect_left"]) mean mg mb 42 news [.ref l, .str word t1, .int here t3] (fun _ => .bool (tr word [p] here)) := by
  w_top off
  k_fill
  dsimp only [Cl, CbRet]
  intros; rename_i hret
  refine wpAny_call ?_
  k_dflt cell_enter
  k_steps
  all_goals (
    refine' cb_retB hret ?e ?F ?N
    (case F => k_asm)
    (case N => first | k_asm | (refine' cb_drop ?n ?s; (case n => assumption); (case s => intro p' hp'; kcf_m)))
    (case e => first | exact tr1_a (by assumption) | exact tr1_b (by assumption) (by assumption) | exact tr1_c (by assumption) (by assumption)))
end

/-- the contract for all pieces of a length -/
def TrOk (w : World) (mean : ExcName → Option Value) (mg mb : Str → Option Value) (word : Str) (ps : List Str) (k : Nat) : Prop :=
  ∀ (news : List (Addr × Obj)) (t1 t3 : Tok) (l : Addr) (vs : List Value) (n : Nat) (here : Int), (l, listOf vs.toArray n) ∈ news → StrsAre vs ps → 0 ≤ here → here ≤ 3000 →
    Cl k (8 * k) PySem.Challenge.rw_gd0002_01.row.prog w (hd.heap_39 w.params) hd.view_39 (looseW hd.view_39 [Str.ofString "bisect_left"]) mean mg mb 42 news [.ref l, .str word t1, .int here t3] (fun _ => .bool (tr word ps here))
theorem tr_call {w : World} {mean : ExcName → Option Value} {mg mb : Str → Option Value} {word : Str} {ps : List Str} {k : Nat} {news : List (Addr × Obj)} {t1 t3 : Tok} {l : Addr} {vs : List Value} {n : Nat} {here : Int}
    {dp un : Nat} {gd : Option (List Code)} {cn : Str} {cs : Scope} {a : Addr} {ccd : Value} {cl : List (Str × Addr)} {outer : List Env} {A₀ : Around} {base h₀ : Heap} {L : Addr} {m : Str → Option Value} {s : Shared} {Q E : Value → Shared → Prop}
    (C : TrOk w mean mg mb word ps k) (hm : (l, listOf vs.toArray n) ∈ news) (hS : StrsAre vs ps) (h0 : 0 ≤ here) (h1 : here ≤ 3000)
    (B : Below A₀ base outer h₀) (F : Fr h₀ L s.heap m) (X : (hd.heap_39 w.params).In h₀) (N : News h₀ L s.heap news) (T : Top hd.view_39 (looseW hd.view_39 [Str.ofString "bisect_left"]) mean mg mb h₀) (hk : cs.kind = .function)
    (hd : dp + k < recursionLimit) (hu : un + 8 * k < cLine) (hret : CbRet h₀ L m news s Q (fun _ => .bool (tr word ps here))) :
    wpAny (model PySem.Challenge.rw_gd0002_01.row.prog w) (ktrTop dp un gd cn cs L a ccd cl outer) (call (.ref 42) [.ref l, .str word t1, .int here t3]) Q E s :=
  C news t1 t3 l vs n here hm hS h0 h1 dp un gd cn cs a ccd cl outer A₀ base h₀ L m s Q E B F X N T hk hd hu hret

section
local macro_rules | `(tactic| k_mem) => `(tactic| assumption)
local macro_rules | `(tactic| walk_at "subscriptTail Name Constant ref int") => `(tactic| (k_here; (with_reducible show wpAny _ _ (subscriptTail _ _ (Value.ref _) (Value.int 0 _)) _ _ _); (with_unfolding_all refine' item_first ?k1 ?k2 ?k3 ?_ ?k4; (case k1 => k_asm); (case k2 => kcf_m); (case k3 => assumption); (case k4 => with_unfolding_all rfl); k_whole); intro t'))
local macro_rules | `(tactic| walk_at "call builtin:len") => `(tactic| (k_here; (with_reducible show wpAny _ _ (call (Value.builtin "len") [Value.str _ _]) _ _ _); (refine P.len_str (by omega) ?_)))
local macro_rules | `(tactic| walk_at "call builtin:len") => `(tactic| (k_here; (with_reducible show wpAny _ _ (call (Value.builtin "len") [Value.ref _]) _ _ _); first | (refine len_s1 (by k_asm) (by k_mem) (by assumption) ?_; intro t' tk') | (refine len_s2 (by k_asm) (by k_mem) (by assumption) (by assumption) ?_; intro t' tk')))
local macro_rules | `(tactic| walk_at "exec For Name Call cons nil") => `(tactic| (k_here; (rename Fr _ _ _ _ => lF'); (with_unfolding_all refine' For_invVF lF' ?k1 ?k2 ?_; (case k1 => exact rfl); (case k2 => exact rfl); k_whole)))
local macro_rules | `(tactic| walk_at "pyIter ref") => `(tactic| (
  k_here
  (with_reducible rename TrIs _ _ _ _ _ => hT')
  k_dflt (refine' iter_range0 (trJof hT') ?hh ?hr ?hs ?hn ?F ?N ?hj ?_ ?_)
  (case hh => rfl)
  (case hr => assumption)
  (case F => k_asm)
  (case N => k_asm)
  (case hs => first | decide | exact small_one (by kcf_bnd) (by kcf_bnd) (by kcf_bnd) (by kcf_bnd))
  (case hn => exact rangeSize_nat _ _)
  (case hj => exact trJ_zero)
  (intro i' t' h' tk' own' hi' hJ' F' N')
  rotate_left
  (intro u' h' tk' hJ' F' N')
  rotate_left))
local macro_rules | `(tactic| walk_at "subscriptTail Name Slice ref ref") => `(tactic| (k_here; (with_reducible show wpAny _ _ (subscriptTail _ (PySem.Expr.Slice _ _ none _) (Value.ref _) (Value.ref _)) _ _ _); k_dflt (refine' slice_tail ?F ?N ?l ?p ?q ?i ?z ?_ ?s ?t; (case F => k_asm); (case N => k_asm); (case l => k_mem); (case p => kmk_part); (case q => kmk_part); (case i => with_reducible assumption); (case z => simp; omega); (case s => with_unfolding_all rfl); (case t => kmk_pure)); intro D' ws' h' hS' F' N' l1; (try k_lt l1)))
local macro_rules | `(tactic| walk_at "call ref") => `(tactic| (
  k_here
  (with_reducible show wpAny _ _ (call (Value.ref 42) [Value.ref _, Value.str _ _, Value.int _ _]) _ _ _)
  (with_reducible rename TrOk _ _ _ _ _ _ _ => C')
  k_dflt (refine' tr_call C' ?k1 ?k2 ?k3 ?k4 ?k5 ?k6 ?k7 ?k8 ?k9 ?ka ?kb ?kc ?_)
  (case k6 => k_asm)
  (case k8 => k_asm)
  (case k1 => k_mem)
  (case k2 => assumption)
  (case k3 => omega)
  (case k4 => omega)
  (case k5 => k_asm)
  (case k7 => k_asm)
  (case k9 => k_asm)
  (case ka => first | exact rfl | assumption)
  (case kb => ktr_room)
  (case kc => ktr_units)
  intro t9 h9 tk9 F9 N9
  (try dsimp only)
  (try k_fold)))
local macro_rules | `(tactic| walk_at "compareOp Eq int int") => `(tactic| (k_here; (refine eq_int_no ?_ ?_; (first | omega | fail "no"))))
local macro_rules | `(tactic| walk_at "InvEnd") => `(tactic| (
  (with_reducible rename trJof _ _ => hJ')
  first
    | (refine InvEnd.intro (by assumption) (by assumption) (by intro p' hp'; kcf_m) ⟨trJ_next1 hJ' (by assumption), ?_⟩; intro z h1; simp [h1])
    | (refine InvEnd.intro (by assumption) (by assumption) (by intro p' hp'; kcf_m) ⟨trJ_next2 hJ' (by assumption), ?_⟩; intro z h1; simp [h1])))
theorem tr_walk2 {w : World} {mean : ExcName → Option Value} {mg mb : Str → Option Value} {news : List (Addr × Obj)} {word : Str} {t1 t3 : Tok} {l : Addr} {vs : List Value} {n : Nat} {p q : Str} {r : List Str} {here : Int}
   (C : TrOk w mean mg mb word (q :: r) (r.length + 1)) (hm : (l, listOf vs.toArray n) ∈ news) (hS : StrsAre vs (p :: q :: r)) (hr : r.length ≤ 1000) (hw : word.length ≤ 1000) (hp : p.length ≤ 1000) (h0 : 0 ≤ here) (h1 : here ≤ 3000) :
   Cl (r.length + 2) (8 * (r.length + 2)) PySem.Challenge.rw_gd0002_01.row.prog w (hd.heap_39 w.params) hd.view_39 (looseW hd.view_39 [Str.ofString "bisect_left"]) mean mg mb 42 news [.ref l, .str word t1, .int here t3] (fun _ => .bool (tr word (p :: q :: r) here)) := by
  have hT : TrIs word p q r here := ⟨⟩
  w_top off
  k_fill
  dsimp only [Cl, CbRet]
  intros; rename_i hret
  refine wpAny_call ?_
  k_dflt cell_enter
  k_steps
  all_goals try (
    refine' cb_retB hret ?e ?F ?N
    (case F => k_asm)
    (case N => first | k_asm | (refine' cb_drop ?n ?s; (case n => assumption); (case s => intro p' hp'; kcf_m)))
    (case e => first | exact trJ_true (by assumption) (by assumption) (by assumption) | exact trJ_done (by assumption)))
end
theorem tr_ok {w : World} {mean : ExcName → Option Value} {mg mb : Str → Option Value} {word : Str} (hw : word.length ≤ 1000) : ∀ (ps : List Str), ps ≠ [] → ps.length ≤ 1000 → (∀ q ∈ ps, q.length ≤ 1000) → TrOk w mean mg mb word ps ps.length
  | [], h, _, _ => absurd rfl h
  | [p], _, _, hq => fun _ _ _ _ _ _ _ hm hS h0 h1 => tr_walk1 hm hS hw (hq p (.head _)) h0 h1
  | p :: q :: r, _, hl, hq => fun _ _ _ _ _ _ _ hm hS h0 h1 =>
    tr_walk2 (tr_ok hw (q :: r) (by simp) (by simp at hl ⊢; omega) fun y hy => hq y (.tail _ hy)) hm hS (by simp at hl; omega) hw (hq p (.head _)) h0 h1
end Mine
end

section
open PySem PySem.W PyProof.Rows
open PySem.Calls PySem.Spec
set_option maxHeartbeats 2000000
namespace Mine
abbrev DrRet (h₀ : Heap) (L : Addr) (m : Str → Option Value) (news : List (Addr × Obj)) (s : Shared) (Q : Value → Shared → Prop) : Prop :=
  ∀ (T D : Addr) (ys : List Value) (qs : List Str) (nn no : Nat) (wd : Str) (tw : Tok) (h' : Heap) (tk' : Nat), StrsAre ys qs → 2 ≤ qs.length → qs.length ≤ 4 → (∀ q ∈ qs, UpAB 2 q) → UpAB 10 wd →
    Fr h₀ L h' m → News h₀ L h' ((T, ({ cls := .type "tuple", data := .seq #[.ref D, .str wd tw] no } : Obj)) :: (D, listOf ys.toArray nn) :: news) → Q (.ref T) { s with heap := h', toks := tk' }
section
local macro_rules | `(tactic| walk_at "one line more than the text before has") => `(tactic| fail)
local macro_rules | `(tactic| walk_at "exec Assign cons ListComp") => `(tactic| (k_here; k_dflt (refine LCg.Assign_ListComp_U (F₀ := by k_asm) (by rfl) (by with_unfolding_all rfl) (by with_unfolding_all rfl) (by decide) (by rfl) (by decide) (by rfl) (by rfl) (by rfl) ?_)))
local macro_rules | `(tactic| walk_at "eval ListComp") => `(tactic| (k_here; k_dflt (refine LCg.ListComp_U (F₀ := by k_asm) (by with_unfolding_all rfl) (by decide) (by rfl) (by decide) (by rfl) ?_)))
local macro_rules | `(tactic| walk_at "binaryOp Mod int int") => `(tactic| (k_here; (refine mod_small (by decide) ?_); intro r' t' tk' hm1' hm2'))
local macro_rules | `(tactic| walk_at "subscriptTail Name BinOp ref int") => `(tactic| (
  k_here
  (with_reducible show wpAny _ _ (subscriptTail _ _ (Value.ref _) (Value.int _ _)) _ _ _)
  (with_unfolding_all refine' item_int_led ?k1 ?k2 ?k3 ?h0 ?h1 ?kz ?_ ?k4 ?k5)
  (case k1 => k_asm)
  (case k2 => kcf_m)
  (case k3 => assumption)
  (case h0 => omega)
  (case h1 => omega)
  (case kz => omega)
  (case k4 => with_unfolding_all rfl)
  (case k5 => intro _; with_unfolding_all rfl)
  intro t'))
local macro_rules | `(tactic| walk_at "subscriptTail Name Slice ref ref") => `(tactic| (
  k_here
  (with_reducible show wpAny _ _ (subscriptTail _ (PySem.Expr.Slice _ _ none _) (Value.ref _) (Value.ref _)) _ _ _)
  k_dflt (refine' slice_ints_led ?F ?N ?l ?p ?q ?i ?h0 ?h1 ?z ?_ ?s ?t)
  (case F => k_asm)
  (case N => k_asm)
  (case l => kcf_m)
  (case p => kmk_part)
  (case q => kmk_part)
  (case i => with_reducible assumption)
  (case h0 => omega)
  (case h1 => omega)
  (case z => omega)
  (case s => with_unfolding_all rfl)
  (case t => kmk_pure)
  intro D' ws' ms' h' hI' hL' F' N' l1
  (try k_lt l1)))
local macro_rules | `(tactic| walk_at "subscriptTail Constant") => `(tactic| (
  k_here
  (with_reducible show wpAny _ _ (subscriptTail _ _ (Value.str _ _) (Value.int _ _)) _ _ _)
  (with_unfolding_all refine' item_ab ?h0 ?h1 ?_ ?k4 ?k5)
  (case h0 => omega)
  (case h1 => omega)
  (case k4 => with_unfolding_all rfl)
  (case k5 => intro _; with_unfolding_all rfl)
  intro r' t' k' hr'))
local macro_rules | `(tactic| walk_at "CompSrc") => `(tactic| (
  k_here
  k_dflt (refine' LCg.CompSrc.ledger ?hh ?F ?N ?hm ?hz ?_)
  (case hh => k_dflt rfl)
  (case F => k_asm)
  (case N => k_asm)
  (case hm => kcf_m)
  (case hz => rw [PySem.sizeLine_eq, List.size_toArray]; omega)
  intro g'
  k_dflt (refine' comp_strs_led ?hI OneAB ?_ ?_)
  (case hI => with_reducible assumption)
  (intro k' t' I' oI' C' oC' D' m' ys' h' tk' E' hk' hC' hx' F' N' off' ne')
  (try simp only [LCg.Off3, and_true] at off')
  rotate_left
  (intro ys' qs' hS' hq' hP')
  rotate_left))
local macro_rules | `(tactic| walk_at "call builtin:str.join") => `(tactic| (
  k_here
  (with_reducible rename (∀ q ∈ _, OneAB q) => hP')
  k_dflt (refine' join_led ?N ?hm ?hS ?hB ?hn ?hx ?_)
  (case N => k_asm)
  (case hm => kcf_m)
  (case hS => with_reducible assumption)
  (case hB => intro q' hq'; have := (hP' q' hq').1; omega)
  (case hn => omega)
  (case hx => decide +kernel)
  intro t' k'))
local macro_rules | `(tactic| walk_at "CompEnd") => `(tactic| (k_here; first
  | (refine end_str (P := OneAB) (by k_asm) (by k_asm) (by first | exact sub0 | exact sub1 | exact sub2) (by assumption) (by first | exact trivial | assumption | lcg_src) ?_; assumption)
  | (refine end_str (P := UpAB 2) (by k_asm) (by k_asm) (by first | exact sub0 | exact sub1 | exact sub2) (by assumption) (by first | exact trivial | assumption | lcg_src) ?_; exact join_ones_up (by assumption) (by omega))))
theorem dr_walk {w : World} {mean : ExcName → Option Value} {mg mb : Str → Option Value} {news : List (Addr × Obj)} {l : Addr} {vs : List Value} {ns : List Int}
    (dp un : Nat) (gd : Option (List Code)) (cn : Str) (cs : Scope) (a : Addr) (ccd : Value) (cl : List (Str × Addr)) (outer : List Env) (A₀ : Around) (base h₀ : Heap) (L : Addr) (m : Str → Option Value) (s : Shared) (Q E : Value → Shared → Prop)
    (B : Below A₀ base outer h₀) (F : Fr h₀ L s.heap m) (N : News h₀ L s.heap news) (T : Top hd.view_39 (looseW hd.view_39 [Str.ofString "bisect_left"]) mean mg mb h₀) (hk : cs.kind = .function)
    (hl : h₀.IsList l vs.toArray) (hI : IntsAre vs ns) (hz : ns.length ≤ 63)
    (hdp : dp + 1 < recursionLimit) (hu : un + 8 < cLine) (hret : DrRet h₀ L m news s Q) :
      (hd.heap_39 w.params).In h₀ → wpAny (model PySem.Challenge.rw_gd0002_01.row.prog w) (ktrTop dp un gd cn cs L a ccd cl outer) (call (.ref 35) [.ref l]) Q E s := by
  w_top off
  k_fill
  intro X
  refine wpAny_call ?_
  (refine' code_defC ?k1 ?k2 ?k3 ?k4 ?k5 ?kA ?kF ?kK ?k6 ?k7 ?k8 ?k9 ?kB ?kD ?_ ?c2 ?c3 ?c4; (case kA => exact rfl); (case kF => exact rfl); (case kK => assumption); (case k1 => k_asm); (case k2 => k_asm); (case k3 => k_asm); (case k4 => k_asm); (case k5 => k_asm); (case k6 => k_is); (case k7 => k_is); (case k8 => ktr_room); (case k9 => exact BindsTo.of_eq rfl); (case kB => exact rfl); (case kD => decide +kernel); (case c2 => exact rfl); (case c3 => exact rfl); (case c4 => exact rfl); k_whole; intro g' L' h' tk' cells' FG' F' N' Y' B' X' T' l1; (try k_lt l1); k_cells Y'; (try simp only [List.cons_append, List.nil_append] at N'); (try dsimp only); (try k_lift B'); (try k_fold))
  have hl' : g'.IsList l vs.toArray := hl.at fun o e => FG'.keep _ o e
  k_steps
  (rename Obj.data _ = Data.cell none => dr)
  rename_i D ws hh F1 N1 hR hC hL hlt
  have hrl : (List.take 20 (ns ++ (List.replicate 20 [0]).flatten)).length = 20 := by simp
  generalize List.take 20 (ns ++ (List.replicate 20 [0]).flatten) = row at hR hrl
  clear hC hL
  refine store_cell F1 N1 (by rfl) (by k_mem) dr (rest := (D, listOf ws.toArray 0) :: news) ?hne ?hsub ?_ (by rfl) (by rfl)
  case hne =>
    intro p hp
    rcases List.mem_cons.mp hp with rfl | hp
    · exact Nat.ne_of_gt hlt.2.2.2.1
    · exact Nat.ne_of_lt (Nat.lt_succ_of_lt (l1 p hp))
  case hsub =>
    intro p hp
    rcases List.mem_cons.mp hp with rfl | hp
    · exact .head _
    · exact .tail _ (.tail _ (.tail _ (.tail _ (.tail _ hp))))
  intro h1 o1 F2 N2 d1
  clear F1 N1
  iterate 19 walk1
  rename_i h5 tk5 _ _ _ hrg F5 N5 _
  refine LCg.CompSrc.range (by rfl) F5 N5 hrg (by first | decide | exact small_one (by kcf_bnd) (by kcf_bnd) (by kcf_bnd) (by kcf_bnd)) (by exact rangeSize_nat _ _) (by rw [PySem.sizeLine_eq]; omega) ?_
  intro g'
  refine comp_strs (ks := rangeKs 0 _) (UpAB 2) (rangeKs_length _ _) ?_ ?_ ?_
  · rintro i v hi ⟨t, rfl⟩
    exact ⟨0 + (i : Int), t, by rw [rangeKs, List.getElem?_map, List.getElem?_range hi]; rfl, rfl⟩
  · intro k t I oI C oC D9 m₂ ys h tk E' hk hC hx F6 N6 off ne
    have hk0 := (mem_rangeKs hk).1
    have hk3 := (mem_rangeKs hk).2
    (try simp only [LCg.Off3, and_true] at off)
    k_steps
  · intro ys qs hS hq hP
    k_steps
    refine' hret _ _ _ _ _ _ _ _ _ _ hS ?za ?zb hP (join_ones_up (n := 10) (by assumption) (by omega)) ?zF ?zN
    (case zF => k_asm)
    (case zN => refine' cb_drop ?zn ?zs; (case zn => assumption); (case zs => kcf_all))
    (case za => omega)
    (case zb => omega)
end
end Mine
end

section
open PySem PySem.W PyProof.Rows
open PySem.Calls PySem.Spec
set_option maxHeartbeats 2000000
namespace Mine
section
local macro_rules | `(tactic| walk_at "compareOp NotIn str str") => `(tactic| (k_here; refine notin_true (by assumption) ?_))
theorem em_walk_b {w : World} {mean : ExcName → Option Value} {mg mb : Str → Option Value} {news : List (Addr × Obj)} {want got : Str} {t1 t2 : Tok}
   (hnone : (Builtin.Str.occurrences want (Str.ofString "...") 0 want.length 1).isEmpty = true) :
   CbClaim PySem.Challenge.rw_gd0002_01.row.prog w (hd.heap_39 w.params) hd.view_39 (looseW hd.view_39 [Str.ofString "bisect_left"]) mean mg mb 21 news [] True [.str want t1, .str got t2] (fun _ => .bool (want == got)) := by
  w_top off
  k_fill
  dsimp only [CbClaim, CbLists, CbRet]
  intros; rename_i hret
  refine wpAny_call ?_
  k_dflt cell_enter
  k_steps
  all_goals (
    refine' cb_retB hret ?e ?F ?N
    (case F => k_asm)
    (case N => k_asm)
    (case e => rfl))
end
/-- what the def answers on two texts -/
def EmIs (want got : Str) (b : Bool) : Prop :=
  (∃ p0 mid pn, (Builtin.Str.occurrences want (Str.ofString "...") 0 want.length 1).isEmpty = false ∧ Txt.split want (Str.ofString "...") = p0 :: (mid ++ [pn]) ∧ want.length ≤ 1048576 ∧ got.length ≤ 1048576 ∧ mid.length ≤ 1000000 ∧
    (∀ q ∈ p0 :: (mid ++ [pn]), q.length ≤ 1048576) ∧ em p0 mid pn got = b) ∨
  ((Builtin.Str.occurrences want (Str.ofString "...") 0 want.length 1).isEmpty = true ∧ (want == got) = b)
theorem em_call {w : World} {mean : ExcName → Option Value} {mg mb : Str → Option Value} {news : List (Addr × Obj)} {want got : Str} {t1 t2 : Tok} {b : Bool}
    {dp un : Nat} {gd : Option (List Code)} {cn : Str} {cs : Scope} {a : Addr} {ccd : Value} {cl : List (Str × Addr)} {outer : List Env} {A₀ : Around} {base h₀ : Heap} {L : Addr} {m : Str → Option Value} {s : Shared} {Q E : Value → Shared → Prop}
    (hE : EmIs want got b)
    (B : Below A₀ base outer h₀) (F : Fr h₀ L s.heap m) (X : (hd.heap_39 w.params).In h₀) (N : News h₀ L s.heap news) (T : Top hd.view_39 (looseW hd.view_39 [Str.ofString "bisect_left"]) mean mg mb h₀) (hk : cs.kind = .function)
    (hdp : dp + 1 < recursionLimit) (hu : un + 8 < cLine) (hret : CbRet h₀ L m news s Q (fun _ => .bool b)) :
    wpAny (model PySem.Challenge.rw_gd0002_01.row.prog w) (ktrTop dp un gd cn cs L a ccd cl outer) (call (.ref 21) [.str want t1, .str got t2]) Q E s := by
  rcases hE with ⟨p0, mid, pn, h1, h2, h3, h4, h5, h6, h7⟩ | ⟨h1, h2⟩
  · subst h7
    exact em_walk h1 h2 h3 h4 h5 h6 dp un gd cn cs a ccd cl outer A₀ base h₀ L m s Q E B F X N T hk trivial hdp hu hret
  · subst h2
    exact em_walk_b h1 dp un gd cn cs a ccd cl outer A₀ base h₀ L m s Q E B F X N T hk trivial hdp hu hret
end Mine
end

section
open PySem PySem.W PyProof.Rows
open PySem.Calls PySem.Spec
namespace Mine
def letters (wd : Str) : List Str := wd.cps.toList.map fun c => (⟨#[c]⟩ : Str)
abbrev dots : Str := Str.ofString "..."
structure LawF (p0 : Str) (mid : List Str) (pn wd : Str) (b1 d : Bool) : Prop where
  hb : (Txt.slice wd none (some (p0.length : Int)) == p0) = b1
  ht : b1 = true → tr wd (mid ++ [pn]) p0.length = d
  hf : fi p0 mid pn wd = (b1 && d)
  e1 : EmIs (Txt.join (Str.ofString "...") (p0 :: (mid ++ [pn]))) wd (b1 && d)
  e2 : EmIs (Txt.join (Str.ofString "...") (p0 :: (mid ++ [pn]))) (Txt.join (Str.ofString "ab") (p0 :: (mid ++ [pn]))) true
  e3 : EmIs (Txt.join (Str.ofString "...") (p0 :: (mid ++ [pn]))) (Txt.join (Str.ofString "") (p0 :: (mid ++ [pn]))) true
  e4 : (b1 && d) = true → EmIs (Txt.join (Str.ofString "...") (p0 :: (mid ++ [pn])) ++ Str.ofString "..." ++ Txt.join (Str.ofString "...") (p0 :: (mid ++ [pn]))) (wd ++ Str.ofString "b" ++ wd) true
  e5 : (wd != Str.ofString "") = true → EmIs (Txt.join (Str.ofString "...") (letters wd)) wd true
  e6 : EmIs (Str.ofString "..." ++ Txt.join (Str.ofString "...") (p0 :: (mid ++ [pn])) ++ Str.ofString "...") (Str.ofString "a" ++ Txt.join (Str.ofString "ab") (p0 :: (mid ++ [pn])) ++ Str.ofString "b") true
  l1 : (Txt.join (Str.ofString "...") (p0 :: (mid ++ [pn]))).length ≤ 1000
  l2 : (Txt.join (Str.ofString "ab") (p0 :: (mid ++ [pn]))).length ≤ 1000
  l3 : wd.length ≤ 10
  l4 : (Txt.join (Str.ofString "...") (p0 :: (mid ++ [pn])) ++ Str.ofString "...").length ≤ 10000
  l5 : (wd ++ Str.ofString "b").length ≤ 10000
  l6 : (Str.ofString "..." ++ Txt.join (Str.ofString "...") (p0 :: (mid ++ [pn]))).length ≤ 10000
  l7 : (Str.ofString "a" ++ Txt.join (Str.ofString "ab") (p0 :: (mid ++ [pn]))).length ≤ 10000
  m1 : mid.length ≤ 2
  m2 : ∀ q ∈ p0 :: (mid ++ [pn]), q.length ≤ 2
  m3 : ∀ q ∈ letters wd, q.length ≤ 1000
  m4 : (letters wd).length ≤ 10

section
variable {prog : Program} {w : World} {A : Around} {E : Value → Shared → Prop} {s : Shared} {x y : Str} {t u : Tok} {Q : Value → Shared → Prop}
theorem eq_str_is {b : Bool} (h : (x == y) = b) (hq : Q (.bool b) s) : wpAny (model prog w) A (compareOp .Eq (.str x t) (.str y u)) Q E s := by
  refine P.eq_str ?_
  rw [← h] at hq
  rw [eq_meets]; exact hq
theorem add_small (hx : x.length ≤ 100000) (hy : y.length ≤ 100000) (h : ∀ t' k, Q (.str (x ++ y) t') { s with toks := k }) : wpAny (model prog w) A (binaryOp .Add (.str x t) (.str y u)) Q E s :=
  KXadd.add (Nat.le_refl _) (Nat.le_refl _) (by omega) fun t' k _ => h t' k
end
theorem fi_call {w : World} {mean : ExcName → Option Value} {mg mb : Str → Option Value} {news : List (Addr × Obj)} {word : Str} {t1 : Tok} {l : Addr} {vs : List Value} {n : Nat} {p0 pn : Str} {mid : List Str} {b : Bool}
    {dp un : Nat} {gd : Option (List Code)} {cn : Str} {cs : Scope} {a : Addr} {ccd : Value} {cl : List (Str × Addr)} {outer : List Env} {A₀ : Around} {base h₀ : Heap} {L : Addr} {m : Str → Option Value} {s : Shared} {Q E : Value → Shared → Prop}
    (hm : (l, listOf vs.toArray n) ∈ news) (hS : StrsAre vs (p0 :: (mid ++ [pn]))) (hw : word.length ≤ 1000000) (hmid : mid.length ≤ 1000000) (hall : ∀ q ∈ p0 :: (mid ++ [pn]), q.length ≤ 1048576) (hb : fi p0 mid pn word = b)
    (B : Below A₀ base outer h₀) (F : Fr h₀ L s.heap m) (X : (hd.heap_39 w.params).In h₀) (N : News h₀ L s.heap news) (T : Top hd.view_39 (looseW hd.view_39 [Str.ofString "bisect_left"]) mean mg mb h₀) (hk : cs.kind = .function)
    (hdp : dp + 2 < recursionLimit) (hu : un + 16 < cLine) (hret : CbRet h₀ L m news s Q (fun _ => .bool b)) :
    wpAny (model PySem.Challenge.rw_gd0002_01.row.prog w) (ktrTop dp un gd cn cs L a ccd cl outer) (call (.ref 47) [.ref l, .str word t1]) Q E s := by
  subst hb
  exact fi_walk hm hS hw hmid hall dp un gd cn cs a ccd cl outer A₀ base h₀ L m s Q E B F X N T hk hdp hu hret
theorem tr_call_is {w : World} {mean : ExcName → Option Value} {mg mb : Str → Option Value} {word : Str} {ps : List Str} {news : List (Addr × Obj)} {t1 t3 : Tok} {l : Addr} {vs : List Value} {n : Nat} {here : Int} {b : Bool}
    {dp un : Nat} {gd : Option (List Code)} {cn : Str} {cs : Scope} {a : Addr} {ccd : Value} {cl : List (Str × Addr)} {outer : List Env} {A₀ : Around} {base h₀ : Heap} {L : Addr} {m : Str → Option Value} {s : Shared} {Q E : Value → Shared → Prop}
    (hb : tr word ps here = b) (hw : word.length ≤ 1000) (hne : ps ≠ []) (hl : ps.length ≤ 3) (hq : ∀ q ∈ ps, q.length ≤ 1000) (hm : (l, listOf vs.toArray n) ∈ news) (hS : StrsAre vs ps) (h0 : 0 ≤ here) (h1 : here ≤ 3000)
    (B : Below A₀ base outer h₀) (F : Fr h₀ L s.heap m) (X : (hd.heap_39 w.params).In h₀) (N : News h₀ L s.heap news) (T : Top hd.view_39 (looseW hd.view_39 [Str.ofString "bisect_left"]) mean mg mb h₀) (hk : cs.kind = .function)
    (hdp : dp + 3 < recursionLimit) (hu : un + 24 < cLine) (hret : CbRet h₀ L m news s Q (fun _ => .bool b)) :
    wpAny (model PySem.Challenge.rw_gd0002_01.row.prog w) (ktrTop dp un gd cn cs L a ccd cl outer) (call (.ref 42) [.ref l, .str word t1, .int here t3]) Q E s := by
  subst hb
  exact tr_call (tr_ok hw ps hne (by omega) hq) hm hS h0 h1 B F X N T hk (by omega) (by omega) hret
end Mine
end

section
open PySem PySem.W PyProof.Rows
open PySem.Calls PySem.Spec
namespace Mine
section
variable {prog : Program} {w : World} {A : Around} {E : Value → Shared → Prop} {s : Shared} {h₀ : Heap} {L : Addr} {m : Str → Option Value} {news : List (Addr × Obj)} {env : Env} {iter : PySem.Expr} {x : Str} {px px' : Pos} {scope : Scope} {pos : Pos} {Q : Value → Shared → Prop}
def LtrSrc (h₀ : Heap) (L : Addr) (m : Str → Option Value) (news : List (Addr × Obj)) (Q : Value → Shared → Prop) (xv : Value) (s₁ : Shared) : Prop :=
  ∃ y t, xv = .str y t ∧ y.length ≤ sizeLine ∧ Fr h₀ L s₁.heap m ∧ News h₀ L s₁.heap news ∧ ∀ D ys h' tk, Fr h₀ L h' m → News h₀ L h' news → h'.IsList D ys.toArray → StrsAre ys (letters y) → Q (.ref D) { s₁ with heap := h', toks := tk }
theorem comp_letters (_F₀ : Fr h₀ L s.heap m) (_N₀ : News h₀ L s.heap news) (hh : A.handled = none) (h1 : ∀ y ∈ scope.names, y.2 ≠ NameKind.free) (h2 : ∀ y ∈ scope.names, y.2 ≠ NameKind.cell) (h3 : scope.kind = .function)
    (h4 : ∀ y ∈ scope.names, y.2 = NameKind.local → scope.names.lookup y.1 = some NameKind.local) (h5 : scope.names.lookup x = some NameKind.local) (h6 : (x == Str.ofString "__debug__") = false)
    (h : wpAny (model prog w) A (eval iter env) (fun xv s₁ => LtrSrc h₀ L m news Q xv s₁) E s) (hf : ∀ x, foldedSetIterable iter env x = pure x) :
    wpAny (model prog w) A (eval (.ListComp (.Name x px') [{ target := .Name x px, iter := iter, ifs := [], is_async := 0 }] scope pos) env) Q E s := by
  refine ListComp_signsD (h₀ := h₀) (L := L) (m := m) (news := news) (pz := fun _ => true) (d := PyData.str) hh h1 h2 h3 h4 h5 ?_ hf
  refine wpAny_mono h (fun xv s₁ hq => ?_) fun _ _ e => e
  obtain ⟨y, t, e, hl, F, N, hQ⟩ := hq
  refine ⟨y, t, e, hl, F, N, ?_, ?_, ?_⟩
  · intro C a v s₂ m₂ E' hi hn hm
    exact wpAny_pure ⟨rfl, s₂.heap, s₂.toks, rfl, fun _ _ h => h⟩
  · intro C a v s₂ m₂ E' hi _ hn hm
    refine PySem.ldK (s₂ := s₂) (m := m₂) ?_ h3 h5 hm ?_ h6
    · constructor <;> first | exact hn | rfl | exact fun _ _ h => h | exact ⟨s₂.heap, s₂.toks, rfl⟩
    · obtain ⟨t', rfl⟩ := hi
      exact ⟨.str _ _, s₂.heap, s₂.toks, rfl, fun _ _ h => h⟩
  · intro D ys h' tk F' N' _ hL _ hC
    refine hQ D ys h' tk F' N' hL (StrsAre.ofCarried ?_)
    rw [List.filter_eq_self.mpr (fun _ _ => rfl)] at hC
    exact hC
theorem join_letters {D : Addr} {ys : List Value} {t : Tok} {wd : Str} (hL : s.heap.IsList D ys.toArray) (hS : StrsAre ys (letters wd)) (hB : ∀ q ∈ letters wd, q.length ≤ 1000) (hn : (letters wd).length ≤ 10)
    (h : ∀ t' k, Q (.str (Txt.join (Str.ofString "...") (letters wd)) t') { s with toks := k }) : wpAny (model prog w) A (call (.builtin "str.join") [.str (Str.ofString "...") t, .ref D]) Q E s := by
  refine join_list hL (by simpa using hS) ?_ h
  have h1 := StrLaws.sumLen_le _ hB
  have h2 : (letters wd).length * 1000 ≤ 10 * 1000 := Nat.mul_le_mul_right _ hn
  have h3 : (Str.ofString "...").length = 3 := by decide +kernel
  rw [h3]
  omega
end
end Mine
end

section
open PySem PySem.W PyProof.Rows
namespace Mine
def tl (x : Str) : List Nat := x.cps.toList
theorem tl_len (x : Str) : x.length = (tl x).length := rfl
theorem tl_inj {x y : Str} (h : tl x = tl y) : x = y := by
  cases x; cases y; unfold tl at h; simp only [Str.mk.injEq]; exact Array.toList_inj.mp h
theorem tl_app (x y : Str) : tl (x ++ y) = tl x ++ tl y := by unfold tl; rw [Str.cps_append]; simp
/-- the last piece ends the text and the pieces before it have places, one after the other, from k on -/
def Tl (G pn : List Nat) : List (List Nat) → Nat → Prop
  | [], k => k + pn.length ≤ G.length ∧ pn <:+ G
  | w :: r, k => ∃ i, k ≤ i ∧ i + w.length ≤ G.length ∧ w <+: G.drop i ∧ Tl G pn r (i + w.length)
theorem Tl_mono {G pn : List Nat} {ps : List (List Nat)} {k k' : Nat} (h : Tl G pn ps k) (hk : k' ≤ k) : Tl G pn ps k' := by
  cases ps with
  | nil => exact ⟨by have := h.1; omega, h.2⟩
  | cons w r => obtain ⟨i, h1, h2⟩ := h; exact ⟨i, by omega, h2⟩
theorem Tl_le {G pn : List Nat} {ps : List (List Nat)} {k : Nat} (h : Tl G pn ps k) : k + pn.length ≤ G.length ∧ pn <:+ G := by
  induction ps generalizing k with
  | nil => exact h
  | cons w r ih => obtain ⟨i, h1, h2, h3, h4⟩ := h; have := ih h4; exact ⟨by omega, this.2⟩
theorem Tl_nil_cons {G pn : List Nat} {ps : List (List Nat)} : Tl G pn ([] :: ps) 0 ↔ Tl G pn ps 0 := by
  constructor
  · rintro ⟨i, h1, h2, h3, h4⟩; exact Tl_mono h4 (by omega)
  · intro h; exact ⟨0, Nat.le_refl _, by simp, List.nil_prefix, by simpa using h⟩
theorem Tl_nil_last {G : List Nat} {ps : List (List Nat)} {k : Nat} : Tl G [] (ps ++ [[]]) k ↔ Tl G [] ps k := by
  induction ps generalizing k with
  | nil =>
    constructor
    · rintro ⟨i, h1, h2, h3, h4⟩; exact Tl_mono (ps := []) h4 (by omega)
    · intro h; exact ⟨k, Nat.le_refl _, by have := h.1; simpa using this, List.nil_prefix, by simpa using h⟩
  | cons w r ih =>
    constructor
    · rintro ⟨i, h1, h2, h3, h4⟩; exact ⟨i, h1, h2, h3, ih.mp h4⟩
    · rintro ⟨i, h1, h2, h3, h4⟩; exact ⟨i, h1, h2, h3, ih.mpr h4⟩
/-- join -/
def jn (s : List Nat) : List (List Nat) → List Nat
  | [] => []
  | [p] => p
  | p :: q :: r => p ++ s ++ jn s (q :: r)
theorem jn_cons {s p : List Nat} {r : List (List Nat)} (h : r ≠ []) : jn s (p :: r) = p ++ s ++ jn s r := by
  cases r with
  | nil => exact absurd rfl h
  | cons q r => rfl
theorem jn_app {s : List Nat} {a b : List (List Nat)} (ha : a ≠ []) (hb : b ≠ []) : jn s (a ++ b) = jn s a ++ s ++ jn s b := by
  induction a with
  | nil => exact absurd rfl ha
  | cons p r ih =>
    cases r with
    | nil => exact jn_cons hb
    | cons q r =>
      rw [List.cons_append, jn_cons (by simp), ih (by simp), jn_cons (r := q :: r) (by simp)]
      simp only [List.append_assoc]
theorem tl_join (s : Str) (ps : List Str) : tl (Txt.join s ps) = jn (tl s) (ps.map tl) := by
  have e : Txt.join s ps = Str.join s ps := StrLaws.glued_eq_join _ _
  rw [e]
  induction ps with
  | nil => rfl
  | cons p r ih =>
    cases r with
    | nil => rfl
    | cons q r =>
      have e1 : Str.join s (p :: q :: r) = p ++ s ++ Str.join s (q :: r) := rfl
      rw [e1, tl_app, tl_app, ih (StrLaws.glued_eq_join _ _)]
      rfl
theorem jn_len {s : List Nat} {B : Nat} {ps : List (List Nat)} (h : ∀ q ∈ ps, q.length ≤ B) : (jn s ps).length ≤ ps.length * (B + s.length) := by
  induction ps with
  | nil => simp [jn]
  | cons p r ih =>
    have hp := h p (.head _)
    have hr := ih fun q hq => h q (.tail _ hq)
    cases r with
    | nil => simp only [jn, List.length_cons, List.length_nil]; omega
    | cons q r =>
      rw [jn_cons (by simp)]
      simp only [List.length_append]
      rw [List.length_cons (as := q :: r), Nat.succ_mul]
      omega
theorem drop_app_self (A B : List Nat) : (A ++ B).drop A.length = B := by simp
theorem drop_app_at (A B : List Nat) (k : Nat) (h : k ≤ A.length) : (A ++ B).drop k = A.drop k ++ B := by
  rw [List.drop_append_of_le_length h]
theorem Tl_jn {s pn : List Nat} : ∀ (mid : List (List Nat)) (A : List Nat) (k : Nat), k ≤ A.length → Tl (A ++ jn s (mid ++ [pn])) pn mid k
  | [], A, k, h => by
    refine ⟨?_, ?_⟩
    · show k + pn.length ≤ (A ++ pn).length
      rw [List.length_append]; omega
    · exact List.suffix_append A pn
  | w :: r, A, k, h => by
    have e : A ++ jn s (w :: r ++ [pn]) = (A ++ w ++ s) ++ jn s (r ++ [pn]) := by
      rw [List.cons_append, jn_cons (by simp)]; simp only [List.append_assoc]
    refine ⟨A.length, h, ?_, ?_, ?_⟩
    · rw [e]; simp only [List.length_append]; omega
    · rw [List.cons_append, jn_cons (by simp), drop_app_self, List.append_assoc]; exact List.prefix_append _ _
    · rw [e]; exact Tl_jn r (A ++ w ++ s) _ (by simp only [List.length_append]; omega)
theorem Tl_jn_all {s Z : List Nat} : ∀ (ps : List (List Nat)) (A : List Nat) (k : Nat), k ≤ A.length → Tl (A ++ jn s ps ++ Z) [] ps k
  | [], A, k, h => ⟨by simp only [List.length_append, List.length_nil]; omega, List.nil_suffix⟩
  | [w], A, k, h => by
    refine ⟨A.length, h, ?_, ?_, ?_, List.nil_suffix⟩
    · simp only [List.length_append, jn]; omega
    · rw [List.append_assoc, drop_app_self]; exact List.prefix_append _ _
    · simp only [List.length_append, jn, List.length_nil]; omega
  | w :: q :: r, A, k, h => by
    have e : A ++ jn s (w :: q :: r) ++ Z = (A ++ w ++ s) ++ jn s (q :: r) ++ Z := by
      rw [jn_cons (by simp)]; simp only [List.append_assoc]
    refine ⟨A.length, h, ?_, ?_, ?_⟩
    · rw [e]; simp only [List.length_append]; omega
    · rw [jn_cons (by simp)]; simp only [List.append_assoc]; rw [drop_app_self]; exact List.prefix_append _ _
    · rw [e]; exact Tl_jn_all (q :: r) (A ++ w ++ s) _ (by simp only [List.length_append]; omega)
theorem Tl_chain {W Z pn qn : List Nat} {rest : List (List Nat)} : ∀ (mid : List (List Nat)) (k : Nat), Tl W pn mid k → Tl (W ++ Z) qn rest W.length → Tl (W ++ Z) qn (mid ++ pn :: rest) k
  | [], k, h, hr => by
    obtain ⟨h1, Y, h2⟩ := h
    have hl : W.length = Y.length + pn.length := by rw [← h2, List.length_append]
    refine ⟨Y.length, by omega, ?_, ?_, ?_⟩
    · rw [List.length_append]; omega
    · rw [← h2, List.append_assoc, drop_app_self]; exact List.prefix_append _ _
    · rw [← hl]; exact hr
  | w :: r, k, h, hr => by
    obtain ⟨i, h1, h2, h3, h4⟩ := h
    refine ⟨i, h1, ?_, ?_, Tl_chain r _ h4 hr⟩
    · rw [List.length_append]; omega
    · rw [drop_app_at _ _ _ (by omega)]; exact h3.trans (List.prefix_append _ _)
theorem Tl_shift {W pn A : List Nat} : ∀ (mid : List (List Nat)) (k : Nat), Tl W pn mid k → Tl (A ++ W) pn mid (A.length + k)
  | [], k, h => ⟨by rw [List.length_append]; have := h.1; omega, h.2.trans (List.suffix_append _ _)⟩
  | w :: r, k, h => by
    obtain ⟨i, h1, h2, h3, h4⟩ := h
    refine ⟨A.length + i, by omega, ?_, ?_, ?_⟩
    · rw [List.length_append]; omega
    · rw [← List.drop_drop, drop_app_self]; exact h3
    · rw [Nat.add_assoc]; exact Tl_shift r _ h4
end Mine
end

section
open PySem PySem.W PyProof.Rows
open Builtin.Str
namespace Mine
theorem at_iff {g w : Str} {hi i : Nat} : StrLaws.At g w hi i ↔ i + w.length ≤ hi ∧ tl w <+: (tl g).drop i := by
  unfold StrLaws.At
  rw [StrLaws.subAt_eq, List.prefix_iff_eq_take, beq_iff_eq]
  exact ⟨fun h => ⟨h.1, h.2.symm⟩, fun h => ⟨h.1, h.2.symm⟩⟩
theorem fnd_spec (g w : Str) (lo hi : Nat) : (fnd g w lo hi = -1 ∧ ∀ i, lo ≤ i → ¬ StrLaws.At g w hi i) ∨ ∃ i : Nat, fnd g w lo hi = (i : Int) ∧ lo ≤ i ∧ StrLaws.At g w hi i ∧ ∀ k, lo ≤ k → k < i → ¬ StrLaws.At g w hi k := by
  have hin : ∀ i, lo ≤ i → StrLaws.At g w hi i → i ∈ List.range' lo (hi + 1 - lo) := by
    intro i h1 h2
    rw [List.mem_range'_1]
    have := h2.1
    omega
  have ho := StrLaws.occ_eq g w lo hi 1
  rcases StrLaws.occ_first g w hi 1 (Nat.le_refl _) (List.range' lo (hi + 1 - lo)) lo (fun i h => (List.mem_range'_1.mp h).1) with ⟨h1, h2⟩ | ⟨pre, a, post, h1, h2, h3, h4⟩
  · left
    rw [h1] at ho
    refine ⟨?_, fun i hl ha => h2 i (hin i hl ha) ha⟩
    unfold fnd; rw [ho]
  · right
    have hp : (pre ++ a :: post).Pairwise (· < ·) := by rw [← h1]; exact List.pairwise_lt_range'
    refine ⟨a, ?_, ?_, h3, ?_⟩
    · unfold fnd
      rw [← Array.getElem?_toList, ← ho] at h2
      cases hc : occurrences g w lo hi 1 with
      | nil => rw [hc] at h2; exact absurd h2 (by simp)
      | cons b r => rw [hc] at h2; simp only [List.getElem?_cons_zero, Option.some.injEq] at h2; simp only [h2]
    · have : a ∈ List.range' lo (hi + 1 - lo) := by rw [h1]; simp
      exact (List.mem_range'_1.mp this).1
    · intro k hk1 hk2 hat
      have hm := hin k hk1 hat
      rw [h1] at hm
      rcases List.mem_append.mp hm with hm | hm
      · exact h4 k hm hat
      · rcases List.mem_cons.mp hm with rfl | hm
        · omega
        · have := (List.pairwise_append.mp hp).2.1
          have := (List.pairwise_cons.mp this).1 k hm
          omega
theorem emGo_iff {g : Str} {pn : List Nat} (hs : pn <:+ tl g) : ∀ (ws : List Str) (sp : Nat), sp + pn.length ≤ g.length → (emGo g ((g.length : Int) - pn.length) ws sp = true ↔ Tl (tl g) pn (ws.map tl) sp)
  | [], sp, h => by
    simp only [emGo, true_iff]
    exact ⟨h, hs⟩
  | w :: r, sp, h => by
    have hl : g.length = (tl g).length := rfl
    have e0 : ((sp : Int)).toNat = sp := rfl
    have e1 : ((g.length : Int) - pn.length).toNat = g.length - pn.length := by omega
    simp only [emGo, e0, e1]
    rcases fnd_spec g w sp (g.length - pn.length) with ⟨h1, h2⟩ | ⟨i, h1, h2, h3, h4⟩
    · rw [h1, if_pos (by decide)]
      refine ⟨fun hf => absurd hf (by decide), ?_⟩
      rintro ⟨i, a1, a2, a3, a4⟩
      refine absurd (at_iff.mpr ⟨?_, a3⟩) (h2 i a1)
      have := (Tl_le a4).1
      rw [tl_len w]
      omega
    · have h3' := at_iff.mp h3
      rw [h1, if_neg (by omega)]
      have := emGo_iff hs r (i + w.length) (by have := h3'.1; omega)
      rw [Int.natCast_add] at this
      rw [this]
      constructor
      · intro ht
        exact ⟨i, h2, by have := h3'.1; rw [← tl_len w]; omega, h3'.2, ht⟩
      · rintro ⟨j, a1, a2, a3, a4⟩
        refine Tl_mono a4 ?_
        rw [← tl_len w]
        have : ¬ j < i := by
          intro hlt
          refine h4 j a1 hlt (at_iff.mpr ⟨?_, a3⟩)
          have := (Tl_le a4).1
          rw [tl_len w]
          omega
        omega
def Mt (G : List Nat) (p0 : List Nat) (mid : List (List Nat)) (pn : List Nat) : Prop := p0 <+: G ∧ Tl G pn mid p0.length
theorem starts_iff {g p : Str} : Txt.startswith g p = true ↔ tl p <+: tl g := by
  have h := at_iff (g := g) (w := p) (hi := g.length) (i := 0)
  unfold StrLaws.At at h
  unfold Txt.startswith
  rw [Bool.and_eq_true, decide_eq_true_iff]
  rw [List.drop_zero] at h
  constructor
  · intro hh; exact (h.mp hh).2
  · intro hh; exact h.mpr ⟨by have := hh.length_le; rw [tl_len, tl_len]; omega, hh⟩
theorem ends_iff {g p : Str} : Txt.endswith g p = true ↔ tl p <:+ tl g := by
  have h := at_iff (g := g) (w := p) (hi := g.length) (i := g.length - p.length)
  unfold StrLaws.At at h
  unfold Txt.endswith
  rw [Bool.and_eq_true, decide_eq_true_iff]
  constructor
  · rintro ⟨h1, h2⟩
    obtain ⟨Y, hY⟩ := (h.mp ⟨by omega, h2⟩).2
    have hlen := congrArg List.length hY
    rw [List.length_append, List.length_drop, ← tl_len, ← tl_len] at hlen
    have : Y = [] := List.eq_nil_of_length_eq_zero (by omega)
    rw [this, List.append_nil] at hY
    rw [hY]; exact List.drop_suffix _ _
  · intro hh
    have hl : p.length ≤ g.length := hh.length_le
    obtain ⟨Y, hY⟩ := hh
    have hlen := congrArg List.length hY
    rw [List.length_append, ← tl_len, ← tl_len] at hlen
    refine ⟨by omega, (h.mpr ⟨by omega, ?_⟩).2⟩
    have : g.length - p.length = Y.length := by omega
    rw [this, ← hY]; simp
theorem nil_of_len {p : Str} (h : p.length = 0) : tl p = [] := List.eq_nil_of_length_eq_zero h
theorem em_iff (p0 : Str) (mid : List Str) (pn g : Str) : em p0 mid pn g = true ↔ Mt (tl g) (tl p0) (mid.map tl) (tl pn) := by
  unfold em
  split
  · rename_i h
    refine ⟨fun hf => absurd hf (by decide), fun hm => ?_⟩
    have := starts_iff.mpr hm.1
    rw [this] at h; exact absurd h.2 (by decide)
  · rename_i h1
    split
    · rename_i h
      refine ⟨fun hf => absurd hf (by decide), fun hm => ?_⟩
      have := ends_iff.mpr (Tl_le hm.2).2
      rw [this] at h; exact absurd h.2 (by decide)
    · rename_i h2
      split
      · rename_i h
        refine ⟨fun hf => absurd hf (by decide), fun hm => ?_⟩
        have := (Tl_le hm.2).1
        rw [← tl_len, ← tl_len, ← tl_len] at this
        omega
      · rename_i h3
        have hp : tl p0 <+: tl g := by
          by_cases h : p0.length = 0
          · rw [nil_of_len h]; exact List.nil_prefix
          · refine starts_iff.mp ?_
            cases hb : Txt.startswith g p0 with
            | true => rfl
            | false => exact absurd ⟨h, hb⟩ h1
        have hq : tl pn <:+ tl g := by
          by_cases h : pn.length = 0
          · rw [nil_of_len h]; exact List.nil_suffix
          · refine ends_iff.mp ?_
            cases hb : Txt.endswith g pn with
            | true => rfl
            | false => exact absurd ⟨h, hb⟩ h2
        have hgo := emGo_iff hq ((if p0.length = 0 then [p0] else []) ++ mid ++ (if pn.length = 0 then [pn] else [])) p0.length (by rw [← tl_len]; omega)
        rw [← tl_len] at hgo
        rw [hgo]
        have hA : ∀ ws k, Tl (tl g) (tl pn) ((ws ++ (if pn.length = 0 then [pn] else [])).map tl) k ↔ Tl (tl g) (tl pn) (ws.map tl) k := by
          intro ws k
          split
          · rename_i h
            rw [List.map_append, List.map_singleton, nil_of_len h]
            exact Tl_nil_last
          · rw [List.append_nil]
        rw [hA]
        have hB : Tl (tl g) (tl pn) (((if p0.length = 0 then [p0] else []) ++ mid).map tl) p0.length ↔ Tl (tl g) (tl pn) (mid.map tl) p0.length := by
          split
          · rename_i h
            rw [h, List.singleton_append, List.map_cons, nil_of_len h]
            exact Tl_nil_cons
          · rw [List.nil_append]
        rw [hB]
        exact ⟨fun h => ⟨hp, h⟩, fun h => h.2⟩
end Mine
end

section
open PySem PySem.W PyProof.Rows
open Builtin.Str
namespace Mine
theorem slice_clip (x : Str) (a b : Nat) : Txt.slice x (some (a : Int)) (some (b : Int)) = Txt.slice x (some ((min a x.length : Nat) : Int)) (some ((min b x.length : Nat) : Int)) := by
  have e : strSliceIndices (some (a : Int)) (some (b : Int)) 1 x.length = strSliceIndices (some ((min a x.length : Nat) : Int)) (some ((min b x.length : Nat) : Int)) 1 x.length := by
    unfold strSliceIndices
    have h1 : ∀ n : Nat, ¬ ((n : Int) < 0) := fun n => by omega
    simp only [h1, if_false]
    congr 1 <;> (split <;> omega)
  unfold Txt.slice
  rw [e]
theorem slice_clip_to (x : Str) (b : Nat) : Txt.slice x none (some (b : Int)) = Txt.slice x none (some ((min b x.length : Nat) : Int)) := by
  have e : strSliceIndices none (some (b : Int)) 1 x.length = strSliceIndices none (some ((min b x.length : Nat) : Int)) 1 x.length := by
    unfold strSliceIndices
    have h1 : ∀ n : Nat, ¬ ((n : Int) < 0) := fun n => by omega
    simp only [h1, if_false]
    congr 1 ; (split <;> omega)
  unfold Txt.slice
  rw [e]
theorem slice_to_iff (g p : Str) : (Txt.slice g none (some (p.length : Int)) == p) = true ↔ tl p <+: tl g := by
  rw [beq_iff_eq, slice_clip_to]
  have e : Txt.slice g none (some ((min p.length g.length : Nat) : Int)) = ⟨((tl g).take p.length).toArray⟩ := by
    have h := StrLaws.sliceText_to (x := g) (j := ((min p.length g.length : Nat) : Int)) ⟨by omega, by have : g.length = g.cps.toList.length := rfl; omega⟩
    refine h.trans ?_
    rw [List.drop_zero]
    have e1 : (((min p.length g.length : Nat) : Int) - 0).toNat = min p.length g.length := by omega
    rw [e1]
    show (⟨((tl g).take (min p.length (tl g).length)).toArray⟩ : Str) = _
    congr 2
    rw [List.take_eq_take_iff]
    omega
  rw [e, List.prefix_iff_eq_take]
  constructor
  · intro h; conv => lhs; rw [← h]
    rfl
  · intro h; refine tl_inj ?_
    rw [h]; rfl
theorem trS_iff (g p : Str) (k : Nat) (hk : k ≤ g.length) : trS g p (k : Int) = true ↔ k + p.length ≤ g.length ∧ tl p <+: (tl g).drop k := by
  unfold trS
  rw [beq_iff_eq]
  have ec : ((k : Int) + p.length) = ((k + p.length : Nat) : Int) := by omega
  rw [ec, slice_clip]
  have e1 : min k g.length = k := by omega
  rw [e1]
  have e : Txt.slice g (some (k : Int)) (some ((min (k + p.length) g.length : Nat) : Int)) = ⟨(((tl g).drop k).take p.length).toArray⟩ := by
    refine (StrLaws.sliceText_nat g (a := k) (b := min (k + p.length) g.length) (by omega) (by omega)).trans ?_
    show (⟨(((tl g).drop k).take (min (k + p.length) (tl g).length - k)).toArray⟩ : Str) = _
    congr 2
    rw [List.take_eq_take_iff, List.length_drop]
    omega
  rw [e, List.prefix_iff_eq_take]
  constructor
  · intro h
    have h' : tl p = List.take (tl p).length ((tl g).drop k) := by
      conv => lhs; rw [← h]
      rfl
    refine ⟨?_, h'⟩
    have := congrArg List.length h'
    rw [List.length_take, List.length_drop, ← tl_len, ← tl_len] at this
    omega
  · intro h
    refine tl_inj ?_
    rw [h.2]; rfl
theorem lastS_iff (g p : Str) (hp : p.length ≤ g.length) : (Txt.slice g (some ((g.length : Int) - p.length)) none == p) = true ↔ tl p <:+ tl g := by
  rw [beq_iff_eq]
  have e : Txt.slice g (some ((g.length : Int) - p.length)) none = ⟨((tl g).drop (g.length - p.length)).toArray⟩ := by
    refine (StrLaws.sliceText_from (x := g) (i := (g.length : Int) - p.length) ⟨by omega, by have : g.length = g.cps.toList.length := rfl; omega⟩).trans ?_
    have e1 : ((g.length : Int) - p.length).toNat = g.length - p.length := by omega
    rw [e1]
    have e2 : ((g.cps.toList.length : Int) - ((g.length : Int) - p.length)).toNat = p.length := by
      have : g.length = g.cps.toList.length := rfl
      omega
    rw [e2]
    congr 2
    show List.take p.length ((tl g).drop _) = _
    rw [List.take_of_length_le]
    rw [List.length_drop, ← tl_len]; omega
  rw [e]
  constructor
  · intro h
    rw [← h]
    exact List.drop_suffix _ _
  · intro h
    refine tl_inj ?_
    obtain ⟨Y, hY⟩ := h
    show (tl g).drop _ = tl p
    have hlen := congrArg List.length hY
    rw [List.length_append, ← tl_len, ← tl_len] at hlen
    have : g.length - p.length = Y.length := by omega
    rw [this, ← hY]; simp
theorem tr_iff (g pn : Str) : ∀ (mid : List Str) (k : Nat), k ≤ g.length → (tr g (mid ++ [pn]) (k : Int) = true ↔ Tl (tl g) (tl pn) (mid.map tl) k)
  | [], k, h => by
    rw [List.nil_append, tr_one, Bool.or_eq_true, Bool.and_eq_true, decide_eq_true_iff, beq_iff_eq]
    constructor
    · rintro (h1 | ⟨h1, h2⟩)
      · have : tl pn = [] := by rw [h1]; decide +kernel
        refine ⟨?_, ?_⟩
        · rw [this, ← tl_len]; exact h
        · rw [this]; exact List.nil_suffix
      · have hs := (lastS_iff g pn (by omega)).mp h2
        exact ⟨by rw [← tl_len, ← tl_len]; omega, hs⟩
    · intro ht
      have h1 := ht.1
      rw [← tl_len, ← tl_len] at h1
      right
      exact ⟨by omega, (lastS_iff g pn (by omega)).mpr ht.2⟩
  | w :: r, k, h => by
    have hne : ∃ q r', r ++ [pn] = q :: r' := by
      cases r with
      | nil => exact ⟨pn, [], rfl⟩
      | cons q r' => exact ⟨q, r' ++ [pn], rfl⟩
    obtain ⟨q, r', hq⟩ := hne
    rw [List.cons_append, hq, tr_cons, ← hq, List.any_eq_true]
    constructor
    · rintro ⟨i, h1, h2⟩
      rw [List.mem_range] at h1
      rw [Bool.and_eq_true] at h2
      have hi : k + i ≤ g.length := by omega
      rw [← Int.natCast_add, trS_iff _ _ _ hi] at h2
      rw [← Int.natCast_add] at h2
      refine ⟨k + i, by omega, by rw [← tl_len, ← tl_len]; exact h2.1.1, h2.1.2, ?_⟩
      exact (tr_iff g pn r _ (by rw [← tl_len]; exact h2.1.1)).mp h2.2
    · rintro ⟨i, h1, h2, h3, h4⟩
      rw [← tl_len, ← tl_len] at h2
      refine ⟨i - k, ?_, ?_⟩
      · rw [List.mem_range]; omega
      · have e : (k : Int) + ((i - k : Nat) : Int) = (i : Int) := by omega
        rw [e, Bool.and_eq_true, trS_iff _ _ _ (by omega)]
        refine ⟨⟨h2, h3⟩, ?_⟩
        rw [← Int.natCast_add]
        exact (tr_iff g pn r _ h2).mpr h4
/-- the places of a piece -/
theorem mem_plc (g p : Str) (x : Int) : x ∈ plc g p ↔ ∃ k : Nat, x = (k : Int) ∧ k + p.length ≤ g.length ∧ tl p <+: (tl g).drop k := by
  unfold plc
  rw [List.mem_filter]
  unfold rangeKs
  rw [List.mem_map]
  constructor
  · rintro ⟨⟨i, hi, rfl⟩, h⟩
    rw [List.mem_range] at hi
    rw [Int.zero_add] at h ⊢
    exact ⟨i, rfl, (trS_iff g p i (by omega)).mp h⟩
  · rintro ⟨k, rfl, h⟩
    refine ⟨⟨k, List.mem_range.mpr (by omega), Int.zero_add _⟩, ?_⟩
    exact (trS_iff g p k (by omega)).mpr h
theorem plc_sorted (g p : Str) : (plc g p).Pairwise (· < ·) := by
  unfold plc
  refine List.Pairwise.filter _ ?_
  unfold rangeKs
  refine List.Pairwise.map _ (fun a b h => ?_) List.pairwise_lt_range
  omega
theorem bis_spec {ks : List Int} {x : Int} (hs : ks.Pairwise (· < ·)) : (bis ks x = ks.length ∧ ∀ k ∈ ks, k < x) ∨ (bis ks x ≠ ks.length ∧ ks.getD (bis ks x) 0 ∈ ks ∧ x ≤ ks.getD (bis ks x) 0 ∧ ∀ k ∈ ks, x ≤ k → ks.getD (bis ks x) 0 ≤ k) := by
  by_cases h : bis ks x = ks.length
  · left
    refine ⟨h, fun k hk => ?_⟩
    obtain ⟨i, hi, rfl⟩ := List.mem_iff_getElem.mp hk
    have := (bis_lt (x := x) hs hi).mpr (by omega)
    rwa [List.getD_eq_getElem?_getD, List.getElem?_eq_getElem hi] at this
  · right
    have hle := bis_le ks x
    have hlt : bis ks x < ks.length := by omega
    have hx := (bis_lt (x := x) hs hlt)
    have hg : ks.getD (bis ks x) 0 = ks[bis ks x] := by rw [List.getD_eq_getElem?_getD, List.getElem?_eq_getElem hlt]; rfl
    refine ⟨h, ?_, ?_, ?_⟩
    · rw [hg]; exact List.getElem_mem hlt
    · omega
    · intro k hk hxk
      obtain ⟨i, hi, rfl⟩ := List.mem_iff_getElem.mp hk
      have h2 := (bis_lt (x := x) hs hi)
      rw [List.getD_eq_getElem?_getD, List.getElem?_eq_getElem hi] at h2
      simp only [Option.getD_some] at h2
      have : bis ks x ≤ i := by omega
      rw [hg]
      rcases Nat.eq_or_lt_of_le this with he | hl
      · simp only [he]; exact Int.le_refl _
      · exact Int.le_of_lt (List.pairwise_iff_getElem.mp hs _ _ hlt hi hl)
theorem fiM_iff (g pn : Str) : ∀ (mid : List Str) (k : Nat), fiM g pn mid (k : Int) = true ↔ Tl (tl g) (tl pn) (mid.map tl) k
  | [], k => by
    simp only [fiM, Bool.and_eq_true, decide_eq_true_iff, ends_iff]
    constructor
    · rintro ⟨h1, h2⟩; exact ⟨by rw [← tl_len, ← tl_len]; omega, h2⟩
    · intro h; have h1 := h.1; rw [← tl_len, ← tl_len] at h1; exact ⟨by omega, h.2⟩
  | w :: r, k => by
    simp only [fiM]
    rcases bis_spec (x := (k : Int)) (plc_sorted g w) with ⟨h1, h2⟩ | ⟨h1, h2, h3, h4⟩
    · rw [if_pos h1]
      refine ⟨fun hf => absurd hf (by decide), ?_⟩
      rintro ⟨i, a1, a2, a3, a4⟩
      have := h2 i ((mem_plc g w i).mpr ⟨i, rfl, by rw [tl_len, tl_len]; exact a2, a3⟩)
      omega
    · rw [if_neg h1]
      obtain ⟨i, hi, b1, b2⟩ := (mem_plc g w _).mp h2
      rw [hi] at h3 h4 ⊢
      rw [← Int.natCast_add, fiM_iff g pn r]
      constructor
      · intro ht
        exact ⟨i, by omega, by rw [← tl_len, ← tl_len]; exact b1, b2, ht⟩
      · rintro ⟨j, a1, a2, a3, a4⟩
        have := h4 j ((mem_plc g w j).mpr ⟨j, rfl, by rw [tl_len, tl_len]; exact a2, a3⟩) (by omega)
        refine Tl_mono a4 ?_
        rw [← tl_len]; omega
theorem fi_iff (p0 : Str) (mid : List Str) (pn g : Str) : fi p0 mid pn g = true ↔ Mt (tl g) (tl p0) (mid.map tl) (tl pn) := by
  unfold fi
  have h := slice_to_iff g p0
  split
  · rename_i hn
    refine ⟨fun hf => absurd hf (by decide), fun hm => ?_⟩
    have h2 := h.mpr hm.1
    unfold bne at hn
    rw [h2] at hn; exact absurd hn (by decide)
  · rename_i hn
    rw [fiM_iff]
    have h2 : (Txt.slice g none (some (p0.length : Int)) == p0) = true := by
      unfold bne at hn
      cases hb : (Txt.slice g none (some (p0.length : Int)) == p0) with
      | true => rfl
      | false => rw [hb] at hn; exact absurd rfl hn
    exact ⟨fun ht => ⟨h.mp h2, ht⟩, fun ht => ht.2⟩
theorem bd_iff (p0 : Str) (mid : List Str) (pn g : Str) : ((Txt.slice g none (some (p0.length : Int)) == p0) && tr g (mid ++ [pn]) p0.length) = true ↔ Mt (tl g) (tl p0) (mid.map tl) (tl pn) := by
  rw [Bool.and_eq_true, slice_to_iff]
  constructor
  · rintro ⟨h1, h2⟩
    exact ⟨h1, (tr_iff g pn mid _ h1.length_le).mp h2⟩
  · rintro ⟨h1, h2⟩
    exact ⟨h1, (tr_iff g pn mid _ h1.length_le).mpr h2⟩
end Mine
end

section
open PySem PySem.W PyProof.Rows
open Builtin.Str
namespace Mine
theorem tl_dots : tl (Str.ofString "...") = [46, 46, 46] := by decide +kernel
theorem dots_len : (Str.ofString "...").length = 3 := by decide +kernel
theorem at_dot {x : Str} {i : Nat} (h : StrLaws.At x (Str.ofString "...") x.length i) : (tl x)[i]? = some 46 := by
  obtain ⟨_, B, hB⟩ := at_iff.mp h
  rw [tl_dots] at hB
  have : ((tl x).drop i)[0]? = some 46 := by rw [← hB]; rfl
  rwa [List.getElem?_drop, Nat.add_zero] at this
theorem no_dot {A p B : List Nat} (hp : ∀ c ∈ p, c ≠ 46) {i : Nat} (h1 : A.length ≤ i) (h2 : i < A.length + p.length) : (A ++ p ++ B)[i]? ≠ some 46 := by
  intro h
  rw [List.append_assoc, List.getElem?_append_right h1, List.getElem?_append_left (by omega)] at h
  exact hp 46 (List.mem_of_getElem? h) rfl
theorem parts_go (x : Str) (f : Nat) (hf : ∀ k, f ≤ k → ¬ StrLaws.At x (Str.ofString "...") x.length k) : ∀ (ps : List Str) (A : List Nat) (L : List Nat), ps ≠ [] → (∀ q ∈ ps, ∀ c ∈ tl q, c ≠ 46) → tl x = A ++ jn [46, 46, 46] (ps.map tl) → StrLaws.ChainG x (Str.ofString "...") x.length A.length L f → StrLaws.partsFrom x 3 A.length L = ps
  | [], A, L, h, _, _, _ => absurd rfl h
  | [p], A, L, _, hp, e, hc => by
    have hp0 := hp p (.head _)
    cases L with
    | nil =>
      unfold StrLaws.partsFrom
      congr 1
      refine tl_inj ?_
      have := StrLaws.strSub_toList x A.length x.length
      refine this.trans ?_
      show List.take _ (List.drop _ (tl x)) = _
      have hj : (A ++ jn [46, 46, 46] (List.map tl [p])).length = A.length + (tl p).length := by rw [List.length_append]; rfl
      rw [tl_len, e, hj]
      show List.take _ (List.drop _ (A ++ tl p)) = _
      rw [drop_app_self]
      rw [show A.length + (tl p).length - A.length = (tl p).length by omega, List.take_length]
    | cons a r =>
      unfold StrLaws.ChainG at hc
      have hd := at_dot hc.2.1
      have hlt : a < (tl x).length := by
        rcases Nat.lt_or_ge a (tl x).length with h | h
        · exact h
        · rw [List.getElem?_eq_none h] at hd; exact absurd hd (by simp)
      rw [e] at hd hlt
      have hx : A ++ jn [46, 46, 46] ([p].map tl) = A ++ tl p ++ [] := by simp [jn]
      rw [hx] at hd hlt
      refine absurd hd (no_dot hp0 hc.1 ?_)
      simp only [List.append_nil, List.length_append] at hlt
      exact hlt
  | p :: q :: r, A, L, _, hp, e, hc => by
    have hp0 := hp p (.head _)
    have e' : tl x = A ++ tl p ++ ([46, 46, 46] ++ jn [46, 46, 46] ((q :: r).map tl)) := by
      rw [e, List.map_cons, jn_cons (by simp)]; simp only [List.append_assoc]
    have hat : StrLaws.At x (Str.ofString "...") x.length (A.length + (tl p).length) := by
      refine at_iff.mpr ⟨?_, ?_⟩
      · rw [dots_len, tl_len, e']; simp only [List.length_append, List.length_cons]; omega
      · rw [tl_dots, e', show A.length + (tl p).length = (A ++ tl p).length by rw [List.length_append], drop_app_self]
        exact List.prefix_append _ _
    cases L with
    | nil =>
      unfold StrLaws.ChainG at hc
      exact absurd hat (hf _ (by omega))
    | cons a L =>
      unfold StrLaws.ChainG at hc
      obtain ⟨c1, c2, c3, c4⟩ := hc
      have hle : ¬ A.length + (tl p).length < a := fun hlt => c3 _ (by omega) hlt hat
      have hge : ¬ a < A.length + (tl p).length := by
        intro hlt
        have hd := at_dot c2
        rw [e'] at hd
        exact no_dot hp0 c1 hlt hd
      have ha : a = A.length + (tl p).length := by omega
      unfold StrLaws.partsFrom
      rw [dots_len] at c4
      have hlen : a + 3 = (A ++ tl p ++ [46, 46, 46]).length := by simp only [List.length_append, List.length_cons, List.length_nil]; omega
      rw [hlen] at c4 ⊢
      rw [parts_go x f hf (q :: r) (A ++ tl p ++ [46, 46, 46]) L (by simp) (fun y hy => hp y (.tail _ hy)) (by rw [e']; simp only [List.append_assoc]) c4]
      congr 1
      refine tl_inj ?_
      refine (StrLaws.strSub_toList x A.length a).trans ?_
      show List.take _ (List.drop _ (tl x)) = _
      rw [e', List.append_assoc, drop_app_self, ha, show A.length + (tl p).length - A.length = (tl p).length by omega]
      simp
theorem kind_ge (x : Str) : 1 ≤ Builtin.Str.strKind x := by
  unfold Builtin.Str.strKind
  split
  · omega
  · split <;> omega
theorem split_join {ps : List Str} (h2 : 2 ≤ ps.length) (hp : ∀ q ∈ ps, ∀ c ∈ tl q, c ≠ 46) :
    Txt.split (Txt.join (Str.ofString "...") ps) (Str.ofString "...") = ps ∧ (occurrences (Txt.join (Str.ofString "...") ps) (Str.ofString "...") 0 (Txt.join (Str.ofString "...") ps).length 1).isEmpty = false := by
  generalize hx : Txt.join (Str.ofString "...") ps = x
  have e : tl x = jn [46, 46, 46] (ps.map tl) := by rw [← hx, tl_join, tl_dots]
  have hex : ∃ i, StrLaws.At x (Str.ofString "...") x.length i := by
    match ps, h2, e with
    | p :: q :: r, _, e =>
      refine ⟨(tl p).length, at_iff.mpr ⟨?_, ?_⟩⟩
      · rw [dots_len, tl_len, e, List.map_cons, jn_cons (by simp)]; simp only [List.length_append, List.length_cons]; omega
      · rw [tl_dots, e, List.map_cons, jn_cons (by simp), List.append_assoc, drop_app_self]
        exact List.prefix_append _ _
  constructor
  · obtain ⟨f, hc, hf⟩ := StrLaws.occ_tight x (Str.ofString "...") (by rw [dots_len]; omega)
    obtain ⟨i, hi⟩ := hex
    have hlen := hi.1
    have hk := kind_ge x
    have hkd : Builtin.Str.strKind (Str.ofString "...") = 1 := by decide +kernel
    unfold Txt.split
    rw [if_neg (by rw [hkd, Bool.or_eq_true, decide_eq_true_iff, decide_eq_true_iff]; omega)]
    split
    · rename_i hemp
      have : occurrences x (Str.ofString "...") 0 x.length (x.length + 1) = [] := List.isEmpty_iff.mp hemp
      rw [this] at hc
      unfold StrLaws.ChainG at hc
      exact absurd hi (hf i (by omega))
    · rw [StrLaws.partsBetween_eq, dots_len]
      exact parts_go x f hf ps [] _ (by intro h; rw [h] at h2; simp at h2) hp e hc
  · obtain ⟨i, hi⟩ := hex
    have := (StrLaws.found_iff x (Str.ofString "...")).mpr ⟨i, hi⟩
    cases hb : (occurrences x (Str.ofString "...") 0 x.length 1).isEmpty with
    | false => rfl
    | true => rw [hb] at this; exact absurd this (by decide)
end Mine
end

section
open PySem PySem.W PyProof.Rows
open Builtin.Str
namespace Mine
theorem join_len {s : Str} {B : Nat} {ps : List Str} (h : ∀ q ∈ ps, q.length ≤ B) : (Txt.join s ps).length ≤ ps.length * (B + s.length) := by
  rw [tl_len, tl_join]
  have := jn_len (s := tl s) (B := B) (ps := ps.map tl) (fun q hq => by
    obtain ⟨y, hy, rfl⟩ := List.mem_map.mp hq
    exact h y hy)
  rwa [List.length_map] at this
theorem isAB_46 {q : Str} (h : isAB q) : ∀ c ∈ tl q, c ≠ 46 := by
  intro c hc
  rcases h c hc with rfl | rfl <;> decide
theorem emis {p0 : Str} {mid : List Str} {pn got want : Str} {b : Bool} (hw : want = Txt.join (Str.ofString "...") (p0 :: (mid ++ [pn]))) (hp : ∀ q ∈ p0 :: (mid ++ [pn]), isAB q ∧ q.length ≤ 10) (hn : mid.length ≤ 20) (hg : got.length ≤ 10000)
    (hb : em p0 mid pn got = true ↔ b = true) : EmIs want got b := by
  subst hw
  have hs := split_join (ps := p0 :: (mid ++ [pn])) (by simp) (fun q hq => isAB_46 (hp q hq).1)
  refine Or.inl ⟨p0, mid, pn, hs.2, hs.1, ?_, by omega, by omega, fun q hq => by have := (hp q hq).2; omega, Bool.eq_iff_iff.mpr hb⟩
  have := join_len (s := Str.ofString "...") (B := 10) (ps := p0 :: (mid ++ [pn])) (fun q hq => (hp q hq).2)
  rw [dots_len] at this
  simp only [List.length_cons, List.length_append, List.length_nil] at this
  omega
theorem tl_empty : tl (Str.ofString "") = [] := by decide +kernel
theorem tl_one (c : Nat) : tl (⟨#[c]⟩ : Str) = [c] := rfl
theorem letters_map (wd : Str) : (letters wd).map tl = (tl wd).map fun c => [c] := by
  unfold letters; rw [List.map_map]; rfl
theorem jn_ones (l : List Nat) : jn [] (l.map fun c => [c]) = l := by
  induction l with
  | nil => rfl
  | cons a r ih =>
    cases r with
    | nil => rfl
    | cons b r =>
      rw [List.map_cons, jn_cons (by simp), ih]; rfl
theorem Mt_jn {s p0 pn : List Nat} {mid : List (List Nat)} : Mt (jn s (p0 :: (mid ++ [pn]))) p0 mid pn := by
  rw [jn_cons (by simp)]
  refine ⟨?_, ?_⟩
  · rw [List.append_assoc]; exact List.prefix_append _ _
  · exact Tl_jn mid (p0 ++ s) p0.length (by rw [List.length_append]; omega)
theorem snoc_of {α : Type} {l : List α} (h : l ≠ []) : ∃ a x, l = a ++ [x] := ⟨l.dropLast, l.getLast h, (List.dropLast_concat_getLast h).symm⟩
theorem law_e5 {wd : Str} (hw : UpAB 10 wd) (hne : (wd != Str.ofString "") = true) : EmIs (Txt.join (Str.ofString "...") (letters wd)) wd true := by
  have hl : (letters wd).length = wd.length := by unfold letters; rw [List.length_map]; rfl
  have hq : ∀ q ∈ letters wd, isAB q ∧ q.length ≤ 10 := by
    intro q hq
    unfold letters at hq
    obtain ⟨c, hc, rfl⟩ := List.mem_map.mp hq
    refine ⟨?_, ?_⟩
    · intro d hd
      have : d = c := by simpa using hd
      rw [this]; exact hw.2 c hc
    · show 1 ≤ 10; omega
  match hls : letters wd with
  | [] =>
    rw [hls] at hl
    have : wd = Str.ofString "" := tl_inj (by rw [tl_empty]; exact List.eq_nil_of_length_eq_zero hl.symm)
    rw [this] at hne; exact absurd hne (by decide +kernel)
  | [x] =>
    have hx : x = wd := by
      refine tl_inj ?_
      have h1 := jn_ones (tl wd)
      rw [← letters_map, hls] at h1
      exact h1
    have hj : Txt.join (Str.ofString "...") [x] = wd := by rw [← hx]; exact StrLaws.glued_eq_join _ _
    rw [hj]
    refine Or.inr ⟨?_, by simp⟩
    rw [hls] at hl
    cases hb : (occurrences wd (Str.ofString "...") 0 wd.length 1).isEmpty with
    | true => rfl
    | false =>
      obtain ⟨i, h1, _⟩ := (StrLaws.found_iff wd (Str.ofString "...")).mp (by rw [hb]; rfl)
      rw [dots_len] at h1
      simp only [List.length_cons, List.length_nil] at hl
      omega
  | p0 :: q :: r =>
    obtain ⟨mid, pn, e⟩ := snoc_of (l := q :: r) (by simp)
    rw [hls] at hq hl
    rw [e] at hls hq hl ⊢
    have hw1 := hw.1
    refine emis rfl hq ?_ (by omega) ?_
    · simp only [List.length_cons, List.length_append, List.length_nil] at hl; omega
    · refine ⟨fun _ => rfl, fun _ => (em_iff _ _ _ _).mpr ?_⟩
      have h1 := jn_ones (tl wd)
      rw [← letters_map, hls] at h1
      rw [← h1, List.map_cons, List.map_append, List.map_singleton]
      exact Mt_jn
theorem plain : ∀ (qs : List Str) (wd : Str), 2 ≤ qs.length → qs.length ≤ 4 → (∀ q ∈ qs, UpAB 2 q) → UpAB 10 wd → ∃ p0 mid pn b1 d, qs = p0 :: (mid ++ [pn]) ∧ LawF p0 mid pn wd b1 d := by
  intro qs wd h2 h4 hP hW
  match qs, h2 with
  | p0 :: q :: r, _ =>
  obtain ⟨mid, pn, e⟩ := snoc_of (l := q :: r) (by simp)
  rw [e] at hP h4 ⊢
  clear e
  have hm : mid.length ≤ 2 := by simp only [List.length_cons, List.length_append, List.length_nil] at h4; omega
  have hA : ∀ q ∈ p0 :: (mid ++ [pn]), isAB q ∧ q.length ≤ 10 := fun q hq => ⟨(hP q hq).2, by have := (hP q hq).1; omega⟩
  have hB : ∀ q ∈ p0 :: (mid ++ [pn]), q.length ≤ 2 := fun q hq => (hP q hq).1
  have hw := hW.1
  have hn : (p0 :: (mid ++ [pn])).length ≤ 4 := h4
  have j1 : (Txt.join (Str.ofString "...") (p0 :: (mid ++ [pn]))).length ≤ 20 := by
    have := join_len (s := Str.ofString "...") hB
    rw [dots_len] at this
    omega
  have lab : (Str.ofString "ab").length = 2 := by decide +kernel
  have lb : (Str.ofString "b").length = 1 := by decide +kernel
  have la : (Str.ofString "a").length = 1 := by decide +kernel
  have l0 : (Str.ofString "").length = 0 := by decide +kernel
  have j2 : (Txt.join (Str.ofString "ab") (p0 :: (mid ++ [pn]))).length ≤ 16 := by
    have := join_len (s := Str.ofString "ab") hB
    rw [lab] at this
    omega
  have j3 : (Txt.join (Str.ofString "") (p0 :: (mid ++ [pn]))).length ≤ 8 := by
    have := join_len (s := Str.ofString "") hB
    rw [l0] at this
    omega
  have hmap : ∀ s, tl (Txt.join s (p0 :: (mid ++ [pn]))) = jn (tl s) (tl p0 :: (mid.map tl ++ [tl pn])) := by
    intro s; rw [tl_join, List.map_cons, List.map_append, List.map_singleton]
  have hd := bd_iff p0 mid pn wd
  refine ⟨p0, mid, pn, Txt.slice wd none (some (p0.length : Int)) == p0, tr wd (mid ++ [pn]) p0.length, rfl, ?_⟩
  constructor
  · rfl
  · intro _; rfl
  · exact Bool.eq_iff_iff.mpr ((fi_iff _ _ _ _).trans hd.symm)
  · exact emis rfl hA (by omega) (by omega) ((em_iff _ _ _ _).trans hd.symm)
  · refine emis rfl hA (by omega) (by omega) ⟨fun _ => rfl, fun _ => (em_iff _ _ _ _).mpr ?_⟩
    rw [hmap]; exact Mt_jn
  · refine emis rfl hA (by omega) (by omega) ⟨fun _ => rfl, fun _ => (em_iff _ _ _ _).mpr ?_⟩
    rw [hmap]; exact Mt_jn
  · intro hbd
    obtain ⟨m1, m2⟩ := hd.mp hbd
    have hq2 : ∀ q ∈ p0 :: ((mid ++ pn :: p0 :: mid) ++ [pn]), isAB q ∧ q.length ≤ 10 := by
      intro q hq
      refine hA q ?_
      simp only [List.mem_cons, List.mem_append, List.not_mem_nil, or_false] at hq ⊢
      rcases hq with h | (h | h | h | h) | h <;> simp [h]
    refine emis (p0 := p0) (mid := mid ++ pn :: p0 :: mid) (pn := pn) ?_ hq2 ?_ ?_ ⟨fun _ => rfl, fun _ => (em_iff _ _ _ _).mpr ?_⟩
    · refine tl_inj ?_
      rw [tl_app, tl_app, hmap, tl_join, ← jn_app (by simp) (by simp)]
      simp
    · simp only [List.length_append, List.length_cons]; omega
    · rw [Str.length_append, Str.length_append, lb]; omega
    · rw [tl_app, tl_app]
      refine ⟨m1.trans (by rw [List.append_assoc]; exact List.prefix_append _ _), ?_⟩
      rw [List.map_append, List.map_cons, List.map_cons, List.append_assoc]
      refine Tl_chain (mid.map tl) _ m2 ?_
      have e2 : tl wd ++ (tl (Str.ofString "b") ++ tl wd) = (tl wd ++ tl (Str.ofString "b")) ++ tl wd := by rw [List.append_assoc]
      rw [e2]
      refine ⟨(tl wd ++ tl (Str.ofString "b")).length, by rw [List.length_append]; omega, ?_, ?_, ?_⟩
      · have := m1.length_le
        simp only [List.length_append]; omega
      · rw [drop_app_self]; exact m1
      · exact Tl_shift _ _ m2
  · exact law_e5 hW
  · have hq2 : ∀ q ∈ Str.ofString "" :: ((p0 :: (mid ++ [pn])) ++ [Str.ofString ""]), isAB q ∧ q.length ≤ 10 := by
      have hem : isAB (Str.ofString "") ∧ (Str.ofString "").length ≤ 10 := by
        refine ⟨?_, by rw [l0]; omega⟩
        intro c hc
        have : c ∈ tl (Str.ofString "") := hc
        rw [tl_empty] at this; exact nomatch this
      intro q hq
      rcases List.mem_cons.mp hq with rfl | hq
      · exact hem
      · rcases List.mem_append.mp hq with hq | hq
        · exact hA q hq
        · rw [List.mem_singleton.mp hq]; exact hem
    refine emis (p0 := Str.ofString "") (mid := p0 :: (mid ++ [pn])) (pn := Str.ofString "") ?_ hq2 ?_ ?_ ⟨fun _ => rfl, fun _ => (em_iff _ _ _ _).mpr ?_⟩
    · refine tl_inj ?_
      have e3 : (Str.ofString "" :: ((p0 :: (mid ++ [pn])) ++ [Str.ofString ""])).map tl = [] :: ((tl p0 :: (mid.map tl ++ [tl pn])) ++ [[]]) := by
        simp only [List.map_cons, List.map_append, List.map_nil, tl_empty]
      rw [tl_app, tl_app, hmap, tl_join, e3]
      have hM : (tl p0 :: (mid.map tl ++ [tl pn])) ≠ [] := by simp
      generalize tl p0 :: (mid.map tl ++ [tl pn]) = M at hM
      rw [jn_cons (by simp), jn_app hM (by simp)]
      simp [jn]
    · omega
    · rw [Str.length_append, Str.length_append, la, lb]; omega
    · rw [tl_app, tl_app, tl_join, tl_empty]
      refine ⟨List.nil_prefix, ?_⟩
      exact Tl_jn_all _ _ _ (Nat.zero_le _)
  · omega
  · omega
  · exact hw
  · rw [Str.length_append, dots_len]; omega
  · rw [Str.length_append, lb]; omega
  · rw [Str.length_append, dots_len]; omega
  · rw [Str.length_append, la]; omega
  · exact hm
  · exact hB
  · intro q hq
    unfold letters at hq
    obtain ⟨c, hc, rfl⟩ := List.mem_map.mp hq
    show 1 ≤ 1000; omega
  · unfold letters; rw [List.length_map]; exact hw
end Mine
end

section
open PySem PySem.W PyProof.Rows
open PySem.Calls PySem.Spec
set_option maxHeartbeats 40000000
namespace Mine
section
local macro_rules | `(tactic| walk_at "call ref") => `(tactic| (
  k_here
  (with_reducible show wpAny _ _ (call (Value.ref 35) [Value.ref _]) _ _ _)
  k_dflt (refine' dr_walk _ _ _ _ _ _ _ _ _ _ _ _ _ _ _ _ _ ?B ?F ?N ?T ?hk ?hl ?hI ?hz ?hd ?hu ?_ ?X)
  (case B => k_asm)
  (case F => k_asm)
  (case N => k_asm)
  (case T => k_asm)
  (case hk => k_dflt exact rfl)
  (case hl => k_asm)
  (case hI => k_asm)
  (case hz => omega)
  (case hd => k_dflt (first | k_room | ktr_room))
  (case hu => k_dflt ktr_units)
  (case X => k_asm)
  intro T' D' ys' qs' nn' no' wd' tw' h' tk' hS' h2' h4' hP' hW' F' N'
  (obtain ⟨p0', mid', pn', b1', d', e', hLF'⟩ := plain qs' wd' h2' h4' hP' hW')
  subst e'
  (have hm1' := hLF'.m1)
  (have hm2' := hLF'.m2)
  (have hl3' := hLF'.l3)
  cases b1' <;> cases d'))
local macro_rules | `(tactic| walk_at "call ref") => `(tactic| (
  k_here
  (with_reducible show wpAny _ _ (call (Value.ref 21) [Value.str _ _, Value.str _ _]) _ _ _)
  (with_reducible rename LawF _ _ _ _ _ _ => hL')
  k_dflt (first
    | refine em_call (b := true) (by first | with_reducible exact hL'.e2 | with_reducible exact hL'.e3 | with_reducible exact hL'.e6 | with_reducible exact hL'.e4 (by k_dflt rfl) | with_reducible exact hL'.e5 (by assumption) | exact hL'.e1) (by k_asm) (by k_asm) (by k_asm) (by k_asm) (by k_asm) (by exact rfl) (by first | k_room | ktr_room) (by ktr_units) ?_
    | refine em_call (b := false) (by exact hL'.e1) (by k_asm) (by k_asm) (by k_asm) (by k_asm) (by k_asm) (by exact rfl) (by first | k_room | ktr_room) (by ktr_units) ?_)
  intro t9 h9 tk9 F9 N9
  (try dsimp only)
  (try k_fold)))
local macro_rules | `(tactic| walk_at "call ref") => `(tactic| (
  k_here
  (with_reducible show wpAny _ _ (call (Value.ref 47) [Value.ref _, Value.str _ _]) _ _ _)
  (with_reducible rename LawF _ _ _ _ _ _ => hL')
  k_dflt (first
    | refine' fi_call (b := true) ?hm ?hS ?hw ?hmid ?hall hL'.hf ?B ?F ?X ?N ?T ?hk ?hdp ?hu ?_
    | refine' fi_call (b := false) ?hm ?hS ?hw ?hmid ?hall hL'.hf ?B ?F ?X ?N ?T ?hk ?hdp ?hu ?_)
  (case F => k_asm)
  (case N => k_asm)
  (case hm => kcf_m)
  (case hS => with_reducible assumption)
  (case hw => omega)
  (case hmid => omega)
  (case hall => intro q' hq'; have := hL'.m2 q' hq'; omega)
  (case B => k_asm)
  (case X => k_asm)
  (case T => k_asm)
  (case hk => k_dflt exact rfl)
  (case hdp => k_dflt (first | k_room | ktr_room))
  (case hu => k_dflt ktr_units)
  intro t9 h9 tk9 F9 N9
  (try dsimp only)
  (try k_fold)))
local macro_rules | `(tactic| walk_at "call ref") => `(tactic| (
  k_here
  (with_reducible show wpAny _ _ (call (Value.ref 42) [Value.ref _, Value.str _ _, Value.int _ _]) _ _ _)
  (with_reducible rename LawF _ _ _ _ _ _ => hL')
  k_dflt (refine' tr_call_is (hL'.ht rfl) ?hw ?hne ?hl ?hq ?hm ?hS ?h0 ?h1 ?B ?F ?X ?N ?T ?hk ?hdp ?hu ?_)
  (case F => k_asm)
  (case N => k_asm)
  (case hm => kcf_m)
  (case hS => with_reducible assumption)
  (case hw => omega)
  (case hne => k_dflt simp)
  (case hl => simp; omega)
  (case hq => intro q' hq'; have := hL'.m2 q' (List.mem_cons_of_mem _ hq'); omega)
  (case h0 => omega)
  (case h1 => have := hL'.m2 _ List.mem_cons_self; omega)
  (case B => k_asm)
  (case X => k_asm)
  (case T => k_asm)
  (case hk => k_dflt exact rfl)
  (case hdp => k_dflt (first | k_room | ktr_room))
  (case hu => k_dflt ktr_units)
  intro t9 h9 tk9 F9 N9
  (try dsimp only)
  (try k_fold)))
local macro_rules | `(tactic| walk_at "call builtin:str.join") => `(tactic| (
  k_here
  (with_reducible rename LawF _ _ _ _ _ _ => hL')
  k_dflt (refine' join_led ?N ?hm ?hS ?hB ?hn ?hx ?_)
  (case N => k_asm)
  (case hm => kcf_m)
  (case hS => with_reducible assumption)
  (case hB => first | exact hL'.m3 | (intro q' hq'; have := hL'.m2 q' hq'; omega))
  (case hn => first | omega | exact Nat.le_trans hL'.m4 (by decide))
  (case hx => decide +kernel)
  intro t' k'))
local macro_rules | `(tactic| walk_at "call builtin:str.join") => `(tactic| (
  k_here
  (with_reducible rename LawF _ _ _ _ _ _ => hL')
  k_dflt (refine join_letters (by with_reducible assumption) (by with_reducible assumption) hL'.m3 hL'.m4 ?_)
  intro t' k'))
local macro_rules | `(tactic| walk_at "eval ListComp") => `(tactic| (
  k_here
  k_dflt (refine' comp_letters ?F ?N ?hh (by decide) (by decide) (by rfl) (by decide) (by rfl) (by decide) ?_ (by intro; rfl))
  (case F => k_asm)
  (case N => k_asm)
  (case hh => k_dflt rfl)))
local macro_rules | `(tactic| walk_at "LtrSrc") => `(tactic| (
  k_here
  (refine' ⟨_, _, rfl, ?hz, ?F, ?N, ?_⟩)
  (case F => k_asm)
  (case N => k_asm)
  (case hz => rw [PySem.sizeLine_eq]; omega)
  intro D' ys' h' tk' F' N' hL5 hS5))
local macro_rules | `(tactic| walk_at "compareOp Eq str str") => `(tactic| (k_here; (with_reducible rename LawF _ _ _ _ _ _ => hL'); refine eq_str_is hL'.hb ?_))
local macro_rules | `(tactic| walk_at "subscriptTail Name Constant ref int") => `(tactic| (k_here; (with_reducible show wpAny _ _ (subscriptTail _ _ (Value.ref _) (Value.int 0 _)) _ _ _); (with_unfolding_all refine' item_first ?k1 ?k2 ?k3 ?_ ?k4; (case k1 => k_asm); (case k2 => kcf_m); (case k3 => assumption); (case k4 => with_unfolding_all rfl); k_whole); intro t'))
local macro_rules | `(tactic| walk_at "call builtin:len") => `(tactic| (k_here; (with_reducible show wpAny _ _ (call (Value.builtin "len") [Value.str _ _]) _ _ _); (with_reducible rename LawF _ _ _ _ _ _ => hL'); (refine P.len_str (by first | (have := hL'.m2 _ List.mem_cons_self; omega) | omega) ?_)))
local macro_rules | `(tactic| walk_at "subscriptTail Name Slice ref ref") => `(tactic| (k_here; (with_reducible show wpAny _ _ (subscriptTail _ (PySem.Expr.Slice _ _ none _) (Value.ref _) (Value.ref _)) _ _ _); k_dflt (refine' slice_tail ?F ?N ?l ?p ?q ?i ?z ?_ ?s ?t; (case F => k_asm); (case N => k_asm); (case l => kcf_m); (case p => kmk_part); (case q => kmk_part); (case i => with_reducible assumption); (case z => simp; omega); (case s => with_unfolding_all rfl); (case t => kmk_pure)); intro D' ws' h' hS' F' N' l1; (try k_lt l1)))
local macro_rules | `(tactic| walk_at "binaryOp Add str str") => `(tactic| (
  k_here
  (with_reducible rename LawF _ _ _ _ _ _ => hL')
  refine add_small ?_ ?_ ?_
  (first | exact Nat.le_trans hL'.l1 (by decide) | exact Nat.le_trans hL'.l3 (by decide) | exact Nat.le_trans hL'.l4 (by decide) | exact Nat.le_trans hL'.l5 (by decide) | exact Nat.le_trans hL'.l6 (by decide) | exact Nat.le_trans hL'.l7 (by decide) | decide +kernel)
  (first | exact Nat.le_trans hL'.l1 (by decide) | exact Nat.le_trans hL'.l3 (by decide) | exact Nat.le_trans hL'.l2 (by decide) | decide +kernel)
  intro t' k'))
theorem lw : PySem.Challenge.rw_gd0002_01.Holds := hd (by
  w_top off
  k_go0
  (all_goals try k_fold)
  k_steps
  (all_goals (try k_data)))
end
end Mine
end

set_option maxRecDepth 100000 in
theorem PySem.Challenge.cw_gd0002_01_holds : PySem.Challenge.rw_gd0002_01.Holds := by
  exact Mine.lw
