import PyProof.Rows.All
import Wide.All
import OpenK.AllK
import Wide.FinOn
import PySem.Challenge.RW_hn0004_01
open PySem PySem.W PyProof.Rows
set_option Elab.async false
namespace Mine
set_option maxRecDepth 100000 in
set_option maxHeartbeats 8000000 in
open_top hd for PySem.Challenge.rw_hn0004_01
end Mine
namespace Mine
theorem mode_off : True := by
  w_top off
  exact trivial
end Mine
namespace Mine
/-! ## Addresses that are not alike -/
def AllNe (d : Nat) : List (Addr × Obj) → Prop
  | [] => True
  | p :: r => @Ne Nat p.1 d ∧ AllNe d r
theorem allNe_of {d : Addr} : ∀ {l : List (Addr × Obj)}, (∀ p ∈ l, p.1 ≠ d) → AllNe d l
  | [], _ => trivial
  | p :: _, h => ⟨h p (.head _), allNe_of fun q hq => h q (.tail _ hq)⟩
theorem ne_of_below {news : List (Addr × Obj)} {b d : Nat} (h : ∀ p ∈ news, @LT.lt Nat _ p.1 b) (hb : b ≤ d) : ∀ p ∈ news, p.1 ≠ d := fun p hp => Nat.ne_of_lt (Nat.lt_of_lt_of_le (h p hp) hb)
theorem lt_of_allLt {d : Nat} {l : List (Addr × Obj)} (h : AllLt d l) : ∀ p ∈ l, @LT.lt Nat _ p.1 d := by
  induction l with
  | nil => intro p hp; cases hp
  | cons q r ih =>
    intro p hp
    rcases List.mem_cons.mp hp with rfl | hp
    · exact h.1
    · exact ih h.2 p hp
abbrev tupOf (its : List Value) (c : Nat) : Obj := { cls := .type "tuple", data := .seq its.toArray c }
theorem off1_of_allLt {d : Nat} {l : List (Addr × Obj)} (h : AllLt d l) : LCg.Off1 d l := by
  induction l with
  | nil => trivial
  | cons q r ih => exact ⟨Nat.ne_of_lt h.1, ih h.2⟩
theorem ne_of_off1 {d : Nat} {l : List (Addr × Obj)} (h : LCg.Off1 d l) : ∀ p ∈ l, p.1 ≠ d := by
  induction l with
  | nil => intro p hp; cases hp
  | cons q r ih =>
    intro p hp
    rcases List.mem_cons.mp hp with rfl | hp
    · exact h.1
    · exact ih h.2 p hp
theorem isL {h₀ h : Heap} {L D : Addr} {news : List (Addr × Obj)} {vs : List Value} {c : Nat} (N : News h₀ L h news) (hm : (D, PySem.W.listOf (List.toArray vs) c) ∈ news) : h.IsList D (List.toArray vs) := PySem.IsL.isList (n := c) (N _ hm).1
/-- an entry of the ledger brought to the front -/
theorem upd_front {P : Addr} {o : Obj} {led : List (Addr × Obj)} {g : Obj → List (Addr × Obj)} (U : UpdF P o led g) :
    ∃ rest : List (Addr × Obj), (∀ p ∈ rest, p.1 ≠ P) ∧ (∀ p, p ∈ (P, o) :: rest → p ∈ led) ∧ (∀ p, p ∈ led → p ∈ (P, o) :: rest) ∧ (∀ o' p, p ∈ g o' → p ∈ (P, o') :: rest) := by
  obtain ⟨pre, post, rfl, hg, h1, h2⟩ := U.split
  refine ⟨pre ++ post, ?_, ?_, ?_, ?_⟩
  · intro p hp
    rcases List.mem_append.mp hp with hp | hp
    · exact h1 p hp
    · exact h2 p hp
  · intro p hp
    simp only [List.mem_cons, List.mem_append] at hp ⊢
    rcases hp with hp | hp | hp
    · exact .inr (.inl hp)
    · exact .inl hp
    · exact .inr (.inr hp)
  · intro p hp
    simp only [List.mem_cons, List.mem_append] at hp ⊢
    rcases hp with hp | hp | hp
    · exact .inr (.inl hp)
    · exact .inl hp
    · exact .inr (.inr hp)
  · intro o' p hp
    rw [hg] at hp
    simp only [List.mem_cons, List.mem_append] at hp ⊢
    rcases hp with hp | hp | hp
    · exact .inr (.inl hp)
    · exact .inl hp
    · exact .inr (.inr hp)
/-! ## Loops: a turn may leave, may break, may make new objects -/
section
variable {prog : Program} {w : World} {A : Around} {E : Value → Shared → Prop} {s : Shared} {env : Env} {h₀ : Heap} {x : Str} {body : List Stmt} {Q : Flow → Shared → Prop}
/-- the end of a turn: the iterator stands, and J of the frame and of the ledger beside it -/
def TEnd (h₀ : Heap) (L : Addr) (J : (Str → Option Value) → List (Addr × Obj) → Prop) (I : Addr) (oI : Obj) (s₁ s₂ : Shared) : Prop :=
  ∃ h' tk m' nx, s₂ = { s₁ with heap := h', toks := tk } ∧ Fr h₀ L h' m' ∧ News h₀ L h' ((I, oI) :: nx) ∧ (∀ p ∈ nx, p.1 ≠ I) ∧ J m' nx
def TPost (h₀ : Heap) (L : Addr) (J : (Str → Option Value) → List (Addr × Obj) → Prop) (I : Addr) (oI : Obj) (s₁ : Shared) (Q : Flow → Shared → Prop) (f : Flow) (s₂ : Shared) : Prop :=
  match f with
  | .ret v => Q (.ret v) s₂
  | .brk => Q .next s₂
  | _ => TEnd h₀ L J I oI s₁ s₂
theorem TEnd.intro {L I : Addr} {oI : Obj} {J : (Str → Option Value) → List (Addr × Obj) → Prop} {s₁ : Shared} {h' : Heap} {tk : Nat} {m' : Str → Option Value} {nx led : List (Addr × Obj)}
    (F : Fr h₀ L h' m') (N : News h₀ L h' led) (hs : ∀ p ∈ (I, oI) :: nx, p ∈ led) (hn : ∀ p ∈ nx, p.1 ≠ I) (hj : J m' nx) : TEnd h₀ L J I oI s₁ { s₁ with heap := h', toks := tk } :=
  ⟨h', tk, m', nx, rfl, F, fun p hp => N p (hs p hp), hn, hj⟩

/-- what a walk's own list holds: the iterator, or an entry that the ledger bears throughout -/
theorem own_is {h : Heap} {L I : Addr} {oI : Obj} {own held nx : List (Addr × Obj)} (N : News h₀ L h (own ++ nx)) (hI : h.get? I = some oI) (sub : ∀ p ∈ own, p.1 ∈ I :: held.map Prod.fst) (hold : ∀ q ∈ held, q ∈ nx) : ∀ p ∈ own, p = (I, oI) ∨ p ∈ held := by
  intro p hp
  have at_p := (N p (List.mem_append_left _ hp)).1
  rcases List.mem_cons.mp (sub p hp) with e | e
  · rw [e, hI] at at_p
    exact .inl (Prod.ext e (Option.some.inj at_p).symm)
  · obtain ⟨q, hq, e⟩ := List.mem_map.mp e
    have at_q := (N q (List.mem_append_right _ (hold q hq))).1
    rw [e, at_p] at at_q
    have same : q = p := Prod.ext e (Option.some.inj at_q).symm
    exact .inr (same ▸ hq)
theorem TPost.step {L I : Addr} {oI : Obj} {own held : List (Addr × Obj)} {J' : (Str → Option Value) → List (Addr × Obj) → Prop} {s₁ s₂ : Shared} {f : Flow} (mine : ∀ p ∈ own, p = (I, oI) ∨ p ∈ held) (hold : ∀ m nx, J' m nx → ∀ q ∈ held, q ∈ nx) (t : TPost h₀ L J' I oI s₁ Q f s₂) :
    LoopStepV h₀ L [I] own J' s₁ (fun v s' => Q (.ret v) s') (fun s' => Q .next s') f s₂ := by
  have on : TEnd h₀ L J' I oI s₁ s₂ → LoopStepU h₀ L [I] own J' s₁ .next s₂ := fun ⟨h', tk, m', nx, e, F, N, off, j⟩ =>
    ⟨rfl, h', tk, m', nx, e, F, List.forall_mem_append.mpr ⟨fun p hp => (mine p hp).elim (fun q => q ▸ N _ (.head _)) fun q => N _ (.tail _ (hold _ _ j p q)), fun p hp => N _ (.tail _ hp)⟩, fun p hp q => off p hp (List.mem_singleton.mp q), j⟩
  match f, t with
  | .ret _, t => exact .ret t
  | .brk, t => exact .brk t
  | .next, t => exact .next (on t)
  | .cont, t => exact .cont (on t)
section
variable {I : Addr} {n : Nat} {St : Nat → Heap → Prop} {m₀ : Str → Option Value} {news held : List (Addr × Obj)} {J : Nat → (Str → Option Value) → List (Addr × Obj) → Prop}
theorem not_held {L : Addr} {h : Heap} (N : News h₀ L h news) (hL : L ≠ I) (hold : ∀ q ∈ held, q ∈ news) : L ∉ I :: held.map Prod.fst := fun hm => by
  rcases List.mem_cons.mp hm with e | e
  · exact hL e
  · obtain ⟨q, hq, e⟩ := List.mem_map.mp e
    exact (N q (hold q hq)).2.1 e
/-- a loop along any walk whose other objects the ledger bears: the turn sees the iterator and the ledger -/
theorem loop_held {P : Nat → Value → Prop} (W : Walks prog w A I (I :: held.map Prod.fst) [I] n P St) (seen : ∀ i h, St i h → ∃ o, h.get? I = some o) (hL : env.locals ≠ I) (hI : h₀.get? I = none) (hold : ∀ i m nx, J i m nx → ∀ q ∈ held, q ∈ nx) (off : ∀ p ∈ news, p.1 ≠ I) (st : St 0 s.heap)
    (F : Fr h₀ env.locals s.heap m₀) (N : News h₀ env.locals s.heap news) (hj : J 0 m₀ news)
    (turn : ∀ i v m₁ nx h tk oI, i < n → P i v → J i m₁ nx → (∀ p ∈ nx, p.1 ≠ I) → Fr h₀ env.locals h (fun y => if y = x then some v else m₁ y) → News h₀ env.locals h ((I, oI) :: nx) → wpAny (model prog w) A (execs body env) (TPost h₀ env.locals (J (i + 1)) I oI { s with heap := h, toks := tk } Q) E { s with heap := h, toks := tk })
    (done : ∀ m₁ nx h tk, J n m₁ nx → Fr h₀ env.locals h m₁ → News h₀ env.locals h nx → Q .next { s with heap := h, toks := tk }) : LoopAtV prog w A h₀ env x body Q E (.ref I) s := by
  refine ⟨I, _, _, n, P, St, m₀, news, J, rfl, W, not_held N hL (hold _ _ _ hj), List.forall_mem_singleton.mpr hI, fun p hp q => off p hp (List.mem_singleton.mp q), st, F, N, hj, ?_, fun h tk m nx F' N' _ j => done m nx h tk j F' N'⟩
  rintro i v m₁ nx _ own ⟨h, tk, rfl⟩ lt hv j offx sub - all st' F' N'
  obtain ⟨oI, hoI⟩ := seen _ _ st'
  exact wpAny_mono (turn i v m₁ nx h tk oI lt hv j (fun p hp e => offx p hp (List.mem_singleton.mpr e)) F' (List.forall_mem_cons.mpr ⟨N' _ (List.mem_append_left _ (all I (.head _) hI _ hoI)), fun p hp => N' p (List.mem_append_right _ hp)⟩)) (fun _ _ t => t.step (own_is N' hoI sub (hold _ _ _ j)) (hold _)) fun _ _ z => z
/-- the same where the target is assigned by the turn itself -/
theorem loop_heldT {target : PySem.Expr} {P Md : Nat → Value → Heap → Prop} (W : KTurns prog w A target I (I :: held.map Prod.fst) [I] n P Md St) (seen : ∀ i h, St i h → ∃ o, h.get? I = some o) (hL : env.locals ≠ I) (hI : h₀.get? I = none) (hold : ∀ i m nx, J i m nx → ∀ q ∈ held, q ∈ nx) (off : ∀ p ∈ news, p.1 ≠ I) (st : St 0 s.heap)
    (F : Fr h₀ env.locals s.heap m₀) (N : News h₀ env.locals s.heap news) (hj : J 0 m₀ news)
    (turn : ∀ i v m₁ nx h tk oI, i < n → P i v h → J i m₁ nx → (∀ p ∈ nx, p.1 ≠ I) → Fr h₀ env.locals h m₁ → News h₀ env.locals h ((I, oI) :: nx) →
      wpAny (model prog w) A (assign target env v) (fun _ s₃ => wpAny (model prog w) A (execs body env) (TPost h₀ env.locals (J (i + 1)) I oI { s with heap := h, toks := tk } Q) E s₃) E { s with heap := h, toks := tk })
    (done : ∀ m₁ nx h tk, J n m₁ nx → Fr h₀ env.locals h m₁ → News h₀ env.locals h nx → Q .next { s with heap := h, toks := tk }) : TurnsAt prog w A h₀ env target body Q E (.ref I) s := by
  refine ⟨I, _, _, n, P, Md, St, m₀, news, J, rfl, W, not_held N hL (hold _ _ _ hj), List.forall_mem_singleton.mpr hI, fun p hp q => off p hp (List.mem_singleton.mp q), st, F, N, hj, ?_, fun h tk m nx F' N' _ j => done m nx h tk j F' N'⟩
  rintro i v m₁ nx h tk own lt hv j offx sub - all st' F' N'
  obtain ⟨oI, hoI⟩ := seen _ _ st'
  exact wpAny_mono (turn i v m₁ nx h tk oI lt hv j (fun p hp e => offx p hp (List.mem_singleton.mpr e)) F' (List.forall_mem_cons.mpr ⟨N' _ (List.mem_append_left _ (all I (.head _) hI _ hoI)), fun p hp => N' p (List.mem_append_right _ hp)⟩))
    (fun _ _ b => wpAny_mono b (fun _ _ t => t.step (own_is N' hoI sub (hold _ _ _ j)) (hold _)) fun _ _ z => z) fun _ _ z => z
end
theorem fresh_off {h : Heap} {L : Addr} {led : List (Addr × Obj)} (N : News h₀ L h led) : ∀ p ∈ led, p.1 ≠ h.objs.size := fun p hp => Nat.ne_of_lt (Heap.lt_size (N p hp).1)
theorem led_push {h : Heap} {L : Addr} {led : List (Addr × Obj)} {o : Obj} (N : News h₀ L h led) : News h₀ L (h.push o) led := N.grown fun _ _ e => Heap.get?_push_of_some _ e
/-- for x in l, l a list of ints on the ledger -/
theorem iterL {l : Addr} {vs : List Value} {ns : List Int} {c : Nat} {m₀ : Str → Option Value} {news : List (Addr × Obj)} (J : Nat → (Str → Option Value) → List (Addr × Obj) → Prop)
    (hh : A.handled = none) (hJm : ∀ i m nx, J i m nx → (l, PySem.W.listOf vs.toArray c) ∈ nx) (hi : IntsAre vs ns) (F : Fr h₀ env.locals s.heap m₀) (N : News h₀ env.locals s.heap news) (hj : J 0 m₀ news)
    (turn : ∀ i n t m₁ nx h tk I oI, ns[i]? = some n → J i m₁ nx → (∀ p ∈ nx, p.1 ≠ I) → Fr h₀ env.locals h (fun y => if y = x then some (.int n t) else m₁ y) → News h₀ env.locals h ((I, oI) :: nx) →
      wpAny (model prog w) A (execs body env) (TPost h₀ env.locals (J (i + 1)) I oI { s with heap := h, toks := tk } Q) E { s with heap := h, toks := tk })
    (done : ∀ m₁ nx h tk, J ns.length m₁ nx → Fr h₀ env.locals h m₁ → News h₀ env.locals h nx → Q .next { s with heap := h, toks := tk }) :
    wpAny (model prog w) A (pyIter (.ref l)) (fun it s₂ => LoopAtV prog w A h₀ env x body Q E it s₂) E s := by
  have hl := isL N (hJm _ _ _ hj)
  have W := Walks.list (prog := prog) (w := w) hh s.heap.objs.size l (fresh_off N _ (hJm _ _ _ hj)) vs.toArray
  refine wpAny_pyIter_list hl (loop_held (s := { s with heap := _ }) (held := [(l, _)]) (J := J) W (fun i h st => st.1.imp fun _ z => z.1) (Nat.ne_of_lt F.ns.lt) (next_is_new F) (fun i m nx j => List.forall_mem_singleton.mpr (hJm i m nx j)) (fresh_off N) ⟨⟨_, Heap.get?_push_size _ rfl, rfl, rfl⟩, hl.at fun o e => Heap.get?_push_of_some _ e⟩ (F.push _) (led_push N) hj (fun i v m₁ nx h tk oI _ hv j offx F' N' => ?_) fun m₁ nx h tk j => ?_)
  · obtain ⟨n, t, rfl, hn⟩ := IntsAre.at hi i v (by simpa using hv)
    exact turn i n t m₁ nx h tk _ oI hn j offx F' N'
  · rw [List.size_toArray, hi.length] at j
    exact done m₁ nx h tk j
/-- the same where the target is no local name (a cell, a tuple of names): the turn begins with the assignment -/
theorem iterT {target : PySem.Expr} {l : Addr} {vs : List Value} {ns : List Int} {c : Nat} {m₀ : Str → Option Value} {news : List (Addr × Obj)} (J : Nat → (Str → Option Value) → List (Addr × Obj) → Prop)
    (hh : A.handled = none) (hJm : ∀ i m nx, J i m nx → (l, PySem.W.listOf vs.toArray c) ∈ nx) (hi : IntsAre vs ns) (F : Fr h₀ env.locals s.heap m₀) (N : News h₀ env.locals s.heap news) (hj : J 0 m₀ news)
    (turn : ∀ i n t m₁ nx h tk I oI, ns[i]? = some n → J i m₁ nx → (∀ p ∈ nx, p.1 ≠ I) → Fr h₀ env.locals h m₁ → News h₀ env.locals h ((I, oI) :: nx) →
      wpAny (model prog w) A (assign target env (.int n t)) (fun _ s₃ => wpAny (model prog w) A (execs body env) (TPost h₀ env.locals (J (i + 1)) I oI { s with heap := h, toks := tk } Q) E s₃) E { s with heap := h, toks := tk })
    (done : ∀ m₁ nx h tk, J ns.length m₁ nx → Fr h₀ env.locals h m₁ → News h₀ env.locals h nx → Q .next { s with heap := h, toks := tk }) :
    wpAny (model prog w) A (pyIter (.ref l)) (fun it s₂ => TurnsAt prog w A h₀ env target body Q E it s₂) E s := by
  have hl := isL N (hJm _ _ _ hj)
  have W := KTurns.ofWalks (target := target) (Walks.list (prog := prog) (w := w) hh s.heap.objs.size l (fresh_off N _ (hJm _ _ _ hj)) vs.toArray) fun i v s Q E st q => letGo_listiter st.1 q
  refine wpAny_pyIter_list hl (loop_heldT (s := { s with heap := _ }) (held := [(l, _)]) (J := J) W (fun i h st => st.1.imp fun _ z => z.1) (Nat.ne_of_lt F.ns.lt) (next_is_new F) (fun i m nx j => List.forall_mem_singleton.mpr (hJm i m nx j)) (fresh_off N) ⟨⟨_, Heap.get?_push_size _ rfl, rfl, rfl⟩, hl.at fun o e => Heap.get?_push_of_some _ e⟩ (F.push _) (led_push N) hj (fun i v m₁ nx h tk oI _ hv j offx F' N' => ?_) fun m₁ nx h tk j => ?_)
  · obtain ⟨n, t, rfl, hn⟩ := IntsAre.at hi i v (by simpa using hv)
    exact turn i n t m₁ nx h tk _ oI hn j offx F' N'
  · rw [List.size_toArray, hi.length] at j
    exact done m₁ nx h tk j
/-- for x in reversed(l), l a list of ints on the ledger, I the reversed iterator -/
theorem iterV {l I : Addr} {vs : List Value} {ns : List Int} {c : Nat} {m₀ : Str → Option Value} {news : List (Addr × Obj)} (J : Nat → (Str → Option Value) → List (Addr × Obj) → Prop)
    (hh : A.handled = none) (hJm : ∀ i m nx, J i m nx → (l, PySem.W.listOf vs.toArray c) ∈ nx) (hi : IntsAre vs ns) (F : Fr h₀ env.locals s.heap m₀) (N : News h₀ env.locals s.heap ((I, revObj l ((vs.length : Int) - 1)) :: news)) (hoff : ∀ p ∈ news, p.1 ≠ I) (hj : J 0 m₀ news)
    (turn : ∀ i n t m₁ nx h tk oI, ns.reverse[i]? = some n → J i m₁ nx → (∀ p ∈ nx, p.1 ≠ I) → Fr h₀ env.locals h (fun y => if y = x then some (.int n t) else m₁ y) → News h₀ env.locals h ((I, oI) :: nx) →
      wpAny (model prog w) A (execs body env) (TPost h₀ env.locals (J (i + 1)) I oI { s with heap := h, toks := tk } Q) E { s with heap := h, toks := tk })
    (done : ∀ m₁ nx h tk, J ns.length m₁ nx → Fr h₀ env.locals h m₁ → News h₀ env.locals h nx → Q .next { s with heap := h, toks := tk }) :
    wpAny (model prog w) A (pyIter (.ref I)) (fun it s₂ => LoopAtV prog w A h₀ env x body Q E it s₂) E s := by
  have atI := N _ (.head _)
  have N' : News h₀ env.locals s.heap news := fun p hp => N p (.tail _ hp)
  have hl := isL N' (hJm _ _ _ hj)
  have it : s.heap.IsRevIter I l ((vs.length : Int) - 1) := ⟨_, atI.1, rfl, rfl⟩
  have W := Walks.listRev (prog := prog) (w := w) hh I l (hoff _ (hJm _ _ _ hj)) vs.toArray
  refine wpAny_pyIter_revIter it (loop_held (held := [(l, _)]) (J := J) W (fun i h st => st.2.1.imp fun _ z => z.1) atI.2.1.symm atI.2.2 (fun i m nx j => List.forall_mem_singleton.mpr (hJm i m nx j)) hoff ⟨Nat.zero_le _, by simpa using it, hl⟩ F N' hj (fun i v m₁ nx h tk oI lt hv j offx F' N₁ => ?_) fun m₁ nx h tk j => ?_)
  · rw [List.size_toArray] at lt
    obtain ⟨n, t, rfl, hn⟩ := IntsAre.at hi (vs.length - 1 - i) v (by simpa using hv)
    refine turn i n t m₁ nx h tk oI ?_ j offx F' N₁
    rw [List.getElem?_reverse (by rw [← hi.length]; exact lt), ← hi.length]; exact hn
  · rw [List.size_toArray, hi.length] at j
    exact done m₁ nx h tk j
/-- for x in range(a, b) -/
theorem iterR {r : Addr} {a b : Int} {t₀ u₀ v₀ : Tok} {m₀ : Str → Option Value} {news : List (Addr × Obj)} (J : Nat → (Str → Option Value) → List (Addr × Obj) → Prop) (n : Nat)
    (hh : A.handled = none) (hr : IsRange s.heap r a b 1 t₀ u₀ v₀) (hsmall : Builtin.Range.small a b 1 = true) (hn : n = (b - a).toNat) (F : Fr h₀ env.locals s.heap m₀) (N : News h₀ env.locals s.heap news) (hj : J 0 m₀ news)
    (turn : ∀ (i : Nat) t m₁ nx h tk I oI, i < n → J i m₁ nx → (∀ p ∈ nx, p.1 ≠ I) → Fr h₀ env.locals h (fun y => if y = x then some (.int (a + i) t) else m₁ y) → News h₀ env.locals h ((I, oI) :: nx) →
      wpAny (model prog w) A (execs body env) (TPost h₀ env.locals (J (i + 1)) I oI { s with heap := h, toks := tk } Q) E { s with heap := h, toks := tk })
    (done : ∀ m₁ nx h tk, J n m₁ nx → Fr h₀ env.locals h m₁ → News h₀ env.locals h nx → Q .next { s with heap := h, toks := tk }) :
    wpAny (model prog w) A (pyIter (.ref r)) (fun it s₂ => LoopAtV prog w A h₀ env x body Q E it s₂) E s := by
  have size : Builtin.Range.rangeSize a b 1 = (n : Int) := by
    simp only [Builtin.Range.rangeSize, if_pos (show (1 : Int) > 0 by decide), Int.ediv_one]
    split <;> omega
  have W := Walks.range (prog := prog) (w := w) hh s.heap.objs.size a 1 n
  refine wpAny_pyIter_range hr hsmall (loop_held (s := { s with heap := _ }) (held := []) (J := J) W (fun i h st => ⟨_, st⟩) (Nat.ne_of_lt F.ns.lt) (next_is_new F) (fun _ _ _ _ q hq => by cases hq) (fresh_off N) ?_ (F.push _) (led_push N) hj (fun i v m₁ nx h tk oI lt hv j offx F' N' => ?_) done)
  · rw [size]; simpa using Heap.get?_push_size s.heap rfl
  · obtain ⟨t, rfl⟩ := hv
    rw [Int.mul_one] at F'
    exact turn i t m₁ nx h tk _ oI lt j offx F' N'
end
end Mine
namespace Mine
/-! ## whole[:4], whole a tuple of five -/
section
variable {prog : Program} {w : World} {A : Around} {E : Value → Shared → Prop} {s : Shared} {t sl : Addr} {u : Tok} {v0 v1 v2 v3 v4 : Value}
/-- slice(None, 4) of a length of five: from 0, by ones, four places -/
theorem applied4 {Q : Int × Int × Nat → Shared → Prop} (hs : s.heap.IsSliceOf sl .none (.int 4 u) .none) (h : Q (0, 1, 4) s) : wpAny (model prog w) A (Builtin.Slice.sliceApplied (.ref sl) (pure 5)) Q E s := by
  obtain ⟨o, here, -, parts⟩ := hs
  have part : ∀ (i : Nat) (v : Value) (R : Value → Shared → Prop), #[Value.none, .int 4 u, .none][i]? = some v → R v s → wpAny (model prog w) A (field (.ref sl) i) R E s := fun _ _ _ e q => wpAny_field here parts e q
  have three : wpAny (model prog w) A (Builtin.Slice.sliceFields (.ref sl)) (fun p s' => p = (.none, .int 4 u, .none) ∧ s' = s) E s :=
    wpAny_bind (part 0 _ _ rfl (wpAny_bind (part 1 _ _ rfl (wpAny_bind (part 2 _ _ rfl (wpAny_pure ⟨rfl, rfl⟩))))))
  unfold Builtin.Slice.sliceApplied
  refine wpAny_bind (wpAny_mono three (fun p s' is => ?_) fun _ _ z => z)
  obtain ⟨rfl, rfl⟩ := is
  refine wpAny_bind (slicePart_none ?_)
  dsimp only [Option.getD_none]
  rw [if_neg (show ¬ ((1 : Int) == 0) = true by decide)]
  exact wpAny_bind (slicePart_none (wpAny_bind (slicePart_int (wpAny_bind (wpAny_pure (wpAny_pure h))))))
theorem getItem_cut4 {Q : Value → Shared → Prop} (ht : IsTup s.heap t #[v0, v1, v2, v3, v4]) (hs : s.heap.IsSliceOf sl .none (.int 4 u) .none)
    (h : Q (.ref s.heap.objs.size) { s with heap := s.heap.push { cls := .type "tuple", data := .seq #[v0, v1, v2, v3] } }) : wpAny (model prog w) A (getItem (.ref t) (.ref sl)) Q E s := by
  have isSlice : s.TypeIs (.ref sl) "slice" := hs.imp fun _ z => ⟨z.1, z.2.1⟩
  unfold getItem
  refine wpAny_holding (wpAny_bind (wpAny_sequenceKey ht.typeIs (by decide) ?_))
  refine wpAny_bind (wpAny_callSpecial?_slot (name := Str.ofString "__getitem__") ht.typeIs slot_tuple_getitem (wpAny_call_entry slot_tuple_getitem ht.typeIs entry_tuple_getitem ?_ (args_tuple_getitem _ _)))
  refine wpAny_bind (m := Builtin.Tuple.tupleItemsOf (.ref t)) (tupleItemsOf_ ht (wpAny_bind (wpAny_typeOf isSlice ?_)))
  rw [if_pos (by decide)]
  refine wpAny_bind (applied4 hs ?_)
  dsimp only
  rw [if_neg (by simp)]
  exact wpAny_bind (m := Builtin.Tuple.tupleExact #[v0, v1, v2, v3]) (wpAny_newObj_type (wpAny_pure ⟨_, rfl, wpAny_pure h⟩))
end
section
variable {prog : Program} {w : World} {A : Around} {E : Value → Shared → Prop} {s : Shared} {h₀ : Heap} {L t : Addr} {m : Str → Option Value} {news : List (Addr × Obj)} {u : Tok} {c : Nat} {v0 v1 v2 v3 v4 : Value}
theorem slice_cut4 {value slice : PySem.Expr} {Q : Value → Shared → Prop} (F : Fr h₀ L s.heap m) (N : News h₀ L s.heap news) (ht : (t, ({ cls := .type "tuple", data := .seq #[v0, v1, v2, v3, v4] c } : Obj)) ∈ news)
    (h : ∀ D h', Fr h₀ L h' m → News h₀ L h' ((D, { cls := .type "tuple", data := .seq #[v0, v1, v2, v3] 0 }) :: news) → (∀ p ∈ news, p.1 < D) → Q (.ref D) { s with heap := h' })
    (hs : subscripted slice false (.ref t) (.ref s.heap.objs.size) = operate [.ref s.heap.objs.size, .ref t] (getItem (.ref t) (.ref s.heap.objs.size))) (hg : ∀ r, letTemporaryGo value (.ref t) r = pure ()) :
    wpAny (model prog w) A (subscriptTail value slice (.ref t) (.ref s.heap.objs.size)) Q E { s with heap := s.heap.push { cls := .type "slice", data := .fields #[.none, .int 4 u, .none] } } := by
  have up : ∀ (h : Heap) (o : Obj) (b : Addr) (x : Obj), h.get? b = some x → (h.push o).get? b = some x := fun _ o _ _ e => Heap.get?_push_of_some o e
  have tup : IsTup (s.heap.push { cls := .type "slice", data := .fields #[.none, .int 4 u, .none] }) t #[v0, v1, v2, v3, v4] := ⟨_, up _ _ _ _ (N _ ht).1, rfl, c, rfl⟩
  refine subscriptTail_ops (s := { s with heap := s.heap.push _ }) tup.typeIs slot_tuple_getitem.lookup (getItem_cut4 tup (Heap.IsSliceOf.new ..) (h _ _ ((F.push _).push _) (News.push (F.push _) (N.grown (up _ _)) _) fun p hp => ?_)) hs hg
  have := Heap.lt_size (N p hp).1
  simp only [Heap.size_push]
  exact Nat.lt_succ_of_lt this
end
end Mine
namespace Mine
local macro_rules | `(tactic| walk_at $s:str) => `(tactic| k_extra $s)
def prodL : List Int → Int
  | [] => 1
  | x :: r => x * prodL r
theorem prodL_append (a b : List Int) : prodL (a ++ b) = prodL a * prodL b := by
  induction a with
  | nil => simp [prodL]
  | cons x r ih => simp [prodL, ih, Int.mul_assoc]
theorem prodL_take {ns : List Int} {i : Nat} {n : Int} (h : ns[i]? = some n) : prodL (ns.take (i + 1)) = prodL (ns.take i) * n := by
  rw [List.take_add_one, h, prodL_append]; simp [prodL]
section
-- a name of the frame by what is known of it
set_option maxRecDepth 100000 in
set_option maxHeartbeats 8000000 in
theorem prod_c : ∀ (w : World) {p : Program} {loose : List Str} {mean : ExcName → Option Value} {mg mb : Str → Option Value} {dp un : Nat} {gd : Option (List Code)} {cn : Str} {cs : Scope} {a : Addr} {ccd : Value} {cl : List (Str × Addr)} {outer : List Env} {A₀ : Around} {base h₀ : Heap} {L : Addr} {m : Str → Option Value} {news : List (Addr × Obj)} {s : Shared} {D : Addr} {vs : List Value} {c : Nat} {ns : List Int} {Q E : Value → Shared → Prop},
    Below A₀ base outer h₀ → Fr h₀ L s.heap m → (hd.heap_39 w.params).In h₀ → News h₀ L s.heap news → Top p loose mean mg mb h₀ → cs.kind = .function → (D, PySem.W.listOf vs.toArray c) ∈ news → IntsAre vs ns → (∀ x ∈ ns, -100 ≤ x ∧ x ≤ 100) → dp + 1 < recursionLimit → un + 8 < cLine →
    (∀ t h' tk', Fr h₀ L h' m → News h₀ L h' news → Q (.int (prodL ns) t) { s with heap := h', toks := tk' }) →
    wpAny (model Challenge.rw_hn0004_01.row.prog w) (ktrTop dp un gd cn cs L a ccd cl outer) (call (.ref 84) [.ref D]) Q E s := by
  k_with_none
  k_with "exec For Name Name cons nil" => (k_here; (with_reducible rename Fr _ _ _ _ => lF'); (with_unfolding_all refine' For_invVF lF' ?k1 ?k2 ?_; (case k1 => exact rfl); (case k2 => exact rfl); k_whole))
  k_with "eval Name" => (k_here; k_dflt (refine' nameX_L ?F ?v ?_ ?a ?b; (case a => rfl); (case b => rfl); (case F => k_asm); (case v => (repeat (first | assumption | exact if_pos rfl | refine Eq.trans (if_neg (by decide)) ?_))); k_whole))
  k_fill
  intro w p loose mean mg mb dp un gd cn cs a ccd cl outer A₀ base h₀ L m news s D vs c ns Q E B F X N T hk hm hi hb hd hu hret
  refine wpAny_call ?_
  k_dflt cell_enter
  k_steps
  with_unfolding_all refine iterL (fun i m nx => nx = news ∧ ∃ t, m (Str.ofString "found") = some (.int (prodL (ns.take i)) t)) rfl (fun i m nx hJ => hJ.1 ▸ hm) hi (by k_asm) (by k_asm) ⟨rfl, _, rfl⟩ ?_ ?_
  · rintro i n t m₁ nx h tk I oI hn ⟨rfl, t1, hf⟩ hoff F1 N1
    have hn1 := hb n (List.mem_of_getElem? hn)
    k_steps
    rw [prodL_take hn]
    exact TEnd.intro (by assumption) (by assumption) (fun p hp => hp) hoff ⟨rfl, _, rfl⟩
  · rintro m₁ nx h tk ⟨rfl, t1, hf⟩ F1 N1
    dsimp only
    k_steps
    rw [List.take_length]
    exact hret _ _ _ (by assumption) (by assumption)
end
end Mine
namespace Mine
def waysF (many : Int) : Nat → Int
  | 0 => 1
  | i + 1 => Int.fdiv (waysF many i * (many - i)) (i + 1)
theorem waysF_bound {many : Int} {i : Nat} (h0 : 0 ≤ many) (h5 : many ≤ 5) (hi : i ≤ 5) : -1000 ≤ waysF many i ∧ waysF many i ≤ 1000 := by
  have key : ∀ a : Fin 6, ∀ j : Fin 6, -1000 ≤ waysF (a.val : Int) j.val ∧ waysF (a.val : Int) j.val ≤ 1000 := by decide +kernel
  have := key ⟨many.toNat, by omega⟩ ⟨i, by omega⟩
  have e : ((many.toNat : Nat) : Int) = many := by omega
  rw [← e]; exact this
theorem waysF_fold (many : Int) : ∀ n, (List.foldl (fun (σ : Int × Unit) k => ((σ.1 * (many - k)).fdiv (k + 1), ())) (1, ()) (rangeInts 0 1 n)).1 = waysF many n := by
  intro n
  induction n with
  | zero => rfl
  | succ n ih =>
    have e : rangeInts 0 1 (n + 1) = rangeInts 0 1 n ++ [(n : Int)] := by simp [rangeInts, List.range_succ]
    rw [e, List.foldl_append, List.foldl_cons, List.foldl_nil, ih]
    rfl
set_option maxRecDepth 100000 in
set_option maxHeartbeats 8000000 in
theorem ways_c : ∀ (w : World) {p : Program} {loose : List Str} {mean : ExcName → Option Value} {mg mb : Str → Option Value} {dp un : Nat} {gd : Option (List Code)} {cn : Str} {cs : Scope} {a : Addr} {ccd : Value} {cl : List (Str × Addr)} {outer : List Env} {A₀ : Around} {base h₀ : Heap} {L : Addr} {m : Str → Option Value} {news : List (Addr × Obj)} {s : Shared} {many few : Int} {t₁ t₂ : Tok} {Q E : Value → Shared → Prop},
    Below A₀ base outer h₀ → Fr h₀ L s.heap m → (hd.heap_39 w.params).In h₀ → News h₀ L s.heap news → Top p loose mean mg mb h₀ → cs.kind = .function → 0 ≤ many → many ≤ 5 → 0 ≤ few → few ≤ 5 → dp + 1 < recursionLimit → un + 8 < cLine →
    (∀ t h' tk', Fr h₀ L h' m → News h₀ L h' news → Q (.int (waysF many few.toNat) t) { s with heap := h', toks := tk' }) →
    wpAny (model Challenge.rw_hn0004_01.row.prog w) (ktrTop dp un gd cn cs L a ccd cl outer) (call (.ref 96) [.int many t₁, .int few t₂]) Q E s := by
  k_with_none
  k_fill
  intro w p loose mean mg mb dp un gd cn cs a ccd cl outer A₀ base h₀ L m news s many few t₁ t₂ Q E B F X N T hk hm0 hm5 hf0 hf5 hd hu hret
  refine wpAny_call ?_
  k_dflt cell_enter
  k_steps
  exact cb_retI hret ((waysF_fold many _).trans (by rw [Int.sub_zero])) (by assumption) (by assumption)
end Mine
namespace Mine
local macro_rules | `(tactic| walk_at $s:str) => `(tactic| k_extra $s)
def sum1 : List Int → Int
  | [] => 0
  | x :: r => x + sum1 r
def sum2 : List Int → Int
  | [] => 0
  | x :: r => x * x + sum2 r
def sum3 : List Int → Int
  | [] => 0
  | x :: r => x ^ 3 + sum3 r
theorem sum1_append (a b : List Int) : sum1 (a ++ b) = sum1 a + sum1 b := by
  induction a with
  | nil => simp [sum1]
  | cons x r ih => simp [sum1, ih, Int.add_assoc]
theorem sum2_append (a b : List Int) : sum2 (a ++ b) = sum2 a + sum2 b := by
  induction a with
  | nil => simp [sum2]
  | cons x r ih => simp [sum2, ih, Int.add_assoc]
theorem sum3_append (a b : List Int) : sum3 (a ++ b) = sum3 a + sum3 b := by
  induction a with
  | nil => simp [sum3]
  | cons x r ih => simp [sum3, ih, Int.add_assoc]
theorem sum1_take {ns : List Int} {i : Nat} {n : Int} (h : ns[i]? = some n) : sum1 (ns.take (i + 1)) = n + sum1 (ns.take i) := by
  rw [List.take_add_one, h, sum1_append, Int.add_comm]; simp [sum1]
theorem sum2_take {ns : List Int} {i : Nat} {n : Int} (h : ns[i]? = some n) : sum2 (ns.take (i + 1)) = n * n + sum2 (ns.take i) := by
  rw [List.take_add_one, h, sum2_append, Int.add_comm]; simp [sum2]
theorem sum3_take {ns : List Int} {i : Nat} {n : Int} (h : ns[i]? = some n) : sum3 (ns.take (i + 1)) = n ^ 3 + sum3 (ns.take i) := by
  rw [List.take_add_one, h, sum3_append, Int.add_comm]; simp [sum3]

/-- what holds between the turns of the sums' loop -/
def SumsJ (prog : Program) (w : World) (ns : List Int) (news : List (Addr × Obj)) (i : Nat) (m : Str → Option Value) (nx : List (Addr × Obj)) : Prop :=
  ∃ (Dw : Addr) (cw : Nat) (t1 t2 t3 t4 : Tok) (dd : Addr) (od : Obj), nx = (Dw, tupOf [.int (sum1 (ns.take i)) t1, .int (sum2 (ns.take i)) t2, .int (sum3 (ns.take i)) t3, .int (i : Nat) t4, .ref dd] cw) :: (dd, od) :: news ∧ (dd == sysModules) = false ∧ Obj.IsDictOf (strKind prog w) od [] ∧ Obj.IsDictOf (intKind prog w) od [] ∧ m (Str.ofString "whole") = some (.ref Dw) ∧ (∀ p ∈ news, p.1 < dd) ∧ @LT.lt Nat _ dd Dw
theorem sums_turn {prog : Program} {w : World} {h₀ h' : Heap} {L I Dw dd : Addr} {oI od : Obj} {m' : Str → Option Value} {ns : List Int} {news led : List (Addr × Obj)} {i : Nat} {n : Int} {cw : Nat} {t1 t2 t3 t4 : Tok} {s₁ : Shared} {tk : Nat} (hn : ns[i]? = some n)
    (F : Fr h₀ L h' m') (N : News h₀ L h' led) (hw : m' (Str.ofString "whole") = some (.ref Dw))
    (h1 : (Dw, tupOf [.int (n + sum1 (ns.take i)) t1, .int (n * n + sum2 (ns.take i)) t2, .int (n ^ 3 + sum3 (ns.take i)) t3, .int (1 + (i : Nat)) t4, .ref dd] cw) ∈ led) (h2 : (dd, od) ∈ led) (h3 : (I, oI) ∈ led) (h4 : ∀ p ∈ news, p ∈ led)
    (hmod : (dd == sysModules) = false) (hs : Obj.IsDictOf (strKind prog w) od []) (hi : Obj.IsDictOf (intKind prog w) od []) (hl : AllLt dd news) (hl2 : @LT.lt Nat _ dd Dw) (hI : @LT.lt Nat _ I dd) (hoff : ∀ p ∈ news, p.1 ≠ I) :
    TEnd h₀ L (SumsJ prog w ns news (i + 1)) I oI s₁ { s₁ with heap := h', toks := tk } := by
  have e4 : ((i + 1 : Nat) : Int) = 1 + (i : Nat) := by omega
  have lt' : ∀ p ∈ news, p.1 < dd := by
    have go : ∀ l : List (Addr × Obj), AllLt dd l → ∀ p ∈ l, p.1 < dd := by
      intro l
      induction l with
      | nil => intro _ p hp; cases hp
      | cons q r ih =>
        intro h p hp
        rcases List.mem_cons.mp hp with rfl | hp
        · exact h.1
        · exact ih h.2 p hp
    exact go news hl
  refine TEnd.intro (nx := (Dw, tupOf [.int (n + sum1 (ns.take i)) t1, .int (n * n + sum2 (ns.take i)) t2, .int (n ^ 3 + sum3 (ns.take i)) t3, .int (1 + (i : Nat)) t4, .ref dd] cw) :: (dd, od) :: news) F N ?_ ?_ ?_
  · intro p hp
    rcases List.mem_cons.mp hp with rfl | hp
    · exact h3
    · rcases List.mem_cons.mp hp with rfl | hp
      · exact h1
      · rcases List.mem_cons.mp hp with rfl | hp
        · exact h2
        · exact h4 p hp
  · intro p hp
    rcases List.mem_cons.mp hp with rfl | hp
    · exact Nat.ne_of_gt (Nat.lt_trans hI hl2)
    · rcases List.mem_cons.mp hp with rfl | hp
      · exact Nat.ne_of_gt hI
      · exact hoff p hp
  · unfold SumsJ
    rw [sum1_take hn, sum2_take hn, sum3_take hn, e4]
    exact ⟨Dw, cw, t1, t2, t3, t4, dd, od, rfl, hmod, hs, hi, hw, lt', hl2⟩
section
-- a name of the frame by what is known of it
set_option maxRecDepth 100000 in
set_option maxHeartbeats 8000000 in
theorem sums_c : ∀ (w : World) {p : Program} {loose : List Str} {mean : ExcName → Option Value} {mg mb : Str → Option Value} {dp un : Nat} {gd : Option (List Code)} {cn : Str} {cs : Scope} {a : Addr} {ccd : Value} {cl : List (Str × Addr)} {outer : List Env} {A₀ : Around} {base h₀ : Heap} {L : Addr} {m : Str → Option Value} {news : List (Addr × Obj)} {s : Shared} {D : Addr} {vs : List Value} {c : Nat} {ns : List Int} {Q E : Value → Shared → Prop},
    Below A₀ base outer h₀ → Fr h₀ L s.heap m → (hd.heap_39 w.params).In h₀ → News h₀ L s.heap news → Top p loose mean mg mb h₀ → cs.kind = .function → (D, PySem.W.listOf vs.toArray c) ∈ news → IntsAre vs ns → ns.length ≤ 100 → (∀ x ∈ ns, -100 ≤ x ∧ x ≤ 100) → dp + 3 < recursionLimit → un + 24 < cLine →
    (∀ D' c' t1 t2 t3 t4 h' tk', Fr h₀ L h' m → News h₀ L h' ((D', tupOf [.int (sum1 ns) t1, .int (sum2 ns) t2, .int (sum3 ns) t3, .int ns.length t4] c') :: news) → (∀ p ∈ news, p.1 < D') → Q (.ref D') { s with heap := h', toks := tk' }) →
    wpAny (model Challenge.rw_hn0004_01.row.prog w) (ktrTop dp un gd cn cs L a ccd cl outer) (call (.ref 77) [.ref D]) Q E s := by
  k_with_none
  k_with "exec For Name Name cons nil" => (k_here; (with_reducible rename Fr _ _ _ _ => lF'); (with_unfolding_all refine' For_invVF lF' ?k1 ?k2 ?_; (case k1 => exact rfl); (case k2 => exact rfl); k_whole))
  k_with "call ref" => (k_here; k_dflt (refine wpAny_call ?_; (refine' code_def ?k1 ?k2 ?k3 ?k4 ?k5 ?kA ?kF ?kK ?k6 ?k7 ?k8 ?k9 ?kB ?_ ?c2 ?c3 ?c4 ?c5; (case kA => exact rfl); (case kF => exact rfl); (case kK => exact rfl); (case k1 => k_asm); (case k2 => k_asm); (case k3 => k_asm); (case k4 => k_asm); (case k5 => k_asm); (case k6 => k_is); (case k7 => k_is); (case k8 => ktr_room); (case k9 => exact BindsTo.of_eq rfl); (case c5 => decide); (case kB => exact locs rfl); (case c2 => exact rfl); (case c3 => exact rfl); (case c4 => exact rfl); k_whole; intro g' L' h' FG' F' N' B' X' T'; (try dsimp only); (try k_lift B'); (try k_fold))))
  k_with "exec For Tuple Call cons nil" => (k_here; (rename Fr _ _ _ _ => lF'); (rename News _ _ _ _ => lN'); with_unfolding_all ((refine' For_turns lF' ?_); k_whole; (refine MethodCall_ ?_); (refine ld lF' (by rfl) ?_); (refine getMethod_tab (knd := PySem.strKind _ _) (enc := PyData.str) PySem.F.slot_dict_items PySem.F.type_dict_items (by k_tabat) ?_); (refine callWith_method0 ?_); (refine call_items_tab (knd := PySem.strKind _ _) (enc := PyData.str) (by k_tabat) lF' lN' ?_); intro h' o' hv' F' N'; (replace N' := kti_tail N'); (refine kti_items (knd := PySem.strKind _ _) (enc := PyData.str) (xs := []) (by rfl) F' N' hv' (by k_tabat) (by k_mem) (fun _ _ h => Value.isStrOf_shape h) (by rfl) ?_)); clear lF' lN'; intro i' l1; (try k_lt l1))
  k_with "eval Name" => (k_here; k_dflt (refine' nameX_L ?F ?v ?_ ?a ?b; (case a => rfl); (case b => rfl); (case F => k_asm); (case v => (repeat (first | assumption | exact if_pos rfl | refine Eq.trans (if_neg (by decide)) ?_))); k_whole))
  k_fill
  intro w p loose mean mg mb dp un gd cn cs a ccd cl outer A₀ base h₀ L m news s D vs c ns Q E B F X N T hk hm hi hlen hb hd hu hret
  refine wpAny_call ?_
  k_dflt cell_enter
  k_steps
  with_reducible rename Fr _ _ _ _ => F1
  with_reducible rename News _ _ _ _ => N1
  with_unfolding_all refine iterL (c := c) (SumsJ Challenge.rw_hn0004_01.row.prog w ns news) ?_ ?_ hi F1 N1 ?_ ?_ ?_
  · exact rfl
  · rintro i m nx ⟨Dw, cw, t1, t2, t3, t4, dd, od, rfl, -⟩; exact .tail _ (.tail _ hm)
  · exact ⟨_, _, _, _, _, _, _, _, rfl, by assumption, by assumption, by assumption, rfl, by assumption, by omega⟩
  · rintro i n t m₁ nx h tk I oI hn ⟨Dw, cw, t1, t2, t3, t4, dd, od, rfl, hmod, hsd, hid, hf, hlt1, hlt2⟩ hoff F1 N1
    have hn1 := hb n (List.mem_of_getElem? hn)
    k_steps
    rename Fr _ _ _ _ => Fz
    rename News _ _ _ _ => Nz
    exact sums_turn hn Fz Nz rfl (.head _) (.tail _ (.head _)) (by k_mem) (fun p hp => by repeat (first | exact hp | refine List.Mem.tail _ ?_)) (by assumption) (by assumption) (by assumption) (‹_ ∧ _ ∧ _ ∧ _ ∧ _ ∧ AllLt _ news›).2.2.2.2.2 (by omega) (by omega) (fun p hp => hoff p (.tail _ (.tail _ hp)))
  · rintro m₁ nx h tk ⟨Dw, cw, t1, t2, t3, t4, dd, od, rfl, hmod, hsd, hid, hf, hlt1, hlt2⟩ F1 N1
    dsimp only
    k_steps
    with_unfolding_all refine slice_cut4 F1 N1 (.head _) (fun D' h' F' N' l1 => ?_) rfl (fun _ => rfl)
    k_steps
    rename News _ _ _ _ => Nz
    rw [List.take_length] at Nz
    refine hret D' 0 t1 t2 t3 t4 _ _ (by assumption) ?_ (fun p hp => l1 p (.tail _ (.tail _ hp)))
    intro p hp
    rcases List.mem_cons.mp hp with rfl | hp
    · exact Nz _ (.head _)
    · exact Nz _ (.tail _ (.tail _ (.tail _ hp)))
end
end Mine
namespace Mine
local macro_rules | `(tactic| walk_at $s:str) => `(tactic| k_extra $s)
/-- one more number: the coefficients of (1 + n x) times what was found -/
def chStep (f : List Int) (n : Int) : List Int := (rangeKs 0 (((f.length + 1 : Nat) : Int) - 0).toNat).map fun k => (f ++ [0]).getD k.toNat 0 + n * ([0] ++ f).getD k.toNat 0
def chosenF (ns : List Int) : List Int := ns.foldl chStep [1]
theorem chosenF_len (ns : List Int) : (chosenF ns).length = ns.length + 1 := by
  have go : ∀ (l : List Int) (f : List Int), (l.foldl chStep f).length = l.length + f.length := by
    intro l
    induction l with
    | nil => intro f; simp
    | cons n r ih => intro f; rw [List.foldl_cons, ih]; simp [chStep, rangeKs_length]; omega
  rw [chosenF, go]; rfl
theorem chosenF_take {ns : List Int} {i : Nat} {n : Int} (h : ns[i]? = some n) : chosenF (ns.take (i + 1)) = chStep (chosenF (ns.take i)) n := by
  unfold chosenF
  rw [List.take_add_one, h, List.foldl_append]; rfl
def ChosenJ (L' : Nat) (ns : List Int) (news : List (Addr × Obj)) (i : Nat) (m : Str → Option Value) (nx : List (Addr × Obj)) : Prop :=
  ∃ (Df : Addr) (vf : List Value) (cf : Nat) (o1 o2 o3 : Obj) (v1 v2 v3 : Option Value), nx = (Df, PySem.W.listOf (List.toArray vf) cf) :: (L' + 1 + 1 + 1, o1) :: (L' + 1 + 1, o2) :: (L' + 1, o3) :: news ∧ IntsAre vf (chosenF (ns.take i)) ∧ m (Str.ofString "found") = some (.ref Df) ∧ o1.data = .cell v1 ∧ o2.data = .cell v2 ∧ o3.data = .cell v3 ∧ @Ne Nat (L' + 1 + 1 + 1) Df ∧ @Ne Nat (L' + 1 + 1) Df ∧ @Ne Nat (L' + 1) Df ∧ LCg.Off1 Df news
theorem chosen_turn {h₀ h' : Heap} {L' : Nat} {L I Df : Addr} {oI o1 o2 o3 : Obj} {v1 v2 v3 : Option Value} {m' : Str → Option Value} {ns : List Int} {news led : List (Addr × Obj)} {i : Nat} {n : Int} {cf : Nat} {vf : List Value} {s₁ : Shared} {tk : Nat} (hn : ns[i]? = some n)
    (F : Fr h₀ L h' m') (N : News h₀ L h' led) (hw : m' (Str.ofString "found") = some (.ref Df)) (h1 : (Df, PySem.W.listOf (List.toArray vf) cf) ∈ led) (hI : (I, oI) ∈ led) (g1 : (L' + 1 + 1 + 1, o1) ∈ led) (g2 : (L' + 1 + 1, o2) ∈ led) (g3 : (L' + 1, o3) ∈ led) (h4 : ∀ p ∈ news, p ∈ led)
    (hv : IntsAre vf (chStep (chosenF (ns.take i)) n)) (d1 : o1.data = .cell v1) (d2 : o2.data = .cell v2) (d3 : o3.data = .cell v3)
    (e1 : @Ne Nat (L' + 1 + 1 + 1) Df) (e2 : @Ne Nat (L' + 1 + 1) Df) (e3 : @Ne Nat (L' + 1) Df) (e4 : LCg.Off1 Df news) (eI : @Ne Nat I Df)
    (f1 : @Ne Nat (L' + 1 + 1 + 1) I) (f2 : @Ne Nat (L' + 1 + 1) I) (f3 : @Ne Nat (L' + 1) I) (hoff : ∀ p ∈ news, p.1 ≠ I) :
    TEnd h₀ L (ChosenJ L' ns news (i + 1)) I oI s₁ { s₁ with heap := h', toks := tk } := by
  refine TEnd.intro (nx := (Df, PySem.W.listOf (List.toArray vf) cf) :: (L' + 1 + 1 + 1, o1) :: (L' + 1 + 1, o2) :: (L' + 1, o3) :: news) F N ?_ ?_ ?_
  · intro p hp
    simp only [List.mem_cons] at hp
    rcases hp with rfl | rfl | rfl | rfl | rfl | hp
    · exact hI
    · exact h1
    · exact g1
    · exact g2
    · exact g3
    · exact h4 p hp
  · intro p hp
    simp only [List.mem_cons] at hp
    rcases hp with rfl | rfl | rfl | rfl | hp
    · exact fun e => eI e.symm
    · exact f1
    · exact f2
    · exact f3
    · exact hoff p hp
  · unfold ChosenJ
    rw [chosenF_take hn]
    exact ⟨Df, vf, cf, o1, o2, o3, v1, v2, v3, rfl, hv, hw, d1, d2, d3, e1, e2, e3, e4⟩
theorem ch_idx1 {f : List Int} {k : Int} (h : k < 0 + (((((f.length + 1 : Nat) : Int) - 0).toNat : Nat) : Int)) : k < ((f ++ [0]).length : Nat) := by
  simp only [List.length_append, List.length_cons, List.length_nil]; omega
theorem ch_idx2 {f : List Int} {k : Int} (h : k < 0 + (((((f.length + 1 : Nat) : Int) - 0).toNat : Nat) : Int)) : k < (([0] ++ f).length : Nat) := by
  simp only [List.length_append, List.length_cons, List.length_nil]; omega
theorem ch_idx3 {f : List Int} {k : Int} (h : k < 0 + (((((f.length + 1 : Nat) : Int) - 0).toNat : Nat) : Int)) (hf : f.length ≤ 1000) : k < 2 ^ 63 := by omega
section
local macro_rules | `(tactic| k_all) => `(tactic| exact ne_of_below (by assumption) (by omega))
-- a name of the frame by what is known of it
set_option maxRecDepth 100000 in
set_option maxHeartbeats 8000000 in
theorem chosen_c : ∀ (w : World) {p : Program} {loose : List Str} {mean : ExcName → Option Value} {mg mb : Str → Option Value} {dp un : Nat} {gd : Option (List Code)} {cn : Str} {cs : Scope} {a : Addr} {ccd : Value} {cl : List (Str × Addr)} {outer : List Env} {A₀ : Around} {base h₀ : Heap} {L : Addr} {m : Str → Option Value} {news : List (Addr × Obj)} {s : Shared} {D : Addr} {vs : List Value} {c : Nat} {ns : List Int} {Q E : Value → Shared → Prop},
    Below A₀ base outer h₀ → Fr h₀ L s.heap m → (hd.heap_39 w.params).In h₀ → News h₀ L s.heap news → Top p loose mean mg mb h₀ → cs.kind = .function → (D, PySem.W.listOf vs.toArray c) ∈ news → IntsAre vs ns → ns.length ≤ 100 → (∀ x ∈ ns, -100 ≤ x ∧ x ≤ 100) → dp + 3 < recursionLimit → un + 24 < cLine →
    (∀ D' c' vs' h' tk', Fr h₀ L h' m → News h₀ L h' ((D', PySem.W.listOf (List.toArray vs') c') :: news) → (∀ p ∈ news, p.1 ≠ D') → IntsAre vs' (chosenF ns) → Q (.ref D') { s with heap := h', toks := tk' }) →
    wpAny (model Challenge.rw_hn0004_01.row.prog w) (ktrTop dp un gd cn cs L a ccd cl outer) (call (.ref 89) [.ref D]) Q E s := by
  k_with_none
  k_with "subscriptTail Name Name ref int" => (k_here; (with_reducible show wpAny _ _ (subscriptTail _ _ (Value.ref _) (Value.int _ _)) _ _ _); (with_unfolding_all refine' item_anyK ?k1 ?k2 ?k3 ?k4 ?k5 ?_ ?k6; (case k1 => exact News.isList (by k_asm) (by k_mem)); (case k2 => with_reducible assumption); (case k3 => with_reducible assumption); (case k4 => first | exact ch_idx1 (by with_reducible assumption) | exact ch_idx2 (by with_reducible assumption)); (case k5 => exact ch_idx3 (by with_reducible assumption) (by with_reducible assumption)); (case k6 => with_unfolding_all rfl); k_whole); intro _)
  k_with "exec For Name Name cons nil" => (k_here; (with_reducible rename Fr _ _ _ _ => lF'); (with_unfolding_all refine' For_turns lF' ?_); k_whole)
  k_with "eval Name" => (k_here; k_dflt (refine' nameX_L ?F ?v ?_ ?a ?b; (case a => rfl); (case b => rfl); (case F => k_asm); (case v => (repeat (first | assumption | exact if_pos rfl | refine Eq.trans (if_neg (by decide)) ?_))); k_whole))
  k_fill
  intro w p loose mean mg mb dp un gd cn cs a ccd cl outer A₀ base h₀ L m news s D vs c ns Q E B F X N T hk hm hi hlen hb hd hu hret
  refine wpAny_call ?_
  k_dflt (refine' code_defC ?k1 ?k2 ?k3 ?k4 ?k5 ?kA ?kF ?kK ?k6 ?k7 ?k8 ?k9 ?kB ?kD ?_ ?c2 ?c3 ?c4; (case kA => exact rfl); (case kF => exact rfl); (case kK => first | exact rfl | assumption); (case k1 => k_asm); (case k2 => k_asm); (case k3 => k_asm); (case k4 => k_asm); (case k5 => k_asm); (case k6 => k_is); (case k7 => k_is); (case k8 => ktr_room); (case k9 => exact BindsTo.of_eq rfl); (case kB => exact rfl); (case kD => decide +kernel); (case c2 => exact rfl); (case c3 => exact rfl); (case c4 => exact rfl); k_whole; intro g' L' h' tk' cells' FG' F' N' Y' B' X' T' l1; (try k_lt l1); k_cells Y'; (try simp only [List.cons_append, List.nil_append] at N'); (try dsimp only); (try k_lift B'); (try k_fold))
  try k_fold
  k_steps
  with_reducible rename Fr _ _ _ _ => F1
  with_reducible rename News _ _ _ _ => N1
  with_unfolding_all refine iterT (c := c) (ChosenJ L' ns news) ?_ ?_ hi F1 N1 ?_ ?_ ?_
  · exact rfl
  · rintro i m nx ⟨Df, vf, cf, o1, o2, o3, v1, v2, v3, rfl, -⟩; exact .tail _ (.tail _ (.tail _ (.tail _ hm)))
  · exact ⟨_, [Value.int 1 _], _, _, _, _, _, _, _, rfl, IntsAre.cons _ _ IntsAre.nil, rfl, by assumption, by assumption, by assumption, by omega, by omega, by omega, off1_of_allLt (‹_ ∧ _ ∧ _ ∧ AllLt _ news›).2.2.2⟩
  · rintro i n t m₁ nx h tk I oI hn ⟨Df, vf, cf, o1, o2, o3, v1, v2, v3, rfl, hif, hf, hd1, hd2, hd3, he1, he2, he3, hltn⟩ hoff F1 N1
    have hn1 := hb n (List.mem_of_getElem? hn)
    have hilt : i < ns.length := (List.getElem?_eq_some_iff.mp hn).1
    have hlf : (chosenF (ns.take i)).length = i + 1 := by rw [chosenF_len, List.length_take]; omega
    have hlf2 : (chosenF (ns.take i)).length ≤ 1000 := by omega
    have hI := allNe_of hoff
    simp only [AllNe] at hI
    k_steps
    rename Fr _ _ _ _ => Fz
    rename News _ _ _ _ => Nz
    exact chosen_turn hn Fz Nz rfl (.head _) (by k_mem) (by k_mem) (by k_mem) (by k_mem) (fun p hp => by repeat (first | exact hp | refine List.Mem.tail _ ?_)) (by assumption) (by assumption) (by assumption) (by assumption) (by omega) (by omega) (by omega) (‹_ ∧ _ ∧ _ ∧ _ ∧ _ ∧ _ ∧ _ ∧ _ ∧ _ ∧ _ ∧ LCg.Off1 _ news›).2.2.2.2.2.2.2.2.2.2 (by omega) (by omega) (by omega) (by omega) (fun p hp => hoff p (.tail _ (.tail _ (.tail _ (.tail _ hp)))))
  · rintro m₁ nx h tk ⟨Df, vf, cf, o1, o2, o3, v1, v2, v3, rfl, hif, hf, hd1, hd2, hd3, he1, he2, he3, hltn⟩ F1 N1
    dsimp only
    k_steps
    rename News _ _ _ _ => Nz
    rw [List.take_length] at hif
    refine hret Df cf vf _ _ (by assumption) ?_ (ne_of_off1 hltn) hif
    intro p hp
    rcases List.mem_cons.mp hp with rfl | hp
    · exact Nz _ (.head _)
    · exact Nz _ (.tail _ (.tail _ (.tail _ (.tail _ hp))))
end
end Mine
namespace Mine
local macro_rules | `(tactic| walk_at $s:str) => `(tactic| k_extra $s)
section
variable {prog : Program} {w : World} {A : Around} {E : Value → Shared → Prop} {s : Shared} {h₀ : Heap} {L : Addr} {m : Str → Option Value} {news : List (Addr × Obj)} {a b : Int} {t u : Tok} {Q : Value → Shared → Prop}
theorem divmod_L (F : Fr h₀ L s.heap m) (N : News h₀ L s.heap news) (hb : b ≠ 0) (ha : -1000000 ≤ a ∧ a ≤ 1000000) (hb' : -1000000 ≤ b ∧ b ≤ 1000000)
    (h : ∀ D h' tk, Fr h₀ L h' m → News h₀ L h' ((D, tupOf [.int (a.fdiv b) s.toks, .int (a.fmod b) (s.toks + 1)] 0) :: news) → (∀ p ∈ news, p.1 < D) → Q (.ref D) { s with toks := tk, heap := h' }) :
    wpAny (model prog w) A (call (.builtin "divmod") [.int a t, .int b u]) Q E s :=
  divmod_N F N hb (fun h' F' N' => h _ h' _ F' N' fun p hp => Heap.lt_size (N p hp).1) (Or.inl (PyProof.noPylong_small (by omega)))
end
section
set_option maxRecDepth 100000 in
set_option maxHeartbeats 8000000 in
theorem div2n1n_c : ∀ (w : World) {p : Program} {loose : List Str} {mean : ExcName → Option Value} {mg mb : Str → Option Value} {dp un : Nat} {gd : Option (List Code)} {cn : Str} {cs : Scope} {a₀ : Addr} {ccd : Value} {cl : List (Str × Addr)} {outer : List Env} {A₀ : Around} {base h₀ : Heap} {L : Addr} {m : Str → Option Value} {news : List (Addr × Obj)} {s : Shared} {a b n : Int} {t₁ t₂ t₃ : Tok} {Q E : Value → Shared → Prop},
    Below A₀ base outer h₀ → Fr h₀ L s.heap m → (hd.heap_39 w.params).In h₀ → News h₀ L s.heap news → Top p loose mean mg mb h₀ → cs.kind = .function → 0 ≤ a → a ≤ 1000 → 0 < b → b ≤ 1000 → 0 ≤ n → n ≤ 1000 → dp + 1 < recursionLimit → un + 8 < cLine →
    (∀ D' c' t1 t2 h' tk', Fr h₀ L h' m → News h₀ L h' ((D', tupOf [.int (a.fdiv b) t1, .int (a.fmod b) t2] c') :: news) → (∀ p ∈ news, p.1 < D') → Q (.ref D') { s with heap := h', toks := tk' }) →
    wpAny (model Challenge.rw_hn0004_01.row.prog w) (ktrTop dp un gd cn cs L a₀ ccd cl outer) (call (.ref 35) [.int a t₁, .int b t₂, .int n t₃]) Q E s := by
  k_with_none
  k_with "call builtin:divmod" => (k_here; k_dflt (refine' divmod_L ?k1 ?k2 ?k3 ?k4 ?k5 ?_; (case k1 => k_asm); (case k2 => k_asm); (case k3 => omega); (case k4 => omega); (case k5 => omega); k_whole); intro D' h' tk' F' N' l1)
  k_fill
  intro w p loose mean mg mb dp un gd cn cs a₀ ccd cl outer A₀ base h₀ L m news s a b n t₁ t₂ t₃ Q E B F X N T hk ha0 ha hb0 hb hn0 hn hd hu hret
  have hbits := intBits_le_64 (k := a) (by omega) (by omega)
  refine wpAny_call ?_
  k_dflt cell_enter
  k_steps
  exact hret _ 0 _ _ _ _ (by assumption) (by assumption) (by assumption)
end
end Mine
namespace Mine
local macro_rules | `(tactic| walk_at $s:str) => `(tactic| k_extra $s)
theorem i2d_len {k n : Int} (hk0 : 0 ≤ k) (hk : k ≤ 6) (hn0 : 1 ≤ n) (hn : n ≤ 3) : 0 ≤ (k + n - 1).fdiv n ∧ (k + n - 1).fdiv n ≤ 6 ∧ (1 ≤ k → 1 ≤ (k + n - 1).fdiv n) := by
  rw [Int.fdiv_eq_ediv_of_nonneg _ (by omega)]
  have h : n = 1 ∨ n = 2 ∨ n = 3 := by omega
  rcases h with rfl | rfl | rfl <;> omega
theorem bits_small {a : Int} (h0 : 0 ≤ a) (h : a ≤ 63) : Builtin.Int.intBits a ≤ 6 := intBits_le (by omega)
theorem bits_pos {a : Int} (h : a ≠ 0) : 1 ≤ Builtin.Int.intBits a := by
  unfold Builtin.Int.intBits
  split
  · rename_i hh
    exact absurd (by simpa using hh) h
  · omega
/-- what inner does to the digits -/
def i2dF (n : Int) : Nat → List Int → Int → Int → Int → List Int
  | 0, ds, _, _, _ => ds
  | k + 1, ds, x, lo, hi =>
    if lo + 1 = hi then ds.set lo.toNat x
    else
      i2dF n k (i2dF n k ds (Builtin.bitXor x (x.fdiv (2 ^ (((lo + hi).fdiv 2 - lo) * n).toNat) * 2 ^ (((lo + hi).fdiv 2 - lo) * n).toNat)) lo ((lo + hi).fdiv 2)) (x.fdiv (2 ^ (((lo + hi).fdiv 2 - lo) * n).toNat)) ((lo + hi).fdiv 2) hi
theorem i2dF_one {n : Int} {k : Nat} {ds : List Int} {x lo hi : Int} (h : lo + 1 = hi) : i2dF n (k + 1) ds x lo hi = ds.set lo.toNat x := by
  simp only [i2dF, if_pos h]
theorem i2dF_two {n : Int} {k : Nat} {ds : List Int} {x lo hi M P U Y Z : Int} (h : ¬ lo + 1 = hi) (hM : M = (lo + hi).fdiv 2) (hP : P = (M - lo) * n) (hU : U = x.fdiv (2 ^ P.toNat)) (hY : Y = U * 2 ^ P.toNat) (hZ : Z = Builtin.bitXor x Y) :
    i2dF n (k + 1) ds x lo hi = i2dF n k (i2dF n k ds Z lo M) U M hi := by
  subst hM hP hU hY hZ
  simp only [i2dF, if_neg h]
theorem i2dF_len (n : Int) : ∀ (k : Nat) (ds : List Int) (x lo hi : Int), (i2dF n k ds x lo hi).length = ds.length := by
  intro k
  induction k with
  | zero => intro ds x lo hi; rfl
  | succ k ih =>
    intro ds x lo hi
    unfold i2dF
    split
    · simp
    · rw [ih, ih]
theorem xor_small {x y : Int} (hx0 : 0 ≤ x) (hx : x ≤ 63) (hy0 : 0 ≤ y) (hy : y ≤ 63) : 0 ≤ Builtin.bitXor x y ∧ Builtin.bitXor x y ≤ 63 := by
  have key : ∀ a b : Fin 64, 0 ≤ Builtin.bitXor (a.val : Int) (b.val : Int) ∧ Builtin.bitXor (a.val : Int) (b.val : Int) ≤ 63 := by decide +kernel
  have := key ⟨x.toNat, by omega⟩ ⟨y.toNat, by omega⟩
  have e1 : ((x.toNat : Nat) : Int) = x := by omega
  have e2 : ((y.toNat : Nat) : Int) = y := by omega
  rw [← e1, ← e2]; exact this
section
variable {prog : Program} {w : World} {A : Around} {E : Value → Shared → Prop} {s : Shared} {a b : Int} {t u : Tok} {Q : Value → Shared → Prop}
theorem half_rule (h : ∀ M tk, M = a.fdiv 2 → 2 * M ≤ a → a ≤ 2 * M + 1 → Q (.int M s.toks) { s with toks := tk }) : wpAny (model prog w) A (binaryOp .RShift (.int a t) (.int 1 u)) Q E s := by
  refine rshift_int (by decide) ?_
  have e : (2 : Int) ^ (1 : Int).toNat = 2 := by decide
  rw [e]
  have e2 := Int.fdiv_eq_ediv_of_nonneg a (show (0 : Int) ≤ 2 by decide)
  exact h _ _ rfl (by omega) (by omega)
theorem mul_rule (ha0 : 0 ≤ a) (hb0 : 0 ≤ b) (ha : a ≤ 1000) (hb : b ≤ 3) (h : ∀ P tk, P = a * b → 0 ≤ P → P ≤ 3000 → Q (.int P s.toks) { s with toks := tk }) : wpAny (model prog w) A (binaryOp .Mult (.int a t) (.int b u)) Q E s := by
  refine mul_int (h _ _ rfl (Int.mul_nonneg ha0 hb0) ?_) (IntMulOk.of_left (intBits_le_64 (by omega) (by omega)))
  exact Int.le_trans (Int.mul_le_mul ha hb hb0 (by omega)) (by decide)
theorem shr_rule (ha0 : 0 ≤ a) (ha : a ≤ 63) (hb0 : 0 ≤ b) (h : ∀ U tk, U = a.fdiv (2 ^ b.toNat) → 0 ≤ U → U ≤ 63 → U * 2 ^ b.toNat ≤ a → Q (.int U s.toks) { s with toks := tk }) : wpAny (model prog w) A (binaryOp .RShift (.int a t) (.int b u)) Q E s := by
  refine rshift_int hb0 ?_
  have hp : (0 : Int) < 2 ^ b.toNat := Int.pow_pos (by decide)
  have e2 := Int.fdiv_eq_ediv_of_nonneg a (Int.le_of_lt hp)
  refine h _ _ rfl ?_ ?_ ?_
  · rw [e2]; exact Int.ediv_nonneg ha0 (Int.le_of_lt hp)
  · rw [e2]; exact Int.le_trans (Int.ediv_le_self _ ha0) ha
  · rw [e2]; exact Int.ediv_mul_le _ (Int.ne_of_gt hp)
theorem shl_rule (ha0 : 0 ≤ a) (ha : a ≤ 63) (hb0 : 0 ≤ b) (hb : b ≤ 3000) (hab : a * 2 ^ b.toNat ≤ 63) (h : ∀ Y tk, Y = a * 2 ^ b.toNat → 0 ≤ Y → Y ≤ 63 → Q (.int Y s.toks) { s with toks := tk }) : wpAny (model prog w) A (binaryOp .LShift (.int a t) (.int b u)) Q E s := by
  refine lshift_int_small hb0 (by omega) (by omega) (h _ _ rfl ?_ hab)
  exact Int.mul_nonneg ha0 (Int.le_of_lt (Int.pow_pos (by decide)))
theorem xor_rule (ha0 : 0 ≤ a) (ha : a ≤ 63) (hb0 : 0 ≤ b) (hb : b ≤ 63) (h : ∀ Z tk, Z = Builtin.bitXor a b → 0 ≤ Z → Z ≤ 63 → Q (.int Z s.toks) { s with toks := tk }) : wpAny (model prog w) A (binaryOp .BitXor (.int a t) (.int b u)) Q E s := by
  have := xor_small ha0 ha hb0 hb
  exact xor_int (h _ _ rfl this.1 this.2)
end
/-- the contract of inner: the digits from lo to hi are laid -/
def I2dClaim (prog : Program) (w : World) (K : Frag) (p : Program) (loose : List Str) (mean : ExcName → Option Value) (mg mb : Str → Option Value) (f : Addr) (g : Obj → List (Addr × Obj)) (n : Int) (sz : Nat) : Prop :=
  ∀ (dp un : Nat) (gd : Option (List Code)) (cn : Str) (cs : Scope) (a₀ : Addr) (ccd : Value) (cl : List (Str × Addr)) (outer : List Env) (A₀ : Around) (base h₀ : Heap) (L : Addr) (m : Str → Option Value) (s : Shared) (vs : List Value) (c : Nat) (ds : List Int) (x lo hi : Int) (t₁ t₂ t₃ : Tok) (Q E : Value → Shared → Prop),
    Below A₀ base outer h₀ → Fr h₀ L s.heap m → K.In h₀ → News h₀ L s.heap (g (PySem.W.listOf (List.toArray vs) c)) → Top p loose mean mg mb h₀ → cs.kind = .function → IntsAre vs ds → ds.length ≤ 1000 → 0 ≤ lo → lo < hi → hi ≤ (ds.length : Nat) → hi - lo ≤ (sz : Nat) → 0 ≤ x → x ≤ 63 → dp + sz < recursionLimit → un + 8 * sz < cLine →
    (∀ vs' c' h' tk', Fr h₀ L h' m → News h₀ L h' (g (PySem.W.listOf (List.toArray vs') c')) → IntsAre vs' (i2dF n sz ds x lo hi) → Q .none { s with heap := h', toks := tk' }) →
    wpAny (model prog w) (ktrTop dp un gd cn cs L a₀ ccd cl outer) (call (.ref f) [.int x t₁, .int lo t₂, .int hi t₃]) Q E s
theorem i2d_use {prog : Program} {w : World} {K : Frag} {p : Program} {loose : List Str} {mean : ExcName → Option Value} {mg mb : Str → Option Value} {f : Addr} {g : Obj → List (Addr × Obj)} {n : Int} {sz : Nat} (C : I2dClaim prog w K p loose mean mg mb f g n sz)
    {dp un : Nat} {gd : Option (List Code)} {cn : Str} {cs : Scope} {a₀ : Addr} {ccd : Value} {cl : List (Str × Addr)} {outer : List Env} {A₀ : Around} {base h₀ : Heap} {L : Addr} {m : Str → Option Value} {s : Shared} {vs : List Value} {c : Nat} {ds : List Int} {x lo hi : Int} {t₁ t₂ t₃ : Tok} {Q E : Value → Shared → Prop}
    (B : Below A₀ base outer h₀) (F : Fr h₀ L s.heap m) (X : K.In h₀) (N : News h₀ L s.heap (g (PySem.W.listOf (List.toArray vs) c))) (T : Top p loose mean mg mb h₀) (hk : cs.kind = .function) (hi' : IntsAre vs ds) (h1 : ds.length ≤ 1000) (h2 : 0 ≤ lo) (h3 : lo < hi) (h4 : hi ≤ (ds.length : Nat)) (h5 : hi - lo ≤ (sz : Nat)) (h6 : 0 ≤ x) (h7 : x ≤ 63) (hd : dp + sz < recursionLimit) (hu : un + 8 * sz < cLine)
    (hQ : ∀ vs' c' h' tk', Fr h₀ L h' m → News h₀ L h' (g (PySem.W.listOf (List.toArray vs') c')) → IntsAre vs' (i2dF n sz ds x lo hi) → (i2dF n sz ds x lo hi).length = ds.length → Q .none { s with heap := h', toks := tk' }) :
    wpAny (model prog w) (ktrTop dp un gd cn cs L a₀ ccd cl outer) (call (.ref f) [.int x t₁, .int lo t₂, .int hi t₃]) Q E s :=
  C _ _ _ _ _ _ _ _ _ _ _ _ _ _ _ _ _ _ _ _ _ _ _ _ _ _ B F X N T hk hi' h1 h2 h3 h4 h5 h6 h7 hd hu fun vs' c' h' tk' F' N' I' => hQ vs' c' h' tk' F' N' I' (i2dF_len ..)
/-- the ledger as a function of the list -/
theorem i2d_bring {h₀ h : Heap} {L D f : Addr} {o fo : Obj} {led : List (Addr × Obj)} {g : Obj → List (Addr × Obj)} {P : Prop} (_N : News h₀ L h ((f, fo) :: led)) (_M : (D, o) ∈ (f, fo) :: led) (_U : UpdF D o ((f, fo) :: led) g) (key : Addr → (Obj → List (Addr × Obj)) → Prop) (h1 : key f g) (h2 : key f g → P) : P := h2 h1
theorem i2d_ret {h₀ h : Heap} {L D : Addr} {vs : List Value} {c : Nat} {ps : Array Value} {news led : List (Addr × Obj)} (N : News h₀ L h led) (h1 : (D, PySem.W.listOf (List.toArray vs) c) ∈ led) (h2 : (44, tabObj ps) ∈ led) (h3 : ∀ p ∈ news, p ∈ led) :
    News h₀ L h ((D, PySem.W.listOf (List.toArray vs) c) :: (44, tabObj ps) :: news) := fun p hp => by
  rcases List.mem_cons.mp hp with rfl | hp
  · exact N _ h1
  · rcases List.mem_cons.mp hp with rfl | hp
    · exact N _ h2
    · exact N _ (h3 p hp)
/-- the digits of a to the base 2 ^ n, least first -/
def i2dDs (a n : Int) : List Int :=
  if a = 0 then (List.replicate (((Builtin.Int.intBits a : Nat) : Int) + n - 1 |>.fdiv n).toNat [0]).flatten
  else i2dF n 6 (List.replicate (((Builtin.Int.intBits a : Nat) : Int) + n - 1 |>.fdiv n).toNat [0]).flatten a 0 (((Builtin.Int.intBits a : Nat) : Int) + n - 1 |>.fdiv n)
section
local macro_rules | `(tactic| k_all) => `(tactic| exact ne_of_below (by assumption) (by omega))
local macro_rules | `(tactic| k_all) => `(tactic| assumption)
set_option maxRecDepth 100000 in
set_option maxHeartbeats 8000000 in
theorem int2digits_c : ∀ (w : World) {p : Program} {loose : List Str} {mean : ExcName → Option Value} {mg mb : Str → Option Value} {dp un : Nat} {gd : Option (List Code)} {cn : Str} {cs : Scope} {a₀ : Addr} {ccd : Value} {cl : List (Str × Addr)} {outer : List Env} {A₀ : Around} {base h₀ : Heap} {L : Addr} {m : Str → Option Value} {news : List (Addr × Obj)} {s : Shared} {a n : Int} {t₁ t₂ : Tok} {Q E : Value → Shared → Prop},
    Below A₀ base outer h₀ → Fr h₀ L s.heap m → (hd.heap_39 w.params).In h₀ → News h₀ L s.heap ((44, tabObj #[]) :: news) → (∀ p ∈ news, p.1 ≠ 44) → Top p loose mean mg mb h₀ → CodeHd base 48 44 → cs.kind = .function → 0 ≤ a → a ≤ 63 → 1 ≤ n → n ≤ 3 → dp + 20 < recursionLimit → un + 160 < cLine →
    (∀ D' c' vs ps h' tk', Fr h₀ L h' m → News h₀ L h' ((D', PySem.W.listOf (List.toArray vs) c') :: (44, tabObj ps) :: news) → (∀ p ∈ news, p.1 < D') → IntsAre vs (i2dDs a n) → Q (.ref D') { s with heap := h', toks := tk' }) →
    wpAny (model Challenge.rw_hn0004_01.row.prog w) (ktrTop dp un gd cn cs L a₀ ccd cl outer) (call (.ref 49) [.int a t₁, .int n t₂]) Q E s := by
  k_with_none
  k_with "ite" => (k_here; first | refine ite_pos (by assumption) ?_ | refine ite_neg (by assumption) ?_)
  k_with "binaryOp RShift int int" => (k_here; k_dflt (refine' shr_rule ?k1 ?k2 ?k3 ?_; (case k1 => omega); (case k2 => omega); (case k3 => omega); k_whole); intro U' tk' hU hU1 hU2 hU3)
  k_with "binaryOp RShift int int" => (k_here; (with_reducible refine half_rule ?_); intro M' tk' hM hM1 hM2)
  k_with "binaryOp LShift int int" => (k_here; k_dflt (refine' shl_rule ?k1 ?k2 ?k3 ?k4 ?k5 ?_; (case k1 => omega); (case k2 => omega); (case k3 => omega); (case k4 => omega); (case k5 => (refine Int.le_trans (by with_reducible assumption) ?_; omega)); k_whole); intro Y' tk' hY hY1 hY2)
  k_with "binaryOp BitXor int int" => (k_here; k_dflt (refine' xor_rule ?k1 ?k2 ?k3 ?k4 ?_; (case k1 => omega); (case k2 => omega); (case k3 => omega); (case k4 => omega); k_whole); intro Z' tk' hZ hZ1 hZ2)
  k_with "binaryOp Mult int int" => (k_here; k_dflt (refine' mul_rule ?k1 ?k2 ?k3 ?k4 ?_; (case k1 => omega); (case k2 => omega); (case k3 => omega); (case k4 => omega); k_whole); intro P' tk' hP hP1 hP2)
  k_with "call ref" => (k_here; (with_reducible rename I2dClaim _ _ _ _ _ _ _ _ _ _ _ _ => ihC); k_dflt (refine' i2d_use ihC ?k1 ?k2 ?k3 ?k4 ?k5 ?kK ?j1 ?j2 ?j3 ?j4 ?j5 ?j6 ?j7 ?j8 ?j9 ?j10 ?_; (case k1 => k_asm); (case k2 => k_asm); (case k3 => k_asm); (case k4 => k_asm); (case k5 => k_asm); (case kK => first | exact rfl | assumption); (case j1 => with_reducible assumption); (case j2 => omega); (case j3 => omega); (case j4 => omega); (case j5 => omega); (case j6 => omega); (case j7 => omega); (case j8 => omega); (case j9 => first | omega | ktr_room); (case j10 => first | omega | ktr_units); k_whole); intro vs' c' h' tk' F' N' I' L'; (try dsimp only at N'))
  k_fill
  intro w p loose mean mg mb dp un gd cn cs a₀ ccd cl outer A₀ base h₀ L m news s a n t₁ t₂ Q E B F X N hn44 T hcode hk ha0 ha hn0 hn hdp hu hret
  have hbits := bits_small ha0 ha
  obtain ⟨hx0, hx1, hx2⟩ := i2d_len (k := ((Builtin.Int.intBits a : Nat) : Int)) (n := n) (by omega) (by omega) hn0 hn
  refine wpAny_call ?_
  k_dflt (refine' code_defC ?k1 ?k2 ?k3 ?k4 ?k5 ?kA ?kF ?kK ?k6 ?k7 ?k8 ?k9 ?kB ?kD ?_ ?c2 ?c3 ?c4; (case kA => exact rfl); (case kF => exact rfl); (case kK => first | exact rfl | assumption); (case k1 => k_asm); (case k2 => k_asm); (case k3 => k_asm); (case k4 => k_asm); (case k5 => k_asm); (case k6 => k_is); (case k7 => k_is); (case k8 => ktr_room); (case k9 => exact BindsTo.of_eq rfl); (case kB => exact rfl); (case kD => decide +kernel); (case c2 => exact rfl); (case c3 => exact rfl); (case c4 => exact rfl); k_whole; intro g' L' h' tk' cells' FG' F' N' Y' B' X' T' l1; (try k_lt l1); k_cells Y'; (try simp only [List.cons_append, List.nil_append] at N'); (try dsimp only); (try k_lift B'); (try k_fold))
  try k_fold
  have hbelow := lt_of_allLt l1.2
  k_steps
  · rename News _ _ _ _ => N9
    refine' i2d_bring (D := ?D) (g := ?g) (o := PySem.W.listOf ?o1 ?o2) N9 ?M ?U (fun f g => ∀ sz, I2dClaim Challenge.rw_hn0004_01.row.prog w (hd.heap_39 w.params) p loose mean mg mb f g n sz) ?h1 ?h2
    case M => k_mem
    case U => k_updF
    case h1 =>
      intro sz
      induction sz with
      | zero =>
        unfold I2dClaim
        intros
        exfalso
        omega
      | succ sz ih =>
        unfold I2dClaim
        intro dp un gd cn cs a₀ ccd cl outer A₀ base h₀ L m s vs c ds x lo hi t₁ t₂ t₃ Q E B F X N T hk hi' h1 h2 h3 h4 h5 h6 h7 hdp hu hret
        dsimp only at N hret
        refine wpAny_call ?_
        k_dflt (refine' code_nest ?k1 ?k2 ?k3 ?k4 ?k5 ?kA ?kF ?kK ?k6 ?k7 ?k8 ?k9 ?kB ?_ ?c2 ?c3 ?c4 ?c5; (case kA => exact rfl); (case kF => exact rfl); (case kK => first | exact rfl | assumption); (case k1 => k_asm); (case k2 => k_asm); (case k3 => k_asm); (case k4 => k_asm); (case k5 => k_asm); (case k6 => k_mem); (case k7 => exact codeRec_news (by k_asm) (by k_mem) (by assumption) (by assumption)); (case k8 => ktr_room); (case k9 => exact BindsTo.of_eq rfl); (case c5 => decide); (case kB => exact locs rfl); (case c2 => exact rfl); (case c3 => exact rfl); (case c4 => exact rfl); k_whole; intro g' L' h' FG' F' N' B' X' T'; (try dsimp only); (try k_lift B'); (try k_fold))
        by_cases hone : lo + 1 = hi
        · have honeb : (lo + 1 == hi) = true := by simp [hone]
          k_steps
          exact hret _ _ _ _ (by assumption) (by assumption) (by rw [i2dF_one hone]; assumption)
        · have honeb : ¬ (lo + 1 == hi) = true := by simp [hone]
          k_steps
          exact hret _ _ _ _ (by assumption) (by assumption) (by rw [i2dF_two (n := n) (k := sz) (ds := ds) (x := x) hone (by assumption) (by assumption) (by assumption) (by assumption) (by assumption)]; assumption)
    case h2 =>
      intro key
      have ih6 := key 6
      clear key
      with_reducible rename (0 ≤ _ → _ = _) => e3
      have e4 := e3 hx0
      rw [show (((0 + 1 : Nat)) : Int) = 1 from rfl, Int.one_mul] at e4
      with_reducible rename _ ≠ 0 => hane
      have hb1 := bits_pos hane
      have hx3 := hx2 (by omega)
      clear e3
      k_steps
      rename News _ _ _ _ => Nz
      with_reducible rename IntsAre _ _ => hI9
      rw [e4] at hI9
      exact hret _ _ _ _ _ _ (by assumption) (i2d_ret Nz (by k_mem) (by k_mem) (fun p hp => by repeat (first | exact hp | refine List.Mem.tail _ ?_))) (lt_of_allLt (‹_ ∧ _ ∧ _ ∧ _ ∧ _ ∧ AllLt _ news›).2.2.2.2.2) (by unfold i2dDs; rw [if_neg hane]; exact hI9)
  · rename News _ _ _ _ => Nz
    with_reducible rename _ = 0 => haz
    exact hret _ _ _ _ _ _ (by assumption) (i2d_ret Nz (by k_mem) (by k_mem) (fun p hp => by repeat (first | exact hp | refine List.Mem.tail _ ?_))) (lt_of_allLt (‹_ ∧ _ ∧ _ ∧ _ ∧ _ ∧ AllLt _ news›).2.2.2.2.2) (by unfold i2dDs; rw [if_pos haz]; assumption)
end
end Mine
namespace Mine
local macro_rules | `(tactic| walk_at $s:str) => `(tactic| k_extra $s)

/-- what inner of _digits2int gives -/
def d2iF (n : Int) : Nat → List Int → Int → Int → Int
  | 0, _, _, _ => 0
  | k + 1, ds, lo, hi =>
    if lo + 1 = hi then ds.getD lo.toNat 0
    else d2iF n k ds ((lo + hi).fdiv 2) hi * 2 ^ (((lo + hi).fdiv 2 - lo) * n).toNat + d2iF n k ds lo ((lo + hi).fdiv 2)
theorem d2iF_one {n : Int} {k : Nat} {ds : List Int} {lo hi : Int} (h : lo + 1 = hi) : d2iF n (k + 1) ds lo hi = ds.getD lo.toNat 0 := by
  simp only [d2iF, if_pos h]
theorem d2iF_two {n : Int} {k : Nat} {ds : List Int} {lo hi M P Y : Int} (h : ¬ lo + 1 = hi) (hM : M = (lo + hi).fdiv 2) (hP : P = (M - lo) * n) (hY : Y = d2iF n k ds M hi * 2 ^ P.toNat) :
    d2iF n (k + 1) ds lo hi = Y + d2iF n k ds lo M := by
  subst hM hP hY
  simp only [d2iF, if_neg h]
theorem d2iF_nil (n : Int) (ds : List Int) : ∀ k, d2iF n k ds 0 0 = 0 := by
  intro k
  induction k with
  | zero => rfl
  | succ k ih =>
    unfold d2iF
    rw [if_neg (by decide), show ((0 : Int) + 0).fdiv 2 = 0 from by decide, ih]
    simp
theorem d2i_ret {h₀ h : Heap} {L : Addr} {ps : Array Value} {news led : List (Addr × Obj)} (N : News h₀ L h led) (h2 : (51, tabObj ps) ∈ led) (h3 : ∀ p ∈ news, p ∈ led) : News h₀ L h ((51, tabObj ps) :: news) := fun p hp => by
  rcases List.mem_cons.mp hp with rfl | hp
  · exact N _ h2
  · exact N _ (h3 p hp)
def D2iSmall (n : Int) (ds : List Int) : Prop := ∀ (k : Nat) (lo hi : Int), k ≤ 6 → 0 ≤ lo → lo < hi → hi ≤ (ds.length : Nat) → -(2 ^ 62) < d2iF n k ds lo hi ∧ d2iF n k ds lo hi < 2 ^ 62
theorem d2i_bound {n : Int} {ds : List Int} (hn0 : 1 ≤ n) (hn : n ≤ 3) (hl : ds.length ≤ 6) (hd : ∀ d ∈ ds, 0 ≤ d ∧ d ≤ 95) : ∀ (k : Nat) (lo hi : Int), 0 ≤ lo → lo < hi → hi ≤ (ds.length : Nat) → 0 ≤ d2iF n k ds lo hi ∧ d2iF n k ds lo hi ≤ 95 * 513 ^ k := by
  intro k
  induction k with
  | zero => intro lo hi _ _ _; simp [d2iF]
  | succ k ih =>
    intro lo hi h0 h1 h2
    have hpk : (0 : Int) < 513 ^ k := Int.pow_pos (by decide)
    have e513 : (513 : Int) ^ (k + 1) = 513 ^ k * 513 := Int.pow_succ ..
    by_cases hone : lo + 1 = hi
    · rw [d2iF_one hone, e513]
      have hm : ds.getD lo.toNat 0 ∈ ds := kso_getD (by omega)
      have := hd _ hm
      omega
    · have e2 := Int.fdiv_eq_ediv_of_nonneg (lo + hi) (show (0 : Int) ≤ 2 by decide)
      have hM1 : lo < (lo + hi).fdiv 2 := by omega
      have hM2 : (lo + hi).fdiv 2 < hi := by omega
      have hM3 : (lo + hi).fdiv 2 - lo ≤ 3 := by omega
      generalize hM : (lo + hi).fdiv 2 = M at *
      rw [d2iF_two hone hM.symm rfl rfl, e513]
      have i1 := ih M hi (by omega) hM2 h2
      have i2 := ih lo M h0 hM1 (by omega)
      have hP : ((M - lo) * n).toNat ≤ 9 := by
        have : (M - lo) * n ≤ 3 * 3 := Int.mul_le_mul hM3 hn (by omega) (by decide)
        omega
      have hp : (2 : Int) ^ ((M - lo) * n).toNat ≤ 512 := by
        have h9 : (2 : Nat) ^ ((M - lo) * n).toNat ≤ 2 ^ 9 := Nat.pow_le_pow_right (by decide) hP
        have : ((2 ^ ((M - lo) * n).toNat : Nat) : Int) ≤ ((2 ^ 9 : Nat) : Int) := Int.ofNat_le.mpr h9
        simpa using this
      have hp0 : (0 : Int) ≤ 2 ^ ((M - lo) * n).toNat := Int.le_of_lt (Int.pow_pos (by decide))
      have hy0 := Int.mul_nonneg i1.1 hp0
      have hy := Int.mul_le_mul i1.2 hp hp0 (by omega)
      omega
theorem d2i_small {n : Int} {ds : List Int} (hn0 : 1 ≤ n) (hn : n ≤ 3) (hl : ds.length ≤ 6) (hd : ∀ d ∈ ds, 0 ≤ d ∧ d ≤ 95) : D2iSmall n ds := by
  intro k lo hi hk h0 h1 h2
  have h := d2i_bound hn0 hn hl hd k lo hi h0 h1 h2
  have h6 : (513 : Nat) ^ k ≤ 513 ^ 6 := Nat.pow_le_pow_right (by decide) hk
  have h7 : ((513 ^ k : Nat) : Int) ≤ ((513 ^ 6 : Nat) : Int) := Int.ofNat_le.mpr h6
  have h8 : (513 : Int) ^ k ≤ 513 ^ 6 := by simpa using h7
  have h9 : (513 : Int) ^ 6 = 18226538222455809 := by decide
  omega
section
variable {prog : Program} {w : World} {A : Around} {E : Value → Shared → Prop} {s : Shared} {a b : Int} {t u : Tok} {Q : Value → Shared → Prop}
theorem half_rule2 (h : ∀ M tk, M = a.fdiv 2 → 2 * M ≤ a → a ≤ 2 * M + 1 → Q (.int M s.toks) { s with toks := tk }) : wpAny (model prog w) A (binaryOp .RShift (.int a t) (.int 1 u)) Q E s := by
  refine rshift_int (by decide) ?_
  have e : (2 : Int) ^ (1 : Int).toNat = 2 := by decide
  rw [e]
  have e2 := Int.fdiv_eq_ediv_of_nonneg a (show (0 : Int) ≤ 2 by decide)
  exact h _ _ rfl (by omega) (by omega)
theorem mul_rule2 (ha0 : 0 ≤ a) (hb0 : 0 ≤ b) (ha : a ≤ 1000) (hb : b ≤ 3) (h : ∀ P tk, P = a * b → 0 ≤ P → P ≤ 3000 → Q (.int P s.toks) { s with toks := tk }) : wpAny (model prog w) A (binaryOp .Mult (.int a t) (.int b u)) Q E s := by
  refine mul_int (h _ _ rfl (Int.mul_nonneg ha0 hb0) ?_) (IntMulOk.of_left (intBits_le_64 (by omega) (by omega)))
  exact Int.le_trans (Int.mul_le_mul ha hb hb0 (by omega)) (by decide)
theorem shl_rule2 (ha : -(2 ^ 62) < a ∧ a < 2 ^ 62) (hb0 : 0 ≤ b) (hb : b ≤ 3000) (h : ∀ Y tk, Y = a * 2 ^ b.toNat → Q (.int Y s.toks) { s with toks := tk }) : wpAny (model prog w) A (binaryOp .LShift (.int a t) (.int b u)) Q E s :=
  lshift_int_small hb0 (by omega) (by omega) (h _ _ rfl)
end
/-- the contract of inner of _digits2int -/
def D2iClaim (prog : Program) (w : World) (K : Frag) (p : Program) (loose : List Str) (mean : ExcName → Option Value) (mg mb : Str → Option Value) (f : Addr) (led : List (Addr × Obj)) (n : Int) (ds : List Int) (sz : Nat) : Prop :=
  ∀ (dp un : Nat) (gd : Option (List Code)) (cn : Str) (cs : Scope) (a₀ : Addr) (ccd : Value) (cl : List (Str × Addr)) (outer : List Env) (A₀ : Around) (base h₀ : Heap) (L : Addr) (m : Str → Option Value) (s : Shared) (lo hi : Int) (t₂ t₃ : Tok) (Q E : Value → Shared → Prop),
    Below A₀ base outer h₀ → Fr h₀ L s.heap m → K.In h₀ → News h₀ L s.heap led → Top p loose mean mg mb h₀ → cs.kind = .function → 0 ≤ lo → lo < hi → hi ≤ (ds.length : Nat) → hi - lo ≤ (sz : Nat) → dp + sz < recursionLimit → un + 8 * sz < cLine →
    (∀ t h' tk', Fr h₀ L h' m → News h₀ L h' led → (-(2 ^ 62) < d2iF n sz ds lo hi ∧ d2iF n sz ds lo hi < 2 ^ 62) → Q (.int (d2iF n sz ds lo hi) t) { s with heap := h', toks := tk' }) →
    wpAny (model prog w) (ktrTop dp un gd cn cs L a₀ ccd cl outer) (call (.ref f) [.int lo t₂, .int hi t₃]) Q E s
theorem d2i_use {prog : Program} {w : World} {K : Frag} {p : Program} {loose : List Str} {mean : ExcName → Option Value} {mg mb : Str → Option Value} {f : Addr} {led : List (Addr × Obj)} {n : Int} {ds : List Int} {sz : Nat} (C : D2iClaim prog w K p loose mean mg mb f led n ds sz)
    {dp un : Nat} {gd : Option (List Code)} {cn : Str} {cs : Scope} {a₀ : Addr} {ccd : Value} {cl : List (Str × Addr)} {outer : List Env} {A₀ : Around} {base h₀ : Heap} {L : Addr} {m : Str → Option Value} {s : Shared} {lo hi : Int} {t₂ t₃ : Tok} {Q E : Value → Shared → Prop}
    (B : Below A₀ base outer h₀) (F : Fr h₀ L s.heap m) (X : K.In h₀) (N : News h₀ L s.heap led) (T : Top p loose mean mg mb h₀) (hk : cs.kind = .function) (h2 : 0 ≤ lo) (h3 : lo < hi) (h4 : hi ≤ (ds.length : Nat)) (h5 : hi - lo ≤ (sz : Nat)) (hd : dp + sz < recursionLimit) (hu : un + 8 * sz < cLine)
    (hQ : ∀ t h' tk', Fr h₀ L h' m → News h₀ L h' led → (-(2 ^ 62) < d2iF n sz ds lo hi ∧ d2iF n sz ds lo hi < 2 ^ 62) → Q (.int (d2iF n sz ds lo hi) t) { s with heap := h', toks := tk' }) :
    wpAny (model prog w) (ktrTop dp un gd cn cs L a₀ ccd cl outer) (call (.ref f) [.int lo t₂, .int hi t₃]) Q E s :=
  C _ _ _ _ _ _ _ _ _ _ _ _ _ _ _ _ _ _ _ _ _ B F X N T hk h2 h3 h4 h5 hd hu hQ
theorem d2i_bring {h₀ h : Heap} {L f : Addr} {fo : Obj} {led : List (Addr × Obj)} {P : Prop} (_N : News h₀ L h ((f, fo) :: led)) (key : Addr → List (Addr × Obj) → Prop) (h1 : key f ((f, fo) :: led)) (h2 : key f ((f, fo) :: led) → P) : P := h2 h1
section
local macro_rules | `(tactic| k_all) => `(tactic| exact ne_of_below (by assumption) (by omega))
local macro_rules | `(tactic| k_all) => `(tactic| assumption)
local macro_rules | `(tactic| k_mem) => `(tactic| assumption)
set_option maxRecDepth 100000 in
set_option maxHeartbeats 8000000 in
theorem digits2int_c : ∀ (w : World) {p : Program} {loose : List Str} {mean : ExcName → Option Value} {mg mb : Str → Option Value} {dp un : Nat} {gd : Option (List Code)} {cn : Str} {cs : Scope} {a₀ : Addr} {ccd : Value} {cl : List (Str × Addr)} {outer : List Env} {A₀ : Around} {base h₀ : Heap} {L : Addr} {m : Str → Option Value} {news : List (Addr × Obj)} {s : Shared} {D : Addr} {vs : List Value} {c : Nat} {ds : List Int} {n : Int} {t₂ : Tok} {Q E : Value → Shared → Prop},
    Below A₀ base outer h₀ → Fr h₀ L s.heap m → (hd.heap_39 w.params).In h₀ → News h₀ L s.heap ((51, tabObj #[]) :: news) → (∀ p ∈ news, p.1 ≠ 51) → Top p loose mean mg mb h₀ → CodeHd base 55 51 → cs.kind = .function → (D, PySem.W.listOf (List.toArray vs) c) ∈ news → IntsAre vs ds → ds.length ≤ 6 → 1 ≤ n → n ≤ 3 → D2iSmall n ds → dp + 20 < recursionLimit → un + 160 < cLine →
    (∀ t ps h' tk', Fr h₀ L h' m → News h₀ L h' ((51, tabObj ps) :: news) → Q (.int (d2iF n 6 ds 0 (ds.length : Nat)) t) { s with heap := h', toks := tk' }) →
    wpAny (model Challenge.rw_hn0004_01.row.prog w) (ktrTop dp un gd cn cs L a₀ ccd cl outer) (call (.ref 56) [.ref D, .int n t₂]) Q E s := by
  k_with_none
  k_with "truthy ref" => (k_here; (with_reducible show wpAny _ _ (truthy (Value.ref _)) _ _ _); k_dflt (refine' truthy_ints_fit ?k1 ?k2 ?k3 ?_; (case k1 => exact isL (by k_asm) (by k_mem)); (case k2 => with_reducible assumption); (case k3 => omega); k_whole))
  k_with "call builtin:len" => (k_here; (with_reducible show wpAny _ _ (call (Value.builtin _) [Value.ref _]) _ _ _); k_dflt (refine' len_ints_fit ?k1 ?k2 ?k3 ?_; (case k1 => exact isL (by k_asm) (by k_mem)); (case k2 => with_reducible assumption); (case k3 => omega); k_whole))
  k_with "subscriptTail" => (k_here; (with_reducible show wpAny _ _ (subscriptTail _ _ (Value.ref _) (Value.int _ _)) _ _ _); k_dflt (refine' ksa_sub ?k1 ?k2 ?k3 ?k4 ?k5 ?k6 ?_ ?k7; (case k1 => k_asm); (case k2 => k_mem); (case k3 => with_reducible assumption); (case k4 => omega); (case k5 => omega); (case k6 => omega); (case k7 => with_unfolding_all rfl); k_whole); intro _)
  k_with "ite" => (k_here; first | refine ite_pos (by assumption) ?_ | refine ite_neg (by assumption) ?_)
  k_with "binaryOp RShift int int" => (k_here; (with_reducible refine half_rule2 ?_); intro M' tk' hM hM1 hM2)
  k_with "binaryOp LShift int int" => (k_here; k_dflt (refine' shl_rule2 ?k1 ?k2 ?k3 ?_; (case k1 => assumption); (case k2 => omega); (case k3 => omega); k_whole); intro Y' tk' hY)
  k_with "binaryOp Mult int int" => (k_here; k_dflt (refine' mul_rule2 ?k1 ?k2 ?k3 ?k4 ?_; (case k1 => omega); (case k2 => omega); (case k3 => omega); (case k4 => omega); k_whole); intro P' tk' hP hP1 hP2)
  k_with "call ref" => (k_here; (with_reducible rename D2iClaim _ _ _ _ _ _ _ _ _ _ _ _ _ => ihC); k_dflt (refine' d2i_use ihC ?k1 ?k2 ?k3 ?k4 ?k5 ?kK ?j2 ?j3 ?j4 ?j5 ?j9 ?j10 ?_; (case k1 => k_asm); (case k2 => k_asm); (case k3 => k_asm); (case k4 => k_asm); (case k5 => k_asm); (case kK => first | exact rfl | assumption); (case j2 => omega); (case j3 => omega); (case j4 => omega); (case j5 => omega); (case j9 => first | omega | ktr_room); (case j10 => first | omega | ktr_units); k_whole); intro t' h' tk' F' N' I')
  k_fill
  intro w p loose mean mg mb dp un gd cn cs a₀ ccd cl outer A₀ base h₀ L m news s D vs c ds n t₂ Q E B F X N hn44 T hcode hk hm hi hlen hn0 hn hB hdp hu hret
  refine wpAny_call ?_
  k_dflt (refine' code_defC ?k1 ?k2 ?k3 ?k4 ?k5 ?kA ?kF ?kK ?k6 ?k7 ?k8 ?k9 ?kB ?kD ?_ ?c2 ?c3 ?c4; (case kA => exact rfl); (case kF => exact rfl); (case kK => first | exact rfl | assumption); (case k1 => k_asm); (case k2 => k_asm); (case k3 => k_asm); (case k4 => k_asm); (case k5 => k_asm); (case k6 => k_is); (case k7 => k_is); (case k8 => ktr_room); (case k9 => exact BindsTo.of_eq rfl); (case kB => exact rfl); (case kD => decide +kernel); (case c2 => exact rfl); (case c3 => exact rfl); (case c4 => exact rfl); k_whole; intro g' L' h' tk' cells' FG' F' N' Y' B' X' T' l1; (try k_lt l1); k_cells Y'; (try simp only [List.cons_append, List.nil_append] at N'); (try dsimp only); (try k_lift B'); (try k_fold))
  try k_fold
  have hbelow := lt_of_allLt l1.2
  k_steps
  · rename News _ _ _ _ => N9
    refine' d2i_bring N9 (fun f led => ∀ sz, sz ≤ 6 → D2iClaim Challenge.rw_hn0004_01.row.prog w (hd.heap_39 w.params) p loose mean mg mb f led n ds sz) ?h1 ?h2
    case h1 =>
      intro sz
      induction sz with
      | zero =>
        unfold D2iClaim
        intros
        exfalso
        omega
      | succ sz ih0 =>
        intro hsz
        have ih := ih0 (by omega)
        clear ih0
        unfold D2iClaim
        intro dp un gd cn cs a₀ ccd cl outer A₀ base h₀ L m s lo hi t₂ t₃ Q E B F X N T hk h2 h3 h4 h5 hdp hu hret
        have hsmall := hB (sz + 1) lo hi hsz h2 h3 h4
        refine wpAny_call ?_
        k_dflt (refine' code_nest ?k1 ?k2 ?k3 ?k4 ?k5 ?kA ?kF ?kK ?k6 ?k7 ?k8 ?k9 ?kB ?_ ?c2 ?c3 ?c4 ?c5; (case kA => exact rfl); (case kF => exact rfl); (case kK => first | exact rfl | assumption); (case k1 => k_asm); (case k2 => k_asm); (case k3 => k_asm); (case k4 => k_asm); (case k5 => k_asm); (case k6 => k_mem); (case k7 => exact codeRec_news (by k_asm) (by k_mem) (by assumption) (by assumption)); (case k8 => ktr_room); (case k9 => exact BindsTo.of_eq rfl); (case c5 => decide); (case kB => exact locs rfl); (case c2 => exact rfl); (case c3 => exact rfl); (case c4 => exact rfl); k_whole; intro g' L' h' FG' F' N' B' X' T'; (try dsimp only); (try k_lift B'); (try k_fold))
        by_cases hone : lo + 1 = hi
        · have honeb : (lo + 1 == hi) = true := by simp [hone]
          k_steps
          have e := d2iF_one (n := n) (k := sz) (ds := ds) hone
          rw [← e]
          exact hret _ _ _ (by assumption) (by assumption) hsmall
        · have honeb : ¬ (lo + 1 == hi) = true := by simp [hone]
          k_steps
          have e := d2iF_two (n := n) (k := sz) (ds := ds) hone (by assumption) (by assumption) (by assumption)
          rw [← e]
          exact hret _ _ _ (by assumption) (by assumption) hsmall
    case h2 =>
      intro key
      have ih6 := key 6 (Nat.le_refl _)
      clear key
      have hpos : 0 < ds.length := by simp_all
      k_steps
      rename News _ _ _ _ => Nz
      exact hret _ _ _ _ (by assumption) (d2i_ret Nz (by k_mem) (fun p hp => by repeat (first | exact hp | refine List.Mem.tail _ ?_)))
  · have hz : ds.length = 0 := by simp_all
    rename News _ _ _ _ => Nz
    have e := d2iF_nil n ds 6
    rw [hz] at hret
    rw [← e]
    exact hret _ _ _ _ (by assumption) (d2i_ret Nz (by k_mem) (fun p hp => by repeat (first | exact hp | refine List.Mem.tail _ ?_)))
end
end Mine
namespace Mine
local macro_rules | `(tactic| walk_at $s:str) => `(tactic| k_extra $s)
/-- one turn of the long division: the quotients' digits so far, the rest -/
def dmStep (b n : Int) (q : List Int × Int) (d : Int) : List Int × Int := (q.1 ++ [(q.2 * 2 ^ n.toNat + d).fdiv b], (q.2 * 2 ^ n.toNat + d).fmod b)
def dmFold (b n : Int) (ds : List Int) : List Int × Int := ds.reverse.foldl (dmStep b n) ([], 0)
theorem dmFold_take {b n : Int} {ds : List Int} {i : Nat} {d : Int} (h : ds.reverse[i]? = some d) : (ds.reverse.take (i + 1)).foldl (dmStep b n) ([], 0) = dmStep b n ((ds.reverse.take i).foldl (dmStep b n) ([], 0)) d := by
  rw [List.take_add_one, h, List.foldl_append]; rfl
def DmJ (b n : Int) (ds : List Int) (Dq : Addr) (rest : List (Addr × Obj)) (i : Nat) (m : Str → Option Value) (nx : List (Addr × Obj)) : Prop :=
  ∃ (vq : List Value) (cq : Nat) (t1 t2 t3 : Tok), nx = (Dq, PySem.W.listOf (List.toArray vq) cq) :: rest ∧ IntsAre vq ((ds.reverse.take i).foldl (dmStep b n) ([], 0)).1 ∧ m (Str.ofString "r") = some (.int ((ds.reverse.take i).foldl (dmStep b n) ([], 0)).2 t1) ∧
    m (Str.ofString "q_digits") = some (.ref Dq) ∧ m (Str.ofString "b") = some (.int b t2) ∧ m (Str.ofString "n") = some (.int n t3) ∧ 0 ≤ ((ds.reverse.take i).foldl (dmStep b n) ([], 0)).2 ∧ ((ds.reverse.take i).foldl (dmStep b n) ([], 0)).2 < b ∧ ((ds.reverse.take i).foldl (dmStep b n) ([], 0)).1.length = (ds.reverse.take i).length
theorem dm_turn {h₀ h' : Heap} {L I Dq : Addr} {oI : Obj} {m' : Str → Option Value} {b n : Int} {ds : List Int} {rest led : List (Addr × Obj)} {i : Nat} {d : Int} {vq : List Value} {cq : Nat} {tx t1 t2 t3 : Tok} {s₁ : Shared} {tk : Nat} (hn : ds.reverse[i]? = some d)
    (F : Fr h₀ L h' m') (N : News h₀ L h' led) (hb : 0 < b)
    (h1 : (Dq, PySem.W.listOf ((List.toArray vq).push (.int ((((ds.reverse.take i).foldl (dmStep b n) ([], 0)).2 * 2 ^ n.toNat + d).fdiv b) tx)) (cq + 1)) ∈ led) (hI : (I, oI) ∈ led) (h4 : ∀ p ∈ rest, p ∈ led)
    (hv : IntsAre vq ((ds.reverse.take i).foldl (dmStep b n) ([], 0)).1) (hl : ((ds.reverse.take i).foldl (dmStep b n) ([], 0)).1.length = (ds.reverse.take i).length)
    (hr : m' (Str.ofString "r") = some (.int ((((ds.reverse.take i).foldl (dmStep b n) ([], 0)).2 * 2 ^ n.toNat + d).fmod b) t1)) (hq : m' (Str.ofString "q_digits") = some (.ref Dq)) (hmb : m' (Str.ofString "b") = some (.int b t2)) (hmn : m' (Str.ofString "n") = some (.int n t3))
    (hoff : ∀ p ∈ (Dq, PySem.W.listOf (List.toArray vq) cq) :: rest, p.1 ≠ I) :
    TEnd h₀ L (DmJ b n ds Dq rest (i + 1)) I oI s₁ { s₁ with heap := h', toks := tk } := by
  have e : (List.toArray vq).push (.int ((((ds.reverse.take i).foldl (dmStep b n) ([], 0)).2 * 2 ^ n.toNat + d).fdiv b) tx) = List.toArray (vq ++ [.int ((((ds.reverse.take i).foldl (dmStep b n) ([], 0)).2 * 2 ^ n.toNat + d).fdiv b) tx]) := by simp
  rw [e] at h1
  refine TEnd.intro (nx := (Dq, PySem.W.listOf (List.toArray (vq ++ [.int ((((ds.reverse.take i).foldl (dmStep b n) ([], 0)).2 * 2 ^ n.toNat + d).fdiv b) tx])) (cq + 1)) :: rest) F N ?_ ?_ ⟨vq ++ [.int ((((ds.reverse.take i).foldl (dmStep b n) ([], 0)).2 * 2 ^ n.toNat + d).fdiv b) tx], cq + 1, t1, t2, t3, rfl, ?_, ?_, hq, hmb, hmn, ?_, ?_, ?_⟩
  · intro p hp
    simp only [List.mem_cons] at hp
    rcases hp with rfl | rfl | hp
    · exact hI
    · exact h1
    · exact h4 p hp
  · intro p hp
    rcases List.mem_cons.mp hp with rfl | hp
    · exact hoff (Dq, PySem.W.listOf (List.toArray vq) cq) (.head _)
    · exact hoff p (.tail _ hp)
  · rw [dmFold_take hn]
    exact IntsAre.append hv (IntsAre.cons _ _ IntsAre.nil)
  · rw [dmFold_take hn]
    exact hr
  · rw [dmFold_take hn]
    exact fmod_lo _ hb
  · rw [dmFold_take hn]
    exact fmod_hi _ hb
  · rw [dmFold_take hn, List.take_add_one, hn]
    simp [dmStep, hl]
theorem ds_small {a n : Int} (ha0 : 0 ≤ a) (ha : a ≤ 45) (hn0 : 1 ≤ n) (hn : n ≤ 3) : (∀ d ∈ i2dDs a n, 0 ≤ d ∧ d ≤ 63) ∧ (i2dDs a n).length ≤ 6 := by
  have key : ∀ x : Fin 46, ∀ k : Fin 4, 1 ≤ k.val → (∀ d ∈ i2dDs (x.val : Int) (k.val : Int), 0 ≤ d ∧ d ≤ 63) ∧ (i2dDs (x.val : Int) (k.val : Int)).length ≤ 6 := by decide +kernel
  have := key ⟨a.toNat, by omega⟩ ⟨n.toNat, by omega⟩ (by show 1 ≤ n.toNat; omega)
  have e1 : ((a.toNat : Nat) : Int) = a := by omega
  have e2 : ((n.toNat : Nat) : Int) = n := by omega
  rw [← e1, ← e2]; exact this
theorem dm_facts {a b : Int} (ha0 : 0 ≤ a) (ha : a ≤ 45) (hb0 : 1 ≤ b) (hb : b ≤ 5) :
    (∀ q ∈ (dmFold b ((Builtin.Int.intBits b : Nat) : Int) (i2dDs a ((Builtin.Int.intBits b : Nat) : Int))).1.reverse, 0 ≤ q ∧ q ≤ 95) ∧ (dmFold b ((Builtin.Int.intBits b : Nat) : Int) (i2dDs a ((Builtin.Int.intBits b : Nat) : Int))).1.reverse.length ≤ 6 ∧
    d2iF ((Builtin.Int.intBits b : Nat) : Int) 6 (dmFold b ((Builtin.Int.intBits b : Nat) : Int) (i2dDs a ((Builtin.Int.intBits b : Nat) : Int))).1.reverse 0 ((dmFold b ((Builtin.Int.intBits b : Nat) : Int) (i2dDs a ((Builtin.Int.intBits b : Nat) : Int))).1.reverse.length : Nat) = a.fdiv b ∧
    (dmFold b ((Builtin.Int.intBits b : Nat) : Int) (i2dDs a ((Builtin.Int.intBits b : Nat) : Int))).2 = a.fmod b := by
  have key : ∀ x : Fin 46, ∀ y : Fin 6, 1 ≤ y.val →
      (∀ q ∈ (dmFold (y.val : Int) ((Builtin.Int.intBits (y.val : Int) : Nat) : Int) (i2dDs (x.val : Int) ((Builtin.Int.intBits (y.val : Int) : Nat) : Int))).1.reverse, 0 ≤ q ∧ q ≤ 95) ∧ (dmFold (y.val : Int) ((Builtin.Int.intBits (y.val : Int) : Nat) : Int) (i2dDs (x.val : Int) ((Builtin.Int.intBits (y.val : Int) : Nat) : Int))).1.reverse.length ≤ 6 ∧
      d2iF ((Builtin.Int.intBits (y.val : Int) : Nat) : Int) 6 (dmFold (y.val : Int) ((Builtin.Int.intBits (y.val : Int) : Nat) : Int) (i2dDs (x.val : Int) ((Builtin.Int.intBits (y.val : Int) : Nat) : Int))).1.reverse 0 ((dmFold (y.val : Int) ((Builtin.Int.intBits (y.val : Int) : Nat) : Int) (i2dDs (x.val : Int) ((Builtin.Int.intBits (y.val : Int) : Nat) : Int))).1.reverse.length : Nat) = (x.val : Int).fdiv (y.val : Int) ∧
      (dmFold (y.val : Int) ((Builtin.Int.intBits (y.val : Int) : Nat) : Int) (i2dDs (x.val : Int) ((Builtin.Int.intBits (y.val : Int) : Nat) : Int))).2 = (x.val : Int).fmod (y.val : Int) := by decide +kernel
  have := key ⟨a.toNat, by omega⟩ ⟨b.toNat, by omega⟩ (by show 1 ≤ b.toNat; omega)
  have e1 : ((a.toNat : Nat) : Int) = a := by omega
  have e2 : ((b.toNat : Nat) : Int) = b := by omega
  simp only [e1, e2] at this
  exact this
theorem news_rot {h₀ h : Heap} {L : Addr} {e1 e2 e3 e4 : Addr × Obj} {r : List (Addr × Obj)} (N : News h₀ L h (e1 :: e2 :: e3 :: e4 :: r)) : News h₀ L h (e4 :: e1 :: e2 :: e3 :: r) := fun p hp => N p (by
  simp only [List.mem_cons] at hp ⊢
  rcases hp with hp | hp | hp | hp | hp
  · exact .inr (.inr (.inr (.inl hp)))
  · exact .inl hp
  · exact .inr (.inl hp)
  · exact .inr (.inr (.inl hp))
  · exact .inr (.inr (.inr (.inr hp))))
theorem dm_ret {h₀ h : Heap} {L D : Addr} {x y : Int} {t1 t2 : Tok} {c : Nat} {ps ps' : Array Value} {news led : List (Addr × Obj)} (N : News h₀ L h led) (h0 : (D, tupOf [.int x t1, .int y t2] c) ∈ led) (h1 : (44, tabObj ps) ∈ led) (h2 : (51, tabObj ps') ∈ led) (h3 : ∀ p ∈ news, p ∈ led) :
    News h₀ L h ((D, tupOf [.int x t1, .int y t2] c) :: (44, tabObj ps) :: (51, tabObj ps') :: news) := fun p hp => N p (by
  simp only [List.mem_cons] at hp
  rcases hp with rfl | rfl | rfl | hp
  · exact h0
  · exact h1
  · exact h2
  · exact h3 p hp)
theorem pow_small {r n : Int} (h0 : 0 ≤ r) (h : r ≤ 4) (hn0 : 1 ≤ n) (hn : n ≤ 3) : 0 ≤ r * 2 ^ n.toNat ∧ r * 2 ^ n.toNat ≤ 32 := by
  have h3 : n = 1 ∨ n = 2 ∨ n = 3 := by omega
  rcases h3 with rfl | rfl | rfl
  · show 0 ≤ r * 2 ∧ r * 2 ≤ 32; omega
  · show 0 ≤ r * 4 ∧ r * 4 ≤ 32; omega
  · show 0 ≤ r * 8 ∧ r * 8 ≤ 32; omega
section
-- a name of the frame by what is known of it
local macro_rules | `(tactic| k_all) => `(tactic| exact ne_of_below (by assumption) (by omega))
local macro_rules | `(tactic| k_all) => `(tactic| assumption)
local macro_rules | `(tactic| k_mem) => `(tactic| assumption)
set_option maxRecDepth 100000 in
set_option maxHeartbeats 8000000 in
theorem intdivmod_c : ∀ (w : World) {p : Program} {loose : List Str} {mean : ExcName → Option Value} {mg mb : Str → Option Value} {dp un : Nat} {gd : Option (List Code)} {cn : Str} {cs : Scope} {a₀ : Addr} {ccd : Value} {cl : List (Str × Addr)} {outer : List Env} {A₀ : Around} {base h₀ : Heap} {L : Addr} {m : Str → Option Value} {news : List (Addr × Obj)} {s : Shared} {a b : Int} {t₁ t₂ : Tok} {Q E : Value → Shared → Prop},
    Below A₀ base outer h₀ → Fr h₀ L s.heap m → (hd.heap_39 w.params).In h₀ → News h₀ L s.heap ((44, tabObj #[]) :: (51, tabObj #[]) :: news) → (∀ p ∈ news, p.1 ≠ 44) → (∀ p ∈ news, p.1 ≠ 51) → Top p loose mean mg mb h₀ → CodeHd base 48 44 → CodeHd base 55 51 → cs.kind = .function → 0 ≤ a → a ≤ 45 → 1 ≤ b → b ≤ 5 → dp + 30 < recursionLimit → un + 240 < cLine →
    (∀ D' c' t1 t2 ps ps' h' tk', Fr h₀ L h' m → News h₀ L h' ((D', tupOf [.int (a.fdiv b) t1, .int (a.fmod b) t2] c') :: (44, tabObj ps) :: (51, tabObj ps') :: news) → Q (.ref D') { s with heap := h', toks := tk' }) →
    wpAny (model Challenge.rw_hn0004_01.row.prog w) (ktrTop dp un gd cn cs L a₀ ccd cl outer) (call (.ref 70) [.int a t₁, .int b t₂]) Q E s := by
  k_with_none
  k_with "binaryOp LShift int int" => (k_here; k_dflt (refine' lshift_int_small ?k1 ?k2 ?k3 ?_; (case k1 => omega); (case k2 => omega); (case k3 => omega); k_whole))
  k_with "call ref" => (k_here; (with_reducible show wpAny _ _ (call (Value.ref 35) _) _ _ _); k_dflt (refine' div2n1n_c _ ?k1 ?k2 ?k3 ?k4 ?k5 ?kK ?j1 ?j2 ?j3 ?j4 ?j5 ?j6 ?j7 ?j8 ?_; (case k1 => k_asm); (case k2 => k_asm); (case k3 => k_asm); (case k4 => k_asm); (case k5 => k_asm); (case kK => first | exact rfl | assumption); (case j1 => omega); (case j2 => omega); (case j3 => omega); (case j4 => omega); (case j5 => omega); (case j6 => omega); (case j7 => first | omega | ktr_room); (case j8 => first | omega | ktr_units); k_whole); intro D' c' t1' t2' h' tk' F' N' l1; (try k_lt l1))
  k_with "call builtin:list.reverse" => (k_here; (with_reducible show wpAny _ _ (call (Value.builtin _) [Value.ref _]) _ _ _); k_dflt (refine' kl_reverse (its := List.toArray _) (l := List.reverse _) ?F ?N ?e ?U ?z ?_; (case F => k_asm); (case N => k_asm); (case U => k_upd); (case e => rfl); (case z => exact Nat.le_trans (by assumption) (Nat.le_of_ble_eq_true rfl))); intro h' F' N')
  k_with "eval Name" => (k_here; k_dflt (refine' nameX_L ?F ?v ?_ ?a ?b; (case a => rfl); (case b => rfl); (case F => k_asm); (case v => (repeat (first | assumption | exact if_pos rfl | refine Eq.trans (if_neg (by decide)) ?_))); k_whole))
  k_with "exec For Name Call cons nil" => (k_here; (with_reducible rename Fr _ _ _ _ => lF'); (with_unfolding_all refine' For_invVF lF' ?k1 ?k2 ?_; (case k1 => exact rfl); (case k2 => exact rfl); k_whole))
  k_with "ite" => (k_here; first | refine ite_pos (by assumption) ?_ | refine ite_neg (by assumption) ?_)
  k_with "call ref" => (k_here; (with_reducible show wpAny _ _ (call (Value.ref 63) _) _ _ _); k_dflt (refine wpAny_call ?_; (refine' code_def ?k1 ?k2 ?k3 ?k4 ?k5 ?kA ?kF ?kK ?k6 ?k7 ?k8 ?k9 ?kB ?_ ?c2 ?c3 ?c4 ?c5; (case kA => exact rfl); (case kF => exact rfl); (case kK => exact rfl); (case k1 => k_asm); (case k2 => k_asm); (case k3 => k_asm); (case k4 => k_asm); (case k5 => k_asm); (case k6 => k_is); (case k7 => k_is); (case k8 => ktr_room); (case k9 => exact BindsTo.of_eq rfl); (case c5 => decide); (case kB => exact locs rfl); (case c2 => exact rfl); (case c3 => exact rfl); (case c4 => exact rfl); k_whole; intro g' L' h' FG' F' N' B' X' T'; (try dsimp only); (try k_fold))))
  k_with "call ref" => (k_here; (with_reducible show wpAny _ _ (call (Value.ref 49) _) _ _ _); k_dflt (refine' int2digits_c _ ?k1 ?k2 ?k3 ?k4 ?k5 ?k6 ?k7 ?kK ?j1 ?j2 ?j3 ?j4 ?j5 ?j6 ?_; (case k1 => k_asm); (case k2 => k_asm); (case k3 => k_asm); (case k4 => k_asm); (case k5 => assumption); (case k6 => k_asm); (case k7 => assumption); (case kK => first | exact rfl | assumption); (case j1 => omega); (case j2 => omega); (case j3 => omega); (case j4 => omega); (case j5 => first | omega | ktr_room); (case j6 => first | omega | ktr_units); k_whole); intro D' c' vs' ps' h' tk' F' N' l1 I')
  k_fill
  intro w p loose mean mg mb dp un gd cn cs a₀ ccd cl outer A₀ base h₀ L m news s a b t₁ t₂ Q E B F X N hn44 hn51 T hcode hcode2 hk ha0 ha hb0 hb hdp hu hret
  have e1 : ¬ (b == 0) = true := by simp; omega
  have hbits : Builtin.Int.intBits b ≤ 3 := intBits_le (by omega)
  have hbits1 : 1 ≤ Builtin.Int.intBits b := bits_pos (by omega)
  have hn44b : ∀ p ∈ ((51, tabObj #[]) : Addr × Obj) :: news, p.1 ≠ 44 := List.forall_mem_cons.mpr ⟨by decide, hn44⟩
  refine wpAny_call ?_
  k_dflt cell_enter
  k_steps
  have h51 := ltN ((‹∀ p ∈ ((51, tabObj #[]) : Addr × Obj) :: news, p.1 < _›) _ (List.Mem.head _))
  dsimp only at h51
  have hbel := lt_of_allLt (‹_ ∧ _ ∧ _ ∧ AllLt _ news›).2.2.2
  obtain ⟨hds, hdl⟩ := ds_small (a := a) (n := ((Builtin.Int.intBits b : Nat) : Int)) ha0 ha (by omega) (by omega)
  with_reducible rename Fr _ _ _ _ => F1
  with_reducible rename News _ _ _ _ => N1
  with_reducible rename IntsAre _ _ => hI1
  with_unfolding_all refine iterV (DmJ b ((Builtin.Int.intBits b : Nat) : Int) (i2dDs a ((Builtin.Int.intBits b : Nat) : Int)) _ _) rfl (fun i m nx hJ => by obtain ⟨vq, cq, t1, t2, t3, rfl, -⟩ := hJ; exact List.Mem.tail _ (List.Mem.head _)) hI1 F1 N1 ?_ ⟨[], 0, _, _, _, rfl, IntsAre.nil, rfl, rfl, rfl, rfl, Int.le_refl _, (show (0 : Int) < b by omega), rfl⟩ ?_ ?_
  · intro p hp
    simp only [List.mem_cons] at hp
    rcases hp with rfl | rfl | rfl | rfl | hp
    · k_ne
    · k_ne
    · k_ne
    · k_ne
    · exact ne_of_below (lt_of_allLt (‹_ ∧ _ ∧ _ ∧ _ ∧ AllLt _ news›).2.2.2.2) (Nat.le_refl _) p hp
  · rintro i d t m₁ nx h tk oI hn ⟨vq, cq, t1, t2, t3, rfl, hiq, hr, hqd, hmb, hmn, hr0, hr1, hql⟩ hoff F1 N1
    have hd1 := hds d (List.mem_reverse.mp (List.mem_of_getElem? hn))
    obtain ⟨hp0, hp1⟩ := pow_small (n := ((Builtin.Int.intBits b : Nat) : Int)) hr0 (by omega) (by omega) (by omega)
    have hI := allNe_of hoff
    simp only [AllNe] at hI
    k_steps
    rename Fr _ _ _ _ => Fz
    rename News _ _ _ _ => Nz
    exact dm_turn hn Fz Nz (by omega) (by k_mem) (by k_mem) (fun p hp => by repeat (first | exact hp | refine List.Mem.tail _ ?_)) hiq hql rfl (by (repeat (first | assumption | exact if_pos rfl | refine Eq.trans (if_neg (by decide)) ?_))) (by (repeat (first | assumption | exact if_pos rfl | refine Eq.trans (if_neg (by decide)) ?_))) (by (repeat (first | assumption | exact if_pos rfl | refine Eq.trans (if_neg (by decide)) ?_))) hoff
  · rintro m₁ nx h tk ⟨vq, cq, t1, t2, t3, rfl, hiq, hr, hqd, hmb, hmn, hr0, hr1, hql⟩ F1 N1
    dsimp only
    have hvl : vq.length ≤ 6 := by
      rw [hiq.length, hql, List.length_take, List.length_reverse]; omega
    obtain ⟨hq1, hq2, hq3, hq4⟩ := dm_facts ha0 ha hb0 hb
    have hfold : (i2dDs a ((Builtin.Int.intBits b : Nat) : Int)).reverse.take (i2dDs a ((Builtin.Int.intBits b : Nat) : Int)).length = (i2dDs a ((Builtin.Int.intBits b : Nat) : Int)).reverse := List.take_of_length_le (by rw [List.length_reverse]; exact Nat.le_refl _)
    rw [hfold] at hiq hr hr0 hr1 hql
    k_steps
    rename Fr _ _ _ _ => F3
    rename News _ _ _ _ => N3
    have N4 := news_rot N3
    have hiq' := IntsAre.reverse hiq
    refine digits2int_c _ (by assumption) F3 (by assumption) N4 ?_ (by assumption) (by assumption) rfl (.head _) hiq' hq2 (by omega) (by omega) (d2i_small (by omega) (by omega) hq2 hq1) (by first | omega | ktr_room) (by first | omega | ktr_units) (fun t ps h' tk' F' N' => ?_)
    · intro p hp
      simp only [List.mem_cons] at hp
      rcases hp with rfl | rfl | rfl | hp
      · k_ne
      · k_ne
      · k_ne
      · exact hn51 p hp
    · k_steps
      rename News _ _ _ _ => Nz
      simp only [dmFold] at hq3 hq4
      rw [hq3, hq4] at Nz
      refine hret _ _ _ _ _ _ _ _ (by assumption) (dm_ret Nz (.head _) (by k_mem) (by k_mem) (fun p hp => by repeat (first | exact hp | refine List.Mem.tail _ ?_)))
end
end Mine
namespace Mine
theorem newsC {e : Addr × Obj} {r led : List (Addr × Obj)} (h : e ∈ led) (hr : ∀ p ∈ r, p ∈ led) : ∀ p ∈ e :: r, p ∈ led := fun p hp => by
  rcases List.mem_cons.mp hp with rfl | hp
  · exact h
  · exact hr p hp
theorem newsN {led : List (Addr × Obj)} : ∀ p ∈ ([] : List (Addr × Obj)), p ∈ led := fun _ hp => by cases hp
def Post (P : Shared → Prop) (f : Flow) (s' : Shared) : Prop := f = .next ∧ P s'
theorem stmt_cut {M : Model} {A : Around} {a : Stmt} {r : List Stmt} {env : Env} {Q : Flow → Shared → Prop} {E : Value → Shared → Prop} {s : Shared} (P : Shared → Prop) (h1 : wpAny M A (exec a env) (Post P) E s) (h2 : ∀ s', P s' → wpAny M A (execs r env) Q E s') : wpAny M A (execs (a :: r) env) Q E s := by
  refine wpAny_execs_cons (wpAny_mono h1 (fun f s' h => ?_) fun _ _ e => e)
  obtain ⟨rfl, hp⟩ := h
  exact h2 s' hp
/-- the state between two statements of the law: the numbers xs, the cells whole, rest, other, what else stands (extra), the frame's names -/
inductive LawSt (base : Heap) (L : Nat) (s₁ : Shared) (xs : List Int) (whole rest other : Option Value) (Jp : Array Value → Array Value → Prop) (J : (Str → Option Value) → List (Addr × Obj) → Prop) (s' : Shared) : Prop
  | mk (h : Heap) (tk : Nat) (m : Str → Option Value) (D : Addr) (ys : List Value) (c : Nat) (o1 o2 o3 o4 : Obj) (ps ps' : Array Value) (extra : List (Addr × Obj))
    (e : s' = { heap := h, gens := s₁.gens, drawn := s₁.drawn, toks := tk, os := s₁.os }) (F : Fr base L h m)
    (N : News base L h ((44, tabObj ps) :: (51, tabObj ps') :: (L + 1 + 1 + 1 + 1, o1) :: (L + 1 + 1 + 1, o2) :: (L + 1 + 1, o3) :: (L + 1, o4) :: (D, PySem.W.listOf (List.toArray ys) c) :: extra))
    (hI : IntsAre ys xs) (d4 : o4.data = .cell (some (.ref D))) (d3 : o3.data = .cell whole) (d2 : o2.data = .cell rest) (d1 : o1.data = .cell other)
    (ne : @Ne Nat (L + 1 + 1 + 1 + 1) D ∧ @Ne Nat (L + 1 + 1 + 1) D ∧ @Ne Nat (L + 1 + 1) D ∧ @Ne Nat (L + 1) D ∧ @Ne Nat 44 D ∧ @Ne Nat 51 D) (hp : Jp ps ps') (hj : J m extra) : LawSt base L s₁ xs whole rest other Jp J s'
/-- what is known of the numbers -/
def Digits (xs : List Int) : Prop := 1 ≤ xs.length ∧ xs.length ≤ 5 ∧ ∀ x ∈ xs, 0 ≤ x ∧ x ≤ 9
def J2 (n a b c : Int) (m : Str → Option Value) : Prop :=
  ∃ t1 t2 t3 t4 t5 : Tok, m (Str.ofString "many") = some (.int n t1) ∧ m (Str.ofString "total") = some (.int a t2) ∧ m (Str.ofString "squares") = some (.int b t3) ∧ m (Str.ofString "thirds") = some (.int c t4) ∧ m (Str.ofString "often") = some (.int n t5)
theorem ints_of_map {ys : List Value} {l : List Int} (h : CarriedAll ys (l.map fun a => PyData.int (Int.fmod a 10))) : IntsAre ys (l.map fun a => Int.fmod a 10) := IntsAre.ofCarried (by rw [List.map_map]; exact h)
theorem digits_of {K : Nat} (h1 : 1 ≤ K) (h5 : K ≤ 5) (ns : List Int) : Digits (((ns ++ [0]).take K).map fun a => Int.fmod a 10) := by
  refine ⟨?_, ?_, ?_⟩
  · simp only [List.length_map, List.length_take, List.length_append, List.length_cons, List.length_nil]; omega
  · simp only [List.length_map, List.length_take]; omega
  · intro x hx
    obtain ⟨a, _, rfl⟩ := List.mem_map.mp hx
    have := fmod_lo a (n := 10) (by decide)
    have := fmod_hi a (n := 10) (by decide)
    omega
end Mine
namespace Mine
theorem sum1_eq : ∀ (l : List Int), sum1 l = l.sum
  | [] => rfl
  | x :: r => by rw [sum1, List.sum_cons, sum1_eq r]
def alikeB (xs : List Int) : Bool := decide (∀ a ∈ xs, ∀ b ∈ xs, a = b)
theorem alike_eq {xs : List Int} {M M' : Int} (h1 : M ∈ xs) (h2 : ∀ a, a ∈ xs → M ≤ a) (h3 : M' ∈ xs) (h4 : ∀ a, a ∈ xs → a ≤ M') : (M == M') = alikeB xs := by
  rw [show (M == M') = decide (M = M') from rfl]
  refine decide_eq_decide.mpr ⟨fun e a ha b hb => ?_, fun h => h _ h1 _ h3⟩
  have := h2 a ha; have := h2 b hb; have := h4 a ha; have := h4 b hb
  omega
theorem sum1_bd : ∀ {xs : List Int}, (∀ x ∈ xs, 0 ≤ x ∧ x ≤ 9) → 0 ≤ sum1 xs ∧ sum1 xs ≤ 9 * (xs.length : Int)
  | [], _ => by simp [sum1]
  | x :: r, h => by
    have := h x (.head _)
    have := sum1_bd fun y hy => h y (.tail _ hy)
    simp only [sum1, List.length_cons]; omega
theorem sq_bd {x : Int} (h : 0 ≤ x ∧ x ≤ 9) : 0 ≤ x * x ∧ x * x ≤ 81 := by
  have : x = 0 ∨ x = 1 ∨ x = 2 ∨ x = 3 ∨ x = 4 ∨ x = 5 ∨ x = 6 ∨ x = 7 ∨ x = 8 ∨ x = 9 := by omega
  rcases this with rfl | rfl | rfl | rfl | rfl | rfl | rfl | rfl | rfl | rfl <;> decide
theorem cu_bd {x : Int} (h : 0 ≤ x ∧ x ≤ 9) : 0 ≤ x ^ 3 ∧ x ^ 3 ≤ 729 := by
  have : x = 0 ∨ x = 1 ∨ x = 2 ∨ x = 3 ∨ x = 4 ∨ x = 5 ∨ x = 6 ∨ x = 7 ∨ x = 8 ∨ x = 9 := by omega
  rcases this with rfl | rfl | rfl | rfl | rfl | rfl | rfl | rfl | rfl | rfl <;> decide
theorem sum2_bd : ∀ {xs : List Int}, (∀ x ∈ xs, 0 ≤ x ∧ x ≤ 9) → 0 ≤ sum2 xs ∧ sum2 xs ≤ 81 * (xs.length : Int)
  | [], _ => by simp [sum2]
  | x :: r, h => by
    have := sq_bd (h x (.head _))
    have := sum2_bd fun y hy => h y (.tail _ hy)
    simp only [sum2, List.length_cons]; omega
theorem sum3_bd : ∀ {xs : List Int}, (∀ x ∈ xs, 0 ≤ x ∧ x ≤ 9) → 0 ≤ sum3 xs ∧ sum3 xs ≤ 729 * (xs.length : Int)
  | [], _ => by simp [sum3]
  | x :: r, h => by
    have := cu_bd (h x (.head _))
    have := sum3_bd fun y hy => h y (.tail _ hy)
    simp only [sum3, List.length_cons]; omega
def evenG (S : Int) (n : Int) : List Int := List.map (fun k' => S.fdiv n + if decide (k' < S.fmod n) = true then 1 else 0) (rangeKs 0 (n - 0).toNat)
def evenF (xs : List Int) : List Int := evenG (sum1 xs) ((xs.length : Nat) : Int)
def J7 (xs : List Int) (m : Str → Option Value) (extra : List (Addr × Obj)) : Prop :=
  (∃ (E : Addr) (vs : List Value) (ce : Nat), extra = [(E, PySem.W.listOf vs.toArray ce)] ∧ IntsAre vs (evenF xs) ∧ m (Str.ofString "even") = some (.ref E)) ∧ J2 (xs.length : Nat) (sum1 xs) (sum2 xs) (sum3 xs) m
def HereOk (xs hs : List Int) : Prop := hs.Pairwise (· ≤ ·) ∧ hs.length = xs.length ∧ sum1 hs = sum1 xs ∧ ∀ x ∈ hs, 0 ≤ x ∧ x ≤ 9
def J9 (xs : List Int) (P : List Int → Prop) (m : Str → Option Value) (extra : List (Addr × Obj)) : Prop :=
  (∃ (E : Addr) (vs : List Value) (ce : Nat) (H : Addr) (ws : List Value) (cw : Nat) (hs : List Int), extra = [(E, PySem.W.listOf vs.toArray ce), (H, PySem.W.listOf ws.toArray cw)] ∧ IntsAre vs (evenF xs) ∧ m (Str.ofString "even") = some (.ref E) ∧ IntsAre ws hs ∧ m (Str.ofString "here") = some (.ref H) ∧ HereOk xs hs ∧ P hs) ∧ J2 (xs.length : Nat) (sum1 xs) (sum2 xs) (sum3 xs) m
def gapL (hs : List Int) : Int := hs.getD (-1 + (hs.length : Int)).toNat 0 - hs.getD (Int.toNat 0) 0
def meas (hs : List Int) : Int := sum2 hs - 9 * sum1 hs
theorem sum1_perm {a b : List Int} (h : a.Perm b) : sum1 a = sum1 b := by
  induction h with
  | nil => rfl
  | cons x _ ih => simp only [sum1, ih]
  | swap x y l => simp only [sum1]; omega
  | trans _ _ h1 h2 => exact h1.trans h2
theorem hereOk_of {xs hs : List Int} (hd0 : Digits xs) (p : hs.Perm xs) (o : hs.Pairwise (· ≤ ·)) : HereOk xs hs :=
  ⟨o, p.length_eq, sum1_perm p, fun x hx => hd0.2.2 x (p.mem_iff.mp hx)⟩
theorem evenF_bd {xs : List Int} (h : Digits xs) : ∀ x ∈ evenF xs, -100 ≤ x ∧ x ≤ 100 := by
  intro x hx
  obtain ⟨k, _, rfl⟩ := List.mem_map.mp hx
  have hS := sum1_bd h.2.2
  have h1 := h.1
  have h5 := h.2.1
  have hq : 0 ≤ (sum1 xs).fdiv ((xs.length : Nat) : Int) ∧ (sum1 xs).fdiv ((xs.length : Nat) : Int) ≤ 45 := by
    rw [Int.fdiv_eq_ediv_of_nonneg _ (by omega)]
    refine ⟨Int.ediv_nonneg hS.1 (by omega), Int.le_trans (Int.ediv_le_self _ hS.1) (by omega)⟩
  split <;> omega
end Mine
namespace Mine
def aftL (hs : List Int) : List Int := [hs.getD (Int.toNat 0) 0 + 1] ++ List.take (hs.length - 1 - 1) (List.drop 1 hs) ++ [hs.getD (-1 + (hs.length : Int)).toNat 0 - 1]
theorem prodL_perm {a b : List Int} (h : a.Perm b) : prodL a = prodL b := by
  induction h with
  | nil => rfl
  | cons x _ ih => simp only [prodL, ih]
  | swap x y l => simp only [prodL]; rw [← Int.mul_assoc, ← Int.mul_assoc, Int.mul_comm x y]
  | trans _ _ h1 h2 => exact h1.trans h2
theorem sum2_perm {a b : List Int} (h : a.Perm b) : sum2 a = sum2 b := by
  induction h with
  | nil => rfl
  | cons x _ ih => simp only [sum2, ih]
  | swap x y l => simp only [sum2]; omega
  | trans _ _ h1 h2 => exact h1.trans h2
/-- the same digits, sorted -/
theorem sorted_of (xs : List Int) : ∃ ys : List Int, ys.Perm xs ∧ ys.Pairwise (· ≤ ·) := by
  refine ⟨xs.mergeSort (fun a b => decide (a ≤ b)), List.mergeSort_perm _ _, ?_⟩
  have := List.pairwise_mergeSort (le := fun a b : Int => decide (a ≤ b)) (fun a b c h1 h2 => by simp only [decide_eq_true_eq] at *; omega) (fun a b => by simp only [Bool.or_eq_true, decide_eq_true_eq]; omega) xs
  exact this.imp fun h => of_decide_eq_true h
theorem meas_perm {a b : List Int} (h : a.Perm b) : meas a = meas b := by rw [meas, meas, sum1_perm h, sum2_perm h]
-- the two ends of a list
theorem ends_of : ∀ {hs : List Int}, 2 ≤ hs.length → ∃ a mid b, hs = a :: (mid ++ [b])
  | [], h => by cases h
  | [_], h => by simp at h
  | a :: x :: r, _ => ⟨a, (x :: r).dropLast, (x :: r).getLast (by simp), by rw [List.dropLast_concat_getLast]⟩
theorem last_ends (a b : Int) (mid : List Int) : (a :: (mid ++ [b])).getD (-1 + (((a :: (mid ++ [b])).length : Nat) : Int)).toNat 0 = b := by
  have e : (-1 + (((a :: (mid ++ [b])).length : Nat) : Int)).toNat = mid.length + 1 := by simp only [List.length_cons, List.length_append, List.length_nil]; omega
  rw [e]; simp [List.getD_eq_getElem?_getD]
theorem gap_ends (a b : Int) (mid : List Int) : gapL (a :: (mid ++ [b])) = b - a := by
  rw [gapL, last_ends]; rfl
theorem aft_ends (a b : Int) (mid : List Int) : aftL (a :: (mid ++ [b])) = (a + 1) :: (mid ++ [b - 1]) := by
  rw [aftL, last_ends]
  have e : (a :: (mid ++ [b])).length - 1 - 1 = mid.length := by simp
  rw [e, List.drop_succ_cons, List.drop_zero, List.take_left]
  rfl
theorem gap_long {hs : List Int} (h : ¬ gapL hs < 2) : 2 ≤ hs.length := by
  match hs with
  | [] => exact absurd (show gapL [] < 2 by decide) h
  | [a] => exact absurd (show gapL [a] < 2 by simp [gapL]) h
  | _ :: _ :: _ => simp
theorem prodL_nonneg : ∀ {l : List Int}, (∀ x ∈ l, 0 ≤ x ∧ x ≤ 9) → 0 ≤ prodL l ∧ prodL l ≤ 9 ^ l.length
  | [], _ => by simp [prodL]
  | x :: r, h => by
    have ih := prodL_nonneg fun y hy => h y (.tail _ hy)
    have hx := h x (.head _)
    rw [prodL, List.length_cons, Int.pow_succ, Int.mul_comm (9 ^ r.length) 9]
    exact ⟨Int.mul_nonneg hx.1 ih.1, Int.mul_le_mul hx.2 ih.2 ih.1 (by decide)⟩
theorem q_low {x : Int} (h : 0 ≤ x ∧ x ≤ 9) : -20 ≤ x * x - 9 * x ∧ (x = 4 ∨ x = 5 ∨ -18 ≤ x * x - 9 * x) := by
  have : x = 0 ∨ x = 1 ∨ x = 2 ∨ x = 3 ∨ x = 4 ∨ x = 5 ∨ x = 6 ∨ x = 7 ∨ x = 8 ∨ x = 9 := by omega
  rcases this with rfl | rfl | rfl | rfl | rfl | rfl | rfl | rfl | rfl | rfl <;> decide
theorem meas_low : ∀ {l : List Int}, (∀ x ∈ l, 0 ≤ x ∧ x ≤ 9) → -20 * (l.length : Int) ≤ meas l
  | [], _ => by simp [meas, sum1, sum2]
  | x :: r, h => by
    have ih := meas_low fun y hy => h y (.tail _ hy)
    have hx := (q_low (h x (.head _))).1
    simp only [meas, sum1, sum2, List.length_cons] at ih ⊢; omega
theorem meas_ends (a b : Int) (mid : List Int) : meas (a :: (mid ++ [b])) = (a * a - 9 * a) + meas mid + (b * b - 9 * b) := by
  simp only [meas, sum1, sum2, sum1_append, sum2_append]; omega
theorem sq_up (a : Int) : (a + 1) * (a + 1) = a * a + 2 * a + 1 := by rw [Int.mul_add, Int.add_mul]; omega
theorem sq_down (a : Int) : (a - 1) * (a - 1) = a * a - 2 * a + 1 := by rw [Int.mul_sub, Int.sub_mul]; omega
theorem prod_ends (a b R : Int) : (a + 1) * (R * (b - 1)) = a * (R * b) + R * (b - a - 1) := by grind
theorem here_turn1 {xs hs : List Int} (hd0 : Digits xs) (hok : HereOk xs hs) (hg : ¬ gapL hs < 2) : (∀ x ∈ aftL hs, 0 ≤ x ∧ x ≤ 9) ∧ (aftL hs).length = hs.length ∧ sum1 (aftL hs) = sum1 hs ∧ meas (aftL hs) ≤ meas hs - 2 ∧ prodL hs ≤ prodL (aftL hs) ∧ -100 < meas hs ∧ (prodL hs ≠ 0 → prodL hs < prodL (aftL hs)) := by
  obtain ⟨a, mid, b, rfl⟩ := ends_of (gap_long hg)
  obtain ⟨-, hl, -, hdig⟩ := hok
  rw [gap_ends] at hg
  have ha := hdig a (.head _)
  have hb := hdig b (by simp)
  have hm : ∀ x ∈ mid, 0 ≤ x ∧ x ≤ 9 := fun x hx => hdig x (by simp [hx])
  have h5 := hd0.2.1
  have hlen : mid.length ≤ 3 := by simp only [List.length_cons, List.length_append, List.length_nil] at hl; omega
  have hR := (prodL_nonneg hm).1
  have e1 : prodL (a :: (mid ++ [b])) = a * (prodL mid * b) := by simp [prodL, prodL_append]
  have e2 : prodL ((a + 1) :: (mid ++ [b - 1])) = a * (prodL mid * b) + prodL mid * (b - a - 1) := by rw [← prod_ends]; simp [prodL, prodL_append]
  rw [aft_ends, e1, e2]
  refine ⟨fun x hx => ?_, by simp, by simp only [sum1, sum1_append]; omega, ?_, ?_, ?_, fun hne => ?_⟩
  · simp only [List.mem_cons, List.mem_append, List.not_mem_nil, or_false] at hx
    rcases hx with rfl | hx | rfl
    · omega
    · exact hm x hx
    · omega
  · rw [meas_ends, meas_ends, sq_up, sq_down]; omega
  · have := Int.mul_nonneg hR (show 0 ≤ b - a - 1 by omega); omega
  · rw [meas_ends]
    have qa := q_low ha
    have qb := q_low hb
    have qm := meas_low hm
    omega
  · have hR0 : prodL mid ≠ 0 := fun h0 => hne (by rw [h0]; simp)
    have := Int.mul_pos (show 0 < prodL mid by omega) (show 0 < b - a - 1 by omega); omega
theorem here_turn0 {xs hs : List Int} (hd0 : Digits xs) (hok : HereOk xs hs) (hg : ¬ decide (gapL hs < 2) = true) : (∀ x ∈ aftL hs, 0 ≤ x ∧ x ≤ 9) ∧ (aftL hs).length = hs.length ∧ sum1 (aftL hs) = sum1 hs ∧ meas (aftL hs) ≤ meas hs - 2 ∧ prodL hs ≤ prodL (aftL hs) ∧ -100 < meas hs ∧ (prodL hs ≠ 0 → prodL hs < prodL (aftL hs)) := here_turn1 hd0 hok (fun h => hg (decide_eq_true h))
theorem here_turn {xs hs n' : List Int} (hd0 : Digits xs) (hok : HereOk xs hs) (hg : ¬ decide (gapL hs < 2) = true) (p : n'.Perm (aftL hs)) (o : n'.Pairwise (· ≤ ·)) : HereOk xs n' ∧ meas n' ≤ meas hs - 2 ∧ prodL hs ≤ prodL n' := by
  have h := here_turn0 hd0 hok hg
  refine ⟨⟨o, p.length_eq.trans (h.2.1.trans hok.2.1), (sum1_perm p).trans (h.2.2.1.trans hok.2.2.1), fun x hx => h.1 x (p.mem_iff.mp hx)⟩, ?_, ?_⟩
  · rw [meas_perm p]; exact h.2.2.2.1
  · rw [prodL_perm p]; exact h.2.2.2.2.1
theorem bd_turn {xs hs n' : List Int} (hd0 : Digits xs) (hok : HereOk xs hs) (hg : ¬ decide (gapL hs < 2) = true) (p : n'.Perm (aftL hs)) : ∀ x ∈ n', -100 ≤ x ∧ x ≤ 100 := fun x hx => by
  have := (here_turn0 hd0 hok hg).1 x (p.mem_iff.mp hx); omega
theorem bd_here {xs hs : List Int} (hok : HereOk xs hs) : ∀ x ∈ hs, -100 ≤ x ∧ x ≤ 100 := fun x hx => by
  have := hok.2.2.2 x hx; omega
theorem prod_turn {xs hs n' : List Int} (hd0 : Digits xs) (hok : HereOk xs hs) (hg : ¬ decide (gapL hs < 2) = true) (p : n'.Perm (aftL hs)) : ¬ decide (prodL n' < prodL hs) = true := by
  have h := (here_turn0 hd0 hok hg).2.2.2.2.1
  rw [prodL_perm p, decide_eq_true_eq]; omega
theorem here_end {xs hs : List Int} (hd0 : Digits xs) (hok : HereOk xs hs) (hm : meas hs ≤ -100) : gapL hs < 2 := by
  by_cases hg : gapL hs < 2
  · exact hg
  · have := (here_turn1 hd0 hok hg).2.2.2.2.2.1; omega
theorem meas_start : ∀ {hs : List Int}, (∀ x ∈ hs, 0 ≤ x ∧ x ≤ 9) → meas hs ≤ 0
  | [], _ => by simp [meas, sum1, sum2]
  | x :: r, h => by
    have h1 := meas_start (hs := r) fun y hy => h y (.tail _ hy)
    have h2 := h x (.head _)
    have : x * x ≤ 9 * x := Int.mul_le_mul_of_nonneg_right h2.2 h2.1
    simp only [meas, sum1, sum2] at h1 ⊢; omega
theorem eq_of_sorted : ∀ {a b : List Int}, a.Perm b → a.Pairwise (· ≤ ·) → b.Pairwise (· ≤ ·) → a = b
  | [], b, p, _, _ => p.nil_eq
  | x :: r, [], p, _, _ => by have := p.length_eq; cases this
  | x :: r, y :: q, p, h1, h2 => by
    have a1 := List.pairwise_cons.mp h1
    have a2 := List.pairwise_cons.mp h2
    have e1 : x ≤ y := by
      rcases List.mem_cons.mp (p.mem_iff.mpr (List.mem_cons_self (a := y) (l := q))) with e | e
      · omega
      · exact a1.1 _ e
    have e2 : y ≤ x := by
      rcases List.mem_cons.mp (p.mem_iff.mp (List.mem_cons_self (a := x) (l := r))) with e | e
      · omega
      · exact a2.1 _ e
    have e : x = y := by omega
    subst e
    rw [eq_of_sorted (List.Perm.cons_inv p) a1.2 a2.2]
/-- a sorted list of two neighbours: first the lesser ones -/
theorem two_values : ∀ (l : List Int) (a : Int), (∀ x ∈ l, a ≤ x ∧ x ≤ a + 1) → l.Pairwise (· ≤ ·) → ∃ i j, l = List.replicate i a ++ List.replicate j (a + 1)
  | [], _, _, _ => ⟨0, 0, rfl⟩
  | x :: r, a, h, o => by
    have o' := List.pairwise_cons.mp o
    have hx := h x (.head _)
    by_cases e : x = a
    · obtain ⟨i, j, hr⟩ := two_values r a (fun y hy => h y (.tail _ hy)) o'.2
      exact ⟨i + 1, j, by rw [hr, e]; rfl⟩
    · refine ⟨0, r.length + 1, ?_⟩
      have e1 : x = a + 1 := by omega
      have e2 : r = List.replicate r.length (a + 1) := List.eq_replicate_iff.mpr ⟨rfl, fun y hy => by have := o'.1 y hy; have := h y (.tail _ hy); omega⟩
      rw [e1, List.replicate_succ, ← e2]; rfl
theorem even_two : ∀ a : Fin 10, ∀ i : Fin 5, ∀ j : Fin 5, i.val + 1 + j.val ≤ 5 → (evenG (sum1 (List.replicate (i.val + 1) (a.val : Int) ++ List.replicate j.val ((a.val : Int) + 1))) ((i.val + 1 + j.val : Nat) : Int)).reverse = List.replicate (i.val + 1) (a.val : Int) ++ List.replicate j.val ((a.val : Int) + 1) := by decide +kernel
theorem near_of {hs : List Int} (o : hs.Pairwise (· ≤ ·)) (hg : gapL hs < 2) (h1 : 1 ≤ hs.length) : ∃ a i j, hs = List.replicate (i + 1) a ++ List.replicate j (a + 1) := by
  have key : ∃ a r, hs = a :: r ∧ ∀ x ∈ hs, a ≤ x ∧ x ≤ a + 1 := by
    by_cases h2 : 2 ≤ hs.length
    · obtain ⟨a, mid, b, rfl⟩ := ends_of h2
      rw [gap_ends] at hg
      have o' := List.pairwise_cons.mp o
      have o2 := List.pairwise_append.mp o'.2
      refine ⟨a, _, rfl, fun x hx => ?_⟩
      simp only [List.mem_cons, List.mem_append, List.not_mem_nil, or_false] at hx
      have hab := o'.1 b (by simp)
      rcases hx with rfl | hx | rfl
      · omega
      · have := o'.1 x (by simp [hx])
        have := o2.2.2 x hx b (by simp)
        omega
      · omega
    · match hs, h1, h2 with
      | [a], _, _ => exact ⟨a, [], rfl, fun x hx => by rw [List.mem_singleton] at hx; omega⟩
      | _ :: _ :: _, _, h2 => simp at h2
  obtain ⟨a, r, rfl, hb⟩ := key
  obtain ⟨i, j, e⟩ := two_values _ a hb o
  cases i with
  | zero =>
    cases j with
    | zero => cases e
    | succ j =>
      rw [List.replicate_zero, List.nil_append, List.replicate_succ] at e
      have := (List.cons.inj e).1; omega
  | succ i => exact ⟨a, i, j, e⟩
theorem even_rev {xs hs : List Int} (hd0 : Digits xs) (hok : HereOk xs hs) (hg : gapL hs < 2) : (evenF xs).reverse = hs := by
  have hlen : 1 ≤ hs.length := by have := hd0.1; have := hok.2.1; omega
  obtain ⟨a, i, j, e⟩ := near_of hok.1 hg hlen
  have hl : hs.length = i + 1 + j := by rw [e]; simp
  have h5 : i + 1 + j ≤ 5 := by have := hd0.2.1; have := hok.2.1; omega
  have ha := hok.2.2.2 a (by rw [e, List.replicate_succ]; exact .head _)
  have h := even_two ⟨a.toNat, by omega⟩ ⟨i, by omega⟩ ⟨j, by omega⟩ h5
  have ea : ((a.toNat : Nat) : Int) = a := by omega
  simp only [ea, ← e, ← hl] at h
  rw [evenF, ← hok.2.1, ← hok.2.2.1]; exact h
theorem here_even {xs hs n' : List Int} (hd0 : Digits xs) (hok : HereOk xs hs) (hg : gapL hs < 2) (p : n'.Perm (evenF xs)) (o : n'.Pairwise (· ≤ ·)) : hs = n' := by
  have p2 : hs.Perm n' := by rw [← even_rev hd0 hok hg]; exact (List.reverse_perm _).trans p.symm
  exact eq_of_sorted p2 hok.1 o
/-- evened out, the product is the greatest; as great only if it is the same digits (or nought) -/
theorem reach {xs : List Int} (hd0 : Digits xs) : ∀ (N : Nat) (hs : List Int), HereOk xs hs → meas hs ≤ (N : Int) - 100 → prodL hs ≤ prodL (evenF xs) ∧ (prodL hs ≠ 0 → prodL hs = prodL (evenF xs) → (evenF xs).Perm hs)
  | N, hs, hok, hm => by
    by_cases hg : gapL hs < 2
    · have p : (evenF xs).Perm hs := by
        rw [← even_rev hd0 hok hg]; exact (List.reverse_perm _).symm
      exact ⟨Int.le_of_eq (prodL_perm p).symm, fun _ _ => p⟩
    · obtain ⟨n', p, o⟩ := sorted_of (aftL hs)
      have t := here_turn1 hd0 hok hg
      have t2 := here_turn hd0 hok (fun h => hg (of_decide_eq_true h)) p o
      cases N with
      | zero => have := t.2.2.2.2.2.1; simp only [Int.natCast_zero] at hm; omega
      | succ N =>
        have ih := reach hd0 N n' t2.1 (by have := t2.2.1; omega)
        refine ⟨Int.le_trans t2.2.2 ih.1, fun hne he => ?_⟩
        have h1 := t.2.2.2.2.2.2 hne
        rw [← prodL_perm p] at h1
        have := ih.1; omega
theorem even_pow : ∀ n : Fin 5, ∀ S : Fin 46, (((n.val + 1 : Nat) : Int) ^ (n.val + 1) * prodL (evenG (S.val : Int) ((n.val + 1 : Nat) : Int)) ≤ (S.val : Int) ^ (n.val + 1)) ∧ ((S.val : Int) ^ (n.val + 1) = ((n.val + 1 : Nat) : Int) ^ (n.val + 1) * prodL (evenG (S.val : Int) ((n.val + 1 : Nat) : Int)) → Int.fmod (S.val : Int) ((n.val + 1 : Nat) : Int) = 0) ∧ (evenG (S.val : Int) ((n.val + 1 : Nat) : Int)).sum = (S.val : Int) := by decide +kernel
theorem even_pow_of {xs : List Int} (hd0 : Digits xs) : (((xs.length : Nat) : Int) ^ xs.length * prodL (evenF xs) ≤ sum1 xs ^ xs.length) ∧ (sum1 xs ^ xs.length = ((xs.length : Nat) : Int) ^ xs.length * prodL (evenF xs) → Int.fmod (sum1 xs) ((xs.length : Nat) : Int) = 0) ∧ (evenF xs).sum = sum1 xs := by
  have hS := sum1_bd hd0.2.2
  have h1 := hd0.1
  have h5 := hd0.2.1
  have h := even_pow ⟨xs.length - 1, by omega⟩ ⟨(sum1 xs).toNat, by omega⟩
  have e1 : xs.length - 1 + 1 = xs.length := by omega
  have e2 : (((sum1 xs).toNat : Nat) : Int) = sum1 xs := by omega
  simp only [e1, e2] at h
  exact h
end Mine
namespace Mine
theorem sq_nonneg (x : Int) : 0 ≤ x * x := by
  rcases Int.le_total 0 x with h | h
  · exact Int.mul_nonneg h h
  · exact Int.mul_nonneg_of_nonpos_of_nonpos h h
theorem sq_sq (x y : Int) : 0 ≤ (x * y) * (x * y) := sq_nonneg _
-- power means: of two squares' sums
theorem form1 (p q : Int) : ∀ l : List Int, 0 ≤ p * p * sum2 l - 2 * (p * q * sum1 l) + q * q * (l.length : Int)
  | [] => by simp [sum1, sum2]
  | x :: r => by
    have ih := form1 p q r
    have h := sq_nonneg (p * x - q)
    simp only [sum1, sum2, List.length_cons, Int.natCast_add, Int.natCast_one]
    grind
theorem form2 (p q : Int) : ∀ l : List Int, (∀ x ∈ l, 0 ≤ x ∧ x ≤ 9) → 0 ≤ p * p * sum3 l - 2 * (p * q * sum2 l) + q * q * sum1 l
  | [], _ => by simp [sum1, sum2, sum3]
  | x :: r, hb => by
    have ih := form2 p q r fun y hy => hb y (.tail _ hy)
    have h := Int.mul_nonneg (hb x (.head _)).1 (sq_nonneg (p * x - q))
    simp only [sum1, sum2, sum3]
    grind
theorem zero_of_sum : ∀ {l : List Int}, (∀ x ∈ l, 0 ≤ x ∧ x ≤ 9) → sum1 l = 0 → ∀ x ∈ l, x = 0
  | [], _, _, x, hx => by cases hx
  | a :: r, hb, h, x, hx => by
    have ha := hb a (.head _)
    have hr := (sum1_bd (xs := r) fun y hy => hb y (.tail _ hy)).1
    simp only [sum1] at h
    rcases List.mem_cons.mp hx with rfl | hx
    · omega
    · exact zero_of_sum (fun y hy => hb y (.tail _ hy)) (by omega) x hx
theorem sums_zero : ∀ {l : List Int}, (∀ x ∈ l, x = 0) → sum2 l = 0
  | [], _ => rfl
  | a :: r, h => by rw [sum2, h a (.head _), sums_zero fun y hy => h y (.tail _ hy)]; rfl
theorem mean1 {xs : List Int} (hd0 : Digits xs) : sum1 xs * sum1 xs ≤ ((xs.length : Nat) : Int) * sum2 xs := by
  have hn := hd0.1
  have h := form1 ((xs.length : Nat) : Int) (sum1 xs) xs
  generalize sum1 xs = S at *
  generalize sum2 xs = Q at *
  have hn' : 0 < ((xs.length : Nat) : Int) := by omega
  generalize ((xs.length : Nat) : Int) = n at *
  have h2 : 0 ≤ n * (n * Q - S * S) := by grind
  have h3 := Int.nonneg_of_mul_nonneg_right h2 hn'
  omega
theorem mean2 {xs : List Int} (hd0 : Digits xs) : sum2 xs * sum2 xs ≤ sum1 xs * sum3 xs := by
  have h := form2 (sum1 xs) (sum2 xs) xs hd0.2.2
  rcases Int.lt_or_eq_of_le (sum1_bd hd0.2.2).1 with hp | hz
  · generalize sum1 xs = S at *
    generalize sum2 xs = Q at *
    generalize sum3 xs = C at *
    have h2 : 0 ≤ S * (S * C - Q * Q) := by grind
    have h3 := Int.nonneg_of_mul_nonneg_right h2 hp
    omega
  · rw [sums_zero (zero_of_sum hd0.2.2 hz.symm), ← hz]; simp
theorem mean3 {xs : List Int} (hd0 : Digits xs) : sum1 xs * sum1 xs * sum1 xs ≤ ((xs.length : Nat) : Int) * ((xs.length : Nat) : Int) * sum3 xs := by
  have h1 := mean1 hd0
  have h2 := mean2 hd0
  have hC := (sum3_bd hd0.2.2).1
  have hn : 0 ≤ ((xs.length : Nat) : Int) := by omega
  rcases Int.lt_or_eq_of_le (sum1_bd hd0.2.2).1 with hp | hz
  · generalize sum1 xs = S at *
    generalize sum2 xs = Q at *
    generalize sum3 xs = C at *
    generalize ((xs.length : Nat) : Int) = n at *
    have hSS := sq_nonneg S
    have a1 : (S * S) * (S * S) ≤ (n * Q) * (n * Q) := Int.mul_le_mul h1 h1 hSS (Int.le_trans hSS h1)
    have a2 : (n * n) * (Q * Q) ≤ (n * n) * (S * C) := Int.mul_le_mul_of_nonneg_left h2 (sq_nonneg n)
    have a3 : 0 ≤ S * (n * n * C - S * S * S) := by grind
    have a4 := Int.nonneg_of_mul_nonneg_right a3 hp
    omega
  · rw [← hz]
    have := Int.mul_nonneg (sq_nonneg ((xs.length : Nat) : Int)) hC
    simp only [Int.zero_mul, Int.mul_zero]; exact this
theorem power_means {xs : List Int} (hd0 : Digits xs) : (¬ decide (((xs.length : Nat) : Int) * sum2 xs < sum1 xs * sum1 xs) = true) ∧ (¬ decide (((xs.length : Nat) : Int) * ((xs.length : Nat) : Int) * sum3 xs < sum1 xs ^ Int.toNat 3) = true) ∧ ¬ decide (sum1 xs * sum3 xs < sum2 xs * sum2 xs) = true := by
  have e : sum1 xs ^ Int.toNat 3 = sum1 xs * sum1 xs * sum1 xs := by rw [show Int.toNat 3 = 3 from rfl, Int.pow_succ, Int.pow_succ, Int.pow_succ, Int.pow_zero, Int.one_mul]
  rw [e]
  simp only [decide_eq_true_eq]
  exact ⟨Int.not_lt.mpr (mean1 hd0), Int.not_lt.mpr (mean3 hd0), Int.not_lt.mpr (mean2 hd0)⟩
theorem pow_bd {a B : Int} (h0 : 0 ≤ a) (hB : a ≤ B) : ∀ n : Nat, 0 ≤ a ^ n ∧ a ^ n ≤ B ^ n
  | 0 => by simp
  | n + 1 => by
    have h := pow_bd h0 hB n
    rw [Int.pow_succ, Int.pow_succ]
    exact ⟨Int.mul_nonneg h.1 h0, Int.mul_le_mul h.2 hB h0 (Int.le_trans h.1 h.2)⟩
theorem pow_mono5 {B : Int} (hB : 1 ≤ B) : ∀ {n m : Nat}, n ≤ m → B ^ n ≤ B ^ m := by
  intro n m h
  induction h with
  | refl => exact Int.le_refl _
  | step _ ih =>
    rw [Int.pow_succ]
    have h1 := (pow_bd (a := B) (by omega) (Int.le_refl _) ‹Nat›).1
    have : B ^ ‹Nat› * 1 ≤ B ^ ‹Nat› * B := Int.mul_le_mul_of_nonneg_left hB h1
    omega
-- the sum to the count's power, and the product
theorem alike_sums {a : Int} : ∀ {l : List Int}, (∀ x ∈ l, x = a) → sum1 l = (l.length : Int) * a ∧ prodL l = a ^ l.length
  | [], _ => by simp [sum1, prodL]
  | x :: r, h => by
    have ih := alike_sums fun y hy => h y (.tail _ hy)
    rw [sum1, prodL, h x (.head _), ih.1, ih.2, List.length_cons, Int.pow_succ, Int.mul_comm a]
    refine ⟨?_, rfl⟩
    rw [Int.natCast_add, Int.add_mul, Int.natCast_one, Int.one_mul, Int.add_comm]
theorem one_le_pow {a : Int} (h : 1 ≤ a) : ∀ n : Nat, 1 ≤ a ^ n
  | 0 => by simp
  | n + 1 => by
    rw [Int.pow_succ]
    have := Int.mul_le_mul (one_le_pow h n) h (by decide) (by have := one_le_pow h n; omega)
    omega
theorem even_alike {S n : Int} (h : S.fmod n = 0) : ∀ x ∈ evenG S n, x = S.fdiv n := by
  intro x hx
  obtain ⟨k, hk, rfl⟩ := List.mem_map.mp hx
  obtain ⟨i, -, rfl⟩ := List.mem_map.mp hk
  rw [h, decide_eq_false (show ¬ (0 : Int) + (i : Int) < 0 by omega)]; simp
theorem amgm {xs : List Int} (hd0 : Digits xs) : (0 ≤ prodL xs ∧ prodL xs ≤ 59049) ∧ (¬ decide (sum1 xs ^ ((xs.length : Nat) : Int).toNat < ((xs.length : Nat) : Int) ^ ((xs.length : Nat) : Int).toNat * prodL xs) = true) ∧ (¬ ((sum1 xs ^ ((xs.length : Nat) : Int).toNat == ((xs.length : Nat) : Int) ^ ((xs.length : Nat) : Int).toNat * prodL xs) != alikeB xs) = true) ∧ (¬ decide (prodL (evenF xs) < prodL xs) = true) ∧ ¬ ((evenF xs).sum != sum1 xs) = true := by
  obtain ⟨ys, p, o⟩ := sorted_of xs
  obtain ⟨r1, r2⟩ := reach hd0 100 ys (hereOk_of hd0 p o) (by have := meas_start (hs := ys) fun x hx => hd0.2.2 x (p.mem_iff.mp hx); simpa using this)
  obtain ⟨c1, c2, c3⟩ := even_pow_of hd0
  rw [prodL_perm p] at r1 r2
  have hn1 := hd0.1
  have hP := prodL_nonneg hd0.2.2
  have hS := sum1_bd hd0.2.2
  have h9 : (9 : Int) ^ xs.length ≤ 9 ^ 5 := pow_mono5 (by decide) hd0.2.1
  have hN : 0 < ((xs.length : Nat) : Int) ^ xs.length := by have := one_le_pow (a := ((xs.length : Nat) : Int)) (by omega) xs.length; omega
  have m1 : ((xs.length : Nat) : Int) ^ xs.length * prodL xs ≤ ((xs.length : Nat) : Int) ^ xs.length * prodL (evenF xs) := Int.mul_le_mul_of_nonneg_left r1 (by omega)
  rw [Int.toNat_natCast]
  refine ⟨⟨hP.1, by have : (9 : Int) ^ 5 = 59049 := by decide
                    omega⟩, ?_, ?_, ?_, ?_⟩
  · rw [decide_eq_true_eq]; omega
  · have key : (sum1 xs ^ xs.length == ((xs.length : Nat) : Int) ^ xs.length * prodL xs) = alikeB xs := by
      rw [show ∀ a b : Int, (a == b) = decide (a = b) from fun _ _ => rfl, alikeB]
      refine decide_eq_decide.mpr ⟨fun he => ?_, fun hall => ?_⟩
      · have e1 : ((xs.length : Nat) : Int) ^ xs.length * prodL xs = ((xs.length : Nat) : Int) ^ xs.length * prodL (evenF xs) := by omega
        have e2 := Int.eq_of_mul_eq_mul_left (by omega) e1
        by_cases h0 : prodL xs = 0
        · have hz : sum1 xs = 0 := by
            rw [h0, Int.mul_zero] at he
            by_cases hs : 1 ≤ sum1 xs
            · have := one_le_pow hs xs.length; omega
            · omega
          have hall := zero_of_sum hd0.2.2 hz
          intro a ha b hb; rw [hall a ha, hall b hb]
        · have q := (r2 h0 e2).trans p
          have f := even_alike (c2 (by omega))
          intro a ha b hb
          rw [f a (q.mem_iff.mpr ha), f b (q.mem_iff.mpr hb)]
      · have hx : ∃ a, ∀ x ∈ xs, x = a := by
          cases xs with
          | nil => exact ⟨0, fun x hx => by cases hx⟩
          | cons y r => exact ⟨y, fun x hx => hall x hx y (.head _)⟩
        obtain ⟨a, ha⟩ := hx
        rw [(alike_sums ha).1, (alike_sums ha).2, Int.mul_pow]
    rw [key]; simp
  · rw [decide_eq_true_eq]; omega
  · rw [c3]; simp
theorem powA {xs : List Int} (hd0 : Digits xs) : (0 ≤ sum1 xs ^ ((xs.length : Nat) : Int).toNat ∧ sum1 xs ^ ((xs.length : Nat) : Int).toNat ≤ 184528125) ∧ (0 ≤ ((xs.length : Nat) : Int) ^ ((xs.length : Nat) : Int).toNat ∧ ((xs.length : Nat) : Int) ^ ((xs.length : Nat) : Int).toNat ≤ 3125) := by
  have hS := sum1_bd hd0.2.2
  have h5 := hd0.2.1
  rw [Int.toNat_natCast]
  have a1 := pow_bd (a := sum1 xs) (B := 45) hS.1 (by omega) xs.length
  have a2 := pow_mono5 (B := 45) (by decide) h5
  have a3 := pow_bd (a := ((xs.length : Nat) : Int)) (B := 5) (by omega) (by omega) xs.length
  have a4 := pow_mono5 (B := 5) (by decide) h5
  refine ⟨⟨a1.1, ?_⟩, a3.1, ?_⟩
  · exact Int.le_trans a1.2 (Int.le_trans a2 (by decide))
  · exact Int.le_trans a3.2 (Int.le_trans a4 (by decide))
theorem range_small {b : Int} (h0 : 0 ≤ b) (h1 : b ≤ 100) : Builtin.Range.small 1 b 1 = true := by
  exact small_one (by omega) (by omega) (by omega) (by omega)
theorem sq_bd2 {a : Int} (h : -1000 ≤ a ∧ a ≤ 1000) : 0 ≤ a ^ Int.toNat 2 ∧ a ^ Int.toNat 2 ≤ 1000000 := by
  have e : a ^ Int.toNat 2 = a * a := by rw [show Int.toNat 2 = 2 from rfl, Int.pow_succ, Int.pow_succ, Int.pow_zero, Int.one_mul]
  rw [e]
  have h2 : 0 ≤ (1000 - a) * (1000 + a) := Int.mul_nonneg (by omega) (by omega)
  have h3 : (1000 - a) * (1000 + a) = 1000000 - a * a := by rw [Int.sub_mul, Int.mul_add, Int.mul_add, Int.mul_comm a 1000]; omega
  have h4 : 0 ≤ a * a := by
    rcases Int.le_total 0 a with h | h
    · exact Int.mul_nonneg h h
    · exact Int.mul_nonneg_of_nonpos_of_nonpos h h
  omega
theorem getD_zero_front (f : List Int) (k : Nat) : (f ++ [0]).getD k 0 = f.getD k 0 := by
  simp only [List.getD_eq_getElem?_getD, List.getElem?_append]
  split
  · rfl
  · rename_i h
    rw [List.getElem?_eq_none (by omega : f.length ≤ k)]
    cases k - f.length <;> rfl
theorem chStep_getD (f : List Int) (n : Int) (k : Nat) : (chStep f n).getD k 0 = f.getD k 0 + n * ([0] ++ f).getD k 0 := by
  rw [chStep]
  by_cases h : k < f.length + 1
  · have e : ((rangeKs 0 (((f.length + 1 : Nat) : Int) - 0).toNat))[k]? = some (k : Int) := by
      rw [rangeKs, List.getElem?_map, List.getElem?_range (by omega)]; simp
    rw [List.getD_eq_getElem?_getD, List.getElem?_map, e]
    simp only [Option.map_some, Option.getD_some, Int.toNat_natCast, getD_zero_front]
  · have e1 : f.getD k 0 = 0 := by rw [List.getD_eq_getElem?_getD, List.getElem?_eq_none (by omega)]; rfl
    have e2 : ([0] ++ f).getD k 0 = 0 := by rw [List.getD_eq_getElem?_getD, List.getElem?_eq_none (by simp; omega)]; rfl
    rw [e1, e2, List.getD_eq_getElem?_getD, List.getElem?_eq_none (by rw [List.length_map, rangeKs_length]; omega)]
    simp
theorem front_getD (f : List Int) (k : Nat) : ([0] ++ f).getD k 0 = match k with | 0 => 0 | j + 1 => f.getD j 0 := by
  cases k <;> rfl
theorem chStep_len (f : List Int) (n : Int) : (chStep f n).length = f.length + 1 := by
  rw [chStep, List.length_map, rangeKs_length]; omega
theorem eq_of_getD {a b : List Int} (hl : a.length = b.length) (h : ∀ k, a.getD k 0 = b.getD k 0) : a = b := by
  apply List.ext_getElem hl
  intro k h1 h2
  have := h k
  simpa [List.getD_eq_getElem?_getD, List.getElem?_eq_getElem h1, List.getElem?_eq_getElem h2] using this
theorem chStep_comm (f : List Int) (a b : Int) : chStep (chStep f a) b = chStep (chStep f b) a := by
  refine eq_of_getD (by rw [chStep_len, chStep_len, chStep_len, chStep_len]) fun k => ?_
  rw [chStep_getD, chStep_getD, chStep_getD, chStep_getD, front_getD, front_getD, front_getD]
  cases k with
  | zero => simp
  | succ j =>
    simp only [chStep_getD]
    rw [Int.mul_add, Int.mul_add, ← Int.mul_assoc, ← Int.mul_assoc, Int.mul_comm b a]; omega
theorem foldl_chStep_perm {a b : List Int} (h : a.Perm b) : ∀ f, a.foldl chStep f = b.foldl chStep f := by
  induction h with
  | nil => intro f; rfl
  | cons x _ ih => intro f; exact ih _
  | swap x y l => intro f; simp only [List.foldl_cons]; rw [chStep_comm]
  | trans _ _ h1 h2 => intro f; exact (h1 f).trans (h2 f)
theorem chosenF_perm {a b : List Int} (h : a.Perm b) : chosenF a = chosenF b := foldl_chStep_perm h _
theorem chosenF_bd {xs : List Int} (hd0 : Digits xs) : ∀ k, 0 ≤ (chosenF xs).getD k 0 ∧ (chosenF xs).getD k 0 ≤ 100000 := by
  have go : ∀ (l : List Int) (f : List Int) (B : Int), (∀ x ∈ l, 0 ≤ x ∧ x ≤ 9) → (∀ k, 0 ≤ f.getD k 0 ∧ f.getD k 0 ≤ B) → ∀ k, 0 ≤ (l.foldl chStep f).getD k 0 ∧ (l.foldl chStep f).getD k 0 ≤ 10 ^ l.length * B := by
    intro l
    induction l with
    | nil => intro f B _ hf k; simpa using hf k
    | cons x r ih =>
      intro f B hl hf k
      have h1 := ih (chStep f x) (10 * B) (fun y hy => hl y (.tail _ hy)) (fun k => by
        rw [chStep_getD, front_getD]
        have hx := hl x (.head _)
        have hk := hf k
        cases k with
        | zero => simp only [Int.mul_zero]; omega
        | succ j =>
          have hj := hf j
          have a1 := Int.mul_nonneg hx.1 hj.1
          have a2 : x * f.getD j 0 ≤ 9 * f.getD j 0 := Int.mul_le_mul_of_nonneg_right hx.2 hj.1
          simp only; omega) k
      rw [List.length_cons, Int.pow_succ, Int.mul_assoc]
      exact h1
  intro k
  have h := go xs [1] 1 hd0.2.2 (fun k => by
    cases k with
    | zero => decide
    | succ j => show 0 ≤ (0 : Int) ∧ (0 : Int) ≤ 1; decide) k
  have h2 := pow_mono5 (B := 10) (by decide) hd0.2.1
  refine ⟨h.1, Int.le_trans h.2 ?_⟩
  have : (10 : Int) ^ 5 = 100000 := by decide
  omega

theorem newton_at {c : List Int} {n : Int} {i : Nat} {w0 w1 w2 x0 x1 x2 : Int} (h0 : waysF n i = w0) (h1 : waysF n (i + 1) = w1) (h2 : waysF n (i + 2) = w2) (g0 : c.getD i 0 = x0) (g1 : c.getD (i + 1) 0 = x1) (g2 : c.getD (i + 2) 0 = x2) (h : x0 * x2 * (w1 * w1) ≤ x1 * x1 * w0 * w2) :
    ¬ decide (c.getD (i + 1) 0 ^ 2 * waysF n i * waysF n (i + 2) < c.getD i 0 * c.getD (i + 2) 0 * waysF n (i + 1) ^ 2) = true := by
  rw [h0, h1, h2, g0, g1, g2, decide_eq_true_eq, Int.pow_succ, Int.pow_succ, Int.pow_zero, Int.one_mul, Int.pow_succ, Int.pow_succ, Int.pow_zero, Int.one_mul]
  omega
theorem step0 (x : Int) : chStep [1] x = [1, x] := by
  simp [chStep, rangeKs, List.range, List.range.loop]
theorem step1 (p x : Int) : chStep [1, p] x = [1, p + x, x * p] := by
  simp [chStep, rangeKs, List.range, List.range.loop]
theorem step2 (p q x : Int) : chStep [1, p, q] x = [1, p + x, q + x * p, x * q] := by
  simp [chStep, rangeKs, List.range, List.range.loop]
theorem step3 (p q r x : Int) : chStep [1, p, q, r] x = [1, p + x, q + x * p, r + x * q, x * r] := by
  simp [chStep, rangeKs, List.range, List.range.loop]
theorem step4 (p q r s x : Int) : chStep [1, p, q, r, s] x = [1, p + x, q + x * p, r + x * q, s + x * r, x * s] := by
  simp [chStep, rangeKs, List.range, List.range.loop]
theorem chosen_2 (a b : Int) : chosenF [a, b] = [1, a + b, b * a] := by
  rw [chosenF, List.foldl_cons, List.foldl_cons, List.foldl_nil, step0, step1]
theorem newt_2_1 (a b : Int) : (1) * (b * a) * (2 * 2) ≤ (a + b) * (a + b) * 1 * 1 := by
  have h := sq_nonneg (a - b)
  grind
theorem chosen_3 (a b c : Int) : chosenF [a, b, c] = [1, a + b + c, b * a + c * (a + b), c * (b * a)] := by
  rw [chosenF, List.foldl_cons, List.foldl_cons, List.foldl_cons, List.foldl_nil, step0, step1, step2]
theorem newt_3_1 (a b c : Int) : (1) * (b * a + c * (a + b)) * (3 * 3) ≤ (a + b + c) * (a + b + c) * 1 * 3 := by
  have h := Int.add_nonneg (Int.add_nonneg (sq_nonneg (a - b)) (sq_nonneg (a - c))) (sq_nonneg (b - c))
  grind
theorem newt_3_2 (a b c : Int) : (a + b + c) * (c * (b * a)) * (3 * 3) ≤ (b * a + c * (a + b)) * (b * a + c * (a + b)) * 3 * 1 := by
  have h := Int.add_nonneg (Int.add_nonneg (sq_nonneg (c * (a - b))) (sq_nonneg (b * (a - c)))) (sq_nonneg (a * (b - c)))
  grind
theorem chosen_4 (a b c d : Int) : chosenF [a, b, c, d] = [1, a + b + c + d, b * a + c * (a + b) + d * (a + b + c), c * (b * a) + d * (b * a + c * (a + b)), d * (c * (b * a))] := by
  rw [chosenF, List.foldl_cons, List.foldl_cons, List.foldl_cons, List.foldl_cons, List.foldl_nil, step0, step1, step2, step3]
theorem newt_4_1 (a b c d : Int) : (1) * (b * a + c * (a + b) + d * (a + b + c)) * (4 * 4) ≤ (a + b + c + d) * (a + b + c + d) * 1 * 6 := by
  have h := Int.add_nonneg (Int.add_nonneg (Int.add_nonneg (Int.add_nonneg (Int.add_nonneg (sq_nonneg (a - b)) (sq_nonneg (a - c))) (sq_nonneg (a - d))) (sq_nonneg (b - c))) (sq_nonneg (b - d))) (sq_nonneg (c - d))
  grind
theorem newt_4_2 (a b c d : Int) : (a + b + c + d) * (c * (b * a) + d * (b * a + c * (a + b))) * (6 * 6) ≤ (b * a + c * (a + b) + d * (a + b + c)) * (b * a + c * (a + b) + d * (a + b + c)) * 4 * 4 := by
  have h := Int.add_nonneg (Int.add_nonneg (Int.add_nonneg (Int.add_nonneg (Int.add_nonneg (Int.add_nonneg (Int.add_nonneg (Int.add_nonneg (Int.add_nonneg (Int.add_nonneg (Int.add_nonneg (Int.add_nonneg (Int.add_nonneg (Int.add_nonneg (Int.add_nonneg (Int.add_nonneg (Int.add_nonneg (Int.add_nonneg (Int.add_nonneg (Int.add_nonneg (Int.add_nonneg (Int.add_nonneg (Int.add_nonneg (sq_nonneg (a * (b - c))) (sq_nonneg (a * (b - d)))) (sq_nonneg (a * (c - d)))) (sq_nonneg (b * (a - c)))) (sq_nonneg (b * (a - d)))) (sq_nonneg (b * (c - d)))) (sq_nonneg (c * (a - b)))) (sq_nonneg (c * (a - d)))) (sq_nonneg (c * (b - d)))) (sq_nonneg (d * (a - b)))) (sq_nonneg (d * (a - c)))) (sq_nonneg (d * (b - c)))) (sq_nonneg (a * b - c * d))) (sq_nonneg (a * b - c * d))) (sq_nonneg (a * b - c * d))) (sq_nonneg (a * b - c * d))) (sq_nonneg (a * c - b * d))) (sq_nonneg (a * c - b * d))) (sq_nonneg (a * c - b * d))) (sq_nonneg (a * c - b * d))) (sq_nonneg (a * d - b * c))) (sq_nonneg (a * d - b * c))) (sq_nonneg (a * d - b * c))) (sq_nonneg (a * d - b * c))
  grind
theorem newt_4_3 (a b c d : Int) : (b * a + c * (a + b) + d * (a + b + c)) * (d * (c * (b * a))) * (4 * 4) ≤ (c * (b * a) + d * (b * a + c * (a + b))) * (c * (b * a) + d * (b * a + c * (a + b))) * 6 * 1 := by
  have h := Int.add_nonneg (Int.add_nonneg (Int.add_nonneg (Int.add_nonneg (Int.add_nonneg (sq_nonneg (c * d * (a - b))) (sq_nonneg (b * d * (a - c)))) (sq_nonneg (b * c * (a - d)))) (sq_nonneg (a * d * (b - c)))) (sq_nonneg (a * c * (b - d)))) (sq_nonneg (a * b * (c - d)))
  grind
theorem chosen_5 (a b c d e : Int) : chosenF [a, b, c, d, e] = [1, a + b + c + d + e, b * a + c * (a + b) + d * (a + b + c) + e * (a + b + c + d), c * (b * a) + d * (b * a + c * (a + b)) + e * (b * a + c * (a + b) + d * (a + b + c)), d * (c * (b * a)) + e * (c * (b * a) + d * (b * a + c * (a + b))), e * (d * (c * (b * a)))] := by
  rw [chosenF, List.foldl_cons, List.foldl_cons, List.foldl_cons, List.foldl_cons, List.foldl_cons, List.foldl_nil, step0, step1, step2, step3, step4]
theorem newt_5_1 (a b c d e : Int) : (1) * (b * a + c * (a + b) + d * (a + b + c) + e * (a + b + c + d)) * (5 * 5) ≤ (a + b + c + d + e) * (a + b + c + d + e) * 1 * 10 := by
  have h := Int.add_nonneg (Int.add_nonneg (Int.add_nonneg (Int.add_nonneg (Int.add_nonneg (Int.add_nonneg (Int.add_nonneg (Int.add_nonneg (Int.add_nonneg (sq_nonneg (a - b)) (sq_nonneg (a - c))) (sq_nonneg (a - d))) (sq_nonneg (a - e))) (sq_nonneg (b - c))) (sq_nonneg (b - d))) (sq_nonneg (b - e))) (sq_nonneg (c - d))) (sq_nonneg (c - e))) (sq_nonneg (d - e))
  grind
theorem newt_5_2 (a b c d e : Int) : (a + b + c + d + e) * (c * (b * a) + d * (b * a + c * (a + b)) + e * (b * a + c * (a + b) + d * (a + b + c))) * (10 * 10) ≤ (b * a + c * (a + b) + d * (a + b + c) + e * (a + b + c + d)) * (b * a + c * (a + b) + d * (a + b + c) + e * (a + b + c + d)) * 5 * 10 := by
  have h := Int.add_nonneg (Int.add_nonneg (Int.add_nonneg (Int.add_nonneg (Int.add_nonneg (Int.add_nonneg (Int.add_nonneg (Int.add_nonneg (Int.add_nonneg (Int.add_nonneg (Int.add_nonneg (Int.add_nonneg (Int.add_nonneg (Int.add_nonneg (sq_nonneg (b * c - d * e)) (sq_nonneg (b * d - c * e))) (sq_nonneg (b * e - c * d))) (sq_nonneg (a * c - d * e))) (sq_nonneg (a * d - c * e))) (sq_nonneg (a * e - c * d))) (sq_nonneg (a * b - d * e))) (sq_nonneg (a * d - b * e))) (sq_nonneg (a * e - b * d))) (sq_nonneg (a * b - c * e))) (sq_nonneg (a * c - b * e))) (sq_nonneg (a * e - b * c))) (sq_nonneg (a * b - c * d))) (sq_nonneg (a * c - b * d))) (sq_nonneg (a * d - b * c))
  grind
theorem newt_5_3 (a b c d e : Int) : (b * a + c * (a + b) + d * (a + b + c) + e * (a + b + c + d)) * (d * (c * (b * a)) + e * (c * (b * a) + d * (b * a + c * (a + b)))) * (10 * 10) ≤ (c * (b * a) + d * (b * a + c * (a + b)) + e * (b * a + c * (a + b) + d * (a + b + c))) * (c * (b * a) + d * (b * a + c * (a + b)) + e * (b * a + c * (a + b) + d * (a + b + c))) * 10 * 5 := by
  have h := Int.add_nonneg (Int.add_nonneg (Int.add_nonneg (Int.add_nonneg (Int.add_nonneg (Int.add_nonneg (Int.add_nonneg (Int.add_nonneg (Int.add_nonneg (Int.add_nonneg (Int.add_nonneg (Int.add_nonneg (Int.add_nonneg (Int.add_nonneg (sq_nonneg (a * (b * c - d * e))) (sq_nonneg (a * (b * d - c * e)))) (sq_nonneg (a * (b * e - c * d)))) (sq_nonneg (b * (a * c - d * e)))) (sq_nonneg (b * (a * d - c * e)))) (sq_nonneg (b * (a * e - c * d)))) (sq_nonneg (c * (a * b - d * e)))) (sq_nonneg (c * (a * d - b * e)))) (sq_nonneg (c * (a * e - b * d)))) (sq_nonneg (d * (a * b - c * e)))) (sq_nonneg (d * (a * c - b * e)))) (sq_nonneg (d * (a * e - b * c)))) (sq_nonneg (e * (a * b - c * d)))) (sq_nonneg (e * (a * c - b * d)))) (sq_nonneg (e * (a * d - b * c)))
  grind
theorem newt_5_4 (a b c d e : Int) : (c * (b * a) + d * (b * a + c * (a + b)) + e * (b * a + c * (a + b) + d * (a + b + c))) * (e * (d * (c * (b * a)))) * (5 * 5) ≤ (d * (c * (b * a)) + e * (c * (b * a) + d * (b * a + c * (a + b)))) * (d * (c * (b * a)) + e * (c * (b * a) + d * (b * a + c * (a + b)))) * 10 * 1 := by
  have h := Int.add_nonneg (Int.add_nonneg (Int.add_nonneg (Int.add_nonneg (Int.add_nonneg (Int.add_nonneg (Int.add_nonneg (Int.add_nonneg (Int.add_nonneg (sq_nonneg (c * d * e * (a - b))) (sq_nonneg (b * d * e * (a - c)))) (sq_nonneg (b * c * e * (a - d)))) (sq_nonneg (b * c * d * (a - e)))) (sq_nonneg (a * d * e * (b - c)))) (sq_nonneg (a * c * e * (b - d)))) (sq_nonneg (a * c * d * (b - e)))) (sq_nonneg (a * b * e * (c - d)))) (sq_nonneg (a * b * d * (c - e)))) (sq_nonneg (a * b * c * (d - e)))
  grind
theorem newton {xs : List Int} (hd0 : Digits xs) (i : Nat) (hi : (1 : Int) + (i : Int) < xs.length) : ¬ decide ((chosenF xs).getD (1 + (i : Int)).toNat 0 ^ Int.toNat 2 * waysF ((xs.length : Nat) : Int) (1 + (i : Int) - 1).toNat * waysF ((xs.length : Nat) : Int) (1 + (i : Int) + 1).toNat < (chosenF xs).getD (1 + (i : Int) - 1).toNat 0 * (chosenF xs).getD (1 + (i : Int) + 1).toNat 0 * waysF ((xs.length : Nat) : Int) (1 + (i : Int)).toNat ^ Int.toNat 2) = true := by
  have e0 : (1 + (i : Int) - 1).toNat = i := by omega
  have e1 : (1 + (i : Int)).toNat = i + 1 := by omega
  have e2 : (1 + (i : Int) + 1).toNat = i + 2 := by omega
  have h5 := hd0.2.1
  rw [e0, e1, e2, show Int.toNat 2 = 2 from rfl]
  clear e0 e1 e2
  match xs, i, hi, h5 with
  | [], _, hi, _ => simp only [List.length_nil] at hi; omega
  | [_], _, hi, _ => simp only [List.length_cons, List.length_nil] at hi; omega
  | [a, b], 0, _, _ => rw [chosen_2]; exact newton_at (w0 := 1) (w1 := 2) (w2 := 1) (show waysF 2 0 = 1 by decide +kernel) (show waysF 2 1 = 2 by decide +kernel) (show waysF 2 2 = 1 by decide +kernel) rfl rfl rfl (newt_2_1 a b)
  | [_, _], i + 1, hi, _ => simp only [List.length_cons, List.length_nil] at hi; omega
  | [a, b, c], 0, _, _ => rw [chosen_3]; exact newton_at (w0 := 1) (w1 := 3) (w2 := 3) (show waysF 3 0 = 1 by decide +kernel) (show waysF 3 1 = 3 by decide +kernel) (show waysF 3 2 = 3 by decide +kernel) rfl rfl rfl (newt_3_1 a b c)
  | [a, b, c], 1, _, _ => rw [chosen_3]; exact newton_at (w0 := 3) (w1 := 3) (w2 := 1) (show waysF 3 1 = 3 by decide +kernel) (show waysF 3 2 = 3 by decide +kernel) (show waysF 3 3 = 1 by decide +kernel) rfl rfl rfl (newt_3_2 a b c)
  | [_, _, _], i + 2, hi, _ => simp only [List.length_cons, List.length_nil] at hi; omega
  | [a, b, c, d], 0, _, _ => rw [chosen_4]; exact newton_at (w0 := 1) (w1 := 4) (w2 := 6) (show waysF 4 0 = 1 by decide +kernel) (show waysF 4 1 = 4 by decide +kernel) (show waysF 4 2 = 6 by decide +kernel) rfl rfl rfl (newt_4_1 a b c d)
  | [a, b, c, d], 1, _, _ => rw [chosen_4]; exact newton_at (w0 := 4) (w1 := 6) (w2 := 4) (show waysF 4 1 = 4 by decide +kernel) (show waysF 4 2 = 6 by decide +kernel) (show waysF 4 3 = 4 by decide +kernel) rfl rfl rfl (newt_4_2 a b c d)
  | [a, b, c, d], 2, _, _ => rw [chosen_4]; exact newton_at (w0 := 6) (w1 := 4) (w2 := 1) (show waysF 4 2 = 6 by decide +kernel) (show waysF 4 3 = 4 by decide +kernel) (show waysF 4 4 = 1 by decide +kernel) rfl rfl rfl (newt_4_3 a b c d)
  | [_, _, _, _], i + 3, hi, _ => simp only [List.length_cons, List.length_nil] at hi; omega
  | [a, b, c, d, e], 0, _, _ => rw [chosen_5]; exact newton_at (w0 := 1) (w1 := 5) (w2 := 10) (show waysF 5 0 = 1 by decide +kernel) (show waysF 5 1 = 5 by decide +kernel) (show waysF 5 2 = 10 by decide +kernel) rfl rfl rfl (newt_5_1 a b c d e)
  | [a, b, c, d, e], 1, _, _ => rw [chosen_5]; exact newton_at (w0 := 5) (w1 := 10) (w2 := 10) (show waysF 5 1 = 5 by decide +kernel) (show waysF 5 2 = 10 by decide +kernel) (show waysF 5 3 = 10 by decide +kernel) rfl rfl rfl (newt_5_2 a b c d e)
  | [a, b, c, d, e], 2, _, _ => rw [chosen_5]; exact newton_at (w0 := 10) (w1 := 10) (w2 := 5) (show waysF 5 2 = 10 by decide +kernel) (show waysF 5 3 = 10 by decide +kernel) (show waysF 5 4 = 5 by decide +kernel) rfl rfl rfl (newt_5_3 a b c d e)
  | [a, b, c, d, e], 3, _, _ => rw [chosen_5]; exact newton_at (w0 := 10) (w1 := 5) (w2 := 1) (show waysF 5 3 = 10 by decide +kernel) (show waysF 5 4 = 5 by decide +kernel) (show waysF 5 5 = 1 by decide +kernel) rfl rfl rfl (newt_5_4 a b c d e)
  | [_, _, _, _, _], i + 4, hi, _ => simp only [List.length_cons, List.length_nil] at hi; omega
  | _ :: _ :: _ :: _ :: _ :: _ :: _, _, _, h5 => simp only [List.length_cons] at h5; omega
end Mine
namespace Mine
def dotL (xs zs : List Int) : Int := (List.map (fun k' => xs.getD k'.toNat 0 * zs.getD k'.toNat 0) (rangeKs 0 (((xs.length : Nat) : Int) - 0).toNat)).sum
def dotR : List Int → List Int → Int
  | a :: r, b :: q => a * b + dotR r q
  | _, _ => 0
theorem dotL_range (xs zs : List Int) : dotL xs zs = ((List.range xs.length).map fun i => xs.getD i 0 * zs.getD i 0).sum := by
  rw [dotL, rangeKs, List.map_map]
  have e : (((xs.length : Nat) : Int) - 0).toNat = xs.length := by omega
  rw [e]
  congr 1
  apply List.map_congr_left
  intro i _
  simp
theorem dotL_eq : ∀ (xs zs : List Int), zs.length = xs.length → dotL xs zs = dotR xs zs
  | [], [], _ => rfl
  | [], _ :: _, h => by cases h
  | _ :: _, [], h => by cases h
  | a :: r, b :: q, h => by
    have ih := dotL_eq r q (by simpa using h)
    rw [dotL_range] at ih ⊢
    rw [List.length_cons, List.range_succ_eq_map, List.map_cons, List.sum_cons, List.map_map, dotR, ← ih]
    rfl
theorem quad (p q : Int) : ∀ (xs zs : List Int), zs.length = xs.length → 0 ≤ p * p * sum2 zs - 2 * (p * q * dotR xs zs) + q * q * sum2 xs
  | [], [], _ => by simp [sum2, dotR]
  | [], _ :: _, h => by cases h
  | _ :: _, [], h => by cases h
  | a :: r, b :: t, h => by
    have ih := quad p q r t (by simpa using h)
    have h0 : 0 ≤ (p * b - q * a) * (p * b - q * a) := by
      rcases Int.le_total 0 (p * b - q * a) with h | h
      · exact Int.mul_nonneg h h
      · exact Int.mul_nonneg_of_nonpos_of_nonpos h h
    simp only [sum2, dotR]
    grind
theorem sum2_zero : ∀ (xs : List Int), sum2 xs = 0 → ∀ zs, dotR xs zs = 0
  | [], _, zs => by cases zs <;> rfl
  | a :: r, h, zs => by
    have hr : ∀ l : List Int, 0 ≤ sum2 l := by
      intro l
      induction l with
      | nil => exact Int.le_refl _
      | cons x l ih =>
        have : 0 ≤ x * x := by
          rcases Int.le_total 0 x with h | h
          · exact Int.mul_nonneg h h
          · exact Int.mul_nonneg_of_nonpos_of_nonpos h h
        simp only [sum2]; omega
    have ha : 0 ≤ a * a := by
      rcases Int.le_total 0 a with h | h
      · exact Int.mul_nonneg h h
      · exact Int.mul_nonneg_of_nonpos_of_nonpos h h
    simp only [sum2] at h
    have := hr r
    have e1 : a * a = 0 := by omega
    have e2 : sum2 r = 0 := by omega
    have e3 : a = 0 := by rcases Int.mul_eq_zero.mp e1 with h | h <;> exact h
    cases zs with
    | nil => rfl
    | cons b q => rw [dotR, e3, sum2_zero r e2 q]; simp
theorem cauchy {xs zs : List Int} (hd0 : Digits xs) (hl : zs.length = xs.length) : dotL xs zs * dotL xs zs ≤ sum2 xs * sum2 zs := by
  rw [dotL_eq xs zs hl]
  have hA := (sum2_bd hd0.2.2).1
  have h := quad (sum2 xs) (dotR xs zs) xs zs hl
  rcases Int.lt_or_eq_of_le hA with hp | hz
  · have h2 : 0 ≤ sum2 xs * (sum2 xs * sum2 zs - dotR xs zs * dotR xs zs) := by grind
    have h3 := Int.nonneg_of_mul_nonneg_right h2 hp
    omega
  · rw [sum2_zero xs hz.symm zs, ← hz]; simp
theorem dot_bd {xs zs : List Int} (hd0 : Digits xs) (hl : zs.length = xs.length) (hb : ∀ z ∈ zs, 0 ≤ z ∧ z ≤ 6) : 0 ≤ dotL xs zs ∧ dotL xs zs ≤ 1000 := by
  rw [dotL_eq xs zs hl]
  have go : ∀ (xs zs : List Int), (∀ x ∈ xs, 0 ≤ x ∧ x ≤ 9) → (∀ z ∈ zs, 0 ≤ z ∧ z ≤ 6) → 0 ≤ dotR xs zs ∧ dotR xs zs ≤ 54 * (xs.length : Int) := by
    intro xs
    induction xs with
    | nil => intro zs _ _; cases zs <;> simp [dotR]
    | cons a r ih =>
      intro zs h1 h2
      cases zs with
      | nil => simp only [dotR]; omega
      | cons b q =>
        have i1 := ih q (fun x hx => h1 x (.tail _ hx)) (fun x hx => h2 x (.tail _ hx))
        have ha := h1 a (.head _)
        have hb := h2 b (.head _)
        have m1 := Int.mul_nonneg ha.1 hb.1
        have m2 : a * b ≤ 9 * 6 := Int.mul_le_mul ha.2 hb.2 hb.1 (by decide)
        simp only [dotR, List.length_cons]; omega
  have := go xs zs hd0.2.2 hb
  have := hd0.2.1
  omega
end Mine
namespace Mine
/-- what stood in H stands, but for the walk's own two objects -/
def Stays (H : Heap) (e it : Addr) (h : Heap) : Prop := ∀ b o, b ∉ [e, it] → H.get? b = some o → h.get? b = some o
theorem Stays.fr {H h h₀ : Heap} {e it L : Addr} {m : Str → Option Value} (x : Stays H e it h) (F : Fr h₀ L H m) (hL : L ∉ [e, it]) (he : h₀.get? e = none) (hi : h₀.get? it = none) : Fr h₀ L h m where
  ns := F.ns.at' fun o y => x L o hL y
  keep b o y := by
    refine x b o (fun hb => ?_) (F.keep b o y)
    have : h₀.get? b = none := by
      rcases List.mem_cons.mp hb with q | q
      · exact q ▸ he
      · exact (List.mem_singleton.mp q) ▸ hi
    rw [this] at y; cases y
  above := F.above
theorem Stays.news {H h h₀ : Heap} {e it L : Addr} {led : List (Addr × Obj)} (x : Stays H e it h) (N : News h₀ L H led) (off : ∀ p ∈ led, p.1 ∉ [e, it]) : News h₀ L h led := fun p hp => ⟨x _ _ (off p hp) (N p hp).1, (N p hp).2⟩
/-- the list l, walked by it, counted by e, stands before item i -/
def AtItem (e it l : Addr) (vs : List Value) (i : Nat) (h : Heap) : Prop := (∃ old, IsEnum h e it i old) ∧ h.IsListIter it l i ∧ h.IsList l vs.toArray
/-- between two turns of the comprehension: i items taken, their values zs in the new list D; C holds its names -/
inductive Between (H : Heap) (e it l C D : Addr) (vs : List Value) (P : Nat → Value → Prop) (s : Shared) (i : Nat) : Shared → Prop
  | mk (h : Heap) (tk : Nat) (zs : List Value) (mC : Str → Option Value) (walk : AtItem e it l vs i h) (stay : Stays H e it h) (names : h.Ns C mC) (made : h.get? D = some (LCg.lst zs)) (len : zs.length = i) (each : ∀ j y, zs[j]? = some y → P j y) : Between H e it l C D vs P s i { s with heap := h, toks := tk }
section
variable {prog : Program} {w : World} {A : Around} {env : Env} {elt iter : Expr} {x x₂ : Str} {px px₂ tp pos : Pos} {kk : Nat} {scope : Scope} {cl : List (Str × Addr)} {s : Shared} {e it l C D : Addr} {H : Heap} {vs : List Value} {P : Nat → Value → Prop}
/-- an element's value is found without a change to the heap -/
def EltIs (prog : Program) (w : World) (A : Around) (elt : Expr) (x x₂ : Str) (vs : List Value) (P : Nat → Value → Prop) (s : Shared) (cenv : Env) : Prop :=
  ∀ (i : Nat) (v : Value) (t : Tok) (mC : Str → Option Value) (h : Heap) (tk : Nat) (E : Value → Shared → Prop), vs[i]? = some v → h.Ns cenv.locals mC → mC x = some (.int (i : Int) t) → mC x₂ = some v →
    wpAny (model prog w) A (eval elt cenv) (fun y s' => P i y ∧ ∃ tk', s' = { s with heap := h, toks := tk' }) E { s with heap := h, toks := tk }
theorem loop_enum {R : Result → Shared → Prop} (hh : A.handled = none) (hei : e ≠ it) (hle : l ≠ e) (hli : l ≠ it) (hsz : vs.length ≤ sizeLine) (hC : H.objs.size ≤ C) (hD : H.objs.size ≤ D) (hCD : C ≠ D) (low : ∀ b ∈ [e, it, l], b < H.objs.size)
    (hx : scope.names.lookup x = some .local) (hx₂ : scope.names.lookup x₂ = some .local) (hxx : x ≠ x₂) (hk : scope.kind = .function) (elt_is : EltIs prog w A elt x x₂ vs P s (compEnvC scope cl C env))
    (fin : ∀ h tk zs mC, Stays H e it h → h.Ns C mC → h.get? D = some (LCg.lst zs) → zs.length = vs.length → (∀ j y, zs[j]? = some y → P j y) → R (.ok .next) { s with heap := h, toks := tk }) (i : Nat) (s' : Shared) (hi : i ≤ vs.length) (st : Between H e it l C D vs P s i s') :
    codeAny (model prog w) A (.compLoop (.ListComp elt [⟨.Tuple [.Name x px, .Name x₂ px₂] kk tp, iter, [], 0⟩] scope pos) 0 (.ref e) (.ref D) (compEnvC scope cl C env)) R s' := by
  have walk := (WalksT.enumerate (prog := prog) (w := w) hh e it l hei hle hli vs.toArray).toU
  rw [show vs.toArray.size = vs.length by simp] at walk
  have apartC : ∀ b ∈ [e, it, l], b ≠ C ∧ b ≠ D := fun b hb => ⟨Nat.ne_of_lt (Nat.lt_of_lt_of_le (low b hb) hC), Nat.ne_of_lt (Nat.lt_of_lt_of_le (low b hb) hD)⟩
  have outC : C ∉ [e, it] ∧ D ∉ [e, it] := ⟨fun q => (apartC C (walk.sub C q)).1 rfl, fun q => (apartC D (walk.sub D q)).2 rfl⟩
  refine kcp_loop (fun k s₁ => ∃ j, j ≤ vs.length ∧ k = vs.length - j ∧ Between H e it l C D vs P s j s₁) ?_ (vs.length - i) ⟨i, hi, rfl, st⟩
  rintro _ _ ⟨j, hj, rfl, ⟨h, tk, zs, mC, at_j, stay, names, made, len, each⟩⟩
  by_cases more : j < vs.length
  case neg =>
    obtain rfl : j = vs.length := by omega
    exact walk.done _ _ _ at_j fun h₁ tk₁ k₁ => fin h₁ tk₁ zs mC (fun b o hb y => k₁ b o hb (stay b o hb y)) (names.at' fun o y => k₁ C o outC.1 y) (k₁ D _ outC.2 made) len each
  refine walk.item j _ _ _ more at_j fun T pair h₁ tk₁ is_pair tup mid k₁ => ?_
  obtain ⟨t, v, hv, rfl⟩ := is_pair
  refine walk.go _ _ _ j T _ _ _ mid fun h₂ at₂ k₂ => ?_
  have tup₂ : h₂.IsTuple T #[.int (j : Int) t, v] := tup.at fun o y => k₂ T o (walk.apart _ _ _ mid) y
  refine kcp_assign (env := compEnvC scope cl C env) hh tup₂ (lookup_relabel_local hx) (lookup_relabel_local hx₂) (by simp [compEnvC, relabel, hk]) (names.at' fun o y => k₂ C o outC.1 (k₁ C o outC.1 y)) fun h₃ tk₃ names₃ k₃ => ?_
  refine wpAny_mono (elt_is j v t _ h₃ tk₃ _ (by simpa using hv) names₃ (by simp [hxx]) (by simp)) (fun y s₄ found => ?_) fun _ _ z => z
  obtain ⟨hP, tk₄, rfl⟩ := found
  have made₃ : h₃.get? D = some (LCg.lst zs) := k₃ D _ hCD.symm (k₂ D _ outC.2 (k₁ D _ outC.2 made))
  refine append_at made₃ (fun h₄ same new => ?_) (by show zs.toArray.size ≤ sizeLine; rw [List.size_toArray, len]; omega)
  have keep : ∀ b o, b ≠ C → b ≠ D → h₂.get? b = some o → h₄.get? b = some o := fun b o c d y => same.extBut b o d (k₃ b o c y)
  refine ⟨vs.length - (j + 1), by omega, j + 1, more, rfl, .mk h₄ tk₄ (zs ++ [y]) _ (walk.frame _ h₂ h₄ at₂ fun b hb o z => keep b o (apartC b hb).1 (apartC b hb).2 z) (fun b o hb z => ?_) (names₃.sameBut same hCD) (new.trans (congrArg some (LCg.lst_snoc zs y))) (by simp [len]) fun n y' hn => ?_⟩
  · have lt := Heap.lt_size z
    exact keep b o (Nat.ne_of_lt (Nat.lt_of_lt_of_le lt hC)) (Nat.ne_of_lt (Nat.lt_of_lt_of_le lt hD)) (k₂ b o hb (k₁ b o hb (stay b o hb z)))
  · by_cases old : n < zs.length
    · exact each n y' (by rwa [List.getElem?_append_left old] at hn)
    · rw [List.getElem?_append_right (Nat.le_of_not_lt old)] at hn
      have one : n - zs.length = 0 := by
        by_cases q : n - zs.length = 0
        · exact q
        · rw [List.getElem?_eq_none (by simp; omega)] at hn; cases hn
      rw [one] at hn
      have : n = j := by omega
      rw [this, ← Option.some.inj hn]; exact hP
/-- what the iterable must come to: an enumeration of a list; then the element's value, and what is to hold of the new list -/
inductive EnumSrc (prog : Program) (w : World) (A : Around) (env : Env) (elt : Expr) (x x₂ : Str) (scope : Scope) (cl : List (Str × Addr)) (Q : Value → Shared → Prop) : Value → Shared → Prop
  | mk (e it l : Addr) (vs : List Value) (P : Nat → Value → Prop) (s : Shared) (hh : A.handled = none) (hsz : vs.length ≤ sizeLine) (hei : e ≠ it) (hle : l ≠ e) (hli : l ≠ it) (start : AtItem e it l vs 0 s.heap)
    (elt_is : ∀ C, EltIs prog w A elt x x₂ vs P s (compEnvC scope cl C env))
    (fin : ∀ D h tk zs, Stays s.heap e it h → h.get? D = some (LCg.lst zs) → s.heap.objs.size ≤ D → zs.length = vs.length → (∀ j y, zs[j]? = some y → P j y) → Q (.ref D) { s with heap := h, toks := tk }) : EnumSrc prog w A env elt x x₂ scope cl Q (.ref e) s
theorem comp_enum {E Q : Value → Shared → Prop} (hclos : closureFor scope env = pure cl) (hcell : ∀ y ∈ scope.names, y.2 ≠ .cell) (hk : scope.kind = .function) (hnames : ∀ y ∈ scope.names, y.2 = .local → scope.names.lookup y.1 = some .local)
    (hx : scope.names.lookup x = some .local) (hx₂ : scope.names.lookup x₂ = some .local) (hxx : x ≠ x₂) (src : wpAny (model prog w) A (eval iter env) (EnumSrc prog w A env elt x x₂ scope cl Q) E s) (hf : ∀ y, foldedSetIterable iter env y = pure y) :
    wpAny (model prog w) A (eval (.ListComp elt [⟨.Tuple [.Name x px, .Name x₂ px₂] kk tp, iter, [], 0⟩] scope pos) env) Q E s := by
  rw [eval_ListComp]
  refine wpAny_comprehension_free (use := none) rfl hf hclos hk hnames (wpAny_mono src (fun y s₁ is_src => ?_) fun _ _ z => z)
  obtain ⟨e, it, l, vs, P, _, hh, hsz, hei, hle, hli, start, elt_is, fin⟩ := is_src
  have inH : ∀ b ∈ [e, it, l], b < s₁.heap.objs.size := by
    obtain ⟨⟨_, h1⟩, ⟨_, h2, -⟩, ⟨_, h3, -⟩⟩ := start
    simp only [List.forall_mem_cons, List.not_mem_nil, false_implies, implies_true, and_true]
    exact ⟨Heap.lt_size h1, Heap.lt_size h2, Heap.lt_size h3⟩
  refine wpAny_pyIter_enum start.1.choose_spec (wpAny_newObj_type (wpAny_newFunctionEnv hcell (fun y hy => by cases hy) (fun h₁ names same => ?_) hk))
  -- D, the new list, is the first new object; C, the comprehension's names, the second
  generalize made : s₁.heap.push _ = H₁ at names same ⊢
  have big : s₁.heap.objs.size < H₁.objs.size := by rw [← made, Heap.size_push]; exact Nat.lt_succ_self _
  have first : H₁.get? s₁.heap.objs.size = some (LCg.lst []) := by rw [← made]; exact Heap.get?_push_size _ rfl
  have later : ∀ b o, b < H₁.objs.size → H₁.get? b = some o → h₁.get? b = some o := fun b o lt y => same.extBut b o (Nat.ne_of_lt lt) (Heap.get?_push_of_some _ y)
  have up : ∀ b o, s₁.heap.get? b = some o → h₁.get? b = some o := fun b o y => later b o (Nat.lt_trans (Heap.lt_size y) big) (by rw [← made]; exact Heap.get?_push_of_some _ y)
  have walk := (WalksT.enumerate (prog := prog) (w := w) hh e it l hei hle hli vs.toArray).toU
  have start₁ : AtItem e it l vs 0 h₁ := walk.frame 0 _ h₁ start fun b _ o y => up b o y
  have go : ∀ tk, codeAny (model prog w) A (.compLoop (.ListComp elt [⟨.Tuple [.Name x px, .Name x₂ px₂] kk tp, iter, [], 0⟩] scope pos) 0 (.ref e) (.ref s₁.heap.objs.size) (compEnvC scope cl H₁.objs.size env)) (compPost (model prog w) A E none Q (.ref s₁.heap.objs.size) H₁.objs.size) { s₁ with heap := h₁, toks := tk } := fun tk =>
    loop_enum (H := s₁.heap) hh hei hle hli hsz (Nat.le_of_lt big) (Nat.le_refl _) (Nat.ne_of_gt big) inH hx hx₂ hxx hk (elt_is _)
      (fun h tk zs mC stay names' made' len each => ⟨mC, names', fun h' same' => fin _ h' tk zs (fun b o hb y => same'.extBut b o (Nat.ne_of_lt (Nat.lt_trans (Heap.lt_size y) big)) (stay b o hb y)) (same'.extBut _ _ (Nat.ne_of_lt big) made') (Nat.le_refl _) len each⟩)
      0 _ (Nat.zero_le _) (.mk h₁ tk [] _ start₁ (fun b o _ y => up b o y) names (later _ _ big first) rfl fun j y hj => by simp at hj)
  exact codeAny_compStart_list (go _) (wpAny_pyIter_enum start₁.1.choose_spec (go _))
end
end Mine
namespace Mine
theorem made_entersN {h₀ h : Heap} {L D : Addr} {m : Str → Option Value} {news : List (Addr × Obj)} {items : Array Value} (P : NewPlain h news D items) (F : Fr h₀ L h m) (N : News h₀ L h news) (hn : h₀.get? D = none) :
    ∃ n, News h₀ L h ((D, { cls := .type "list", data := .seq items n }) :: news) ∧ AllNe D news := by
  obtain ⟨n, e⟩ := made_enters P F N hn
  exact ⟨n, e, allNe_of P.2⟩
theorem fr_ne {m : Str → Option Value} {x y : Str} {v r : Option Value} (hne : ¬ x = y) (h : m x = r) : (fun z => if z = y then v else m z) x = r := (if_neg hne).trans h
theorem fr_eq {m : Str → Option Value} {y : Str} {v : Option Value} : (fun z => if z = y then v else m z) y = v := if_pos rfl
theorem of_allNe {d : Nat} : ∀ {l : List (Addr × Obj)}, AllNe d l → ∀ p ∈ l, p.1 ≠ d
  | [], _ => fun p hp => by cases hp
  | q :: r, h => fun p hp => by
    rcases List.mem_cons.mp hp with rfl | hp
    · exact h.1
    · exact of_allNe h.2 p hp
theorem ne_of_data {h₀ h : Heap} {L a b : Nat} {news : List (Addr × Obj)} {o o' : Obj} (N : News h₀ L h news) (h1 : (a, o) ∈ news) (h2 : (b, o') ∈ news) (hd : o.data ≠ o'.data) : @Ne Nat a b := fun e => by
  have x1 := (N _ h1).1
  have x2 := (N _ h2).1
  simp only at x1 x2
  rw [e] at x1
  rw [x1] at x2
  exact hd (congrArg Obj.data (Option.some.inj x2))
def Held (p : Prop) : Prop := p
def HoldOn : Prop := True
theorem Held.out {p : Prop} (h : Held p) : p := h
def J12 (xs : List Int) (m : Str → Option Value) (extra : List (Addr × Obj)) : Prop :=
  (∃ (C : Addr) (vs : List Value) (cc : Nat), extra = [(C, PySem.W.listOf vs.toArray cc)] ∧ IntsAre vs (chosenF xs) ∧ m (Str.ofString "chosen") = some (.ref C)) ∧ J2 (xs.length : Nat) (sum1 xs) (sum2 xs) (sum3 xs) m
theorem idx1 {n : Nat} {k : Int} (h : k < 0 + (((((n : Nat) : Int) - 0).toNat : Nat) : Int)) : k < (n : Nat) := by omega
theorem idx2 {l : List Int} {n : Nat} {k : Int} (hz : l.length = n) (h : k < 0 + (((((n : Nat) : Int) - 0).toNat : Nat) : Int)) : k < (l.length : Nat) := by omega
theorem idx3 {n : Nat} {k : Int} (hn : n ≤ 5) (h : k < 0 + (((((n : Nat) : Int) - 0).toNat : Nat) : Int)) : k < 2 ^ 63 := by omega
theorem dig_ok {xs : List Int} {k : Nat} {b : Int} (h : ∀ x ∈ xs, 0 ≤ x ∧ x ≤ 9) : IntMulOk (xs.getD k 0) b := by
  have : 0 ≤ xs.getD k 0 ∧ xs.getD k 0 ≤ 9 := by
    by_cases hk : k < xs.length
    · exact h _ (kso_getD hk)
    · rw [List.getD_eq_getElem?_getD, List.getElem?_eq_none (by omega)]; exact ⟨Int.le_refl _, by decide⟩
  exact IntMulOk.of_left (intBits_le_64 (by omega) (by omega))
theorem new_of {h₀ h : Heap} {L a : Addr} {m : Str → Option Value} (F : Fr h₀ L h m) (ha : h.objs.size ≤ a) : h₀.get? a = none := by
  cases e : h₀.get? a with
  | none => rfl
  | some o => exact absurd (Heap.lt_size (F.keep a o e)) (Nat.not_lt.mpr ha)
theorem led_cons {h₀ h : Heap} {L D : Addr} {o : Obj} {led : List (Addr × Obj)} (N : News h₀ L h led) (hd : h.get? D = some o) (hL : D ≠ L) (h0 : h₀.get? D = none) : News h₀ L h ((D, o) :: led) := List.forall_mem_cons.mpr ⟨⟨hd, hL, h0⟩, N⟩
theorem ints_pt : ∀ (zs : List Value) (g : Nat → Int), (∀ i y, zs[i]? = some y → ∃ t, y = Value.int (g i) t) → IntsAre zs ((List.range zs.length).map g)
  | [], _, _ => .nil
  | z :: r, g, h => by
    obtain ⟨t, rfl⟩ := h 0 z rfl
    have ih := ints_pt r (fun i => g (i + 1)) fun i y e => h (i + 1) y (by simpa using e)
    rw [List.length_cons, List.range_succ_eq_map, List.map_cons, List.map_map]
    exact .cons _ _ ih
def otherF (xs : List Int) : List Int := (List.range xs.length).map fun i => Int.fmod (xs.getD i 0 * 3 + (i : Nat)) 7
theorem otherF_len (xs : List Int) : (otherF xs).length = xs.length := by simp [otherF]
theorem otherF_bd (xs : List Int) : ∀ z ∈ otherF xs, 0 ≤ z ∧ z ≤ 6 := by
  intro z hz
  obtain ⟨i, _, rfl⟩ := List.mem_map.mp hz
  have := fmod_lo (xs.getD i 0 * 3 + (i : Nat)) (n := 7) (by decide)
  have := fmod_hi (xs.getD i 0 * 3 + (i : Nat)) (n := 7) (by decide)
  omega
theorem other_ints {xs : List Int} {zs : List Value} (hl : zs.length = xs.length) (h : ∀ i y, zs[i]? = some y → ∃ v t, xs[i]? = some v ∧ y = Value.int (Int.fmod (v * 3 + (i : Nat)) 7) t) : IntsAre zs (otherF xs) := by
  unfold otherF
  rw [← hl]
  refine ints_pt _ _ fun i y e => ?_
  obtain ⟨v, t, hv, rfl⟩ := h i y e
  refine ⟨t, ?_⟩
  rw [List.getD_eq_getElem?_getD, hv]; rfl
-- a name of the frame by what is known of it
local macro_rules | `(tactic| walk_at $s:str) => `(tactic| k_extra $s)
local macro_rules | `(tactic| walk_at "pyIter ref") => `(tactic| (k_here; (with_reducible rename HoldOn => hOn9); (with_reducible show wpAny _ _ (pyIter (Value.ref _)) _ _ _); refine Held.out ?_))
set_option maxRecDepth 100000 in
set_option maxHeartbeats 8000000 in
theorem whole : PySem.Challenge.rw_hn0004_01.Holds := by
  k_with_none
  k_with "storeName" => (k_here; (with_reducible rename NewPlain _ _ _ _ => npX); (obtain ⟨nX, NX, neX⟩ := made_entersN npX (by assumption) (by assumption) (by assumption)); clear npX; (try (have iX := CarriedAll.intsOf (by assumption))); (simp only [AllNe] at neX); (try simp only [filter_tt] at *); walk_at "storeName")
  k_with "call builtin:len" => (k_here; (with_reducible show wpAny _ _ (call (Value.builtin _) [Value.ref _]) _ _ _); k_dflt (refine' len_ints_fit (by exact isL (by k_asm) (by k_mem)) (by with_reducible assumption) (by omega) ?_; k_whole))
  k_with "call ref" => (k_here; (with_reducible show wpAny _ _ (call (Value.ref 77) _) _ _ _); k_dflt (refine' sums_c _ (by k_asm) (by k_asm) (by k_asm) (by k_asm) (by k_asm) (by first | exact rfl | assumption) (by k_mem) (by with_reducible assumption) (by omega) (by assumption) (by first | omega | ktr_room | decide) (by first | omega | ktr_units | decide) ?_; k_whole); intro D' c' t1' t2' t3' t4' h' tk' F' N' l1; (try k_lt l1))
  k_with "eval Name" => (k_here; k_dflt (refine' nameX_L (by k_asm) (by (repeat (first | assumption | exact if_pos rfl | refine Eq.trans (if_neg (by decide)) ?_))) ?_ (by rfl) (by rfl); k_whole))
  k_with "ite" => (k_here; first | refine ite_pos (by assumption) ?_ | refine ite_neg (by assumption) ?_ | k_dflt (refine ite_neg (prod_turn (by assumption) (by assumption) (by assumption) (by assumption)) ?_))
  k_with "call builtin:min" => (k_here; (with_reducible show wpAny _ _ (call (Value.builtin _) [Value.ref _]) _ _ _); (with_unfolding_all refine' kso_min (by k_asm) (by k_asm) (by exact isL (by k_asm) (by k_mem)) (by with_reducible assumption) (by exact hx1) (by with_unfolding_all rfl) ?_; k_whole); intro h' M' t' k' F' N' a' b')
  k_with "call builtin:max" => (k_here; (with_reducible show wpAny _ _ (call (Value.builtin _) [Value.ref _]) _ _ _); (with_unfolding_all refine' kso_max (by k_asm) (by k_asm) (by exact isL (by k_asm) (by k_mem)) (by with_reducible assumption) (by exact hx1) (by with_unfolding_all rfl) ?_; k_whole); intro h' M' t' k' F' N' a' b')
  k_with "call ref" => (k_here; (with_reducible show wpAny _ _ (call (Value.ref 84) _) _ _ _); k_dflt (refine' prod_c _ (by k_asm) (by k_asm) (by k_asm) (by k_asm) (by k_asm) (by first | exact rfl | assumption) (by k_mem) (by with_reducible assumption) (by first | assumption | exact bd_turn (by assumption) (by assumption) (by assumption) (by assumption) | exact bd_here (by assumption)) (by first | omega | ktr_room | decide) (by first | omega | ktr_units | decide) ?_; k_whole); intro t' h' tk' F' N')
  k_with "binaryOp Pow int int" => (k_here; (with_reducible refine pow_int_small (by omega) (by omega) (by omega) ?_))
  k_with "call ref" => (k_here; (with_reducible show wpAny _ _ (call (Value.ref 70) _) _ _ _); k_dflt (refine' intdivmod_c _ (by k_asm) (by k_asm) (by k_asm) (by k_asm) (by exact of_allNe ⟨by omega, by omega, by omega, by omega, by omega, trivial⟩) (by exact of_allNe ⟨by omega, by omega, by omega, by omega, by omega, trivial⟩) (by k_asm) (by with_reducible assumption) (by with_reducible assumption) (by first | exact rfl | assumption) (by omega) (by omega) (by omega) (by omega) (by first | omega | ktr_room | decide) (by first | omega | ktr_units | decide) ?_; k_whole); intro D' c' t1' t2' ps' ps2' h' tk' F' N')
  k_with "exec For Name Call cons nil" => (k_here; (with_reducible rename Fr _ _ _ _ => lF'); (with_unfolding_all refine' For_invVF lF' (by exact rfl) (by exact rfl) ?_; k_whole))
  k_with "call ref" => (k_here; (with_reducible show wpAny _ _ (call (Value.ref 89) _) _ _ _); k_dflt (refine' chosen_c _ (by k_asm) (by k_asm) (by k_asm) (by k_asm) (by k_asm) (by first | exact rfl | assumption) (by k_mem) (by with_reducible assumption) (by omega) (by assumption) (by first | omega | ktr_room | decide) (by first | omega | ktr_units | decide) ?_; k_whole); intro D' c' vs' h' tk' F' N' n1 hI')
  k_with "call ref" => (k_here; (with_reducible show wpAny _ _ (call (Value.ref 96) _) _ _ _); k_dflt (refine' ways_c _ (by k_asm) (by k_asm) (by k_asm) (by k_asm) (by k_asm) (by first | exact rfl | assumption) (by omega) (by omega) (by omega) (by omega) (by first | omega | ktr_room | decide) (by first | omega | ktr_units | decide) ?_; k_whole); intro t' h' tk' F' N')
  k_with "call builtin:sorted" => (k_here; (with_reducible show wpAny _ _ (call (Value.builtin _) [Value.ref _]) _ _ _); (with_unfolding_all refine' kso_sorted (by k_asm) (by k_asm) (by exact isL (by k_asm) (by k_mem)) (by with_reducible assumption) (by with_reducible assumption) ?_; k_whole); intro D' v' n' c' h' F' N' l1 i' e' p' o' b'; (try k_lt l1))
  k_with "subscriptTail Name Name ref int" => (k_here; (with_reducible show wpAny _ _ (subscriptTail _ _ (Value.ref _) (Value.int _ _)) _ _ _); (with_unfolding_all refine' item_anyK (by exact News.isList (by k_asm) (by k_mem)) (by with_reducible assumption) (by with_reducible assumption) (by first | exact idx1 (by with_reducible assumption) | exact idx2 (by with_reducible assumption) (by with_reducible assumption)) (by exact idx3 (by with_reducible assumption) (by with_reducible assumption)) ?_ (by with_unfolding_all rfl); k_whole); intro _)
  k_with "binaryOp Mult int int" => (k_here; (with_reducible refine mul_int ?_ (dig_ok (by assumption))))
  k_with "call type:enumerate" => (k_here; (with_reducible show wpAny _ _ (call (Value.type _) [Value.ref _]) _ _ _); refine Held.out ?_)
  k_with "subscriptTail BinOp Name Add List Slice ref ref" => (k_here; k_dflt (refine kba_turn (value' := PySem.Expr.Name (PySem.Str.ofString "_") ⟨0, 0, 0, 0⟩) (fun _ => rfl) ?_))
  refine Mine.hd ?_
  w_strict (
    k_go0
    show wpAny _ _ _ _ _ _
    k_fold
    rename_i w s₀ s₁ mg mb G Y fa o pm cd doc ho hcd hg X V T B TE TW ns hs hlay0 hL hr hl2 wA wB l vs wC hLs ra w1 r0 hI hr2 hc1 hc2 hD h₁ tk₁ o1 o2 o3 o4 d1 d2 d3 d4 X0 X' T' K' F' cA N' l0
    have cH48 : CodeHd (ghostOf s₁.heap [(55, 51), (48, 44)]) 48 44 := by assumption
    have cH55 : CodeHd (ghostOf s₁.heap [(55, 51), (48, 44)]) 55 51 := by assumption
    clear codeHd
    have hQ : ∀ (h' : Heap) (tk' : Nat) (m' : Str → Option Value) (ps ps' : Array Value) (news' : List (Addr × Obj)), Fr (ghostOf s₁.heap [(55, 51), (48, 44)]) s₁.heap.objs.size h' m' → News (ghostOf s₁.heap [(55, 51), (48, 44)]) s₁.heap.objs.size h' ((44, tabObj ps) :: (51, tabObj ps') :: news') → qk (Flow.ret (.bool true)) { heap := h', gens := s₁.gens, drawn := s₁.drawn, toks := tk', os := s₁.os } := by
      intro h' tk' m' ps ps' news' F9 N9
      k_steps
    clear_value qk
    have hEk : PassesOwn _ _ _ ek := PassesOwn.leaving
    clear_value ek
    have hlen63 : ns.length ≤ 63 := by omega
    clear G Y ho hcd hT8 X V T B TE TW hT9 hD hr2 r0 w1 ra hLs X0 cA hc1 hc2 hlay0 hr hl2
    generalize ghostOf s₁.heap [(55, 51), (48, 44)] = base at *
    generalize hLL : s₁.heap.objs.size = L at *
    refine stmt_cut (fun s' => ∃ xs, Digits xs ∧ LawSt base L s₁ xs none none none (fun ps ps' => ps = #[] ∧ ps' = #[]) (fun m extra => extra = []) s') ?a1 ?b1
    case a1 =>
      k_steps
      rename News _ _ _ _ => Nz
      rename Fr _ _ _ _ => Fz
      with_reducible rename CarriedAll _ _ => hC9
      exact ⟨rfl, _, digits_of (by split <;> (try split) <;> omega) (by split <;> (try split) <;> omega) _, _, _, _, _, _, _, o1, o2, o3, _, _, _, [], rfl, Fz, cb_drop Nz (newsC (by k_mem) (newsC (by k_mem) (newsC (by k_mem) (newsC (by k_mem) (newsC (by k_mem) (newsC (by k_mem) (newsC (by k_mem) newsN))))))), ints_of_map hC9, by assumption, d3, d2, d1, by omega, ⟨rfl, rfl⟩, rfl⟩
    case b1 =>
    clear F' N' d1 d2 d3 d4 o1 o2 o3 o4
    rintro s' ⟨xs, hdg, h, tk, m, D, ys, c, o1, o2, o3, o4, ps, ps', extra, rfl, F1, N1, hI1, e4, e3, e2, e1, hne, ⟨rfl, rfl⟩, rfl⟩
    have hx1 := hdg.1
    have hx5 := hdg.2.1
    have hb100 : ∀ x ∈ xs, -100 ≤ x ∧ x ≤ 100 := fun x hx => by have := hdg.2.2 x hx; omega
    refine stmt_cut (LawSt base L s₁ xs none none none (fun ps ps' => ps = #[] ∧ ps' = #[]) (fun m extra => extra = [] ∧ J2 (xs.length : Nat) (sum1 xs) (sum2 xs) (sum3 xs) m)) ?a2 ?b2
    case a2 =>
      k_steps
      rename News _ _ _ _ => Nz
      rename Fr _ _ _ _ => Fz
      exact ⟨rfl, _, _, _, D, ys, c, o1, o2, o3, o4, #[], #[], [], rfl, Fz, cb_drop Nz (newsC (by k_mem) (newsC (by k_mem) (newsC (by k_mem) (newsC (by k_mem) (newsC (by k_mem) (newsC (by k_mem) (newsC (by k_mem) newsN))))))), hI1, e4, e3, e2, e1, hne, ⟨rfl, rfl⟩, rfl, _, _, _, _, _, rfl, rfl, rfl, rfl, rfl⟩
    case b2 =>
    clear F1 N1 e1 e2 e3 e4 hI1 hne D ys c o1 o2 o3 o4 h tk m
    rintro s' ⟨h, tk, m, D, ys, c, o1, o2, o3, o4, ps, ps', extra, rfl, F1, N1, hI1, e4, e3, e2, e1, hne, ⟨rfl, rfl⟩, rfl, t1, t2, t3, t4, t5, hm1, hm2, hm3, hm4, hm5⟩
    refine stmt_cut (LawSt base L s₁ xs none none none (fun ps ps' => ps = #[] ∧ ps' = #[]) (fun m extra => extra = [] ∧ J2 (xs.length : Nat) (sum1 xs) (sum2 xs) (sum3 xs) m)) ?a3 ?b3
    case a3 =>
      have hz1 : ¬ (((xs.length : Nat) : Int) != ((xs.length : Nat) : Int)) = true := by simp
      have hz2 : ¬ (sum1 xs != xs.sum) = true := by simp [sum1_eq]
      k_steps
      rename News _ _ _ _ => Nz
      rename Fr _ _ _ _ => Fz
      exact ⟨rfl, _, _, _, D, ys, c, o1, o2, o3, o4, #[], #[], [], rfl, Fz, cb_drop Nz (newsC (by k_mem) (newsC (by k_mem) (newsC (by k_mem) (newsC (by k_mem) (newsC (by k_mem) (newsC (by k_mem) (newsC (by k_mem) newsN))))))), hI1, e4, e3, e2, e1, hne, ⟨rfl, rfl⟩, rfl, t1, t2, t3, t4, t5, hm1, hm2, hm3, hm4, hm5⟩
    case b3 =>
    clear F1 N1 e1 e2 e3 e4 hI1 hne hm1 hm2 hm3 hm4 hm5 t1 t2 t3 t4 t5 D ys c o1 o2 o3 o4 h tk m
    rintro s' ⟨h, tk, m, D, ys, c, o1, o2, o3, o4, ps, ps', extra, rfl, F1, N1, hI1, e4, e3, e2, e1, hne, ⟨rfl, rfl⟩, rfl, t1, t2, t3, t4, t5, hm1, hm2, hm3, hm4, hm5⟩
    refine stmt_cut (LawSt base L s₁ xs none none none (fun ps ps' => ps = #[] ∧ ps' = #[]) (fun m extra => extra = [] ∧ J2 (xs.length : Nat) (sum1 xs) (sum2 xs) (sum3 xs) m ∧ m (Str.ofString "alike") = some (.bool (alikeB xs)))) ?a4 ?b4
    case a4 =>
      k_steps
      rename News _ _ _ _ => Nz
      rename Fr _ _ _ _ => Fz
      exact ⟨rfl, _, _, _, D, ys, c, o1, o2, o3, o4, #[], #[], [], rfl, Fz, cb_drop Nz (newsC (by k_mem) (newsC (by k_mem) (newsC (by k_mem) (newsC (by k_mem) (newsC (by k_mem) (newsC (by k_mem) (newsC (by k_mem) newsN))))))), hI1, e4, e3, e2, e1, hne, ⟨rfl, rfl⟩, rfl, ⟨t1, t2, t3, t4, t5, fr_ne (by decide) hm1, fr_ne (by decide) hm2, fr_ne (by decide) hm3, fr_ne (by decide) hm4, fr_ne (by decide) hm5⟩, (if_pos rfl).trans (congrArg (fun b => some (Value.bool b)) (alike_eq (by assumption) (by assumption) (by assumption) (by assumption)))⟩
    case b4 =>
    clear F1 N1 e1 e2 e3 e4 hI1 hne hm1 hm2 hm3 hm4 hm5 t1 t2 t3 t4 t5 D ys c o1 o2 o3 o4 h tk m
    rintro s' ⟨h, tk, m, D, ys, c, o1, o2, o3, o4, ps, ps', extra, rfl, F1, N1, hI1, e4, e3, e2, e1, hne, ⟨rfl, rfl⟩, rfl, ⟨t1, t2, t3, t4, t5, hm1, hm2, hm3, hm4, hm5⟩, hm6⟩
    refine stmt_cut (LawSt base L s₁ xs none none none (fun ps ps' => ps = #[] ∧ ps' = #[]) (fun m extra => extra = [] ∧ J2 (xs.length : Nat) (sum1 xs) (sum2 xs) (sum3 xs) m)) ?a5 ?b5
    case a5 =>
      have hS := sum1_bd hdg.2.2
      have hP := (amgm hdg).1
      have hA := (powA hdg).1
      have hB := (powA hdg).2
      have hz1 := (amgm hdg).2.1
      have hz2 := (amgm hdg).2.2.1
      k_steps
      rename News _ _ _ _ => Nz
      rename Fr _ _ _ _ => Fz
      exact ⟨rfl, _, _, _, D, ys, c, o1, o2, o3, o4, #[], #[], [], rfl, Fz, cb_drop Nz (newsC (by k_mem) (newsC (by k_mem) (newsC (by k_mem) (newsC (by k_mem) (newsC (by k_mem) (newsC (by k_mem) (newsC (by k_mem) newsN))))))), hI1, e4, e3, e2, e1, hne, ⟨rfl, rfl⟩, rfl, t1, t2, t3, t4, t5, hm1, hm2, hm3, hm4, hm5⟩
    case b5 =>
    clear F1 N1 e1 e2 e3 e4 hI1 hne hm1 hm2 hm3 hm4 hm5 hm6 t1 t2 t3 t4 t5 D ys c o1 o2 o3 o4 h tk m
    rintro s' ⟨h, tk, m, D, ys, c, o1, o2, o3, o4, ps, ps', extra, rfl, F1, N1, hI1, e4, e3, e2, e1, hne, ⟨rfl, rfl⟩, rfl, t1, t2, t3, t4, t5, hm1, hm2, hm3, hm4, hm5⟩
    refine stmt_cut (fun s' => ∃ tq tr, LawSt base L s₁ xs (some (.int ((sum1 xs).fdiv ((xs.length : Nat) : Int)) tq)) (some (.int ((sum1 xs).fmod ((xs.length : Nat) : Int)) tr)) none (fun ps ps' => True) (fun m extra => extra = [] ∧ J2 (xs.length : Nat) (sum1 xs) (sum2 xs) (sum3 xs) m) s') ?a6 ?b6
    case a6 =>
      have hS := sum1_bd hdg.2.2
      have hS45 : sum1 xs ≤ 45 := by omega
      k_steps
      rename News _ _ _ _ => Nz
      rename Fr _ _ _ _ => Fz
      have nA := ne_of_data (a := L + 1 + 1 + 1) (o := o2) Nz (by k_mem) (List.Mem.head _) (by rw [e2]; intro hq; cases hq)
      have nB := ne_of_data (a := L + 1 + 1) (o := o3) Nz (by k_mem) (List.Mem.head _) (by rw [e3]; intro hq; cases hq)
      k_steps
      rename News _ _ _ _ => Nz
      rename Fr _ _ _ _ => Fz
      exact ⟨rfl, _, _, _, _, _, D, ys, c, o1, _, _, o4, _, _, [], rfl, Fz, cb_drop Nz (newsC (by k_mem) (newsC (by k_mem) (newsC (by k_mem) (newsC (by k_mem) (newsC (by k_mem) (newsC (by k_mem) (newsC (by k_mem) newsN))))))), hI1, e4, by assumption, by assumption, e1, hne, trivial, rfl, t1, t2, t3, t4, t5, hm1, hm2, hm3, hm4, hm5⟩
    case b6 =>
    clear F1 N1 e1 e2 e3 e4 hI1 hne hm1 hm2 hm3 hm4 hm5 t1 t2 t3 t4 t5 D ys c o1 o2 o3 o4 h tk m
    rintro s' ⟨tq, tr, h, tk, m, D, ys, c, o1, o2, o3, o4, ps, ps', extra, rfl, F1, N1, hI1, e4, e3, e2, e1, hne, -, rfl, t1, t2, t3, t4, t5, hm1, hm2, hm3, hm4, hm5⟩
    refine stmt_cut (LawSt base L s₁ xs (some (.int ((sum1 xs).fdiv ((xs.length : Nat) : Int)) tq)) (some (.int ((sum1 xs).fmod ((xs.length : Nat) : Int)) tr)) none (fun ps ps' => True) (J7 xs)) ?a7 ?b7
    case a7 =>
      k_steps
      rename News _ _ _ _ => Nz
      rename Fr _ _ _ _ => Fz
      exact ⟨rfl, _, _, _, D, _, c, o1, o2, o3, o4, ps, ps', _, rfl, Fz, cb_drop Nz (newsC (by k_mem) (newsC (by k_mem) (newsC (by k_mem) (newsC (by k_mem) (newsC (by k_mem) (newsC (by k_mem) (newsC (by k_mem) (newsC (List.Mem.head _) newsN)))))))), hI1, e4, e3, e2, e1, hne, trivial, ⟨_, _, _, rfl, by assumption, fr_eq⟩, t1, t2, t3, t4, t5, fr_ne (by decide) hm1, fr_ne (by decide) hm2, fr_ne (by decide) hm3, fr_ne (by decide) hm4, fr_ne (by decide) hm5⟩
    case b7 =>
    clear F1 N1 e1 e2 e3 e4 hI1 hne hm1 hm2 hm3 hm4 hm5 t1 t2 t3 t4 t5 D ys c o1 o2 o3 o4 ps ps' h tk m
    rintro s' ⟨h, tk, m, D, ys, c, o1, o2, o3, o4, ps, ps', extra, rfl, F1, N1, hI1, e4, e3, e2, e1, hne, -, ⟨E0, vs0, ce0, rfl, hIe, hme⟩, t1, t2, t3, t4, t5, hm1, hm2, hm3, hm4, hm5⟩
    refine stmt_cut (LawSt base L s₁ xs (some (.int ((sum1 xs).fdiv ((xs.length : Nat) : Int)) tq)) (some (.int ((sum1 xs).fmod ((xs.length : Nat) : Int)) tr)) none (fun ps ps' => True) (J7 xs)) ?a8 ?b8
    case a8 =>
      have hbe := evenF_bd hdg
      have hz1 := (amgm hdg).2.2.2.2
      have hr0 : 0 ≤ (sum1 xs).fmod ((xs.length : Nat) : Int) := fmod_lo _ (by omega)
      have hrn : (sum1 xs).fmod ((xs.length : Nat) : Int) < ((xs.length : Nat) : Int) := fmod_hi _ (by omega)
      have hz2 := (amgm hdg).2.2.2.1
      k_steps
      rename News _ _ _ _ => Nz
      rename Fr _ _ _ _ => Fz
      exact ⟨rfl, _, _, _, D, _, c, o1, o2, o3, o4, ps, ps', _, rfl, Fz, cb_drop Nz (newsC (by k_mem) (newsC (by k_mem) (newsC (by k_mem) (newsC (by k_mem) (newsC (by k_mem) (newsC (by k_mem) (newsC (by k_mem) (newsC (by k_mem) newsN)))))))), hI1, e4, e3, e2, e1, hne, trivial, ⟨E0, vs0, ce0, rfl, hIe, hme⟩, t1, t2, t3, t4, t5, hm1, hm2, hm3, hm4, hm5⟩
    case b8 =>
    clear hIe hme F1 N1 e1 e2 e3 e4 hI1 hne hm1 hm2 hm3 hm4 hm5 t1 t2 t3 t4 t5 D ys c o1 o2 o3 o4 ps ps' E0 vs0 ce0 h tk m
    rintro s' ⟨h, tk, m, D, ys, c, o1, o2, o3, o4, ps, ps', extra, rfl, F1, N1, hI1, e4, e3, e2, e1, hne, -, ⟨E0, vs0, ce0, rfl, hIe, hme⟩, t1, t2, t3, t4, t5, hm1, hm2, hm3, hm4, hm5⟩
    refine stmt_cut (LawSt base L s₁ xs (some (.int ((sum1 xs).fdiv ((xs.length : Nat) : Int)) tq)) (some (.int ((sum1 xs).fmod ((xs.length : Nat) : Int)) tr)) none (fun ps ps' => True) (J9 xs (fun _ => True))) ?a9 ?b9
    case a9 =>
      k_steps
      rename News _ _ _ _ => Nz
      rename Fr _ _ _ _ => Fz
      exact ⟨rfl, _, _, _, D, _, c, o1, o2, o3, o4, ps, ps', _, rfl, Fz, cb_drop Nz (newsC (by k_mem) (newsC (by k_mem) (newsC (by k_mem) (newsC (by k_mem) (newsC (by k_mem) (newsC (by k_mem) (newsC (by k_mem) (newsC (e := (E0, PySem.W.listOf vs0.toArray ce0)) (by k_mem) (newsC (List.Mem.head _) newsN))))))))), hI1, e4, e3, e2, e1, hne, trivial, ⟨E0, vs0, ce0, _, _, _, _, rfl, hIe, fr_ne (by decide) hme, by assumption, fr_eq, hereOk_of hdg (by assumption) (by assumption), trivial⟩, t1, t2, t3, t4, t5, fr_ne (by decide) hm1, fr_ne (by decide) hm2, fr_ne (by decide) hm3, fr_ne (by decide) hm4, fr_ne (by decide) hm5⟩
    case b9 =>
    clear hIe hme F1 N1 e1 e2 e3 e4 hI1 hne hm1 hm2 hm3 hm4 hm5 t1 t2 t3 t4 t5 D ys c o1 o2 o3 o4 ps ps' E0 vs0 ce0 h tk m
    rintro s' ⟨h, tk, m, D, ys, c, o1, o2, o3, o4, ps, ps', extra, rfl, F1, N1, hI1, e4, e3, e2, e1, hne, -, ⟨E0, vs0, ce0, H0, ws0, cw0, hs0, rfl, hIe, hme, hIw, hmh, hok, -⟩, t1, t2, t3, t4, t5, hm1, hm2, hm3, hm4, hm5⟩
    refine stmt_cut (LawSt base L s₁ xs (some (.int ((sum1 xs).fdiv ((xs.length : Nat) : Int)) tq)) (some (.int ((sum1 xs).fmod ((xs.length : Nat) : Int)) tr)) none (fun ps ps' => True) (J9 xs (fun hs => gapL hs < 2))) ?a10 ?b10
    case a10 =>
      have hOn : HoldOn := trivial
      k_steps
      rename IsRange _ _ _ _ _ _ _ _ => Rz
      rename News _ _ _ _ => Nz
      rename Fr _ _ _ _ => Fz
      unfold Held
      have hmeas0 : meas hs0 ≤ 0 := meas_start hok.2.2.2
      with_unfolding_all refine iterR (fun i m nx => ∃ H ws cw hs, nx = [(44, tabObj ps), (51, tabObj ps'), (L + 1 + 1 + 1 + 1, o1), (L + 1 + 1 + 1, o2), (L + 1 + 1, o3), (L + 1, o4), (D, PySem.W.listOf (List.toArray ys) c), (E0, PySem.W.listOf vs0.toArray ce0), (H, PySem.W.listOf (List.toArray ws) cw)] ∧ IntsAre ws hs ∧ m (Str.ofString "here") = some (.ref H) ∧ HereOk xs hs ∧ meas hs ≤ -2 * (i : Int) ∧ m (Str.ofString "even") = some (.ref E0) ∧ J2 (xs.length : Nat) (sum1 xs) (sum2 xs) (sum3 xs) m) 50 rfl Rz rfl rfl Fz Nz ⟨H0, ws0, cw0, hs0, rfl, hIw, hmh, hok, hmeas0, hme, t1, t2, t3, t4, t5, hm1, hm2, hm3, hm4, hm5⟩ ?_ ?_
      · clear Rz Nz Fz hmeas0 hok hIw hmh hme hm1 hm2 hm3 hm4 hm5 t1 t2 t3 t4 t5
        rintro i t m₁ nx h tk I oI hi50 ⟨H1, ws1, cw1, hs1, rfl, hIw, hmh, hok, hmeas, hme, t1, t2, t3, t4, t5, hm1, hm2, hm3, hm4, hm5⟩ hoff F1 N1
        have hnI := allNe_of hoff
        simp only [AllNe] at hnI
        clear hoff
        have hlen1 := hok.2.1
        by_cases hgap : decide (hs1.getD (-1 + (hs1.length : Int)).toNat 0 - hs1.getD (Int.toNat 0) 0 < 2) = true
        · k_steps
          rename News _ _ _ _ => Nz
          rename Fr _ _ _ _ => Fz
          exact ⟨rfl, _, _, _, D, _, c, o1, o2, o3, o4, ps, ps', _, rfl, Fz, cb_drop Nz (newsC (by k_mem) (newsC (by k_mem) (newsC (by k_mem) (newsC (by k_mem) (newsC (by k_mem) (newsC (by k_mem) (newsC (by k_mem) (newsC (e := (E0, PySem.W.listOf vs0.toArray ce0)) (by k_mem) (newsC (e := (H1, PySem.W.listOf ws1.toArray cw1)) (by k_mem) newsN))))))))), hI1, e4, e3, e2, e1, hne, trivial, ⟨E0, vs0, ce0, _, _, _, _, rfl, hIe, fr_ne (by decide) hme, hIw, fr_ne (by decide) hmh, hok, of_decide_eq_true hgap⟩, t1, t2, t3, t4, t5, fr_ne (by decide) hm1, fr_ne (by decide) hm2, fr_ne (by decide) hm3, fr_ne (by decide) hm4, fr_ne (by decide) hm5⟩
        · k_steps
          rename News _ _ _ _ => Nz
          rename Fr _ _ _ _ => Fz
          with_reducible rename IntsAre _ _ => iz
          rename List.Pairwise _ _ => oz
          rename List.Perm _ _ => pz
          have hturn := here_turn hdg hok hgap pz oz
          exact TEnd.intro Fz Nz (newsC (by k_mem) (newsC (by k_mem) (newsC (by k_mem) (newsC (by k_mem) (newsC (by k_mem) (newsC (by k_mem) (newsC (by k_mem) (newsC (e := (D, PySem.W.listOf (List.toArray ys) c)) (by k_mem) (newsC (e := (E0, PySem.W.listOf vs0.toArray ce0)) (by k_mem) (newsC (List.Mem.head _) newsN)))))))))) (of_allNe ⟨by omega, by omega, by omega, by omega, by omega, by omega, by omega, by omega, by omega, trivial⟩) ⟨_, _, _, _, rfl, iz, fr_eq, hturn.1, by have := hturn.2.1; omega, hme, t1, t2, t3, t4, t5, hm1, hm2, hm3, hm4, hm5⟩
      · rintro m₁ nx h tk ⟨H1, ws1, cw1, hs1, rfl, hIw, hmh, hok, hmeas, hme, t1, t2, t3, t4, t5, hm1, hm2, hm3, hm4, hm5⟩ F1 N1
        exact ⟨rfl, _, _, _, D, _, c, o1, o2, o3, o4, ps, ps', _, rfl, F1, N1, hI1, e4, e3, e2, e1, hne, trivial, ⟨E0, vs0, ce0, _, _, _, _, rfl, hIe, hme, hIw, hmh, hok, here_end hdg hok (by omega)⟩, t1, t2, t3, t4, t5, hm1, hm2, hm3, hm4, hm5⟩
    case b10 =>
    clear hIw hmh hok hIe hme F1 N1 e1 e2 e3 e4 hI1 hne hm1 hm2 hm3 hm4 hm5 t1 t2 t3 t4 t5 D ys c o1 o2 o3 o4 ps ps' E0 vs0 ce0 H0 ws0 cw0 hs0 h tk m
    rintro s' ⟨h, tk, m, D, ys, c, o1, o2, o3, o4, ps, ps', extra, rfl, F1, N1, hI1, e4, e3, e2, e1, hne, -, ⟨E0, vs0, ce0, H0, ws0, cw0, hs0, rfl, hIe, hme, hIw, hmh, hok, hgapL⟩, t1, t2, t3, t4, t5, hm1, hm2, hm3, hm4, hm5⟩
    refine stmt_cut (LawSt base L s₁ xs (some (.int ((sum1 xs).fdiv ((xs.length : Nat) : Int)) tq)) (some (.int ((sum1 xs).fmod ((xs.length : Nat) : Int)) tr)) none (fun ps ps' => True) (fun m extra => extra = [] ∧ J2 (xs.length : Nat) (sum1 xs) (sum2 xs) (sum3 xs) m)) ?a11 ?b11
    case a11 =>
      have hle : (evenF xs).length < 64 := by rw [evenF, evenG, List.length_map, rangeKs_length]; omega
      k_steps
      · rename News _ _ _ _ => Nz
        rename Fr _ _ _ _ => Fz
        exact ⟨rfl, _, _, _, D, _, c, o1, o2, o3, o4, ps, ps', [], rfl, Fz, cb_drop Nz (newsC (by k_mem) (newsC (by k_mem) (newsC (by k_mem) (newsC (by k_mem) (newsC (by k_mem) (newsC (by k_mem) (newsC (by k_mem) newsN))))))), hI1, e4, e3, e2, e1, hne, trivial, rfl, t1, t2, t3, t4, t5, hm1, hm2, hm3, hm4, hm5⟩
      · exact absurd (here_even hdg hok hgapL (by assumption) (by assumption)) (by assumption)
    case b11 =>
    clear hgapL hIw hmh hok hIe hme F1 N1 e1 e2 e3 e4 hI1 hne hm1 hm2 hm3 hm4 hm5 t1 t2 t3 t4 t5 D ys c o1 o2 o3 o4 ps ps' E0 vs0 ce0 H0 ws0 cw0 hs0 h tk m
    rintro s' ⟨h, tk, m, D, ys, c, o1, o2, o3, o4, ps, ps', extra, rfl, F1, N1, hI1, e4, e3, e2, e1, hne, -, rfl, t1, t2, t3, t4, t5, hm1, hm2, hm3, hm4, hm5⟩
    refine stmt_cut (LawSt base L s₁ xs (some (.int ((sum1 xs).fdiv ((xs.length : Nat) : Int)) tq)) (some (.int ((sum1 xs).fmod ((xs.length : Nat) : Int)) tr)) none (fun ps ps' => True) (J12 xs)) ?a12 ?b12
    case a12 =>
      k_steps
      rename News _ _ _ _ => Nz
      rename Fr _ _ _ _ => Fz
      exact ⟨rfl, _, _, _, D, _, c, o1, o2, o3, o4, ps, ps', _, rfl, Fz, cb_drop Nz (newsC (by k_mem) (newsC (by k_mem) (newsC (by k_mem) (newsC (by k_mem) (newsC (by k_mem) (newsC (by k_mem) (newsC (by k_mem) (newsC (List.Mem.head _) newsN)))))))), hI1, e4, e3, e2, e1, hne, trivial, ⟨_, _, _, rfl, by assumption, fr_eq⟩, t1, t2, t3, t4, t5, hm1, hm2, hm3, hm4, hm5⟩
    case b12 =>
    clear  F1 N1 e1 e2 e3 e4 hI1 hne hm1 hm2 hm3 hm4 hm5 t1 t2 t3 t4 t5 D ys c o1 o2 o3 o4 ps ps'  h tk m
    rintro s' ⟨h, tk, m, D, ys, c, o1, o2, o3, o4, ps, ps', extra, rfl, F1, N1, hI1, e4, e3, e2, e1, hne, -, ⟨C0, vs0, cc0, rfl, hIc, hmc⟩, t1, t2, t3, t4, t5, hm1, hm2, hm3, hm4, hm5⟩
    refine stmt_cut (LawSt base L s₁ xs (some (.int ((sum1 xs).fdiv ((xs.length : Nat) : Int)) tq)) (some (.int ((sum1 xs).fmod ((xs.length : Nat) : Int)) tr)) none (fun ps ps' => True) (fun m extra => extra = [] ∧ J2 (xs.length : Nat) (sum1 xs) (sum2 xs) (sum3 xs) m)) ?a13 ?b13
    case a13 =>
      have hOn : HoldOn := trivial
      k_steps
      rename IsRange _ _ _ _ _ _ _ _ => Rz
      rename News _ _ _ _ => Nz
      rename Fr _ _ _ _ => Fz
      unfold Held
      with_unfolding_all refine iterR (fun i m nx => nx = [(44, tabObj ps), (51, tabObj ps'), (L + 1 + 1 + 1 + 1, o1), (L + 1 + 1 + 1, o2), (L + 1 + 1, o3), (L + 1, o4), (D, PySem.W.listOf (List.toArray ys) c), (C0, PySem.W.listOf vs0.toArray cc0)] ∧ m (Str.ofString "chosen") = some (.ref C0) ∧ J2 (xs.length : Nat) (sum1 xs) (sum2 xs) (sum3 xs) m) _ rfl Rz ?hsm rfl Fz Nz ⟨rfl, hmc, t1, t2, t3, t4, t5, hm1, hm2, hm3, hm4, hm5⟩ ?_ ?_
      case hsm => exact range_small (by omega) (by omega)
      · clear Rz Nz Fz hmc hm1 hm2 hm3 hm4 hm5 t1 t2 t3 t4 t5
        rintro i t m₁ nx h tk I oI hin ⟨rfl, hmc, t1, t2, t3, t4, t5, hm1, hm2, hm3, hm4, hm5⟩ hoff F1 N1
        have hnI := allNe_of hoff
        have hnI2 := hnI
        simp only [AllNe] at hnI
        clear hoff
        have hlen1 := chosenF_len xs
        have hin2 : (1 : Int) + (i : Int) < xs.length := by omega
        have hc : ∀ k, 0 ≤ (chosenF xs).getD k 0 ∧ (chosenF xs).getD k 0 ≤ 100000 := chosenF_bd hdg
        have hc1 := hc (1 + (i : Int)).toNat
        have hc0 := hc (1 + (i : Int) - 1).toNat
        have hc2 := hc (1 + (i : Int) + 1).toNat
        have hw1 := waysF_bound (many := ((xs.length : Nat) : Int)) (i := (1 + (i : Int)).toNat) (by omega) (by omega) (by omega)
        have hw0 := waysF_bound (many := ((xs.length : Nat) : Int)) (i := (1 + (i : Int) - 1).toNat) (by omega) (by omega) (by omega)
        have hw2 := waysF_bound (many := ((xs.length : Nat) : Int)) (i := (1 + (i : Int) + 1).toNat) (by omega) (by omega) (by omega)
        have hw3 : 0 ≤ waysF ((xs.length : Nat) : Int) (1 + (i : Int)).toNat ^ Int.toNat 2 ∧ waysF ((xs.length : Nat) : Int) (1 + (i : Int)).toNat ^ Int.toNat 2 ≤ 1000000 := sq_bd2 hw1
        have hz : ¬ decide ((chosenF xs).getD (1 + (i : Int)).toNat 0 ^ Int.toNat 2 * waysF ((xs.length : Nat) : Int) (1 + (i : Int) - 1).toNat * waysF ((xs.length : Nat) : Int) (1 + (i : Int) + 1).toNat < (chosenF xs).getD (1 + (i : Int) - 1).toNat 0 * (chosenF xs).getD (1 + (i : Int) + 1).toNat 0 * waysF ((xs.length : Nat) : Int) (1 + (i : Int)).toNat ^ Int.toNat 2) = true := newton hdg i hin2
        k_steps
        rename News _ _ _ _ => Nz
        rename Fr _ _ _ _ => Fz
        exact TEnd.intro Fz Nz (newsC (by k_mem) (newsC (by k_mem) (newsC (by k_mem) (newsC (by k_mem) (newsC (by k_mem) (newsC (by k_mem) (newsC (by k_mem) (newsC (e := (D, PySem.W.listOf (List.toArray ys) c)) (by k_mem) (newsC (e := (C0, PySem.W.listOf vs0.toArray cc0)) (by k_mem) newsN))))))))) (of_allNe hnI2) ⟨rfl, hmc, t1, t2, t3, t4, t5, hm1, hm2, hm3, hm4, hm5⟩
      · rintro m₁ nx h tk ⟨rfl, hmc, t1, t2, t3, t4, t5, hm1, hm2, hm3, hm4, hm5⟩ F1 N1
        exact ⟨rfl, _, _, _, D, _, c, o1, o2, o3, o4, ps, ps', [], rfl, F1, cb_drop N1 (newsC (by k_mem) (newsC (by k_mem) (newsC (by k_mem) (newsC (by k_mem) (newsC (by k_mem) (newsC (by k_mem) (newsC (by k_mem) newsN))))))), hI1, e4, e3, e2, e1, hne, trivial, rfl, t1, t2, t3, t4, t5, hm1, hm2, hm3, hm4, hm5⟩
    case b13 =>
    clear hIc hmc F1 N1 e1 e2 e3 e4 hI1 hne hm1 hm2 hm3 hm4 hm5 t1 t2 t3 t4 t5 D ys c o1 o2 o3 o4 ps ps' C0 vs0 cc0 h tk m
    rintro s' ⟨h, tk, m, D, ys, c, o1, o2, o3, o4, ps, ps', extra, rfl, F1, N1, hI1, e4, e3, e2, e1, hne, -, rfl, t1, t2, t3, t4, t5, hm1, hm2, hm3, hm4, hm5⟩
    refine stmt_cut (LawSt base L s₁ xs (some (.int ((sum1 xs).fdiv ((xs.length : Nat) : Int)) tq)) (some (.int ((sum1 xs).fmod ((xs.length : Nat) : Int)) tr)) none (fun ps ps' => True) (fun m extra => extra = [] ∧ J2 (xs.length : Nat) (sum1 xs) (sum2 xs) (sum3 xs) m)) ?a14 ?b14
    case a14 =>
      have hS1 := sum1_bd hdg.2.2
      have hS2 := sum2_bd hdg.2.2
      have hS3 := sum3_bd hdg.2.2
      have hz1 := (power_means hdg).1
      have hz2 := (power_means hdg).2.1
      have hz3 := (power_means hdg).2.2
      k_steps
      rename News _ _ _ _ => Nz
      rename Fr _ _ _ _ => Fz
      exact ⟨rfl, _, _, _, D, _, c, o1, o2, o3, o4, ps, ps', [], rfl, Fz, cb_drop Nz (newsC (by k_mem) (newsC (by k_mem) (newsC (by k_mem) (newsC (by k_mem) (newsC (by k_mem) (newsC (by k_mem) (newsC (by k_mem) newsN))))))), hI1, e4, e3, e2, e1, hne, trivial, rfl, t1, t2, t3, t4, t5, hm1, hm2, hm3, hm4, hm5⟩
    case b14 =>
    clear  F1 N1 e1 e2 e3 e4 hI1 hne hm1 hm2 hm3 hm4 hm5 t1 t2 t3 t4 t5 D ys c o1 o2 o3 o4 ps ps'  h tk m
    rintro s' ⟨h, tk, m, D, ys, c, o1, o2, o3, o4, ps, ps', extra, rfl, F1, N1, hI1, e4, e3, e2, e1, hne, -, rfl, t1, t2, t3, t4, t5, hm1, hm2, hm3, hm4, hm5⟩
    refine stmt_cut (fun s' => ∃ O : Addr, LawSt base L s₁ xs (some (.int ((sum1 xs).fdiv ((xs.length : Nat) : Int)) tq)) (some (.int ((sum1 xs).fmod ((xs.length : Nat) : Int)) tr)) (some (.ref O)) (fun ps ps' => True) (fun m extra => (∃ (vs : List Value) (co : Nat) (zs : List Int), extra = [(O, PySem.W.listOf vs.toArray co)] ∧ IntsAre vs zs ∧ zs.length = xs.length ∧ (∀ z ∈ zs, 0 ≤ z ∧ z ≤ 6)) ∧ J2 (xs.length : Nat) (sum1 xs) (sum2 xs) (sum3 xs) m) s') ?a15 ?b15
    case a15 =>
      have hylen := IntsAre.length hI1
      refine wpAny_Assign_Name ?_ ?hs15
      case hs15 => rfl
      k_dflt (refine' comp_enum ?q1 ?q2 ?q3 ?q4 ?q5 ?q6 ?q7 ?_ ?q8)
      case q1 => rfl
      case q2 => decide
      case q3 => rfl
      case q4 => decide
      case q5 => rfl
      case q6 => rfl
      case q7 => decide
      case q8 => intro _; rfl
      k_steps
      unfold Held
      refine call_enumerate_list (isL N1 (by k_mem)) ?_
      intro h' hE hI hsz hk
      replace hsz : h'.objs.size = h.objs.size + 2 := hsz
      have NE : News base L h' _ := N1.grown hk
      have hDl : D < h.objs.size := Heap.lt_size (N1 (D, PySem.W.listOf (List.toArray ys) c) (by k_mem)).1
      have hLl : L < h.objs.size := F1.ns.lt
      have offW : ∀ b, b < h.objs.size → b ∉ [h.objs.size + 1, h.objs.size] := fun b hb hm => by
        simp only [List.mem_cons, List.not_mem_nil, or_false] at hm
        omega
      refine .mk _ _ D ys (fun i y => ∃ v t, xs[i]? = some v ∧ y = .int (Int.fmod (v * 3 + i) 7) t) _ rfl ?r1 (Nat.succ_ne_self _) (Nat.ne_of_lt (Nat.lt_succ_of_lt hDl)) (Nat.ne_of_lt hDl) ⟨⟨_, hE⟩, hI, isL NE (by k_mem)⟩ ?r2 ?r3
      case r1 => exact Nat.le_trans (show ys.length ≤ 5 by omega) (by decide)
      case r2 =>
        intro C i v t mC h2 tk2 E' hv hns ha hb
        obtain ⟨n, t', rfl, hn⟩ := IntsAre.at hI1 i v hv
        have hn9 := hdg.2.2 n (List.mem_of_getElem? hn)
        clear F1 N1 NE hE hI hk
        refine wpAny_BinOp (wpAny_BinOp (wpAny_BinOp (ldVarK hns hb (wpAny_Constant_int (mul_int (ldVarK hns ha (add_int (wpAny_Constant_int (mod_int (by decide) ?_)))) ?_)))))
        · exact ⟨⟨n, _, hn, rfl⟩, _, rfl⟩
        · exact IntMulOk.of_left (intBits_le_64 (by omega) (by omega))
      case r3 =>
        intro D3 h3 tk3 zs stay made3 le3 hl3 hP3
        have lt3 : h.objs.size < D3 := by
          have : h'.objs.size ≤ D3 := le3
          omega
        have F3 : Fr base L h3 m := stay.fr (F1.keeps hk) (offW L hLl) (new_of F1 (Nat.le_succ _)) (new_of F1 (Nat.le_refl _))
        have off3 := fun p hp => Nat.ne_of_lt (Nat.lt_trans (Heap.lt_size (N1 p hp).1) lt3)
        have N4 := led_cons (o := PySem.W.listOf zs.toArray zs.length) (stay.news NE fun p hp => offW p.1 (Heap.lt_size (N1 p hp).1)) made3 (Nat.ne_of_gt (Nat.lt_trans hLl lt3)) (new_of F1 (Nat.le_of_lt lt3))
        have nD := allNe_of off3
        simp only [AllNe] at nD
        have hIz : IntsAre zs (otherF xs) := other_ints (hl3.trans hylen) hP3
        clear F1 N1 NE hE hI hk off3 hP3 stay made3
        dsimp only
        k_steps
        rename News _ _ _ _ => Nz
        rename Fr _ _ _ _ => Fz
        exact ⟨rfl, D3, _, _, _, D, _, c, _, o2, o3, o4, ps, ps', _, rfl, Fz, cb_drop Nz (newsC (by k_mem) (newsC (by k_mem) (newsC (by k_mem) (newsC (by k_mem) (newsC (by k_mem) (newsC (by k_mem) (newsC (by k_mem) (newsC (e := (D3, PySem.W.listOf zs.toArray zs.length)) (by k_mem) newsN)))))))), hI1, e4, e3, e2, by assumption, hne, trivial, ⟨zs, zs.length, _, rfl, hIz, otherF_len xs, otherF_bd xs⟩, t1, t2, t3, t4, t5, hm1, hm2, hm3, hm4, hm5⟩
    case b15 =>
    clear  F1 N1 e1 e2 e3 e4 hI1 hne hm1 hm2 hm3 hm4 hm5 t1 t2 t3 t4 t5 D ys c o1 o2 o3 o4 ps ps'  h tk m
    rintro s' ⟨O0, h, tk, m, D, ys, c, o1, o2, o3, o4, ps, ps', extra, rfl, F1, N1, hI1, e4, e3, e2, e1, hne, -, ⟨vs0, co0, zs, rfl, hIz, hzl, hzb⟩, t1, t2, t3, t4, t5, hm1, hm2, hm3, hm4, hm5⟩
    refine stmt_cut (LawSt base L s₁ xs (some (.int ((sum1 xs).fdiv ((xs.length : Nat) : Int)) tq)) (some (.int ((sum1 xs).fmod ((xs.length : Nat) : Int)) tr)) (some (.ref O0)) (fun ps ps' => True) (fun m extra => (∃ (vs : List Value) (co : Nat) (tb : Tok), extra = [(O0, PySem.W.listOf vs.toArray co)] ∧ IntsAre vs zs ∧ m (Str.ofString "both") = some (.int (dotL xs zs) tb)) ∧ J2 (xs.length : Nat) (sum1 xs) (sum2 xs) (sum3 xs) m)) ?a16 ?b16
    case a16 =>
      have hdx := hdg.2.2
      k_steps
      rename News _ _ _ _ => Nz
      rename Fr _ _ _ _ => Fz
      exact ⟨rfl, _, _, _, D, _, c, o1, o2, o3, o4, ps, ps', _, rfl, Fz, cb_drop Nz (newsC (by k_mem) (newsC (by k_mem) (newsC (by k_mem) (newsC (by k_mem) (newsC (by k_mem) (newsC (by k_mem) (newsC (by k_mem) (newsC (e := (O0, PySem.W.listOf vs0.toArray co0)) (by k_mem) newsN)))))))), hI1, e4, e3, e2, e1, hne, trivial, ⟨vs0, co0, _, rfl, hIz, fr_eq⟩, t1, t2, t3, t4, t5, fr_ne (by decide) hm1, fr_ne (by decide) hm2, fr_ne (by decide) hm3, fr_ne (by decide) hm4, fr_ne (by decide) hm5⟩
    case b16 =>
    clear hIz F1 N1 e1 e2 e3 e4 hI1 hne hm1 hm2 hm3 hm4 hm5 t1 t2 t3 t4 t5 D ys c o1 o2 o3 o4 ps ps' vs0 co0 h tk m
    rintro s' ⟨h, tk, m, D, ys, c, o1, o2, o3, o4, ps, ps', extra, rfl, F1, N1, hI1, e4, e3, e2, e1, hne, -, ⟨vs0, co0, tb, rfl, hIz, hmb⟩, t1, t2, t3, t4, t5, hm1, hm2, hm3, hm4, hm5⟩
    have hd0 := dot_bd hdg hzl hzb
    have hq1 := sum2_bd hdg.2.2
    have hzb2 : ∀ z ∈ zs, -100 ≤ z ∧ z ≤ 100 := fun z hz => by have := hzb z hz; omega
    k_steps
    rename News _ _ _ _ => Nz
    rename Fr _ _ _ _ => Fz
    rw [decide_eq_true (cauchy hdg hzl)]
    exact hQ _ _ _ _ _ _ Fz (cb_drop Nz (newsC (by k_mem) (newsC (by k_mem) newsN))))
end Mine
theorem PySem.Challenge.cw_hn0004_01_holds : PySem.Challenge.rw_hn0004_01.Holds := by
  exact Mine.whole
