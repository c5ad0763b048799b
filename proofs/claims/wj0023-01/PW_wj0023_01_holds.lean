import PyProof.Rows.All
import Wide.All
import OpenK.AllK
import Wide.FinOn
import PySem.Challenge.RW_wj0023_01
open PySem PySem.W PyProof.Rows
set_option Elab.async false
set_option linter.unusedVariables false
set_option linter.unusedSimpArgs false
namespace Mine
section
set_option maxRecDepth 100000 in
set_option maxHeartbeats 8000000 in
open_top hd for PySem.Challenge.rw_wj0023_01
end
/-- the prime, by its bounds alone -/
theorem prime_bnd {p : Int} (h : p = 5 ∨ p = 7 ∨ p = 11) : 5 ≤ p ∧ p ≤ 11 := by
  rcases h with rfl | rfl | rfl <;> decide
/-- the end of a walk, under a name of its own while the walk goes on -/
theorem named {α : Type} {M : Model} {A : Around} {t : Sem α} {Q : α → Shared → Prop} {E : Value → Shared → Prop} {s : Shared} (h : ∀ Q', Q' = Q → wpAny M A t Q' E s) : wpAny M A t Q E s := h Q rfl
local macro_rules | `(tactic| omega) => `(tactic| first
  | omega (splitDisjunctions := false)
  | ((with_reducible show _ ≠ _); (repeat ((with_reducible rename _ ∧ _ => hq9); have hq7 := hq9.1; have hq8 := hq9.2; clear hq9)); first | with_reducible assumption | (with_reducible refine Ne.symm ?_; with_reducible assumption) | (refine Nat.ne_of_lt ?_; omega (splitDisjunctions := false)) | (refine Nat.ne_of_gt ?_; omega (splitDisjunctions := false)))
  | ((repeat ((with_reducible rename _ ≠ _ => hq9); clear hq9)); (repeat ((with_reducible rename _ ≠ _ ∧ _ => hq9); clear hq9)); (repeat ((with_reducible rename (_ ≠ _ ∧ _) ∧ _ => hq9); clear hq9));
      first | ((with_reducible rename (_ = (5 : Int) ∨ _ = (7 : Int) ∨ _ = (11 : Int)) => hq9); replace hq9 := Mine.prime_bnd hq9; omega (splitDisjunctions := true)) | omega (splitDisjunctions := true))
  | omega (splitDisjunctions := true))
section
section
variable {prog : Program} {w : World} {A : Around} {E : Value → Shared → Prop} {s : Shared} {h₀ : Heap} {L : Addr} {m : Str → Option Value} {news : List (Addr × Obj)}
/-- enumerate over a list of the ledger, which leaves the ledger -/
theorem enum_led {α : Type} {K : ItemKind α} {as : List α} {l : Addr} {vs : List Value} {n : Nat} {Q : Value → Shared → Prop} (hh : A.handled = none) (hi : AreOf K vs as)
    (F : Fr h₀ L s.heap m) (N : News h₀ L s.heap ((l, listOf vs.toArray n) :: news)) (hne : ∀ q ∈ news, q.1 ≠ l)
    (h : ∀ h' e, Fr h₀ L h' m → News h₀ L h' news → PairSrcL prog w A E h₀ L K as (.ref e) { s with heap := h' } m news → Q (.ref e) { s with heap := h' }) :
    wpAny (model prog w) A (call (.type "enumerate") [.ref l]) Q E s := by
  have hd := N _ List.mem_cons_self
  have hls : s.heap.IsList l vs.toArray := ⟨_, hd.1, rfl, n, rfl⟩
  have hll : l < s.heap.objs.size := Heap.lt_size hd.1
  have hLs : L < s.heap.objs.size := F.ns.lt
  have hab : h₀.objs.size ≤ L := F.above
  have fresh : ∀ b, s.heap.objs.size ≤ b → h₀.get? b = none := fun b hb => Heap.get?_none_of_le (Nat.le_trans hab (Nat.le_trans (Nat.le_of_lt hLs) hb))
  refine call_enumerate_list hls fun h' he hit hsz hk => ?_
  have F' : Fr h₀ L h' m := ⟨F.ns.keeps hk, fun b o e => hk b o (F.keep b o e), F.above⟩
  have N' : News h₀ L h' news := fun p hp => ⟨hk _ _ (N p (List.mem_cons_of_mem _ hp)).1, (N p (List.mem_cons_of_mem _ hp)).2⟩
  refine h h' _ F' N' fun env hL => ?_
  subst hL
  refine enumSrc (Draws.list (A := A.in1) hh s.heap.objs.size l (Nat.ne_of_lt hll) vs.toArray) he ⟨hit, hls.at fun o e => hk l o e⟩ (Nat.succ_ne_self _) ?_ (by simp) ?_
    (fresh _ (Nat.le_succ _)) (fresh _ (Nat.le_refl _)) ?_ (by simp [hi.length]) (fun i x hx => hi.get i x (by simpa using hx)) F' N'
  · intro hm
    rcases List.mem_cons.mp hm with e | hm
    · exact Nat.succ_ne_self _ e
    · exact Nat.ne_of_gt (Nat.lt_succ_of_lt hll) (List.mem_singleton.mp hm)
  · intro hm
    rcases List.mem_cons.mp hm with e | hm
    · exact Nat.ne_of_lt (Nat.lt_succ_of_lt hLs) e
    · rcases List.mem_cons.mp hm with e | hm
      · exact Nat.ne_of_lt hLs e
      · exact hd.2.1 (List.mem_singleton.mp hm).symm
  · intro b hb q hq e
    have hq1 : q.1 < s.heap.objs.size := Heap.lt_size (N q (List.mem_cons_of_mem _ hq)).1
    rcases List.mem_cons.mp hb with e1 | hb
    · exact Nat.ne_of_gt (Nat.lt_succ_of_lt hq1) (e1.symm.trans e)
    · rcases List.mem_cons.mp hb with e1 | hb
      · exact Nat.ne_of_gt hq1 (e1.symm.trans e)
      · exact hne q hq (e.symm.trans (List.mem_singleton.mp hb))
/-- a loop over pairs by an invariant over the names and the ledger -/
theorem pair_inv {α : Type} {K : ItemKind α} {as : List α} {e : Addr} (S : PairSrcL prog w A E h₀ L K as (.ref e) s m news) {env : Env} (hL : env.locals = L) {xi xc : Str} {body : List Stmt} {Q : Flow → Shared → Prop}
    (J : Nat → (Str → Option Value) → List (Addr × Obj) → Prop) (h0 : J 0 m news)
    (turn : ∀ (i : Nat) a t v m₁ nx h tk own, as[i]? = some a → K.is a v → J i m₁ nx → nx.map (·.1) = news.map (·.1) → OwnOff own (news.map (·.1)) →
      Fr h₀ L h (fun y => if y = xc then some v else if y = xi then some (.int i t) else m₁ y) → News h₀ L h (nx ++ own) →
      wpAny (model prog w) A (execs body env) (InvPostN h₀ L (J (i + 1)) own (news.map (·.1)) { s with heap := h, toks := tk } Q) E { s with heap := h, toks := tk })
    (done : ∀ h' tk m' nx, Fr h₀ L h' m' → News h₀ L h' nx → nx.map (·.1) = news.map (·.1) → J as.length m' nx → Q .next { s with heap := h', toks := tk }) :
    wpAny (model prog w) A (pyIter (.ref e)) (fun it s₂ => PairAt3 prog w A h₀ env xi xc body Q E it s₂) E s := by
  subst hL
  refine (S.at env rfl) xi xc body Q J h0 ?_ done
  rintro i a t v m₁ nx s₁ own ⟨h, tk, rfl⟩ ha hv hJ hadr hown F N
  have hoff : OwnOff own (news.map (·.1)) := fun p hp b hb e => by
    obtain ⟨q, hq, rfl⟩ := List.mem_map.mp hb
    exact hown p hp q hq e
  have N' : News h₀ env.locals h (nx ++ own) := fun p hp => N p ((List.mem_append.mp hp).elim (fun h => List.mem_append.mpr (.inr h)) fun h => List.mem_append.mpr (.inl h))
  refine wpAny_mono (turn i a t v m₁ nx h tk own ha hv hJ hadr hoff F N') (fun f s₂ p => ?_) fun _ _ e => e
  have fin : InvEndN h₀ env.locals (J (i + 1)) own (news.map (·.1)) { s with heap := h, toks := tk } s₂ → LoopStep2 h₀ env.locals own nx (J (i + 1)) { s with heap := h, toks := tk } .next s₂ := by
    rintro ⟨h', tk', m', news', nx', e, F', N', hn, ho, ha', hm⟩
    exact ⟨rfl, h', tk', m', nx', e, F', fun p hp => N' p ((List.mem_append.mp hp).elim (ho p) (hn p)), ha'.trans hadr.symm, hm⟩
  cases f with
  | ret v => exact p
  | brk => exact p
  | next => exact fin p
  | cont => exact fin p
/-- a name's value written into the frame's map -/
theorem pin {x : Str} {v : Value} {h : Heap} (F : Fr h₀ L h m) (e : m x = some v) : Fr h₀ L h (fun y => if y = x then some v else m y) := by
  have e2 : (fun y => if y = x then some v else m y) = m := by
    funext y
    split
    · rename_i h; rw [h, e]
    · rfl
  rw [e2]; exact F
theorem news_swap {h : Heap} {own nx : List (Addr × Obj)} (N : News h₀ L h (nx ++ own)) : News h₀ L h (own ++ nx) :=
  fun p hp => N p ((List.mem_append.mp hp).elim (fun h => List.mem_append.mpr (.inr h)) fun h => List.mem_append.mpr (.inl h))
theorem news_sub {h : Heap} {nx nx' : List (Addr × Obj)} (N : News h₀ L h nx) (hs : ∀ p ∈ nx', p ∈ nx) : News h₀ L h nx' := fun p hp => N p (hs p hp)
theorem inv_end {J : (Str → Option Value) → List (Addr × Obj) → Prop} {own : List (Addr × Obj)} {adr : List Addr} {s₁ : Shared} {h' : Heap} {tk : Nat} {m' : Str → Option Value} {nx : List (Addr × Obj)}
    (F : Fr h₀ L h' m') (N : News h₀ L h' (nx ++ own)) (ha : nx.map (·.1) = adr) (hj : J m' nx) : InvEndN h₀ L J own adr s₁ { s₁ with heap := h', toks := tk } :=
  ⟨h', tk, m', nx ++ own, nx, rfl, F, N, fun _ hp => List.mem_append_left _ hp, fun _ hp => List.mem_append_right _ hp, ha, hj⟩
theorem getD_of_all {P : Int → Prop} {cs : List Int} {k : Nat} (h : ∀ c ∈ cs, P c) (hk : k < cs.length) : P (cs.getD k 0) := by
  rw [List.getD_eq_getElem?_getD, List.getElem?_eq_getElem hk, Option.getD_some]
  exact h _ (List.getElem_mem hk)
theorem keep_pin {x z : Str} {v : Value} (h : m x = some v) : (if z = x then some v else m z) = m z := by
  split
  · rename_i e; rw [e, h]
  · rfl
theorem news_skip3 {h : Heap} {p q r u : Addr × Obj} {nx : List (Addr × Obj)} (N : News h₀ L h (p :: q :: r :: u :: nx)) : News h₀ L h (p :: nx) :=
  fun v hv => N v ((List.mem_cons.mp hv).elim (fun e => e ▸ .head _) fun h => .tail _ (.tail _ (.tail _ (.tail _ h))))
theorem news_skip3rd {h : Heap} {p q r : Addr × Obj} {nx : List (Addr × Obj)} (N : News h₀ L h (p :: q :: r :: nx)) : News h₀ L h (p :: q :: nx) :=
  fun v hv => N v ((List.mem_cons.mp hv).elim (fun e => e ▸ .head _) fun h => .tail _ ((List.mem_cons.mp h).elim (fun e => e ▸ .head _) fun h => .tail _ (.tail _ h)))
theorem news_drop2 {h : Heap} {p q : Addr × Obj} {nx : List (Addr × Obj)} (N : News h₀ L h (p :: q :: nx)) : News h₀ L h (p :: nx) :=
  fun v hv => N v ((List.mem_cons.mp hv).elim (fun e => e ▸ .head _) fun h => .tail _ (.tail _ h))
theorem news_skip2 {h : Heap} {p q r : Addr × Obj} {nx : List (Addr × Obj)} (N : News h₀ L h (p :: q :: r :: nx)) : News h₀ L h (p :: nx) :=
  fun u hu => N u ((List.mem_cons.mp hu).elim (fun e => e ▸ .head _) fun h => .tail _ (.tail _ (.tail _ h)))
theorem allLt_lt {d : Nat} {l : List (Addr × Obj)} (h : AllLt d l) : ∀ q ∈ l, (q.1 : Nat) < d := by
  induction l with
  | nil => intro q hq; cases hq
  | cons p r ih =>
    intro q hq
    rcases List.mem_cons.mp hq with rfl | hq
    · exact h.1
    · exact ih h.2 q hq
theorem allLt_up {d e : Nat} {l : List (Addr × Obj)} (h : AllLt d l) (hd : d ≤ e) : AllLt e l := allLt_of fun q hq => Nat.lt_of_lt_of_le (allLt_lt h q hq) hd
theorem allLt_ne {d : Nat} {l : List (Addr × Obj)} (h : AllLt d l) : ∀ q ∈ l, q.1 ≠ d := by
  induction l with
  | nil => intro q hq; cases hq
  | cons p r ih =>
    intro q hq
    rcases List.mem_cons.mp hq with rfl | hq
    · exact Nat.ne_of_lt h.1
    · exact ih h.2 q hq
/-- a place where the walk is to stop -/
def Stop (P : Prop) : Prop := P
theorem Stop.go {P : Prop} (h : P) : Stop P := h
theorem for_stop {Q : Flow → Shared → Prop} {x : Str} {px pos : Pos} {iter : Expr} {body : List Stmt} {env : Env} (F : Fr h₀ env.locals s.heap m) (hx : env.kindOf x = some .local)
    (hp : (env.scope.kind == .class || (env.scope.kind == .module && env.locals != env.globals)) = false)
    (h : wpAny (model prog w) A (eval iter env) (fun xv s₁ => Stop (wpAny (model prog w) A (pyIter xv) (fun it s₂ => LoopAtV prog w A h₀ env x body Q E it s₂) E s₁)) E s)
    (hs : ∀ x, foldedSetIterable iter env x = pure x := by intro _; rfl)
    (hE : PassesOwn (model prog w) A env E := by passes_own) :
    wpAny (model prog w) A (exec (.For (.Name x px) iter body [] pos) env) Q E s := For_invVF F hx hp h hs hE
/-- a loop over a range by ones, by an invariant over the names and the ledger -/
theorem range_inv {env : Env} {x : Str} {body : List Stmt} {Q : Flow → Shared → Prop} {r : Addr} {a₀ b₀ : Int} {t₀ u₀ v₀ : Tok} {n : Nat} {m₀ : Str → Option Value} (J : Nat → (Str → Option Value) → List (Addr × Obj) → Prop)
    (hh : A.handled = none) (hr : IsRange s.heap r a₀ b₀ 1 t₀ u₀ v₀) (hsmall : Builtin.Range.small a₀ b₀ 1 = true) (hn : Builtin.Range.rangeSize a₀ b₀ 1 = (n : Int)) (F : Fr h₀ env.locals s.heap m₀) (N : News h₀ env.locals s.heap news) (hj : J 0 m₀ news)
    (turn : ∀ (i : Nat) t m₁ nx h tk own, i < n → nx.map (·.1) = news.map (·.1) → OwnOff own (news.map (·.1)) → J i m₁ nx → Fr h₀ env.locals h (fun y => if y = x then some (.int (a₀ + (i : Int)) t) else m₁ y) → News h₀ env.locals h (nx ++ own) →
      wpAny (model prog w) A (execs body env) (InvPostN h₀ env.locals (J (i + 1)) own (news.map (·.1)) { s with heap := h, toks := tk } Q) E { s with heap := h, toks := tk })
    (done : ∀ m₁ nx h tk, J n m₁ nx → Fr h₀ env.locals h m₁ → News h₀ env.locals h nx → Q .next { s with heap := h, toks := tk }) :
    wpAny (model prog w) A (pyIter (.ref r)) (fun it s₂ => LoopAtV prog w A h₀ env x body Q E it s₂) E s := by
  refine wpAny_pyIter_range hr hsmall ?_
  have W := (Walks.range (prog := prog) (w := w) hh s.heap.objs.size a₀ 1 n)
  refine loop_invN J W (fun hm => ?_) (fun b hb => ?_) (fun p hp hI => ?_) (fun p hp hI => ?_) ?_ (F.push _) (fun p hp => ⟨Heap.get?_push_of_some _ (N p hp).1, (N p hp).2⟩) hj ?_ done
  · exact absurd F.ns.lt ((List.mem_singleton.mp hm) ▸ Nat.lt_irrefl _)
  · rw [List.mem_singleton.mp hb]
    exact next_is_new F
  · exact absurd (Heap.lt_size (N p hp).1) ((List.mem_singleton.mp hI) ▸ Nat.lt_irrefl _)
  · exact absurd (Heap.lt_size (N p hp).1) ((List.mem_singleton.mp hI) ▸ Nat.lt_irrefl _)
  · show IsRangeIter _ _ _ _ _
    rw [hn]
    simpa using Heap.get?_push_size _ rfl
  · rintro i v m₁ nx h tk own hi ⟨t, rfl⟩ hadr hoff hJ F₁ N₁
    have e : a₀ + (i : Int) * 1 = a₀ + (i : Int) := by omega
    rw [e] at F₁
    exact turn i t m₁ nx h tk own hi hadr hoff hJ F₁ N₁
theorem while_stop {Q : Flow → Shared → Prop} {test : Expr} {body : List Stmt} {pos : Pos} {env : Env} (h : Stop (wpAny (model prog w) A (exec (.While test body [] pos) env) Q E s)) :
    wpAny (model prog w) A (exec (.While test body [] pos) env) Q E s := h
theorem call_stop {f : Value} {args : List Value} {Q : Value → Shared → Prop} (h : Stop (wpAny (model prog w) A (call f args) Q E s)) : wpAny (model prog w) A (call f args) Q E s := h
end
/-- a source of a comprehension's that is no list and no range: its iterator is one new object, and its state is told by that object alone -/
def SrcW (prog : Program) (w : World) (A : Around) (E : Value → Shared → Prop) (h₀ : Heap) (L : Addr) (m : Str → Option Value) (env : Env) (elt : Expr) (x : Str) (scope : Scope) (cl : List (Str × Addr)) (Fin : Shared → List Value → List (Addr × Obj) → Prop) (xv : Value) (s₁ : Shared) : Prop :=
  ∃ (oI : Obj) (n : Nat) (P : Nat → Value → Prop) (St : Nat → Heap → Prop) (news : List (Addr × Obj)), Fr h₀ L s₁.heap m ∧ News h₀ L s₁.heap news ∧
    (∀ Q' : Value → Shared → Prop, Q' (.ref s₁.heap.objs.size) { s₁ with heap := s₁.heap.push oI } → wpAny (model prog w) A (pyIter xv) Q' E s₁) ∧
    Walks prog w A s₁.heap.objs.size [s₁.heap.objs.size] [s₁.heap.objs.size] n P St ∧ (∀ i h, St i h → ∃ o, h.get? s₁.heap.objs.size = some o) ∧ St 0 (s₁.heap.push oI) ∧ n ≤ sizeLine ∧
    ∀ g, LCg.CompRest prog w A h₀ L m env elt x scope cl { s₁ with heap := g } (fun _ => True) P (Fin { s₁ with heap := g }) n 0 [] news
theorem comp_any {prog : Program} {w : World} {A : Around} {E : Value → Shared → Prop} {s : Shared} {h₀ : Heap} {L : Addr} {m : Str → Option Value} {env : Env} {elt iter : Expr} {x : Str} {px : Pos} {scope : Scope} {cl : List (Str × Addr)} {pos : Pos} {Q : Value → Shared → Prop} (_F : Fr h₀ L s.heap m)
    (hclos : closureFor scope env = pure cl) (hcell : ∀ y ∈ scope.names, y.2 ≠ .cell) (hkind : scope.kind = .function)
    (hnames : ∀ y ∈ scope.names, y.2 = .local → scope.names.lookup y.1 = some .local) (hx : scope.names.lookup x = some .local)
    (h : wpAny (model prog w) A (eval iter env) (fun xv s₁ => Stop (SrcW prog w A E h₀ L m env elt x scope cl (fun s₂ => LCg.FinE h₀ L m s₂ Q) xv s₁)) E s)
    (hs : ∀ x, foldedSetIterable iter env x = pure x := by intro _; rfl) :
    wpAny (model prog w) A (eval (.ListComp elt [⟨.Name x px, iter, [], 0⟩] scope pos) env) Q E s := by
  rw [eval_ListComp]
  refine wpAny_comprehension_free (use := none) rfl hs hclos hkind hnames (wpAny_mono h (fun xv s₁ h₁ => ?_) fun _ _ e => e)
  obtain ⟨oI, n, P, St, news, F, N, hit, W, hIo, hst, hsz, R⟩ := h₁
  refine hit _ ?_
  have hSt : ∀ i h h' o nw, St i h → h.get? s₁.heap.objs.size = some o → h'.get? s₁.heap.objs.size = some o → (∀ b o, h₀.get? b = some o → h'.get? b = some o) → News h₀ L h' nw → True → St i h' :=
    fun i h h' o _ st e e' _ _ _ => W.frame i h h' st fun b hb o' eb => by
      rw [List.mem_singleton.mp hb] at eb ⊢
      rw [e] at eb
      cases eb
      exact e'
  refine LCg.block_U W hsz hIo hSt hcell hkind hx hst (fun b hb => ?_) (F.push _) (fun p hp => ⟨Heap.get?_push_of_some _ (N p hp).1, (N p hp).2⟩) (Nat.ne_of_lt F.ns.lt) (next_is_new F) (fun p hp => Nat.ne_of_lt (Heap.lt_size (N p hp).1)) trivial (R _) ?_
  · rw [List.mem_singleton.mp hb]
    show s₁.heap.objs.size < (s₁.heap.push _).objs.size
    rw [Heap.size_push]
    exact Nat.lt_succ_self _
  · intro D C h tk m' ys news' F' N' o1 hn hC₀ hD₀ hCL hDL hCD offC fin
    refine ⟨m', hn, fun h'' hs'' => fin D h'' tk (F'.change hs'' hCL hC₀) (fun p hp => ?_) o1⟩
    refine ⟨hs''.extBut _ _ ?_ (N' p hp).1, (N' p hp).2⟩
    rcases List.mem_cons.mp hp with rfl | hp
    · exact Ne.symm hCD
    · exact offC p hp
section
variable {prog : Program} {w : World} {A : Around} {E : Value → Shared → Prop} {s : Shared} {h₀ : Heap} {L : Addr} {m : Str → Option Value} {news : List (Addr × Obj)} {env : Env} {elt : Expr} {x : Str} {scope : Scope} {cl : List (Str × Addr)} {Fin : Shared → List Value → List (Addr × Obj) → Prop}
theorem src_bytes {b : Array UInt8} {t : Tok} (hh : A.handled = none) (F : Fr h₀ L s.heap m) (N : News h₀ L s.heap news) (hsz : b.size ≤ sizeLine)
    (R : ∀ g, LCg.CompRest prog w A h₀ L m env elt x scope cl { s with heap := g } (fun _ => True) (fun i v => ∃ c u, b[i]? = some c ∧ v = .int (c.toNat : Int) u) (Fin { s with heap := g }) b.size 0 [] news) :
    SrcW prog w A E h₀ L m env elt x scope cl Fin (.bytes b t) s :=
  ⟨_, b.size, _, _, news, F, N, fun _ h => KBw.pyIter_bytes h, KBw.walks hh _ b t, fun _ _ st => let ⟨o, ho, _⟩ := st; ⟨o, ho⟩, ⟨_, Heap.get?_push_size _ rfl, rfl, rfl⟩, hsz, R⟩
theorem src_ascii {y : Str} {t : Tok} (ha : y.cps.all (· < 128) = true) (hh : A.handled = none) (F : Fr h₀ L s.heap m) (N : News h₀ L s.heap news) (hsz : y.cps.size ≤ sizeLine)
    (R : ∀ g, LCg.CompRest prog w A h₀ L m env elt x scope cl { s with heap := g } (fun _ => True) (SignAt y) (Fin { s with heap := g }) y.cps.size 0 [] news) :
    SrcW prog w A E h₀ L m env elt x scope cl Fin (.str y t) s :=
  ⟨_, y.cps.size, _, _, news, F, N, fun _ h => wpAny_pyIter_ascii ha h, Walks.strAscii hh _ y t, fun _ _ st => let ⟨o, ho, _⟩ := st; ⟨o, ho⟩, ⟨_, Heap.get?_push_size _ rfl, rfl, rfl⟩, hsz, R⟩
end
theorem ints_snoc {x : Int} {t : Tok} : ∀ {vs : List Value} {ns : List Int}, IntsAre vs ns → IntsAre (vs ++ [.int x t]) (ns ++ [x])
  | _, _, .nil => .cons x t .nil
  | _, _, .cons i u h => .cons i u (ints_snoc h)
section
variable {prog : Program} {w : World} {A : Around} {s : Shared} {h₀ : Heap} {L : Addr} {m : Str → Option Value} {news : List (Addr × Obj)} {env : Env} {elt : Expr} {x : Str} {scope : Scope} {cl : List (Str × Addr)} {S : List (Addr × Obj) → Prop} {P : Nat → Value → Prop} {Fin : List Value → List (Addr × Obj) → Prop}
/-- a comprehension's turns, each of which yields an int -/
theorem comp_ints {α : Type} {n : Nat} {as : List α} (f : α → Int) (V : α → Value → Prop) (hl : as.length = n) (hP : ∀ i v, i < n → P i v → ∃ a, as[i]? = some a ∧ V a v)
    (turn : ∀ a v I oI C oC D m₂ ys h tk (E' : Value → Shared → Prop), a ∈ as → V a v → LCg.NsObj oC m₂ → m₂ x = some v → Fr h₀ L h m → News h₀ L h ((I, oI) :: (C, oC) :: (D, LCg.lst ys) :: news) → LCg.Off3 I C D news → ((@Ne Nat I C) ∧ (@Ne Nat I D) ∧ (@Ne Nat C D)) →
      wpAny (model prog w) A (eval elt (compEnvC scope cl C env)) (LCg.CompEnd h₀ L m { s with heap := h, toks := tk } I oI C oC D (LCg.lst ys) S (fun y news' => news' = news ∧ ∃ t, y = .int (f a) t)) E' { s with heap := h, toks := tk })
    (fin : ∀ ys, IntsAre ys (as.map f) → Fin ys news) : LCg.CompRest prog w A h₀ L m env elt x scope cl s S P Fin n 0 [] news := by
  have key : ∀ (j i : Nat) (ys : List Value), i + j = n → IntsAre ys ((as.take i).map f) → LCg.CompRest prog w A h₀ L m env elt x scope cl s S P Fin j i ys news := by
    intro j
    induction j with
    | zero =>
      intro i ys hi hy
      rw [List.take_of_length_le (by omega)] at hy
      exact LCg.CompRest.zero (fin ys hy)
    | succ j ih =>
      intro i ys hi hy
      refine LCg.CompRest.succ ?_
      intro v I oI C oC D m₂ h tk E' hv hC hx F N off ne
      obtain ⟨a, ha, hV⟩ := hP i v (by omega) hv
      refine wpAny_mono (turn a v I oI C oC D m₂ ys h tk E' (List.mem_of_getElem? ha) hV hC hx F N off ne) (fun y s₂ hq => ?_) fun _ _ e => e
      obtain ⟨h', tk', nw, e, F', N', off', hS, hn, t', hy'⟩ := hq
      subst hn hy'
      refine ⟨h', tk', _, e, F', N', off', hS, ih (i + 1) _ (by omega) ?_⟩
      rw [List.take_add_one, ha]
      simpa using ints_snoc hy
  exact key n 0 [] (by omega) .nil
end
theorem zeros_are (t : Tok) : ∀ n : Nat, IntsAre (List.replicate n [Value.int 0 t]).flatten (List.replicate n 0)
  | 0 => .nil
  | n + 1 => by
    rw [List.replicate_succ, List.replicate_succ]
    exact .cons 0 t (zeros_are t n)
/-- a turn's end, a name that no line of the walk takes -/
def TurnBack (h₀ : Heap) (L : Addr) (J : (Str → Option Value) → List (Addr × Obj) → Prop) (own : List (Addr × Obj)) (adr : List Addr) (s₁ : Shared) (Q : Flow → Shared → Prop) (f : Flow) (s₂ : Shared) : Prop := InvPostN h₀ L J own adr s₁ Q f s₂
section
variable {prog : Program} {w : World} {A : Around} {E : Value → Shared → Prop} {s : Shared} {h₀ : Heap} {L : Addr} {m : Str → Option Value} {news : List (Addr × Obj)}
theorem turn_back {J : (Str → Option Value) → List (Addr × Obj) → Prop} {own : List (Addr × Obj)} {adr : List Addr} {s₁ : Shared} {Q : Flow → Shared → Prop} {h' : Heap} {tk : Nat} {m' : Str → Option Value} {nx : List (Addr × Obj)}
    (F : Fr h₀ L h' m') (N : News h₀ L h' (nx ++ own)) (ha : nx.map (·.1) = adr) (hj : J m' nx) : TurnBack h₀ L J own adr s₁ Q .next { s₁ with heap := h', toks := tk } := inv_end F N ha hj
theorem range_turns {env : Env} {x : Str} {body : List Stmt} {Q : Flow → Shared → Prop} {r : Addr} {a₀ b₀ : Int} {t₀ u₀ v₀ : Tok} {n : Nat} {m₀ : Str → Option Value} (J : Nat → (Str → Option Value) → List (Addr × Obj) → Prop)
    (hh : A.handled = none) (hr : IsRange s.heap r a₀ b₀ 1 t₀ u₀ v₀) (hsmall : Builtin.Range.small a₀ b₀ 1 = true) (hn : Builtin.Range.rangeSize a₀ b₀ 1 = (n : Int)) (F : Fr h₀ env.locals s.heap m₀) (N : News h₀ env.locals s.heap news) (hj : J 0 m₀ news)
    (turn : ∀ (i : Nat) t m₁ nx h tk own, i < n → nx.map (·.1) = news.map (·.1) → OwnOff own (news.map (·.1)) → J i m₁ nx → Fr h₀ env.locals h (fun y => if y = x then some (.int (a₀ + (i : Int)) t) else m₁ y) → News h₀ env.locals h (nx ++ own) →
      wpAny (model prog w) A (execs body env) (TurnBack h₀ env.locals (J (i + 1)) own (news.map (·.1)) { s with heap := h, toks := tk } Q) E { s with heap := h, toks := tk })
    (done : ∀ m₁ nx h tk, J n m₁ nx → Fr h₀ env.locals h m₁ → News h₀ env.locals h nx → Q .next { s with heap := h, toks := tk }) :
    wpAny (model prog w) A (pyIter (.ref r)) (fun it s₂ => LoopAtV prog w A h₀ env x body Q E it s₂) E s := range_inv J hh hr hsmall hn F N hj turn done
end
section
variable {prog : Program} {w : World} {A : Around} {E : Value → Shared → Prop} {s : Shared} {h₀ : Heap} {L : Addr} {m : Str → Option Value} {news : List (Addr × Obj)} {env : Env}
theorem comp_rows {elt iter : Expr} {x : Str} {px : Pos} {ifs : List Expr} {scope : Scope} {pos : Pos} {Q : Value → Shared → Prop}
    (hfree : ∀ y ∈ scope.names, y.2 ≠ .free) (hcell : ∀ y ∈ scope.names, y.2 ≠ .cell) (hkind : scope.kind = .function)
    (hnames : ∀ y ∈ scope.names, y.2 = .local → scope.names.lookup y.1 = some .local) (hx : scope.names.lookup x = some .local)
    (h : wpAny (model prog w) A (eval iter env) (fun xv s₁ => Stop (wpAny (model prog w) A (pyIter xv) (CompPost prog w A env scope x ifs elt Q) E s₁)) E s)
    (hs : ∀ x, foldedSetIterable iter env x = pure x := by intro _; rfl) :
    wpAny (model prog w) A (eval (.ListComp elt [⟨.Name x px, iter, ifs, 0⟩] scope pos) env) Q E s := ListComp_rowsP hfree hcell hkind hnames hx h hs
/-- a comprehension with tests over a list of ints of the ledger; its items are known where it runs -/
theorem src_if {elt : Expr} {x : Str} {ifs : List Expr} {scope : Scope} {Q : Value → Shared → Prop} {l : Addr} {vs : List Value} {ns : List Int} {n : Nat} {pz : Int → Bool} {d : Int → PyData}
    (hh : A.handled = none) (F : Fr h₀ L s.heap m) (N : News h₀ L s.heap news) (hm : (l, listOf vs.toArray n) ∈ news) (hi : IntsAre vs ns) (hsz : ns.length ≤ sizeLine)
    (g1 : ∀ C k t s₂ m₂ E', k ∈ ns → s₂.heap.Ns (compEnv scope C env).locals m₂ → m₂ x = some (.int k t) →
        wpAny (model prog w) A (forIn ifs true fun c r => if r = true then do let ok ← isTrue c (compEnv scope C env) (eval c (compEnv scope C env)); pure (ForInStep.yield ok) else pure (ForInStep.yield r))
          (fun ok s₃ => ok = pz k ∧ Keeps s₂ s₃) E' s₂)
    (g2 : ∀ C k t s₂ m₂ E', k ∈ ns → pz k = true → s₂.heap.Ns (compEnv scope C env).locals m₂ → m₂ x = some (.int k t) → wpAny (model prog w) A (eval elt (compEnv scope C env)) (fun r s₃ => Carried r (d k) ∧ Keeps s₂ s₃) E' s₂)
    (g3 : ∀ D (ys : List Value) n' h' tk, Fr h₀ L h' m → News h₀ L h' ((D, listOf ys.toArray n') :: news) → (∀ p ∈ news, p.1 ≠ D) → CarriedAll ys ((ns.filter pz).map d) → Q (.ref D) { s with heap := h', toks := tk }) :
    wpAny (model prog w) A (pyIter (.ref l)) (CompPost prog w A env scope x ifs elt Q) E s := by
  have hl : s.heap.IsList l vs.toArray := ⟨_, (N _ hm).1, rfl, n, rfl⟩
  have hlt : l < s.heap.objs.size := Heap.lt_size (N _ hm).1
  have hi' := IntsAre.areOf hi
  refine wpAny_pyIter_list hl ?_
  have up : ∀ (h' : Heap), (∀ b o', b ∉ [s.heap.objs.size] → (s.heap.push { cls := .type "list_iterator", data := .fields #[.ref l, .int 0 0] }).get? b = some o' → h'.get? b = some o') → ∀ b o', s.heap.get? b = some o' → h'.get? b = some o' :=
    fun h' hk b o' e => hk b o' (not_iter_of_old e) (Heap.get?_push_of_some _ e)
  refine ⟨ItemKind.int.lift pz, fun v r => ∃ a, ItemKind.int.is a v ∧ Carried r (d a), s.heap.objs.size, [s.heap.objs.size, l], [s.heap.objs.size], vs.toArray.size, _, _, rfl, Walks.list hh _ l (Nat.ne_of_lt hlt) vs.toArray, (by rw [List.size_toArray, hi.length]; exact hsz),
    ⟨⟨_, Heap.get?_push_size _ rfl, rfl, rfl⟩, hl.at fun o e => Heap.get?_push_of_some _ e⟩, ?_, ⟨?_, ?_⟩, ?_⟩
  · intro b hb
    show b < (s.heap.push _).objs.size
    rw [Heap.size_push]
    rcases List.mem_cons.mp hb with rfl | hb
    · exact Nat.lt_succ_self _
    · rw [List.mem_singleton.mp hb]; exact Nat.lt_succ_of_lt hlt
  · intro C i v s₃ m₃ E' hP hn hx _ _
    obtain ⟨a, ha, t, rfl⟩ := hi'.get i v (by simpa using hP)
    rw [ItemKind.lift_is (a := a) (K := ItemKind.int) ⟨t, rfl⟩]
    exact g1 C a t s₃ m₃ E' (List.mem_of_getElem? ha) hn hx
  · intro C i v s₃ m₃ E' hP hp hn hx _ _
    obtain ⟨a, ha, t, rfl⟩ := hi'.get i v (by simpa using hP)
    rw [ItemKind.lift_is (a := a) (K := ItemKind.int) ⟨t, rfl⟩] at hp
    exact wpAny_mono (g2 C a t s₃ m₃ E' (List.mem_of_getElem? ha) hp hn hx) (fun r s₄ h₄ => ⟨⟨_, ⟨t, rfl⟩, h₄.1⟩, h₄.2⟩) fun _ _ e => e
  · intro D h' tk ys vs' hnew hlD hplD hlen hP hF hk
    have e' : vs' = vs := by simpa using walked_is hlen hP
    subst e'
    obtain ⟨n', hD⟩ := hplD
    have hD₀ : h₀.get? D = none := by
      cases e : h₀.get? D with
      | none => rfl
      | some o' => rw [Heap.get?_push_of_some _ (F.keep _ _ e)] at hnew; cases hnew
    have hDL : D ≠ L := fun e => by
      obtain ⟨oL, _, _, hL, _⟩ := F.ns
      rw [e, Heap.get?_push_of_some _ hL] at hnew; cases hnew
    refine g3 D ys.toList n' h' tk (F.keeps (up h' hk)) (fun p hp => ?_) (fun p hp e => ?_) (hi'.paired pz d _ hF)
    · rcases List.mem_cons.mp hp with rfl | hp
      · exact ⟨by rw [hD, Array.toArray_toList], hDL, hD₀⟩
      · exact ⟨up h' hk _ _ (N p hp).1, (N p hp).2⟩
    · rw [← e, Heap.get?_push_of_some _ (N p hp).1] at hnew; cases hnew
end
/-- no iterator of a text -/
def NoIter (o : Obj) : Prop := o.cls ≠ .type "str_ascii_iterator" ∨ ∃ v, o.data = .cell v
/-- the end of a turn over a text: the ledger may have grown; nothing in it is an iterator of a text -/
def TextBack (h₀ : Heap) (L : Addr) (J : (Str → Option Value) → List (Addr × Obj) → Prop) (I : Addr) (oI : Obj) (s₁ : Shared) (Q : Flow → Shared → Prop) (f : Flow) (s₂ : Shared) : Prop :=
  match f with
  | .ret v => Q (.ret v) s₂
  | .brk => Q .next s₂
  | _ => ∃ h' tk m' nx, s₂ = { s₁ with heap := h', toks := tk } ∧ Fr h₀ L h' m' ∧ News h₀ L h' (nx ++ [(I, oI)]) ∧ (∀ p ∈ nx, NoIter p.2) ∧ J m' nx
section
variable {prog : Program} {w : World} {A : Around} {E : Value → Shared → Prop} {s : Shared} {h₀ : Heap} {L : Addr} {news : List (Addr × Obj)} {env : Env}
theorem ascii_turns {W : PySem.Str} {t : Tok} {x : Str} {body : List Stmt} {Q : Flow → Shared → Prop} {m₀ : Str → Option Value} (J : Nat → (Str → Option Value) → List (Addr × Obj) → Prop) (ha : W.cps.all (· < 128) = true)
    (hh : A.handled = none) (F : Fr h₀ env.locals s.heap m₀) (N : News h₀ env.locals s.heap news) (hc₀ : ∀ p ∈ news, NoIter p.2) (hj : J 0 m₀ news)
    (turn : ∀ i c t' m₁ nx h tk I oI, W.cps[i]? = some c → ¬ NoIter oI → (∀ p ∈ nx, p.1 ≠ I) → (∀ p ∈ nx, NoIter p.2) → J i m₁ nx → Fr h₀ env.locals h (fun y => if y = x then some (.str ⟨#[c]⟩ t') else m₁ y) → News h₀ env.locals h (nx ++ [(I, oI)]) →
      wpAny (model prog w) A (execs body env) (TextBack h₀ env.locals (J (i + 1)) I oI { s with heap := h, toks := tk } Q) E { s with heap := h, toks := tk })
    (done : ∀ m₁ nx h tk, J W.cps.size m₁ nx → Fr h₀ env.locals h m₁ → News h₀ env.locals h nx → Q .next { s with heap := h, toks := tk }) :
    wpAny (model prog w) A (pyIter (.str W t)) (fun it s₂ => LoopAtV prog w A h₀ env x body Q E it s₂) E s := by
  refine wpAny_pyIter_ascii ha ?_
  have hI₀ : h₀.get? s.heap.objs.size = none := Heap.get?_none_of_le (Nat.le_trans F.above (Nat.le_of_lt F.ns.lt))
  have hIL : s.heap.objs.size ≠ env.locals := Nat.ne_of_gt F.ns.lt
  refine ⟨s.heap.objs.size, [s.heap.objs.size], [s.heap.objs.size], W.cps.size, _, _, m₀, news, fun i m nx => (∀ p ∈ nx, NoIter p.2) ∧ J i m nx, rfl, Walks.strAscii hh s.heap.objs.size W t, ?_, ?_, ?_, ⟨_, Heap.get?_push_size _ rfl, rfl, rfl⟩, F.push _,
    (fun p hp => ⟨Heap.get?_push_of_some _ (N p hp).1, (N p hp).2⟩), ⟨hc₀, hj⟩, ?_, ?_⟩
  · intro hm; exact hIL (List.mem_singleton.mp hm).symm
  · intro b hb; rw [List.mem_singleton.mp hb]; exact hI₀
  · intro p hp hI
    exact absurd (Heap.lt_size (N p hp).1) ((List.mem_singleton.mp hI) ▸ Nat.lt_irrefl _)
  · rintro i v m₁ nx s₁ own ⟨h, tk, rfl⟩ hin ⟨c, u, hc, rfl⟩ ⟨hcl, hJ⟩ hoff hown hgo hall ⟨oI, hoI, hcI, hdI⟩ F₁ N₁
    have hne : ∀ p ∈ nx, p.1 ≠ s.heap.objs.size := fun p hp e => hoff p hp (List.mem_singleton.mpr e)
    have N₂ : News h₀ env.locals h (nx ++ [(s.heap.objs.size, oI)]) := fun p hp => by
      rcases List.mem_append.mp hp with hp | hp
      · exact N₁ p (List.mem_append_right _ hp)
      · rw [List.mem_singleton.mp hp]; exact ⟨hoI, hIL, hI₀⟩
    have hone : ∀ p ∈ own, p = (s.heap.objs.size, oI) := fun p hp => by
      have e1 := List.mem_singleton.mp (hown p hp)
      have e2 := hgo p hp
      rw [e1, hoI] at e2
      exact Prod.ext e1 (Option.some.inj e2).symm
    have hno : ¬ NoIter oI := fun h => h.elim (fun h => h hcI) fun ⟨v, h⟩ => by rw [hdI] at h; cases h
    refine wpAny_mono (turn i c u m₁ nx h tk s.heap.objs.size oI hc hno hne hcl hJ F₁ N₂) (fun f s₂ p => ?_) fun _ _ e => e
    have fin : (∃ h' tk' m' nx', s₂ = { ({ s with heap := h, toks := tk } : Shared) with heap := h', toks := tk' } ∧ Fr h₀ env.locals h' m' ∧ News h₀ env.locals h' (nx' ++ [(s.heap.objs.size, oI)]) ∧ (∀ p ∈ nx', NoIter p.2) ∧ J (i + 1) m' nx') →
        LoopStepU h₀ env.locals [s.heap.objs.size] own (fun m nx => (∀ p ∈ nx, NoIter p.2) ∧ J (i + 1) m nx) { s with heap := h, toks := tk } .next s₂ := by
      rintro ⟨h', tk', m', nx', rfl, F', N', hc', hJ'⟩
      have hI' : h'.get? s.heap.objs.size = some oI := (N' _ (List.mem_append_right _ (List.mem_singleton.mpr rfl))).1
      refine ⟨rfl, h', tk', m', nx', rfl, F', fun p hp => ?_, fun p hp hI => ?_, hc', hJ'⟩
      · rcases List.mem_append.mp hp with hp | hp
        · rw [hone p hp]; exact ⟨hI', hIL, hI₀⟩
        · exact N' p (List.mem_append_left _ hp)
      · have e := (N' p (List.mem_append_left _ hp)).1
        rw [List.mem_singleton.mp hI, hI'] at e
        have e2 := Option.some.inj e
        exact hno (by rw [e2]; exact hc' p hp)
    cases f with
    | ret v => exact p
    | brk => exact p
    | next => exact fin p
    | cont => exact fin p
  · rintro h' tk m' nx F' N' _ ⟨_, hJ⟩
    exact done m' nx h' tk hJ F' N'
end
section
variable {prog : Program} {w : World} {A : Around} {E : Value → Shared → Prop} {s : Shared} {h₀ : Heap} {L : Addr} {m : Str → Option Value} {news : List (Addr × Obj)}
/-- tuple of a list of the ledger -/
theorem tuple_led {l : Addr} {vs : List Value} {n : Nat} {Q : Value → Shared → Prop} (F : Fr h₀ L s.heap m) (N : News h₀ L s.heap news) (hm : (l, listOf vs.toArray n) ∈ news) (hsz : vs.length ≤ sizeLine)
    (h : ∀ (D : Addr) h', Fr h₀ L h' m → News h₀ L h' ((D, { cls := .type "tuple", data := .seq vs.toArray }) :: news) → AllLt D news → Q (.ref D) { s with heap := h' }) :
    wpAny (model prog w) A (call (.type "tuple") [.ref l]) Q E s := by
  refine call_tuple_list (items := vs.toArray) ⟨_, (N _ hm).1, rfl, n, rfl⟩ (fun h' hk => ?_) (by rw [List.size_toArray]; exact hsz)
  have F' : Fr h₀ L h' m := F.keeps hk
  have N' : News h₀ L h' news := fun p hp => ⟨hk _ _ (N p hp).1, (N p hp).2⟩
  exact h _ _ (F'.push _) (N'.push F' _) (allLt_of fun p hp => Heap.lt_size (N' p hp).1)
end
end
section
def lawStmt : Option Stmt := PySem.Challenge.pw_wj0023_01.main.body.getLast?
def lawBody : List Stmt := match lawStmt with
  | some (.FunctionDef _ _ body _ _ _ _ _ _ _) => body
  | _ => []
def lawScope : Scope := match lawStmt with
  | some (.FunctionDef _ _ _ _ _ _ scope _ _ _) => scope
  | _ => { kind := .function, names := [], isGenerator := false, isCoroutine := false }
/-- the body of the loop within the loop over the gaps -/
def lawInner : List Stmt := match lawBody.getD 12 (.Pass default) with
  | .For _ _ [.For _ _ body _ _] _ _ => body
  | _ => []
def defBody : Stmt → List Stmt
  | .FunctionDef _ _ body _ _ _ _ _ _ _ => body
  | .ClassDef _ _ _ body _ _ _ _ _ _ _ => body
  | _ => []
def defScope : Stmt → Scope
  | .FunctionDef _ _ _ _ _ _ scope _ _ _ => scope
  | _ => { kind := .function, names := [], isGenerator := false, isCoroutine := false }
def forBody : Stmt → List Stmt
  | .For _ _ body _ _ => body
  | _ => []
def wsDef (k : Nat) : Stmt := (defBody (PySem.Challenge.pw_wj0023_01.main.body.getD 2 (.Pass default))).getD k (.Pass default)
/-- the body of the loop over the text in Whitespace's __init__ -/
def initFor : List Stmt := forBody ((defBody (wsDef 1)).getD 4 (.Pass default))
end
section
/-- a permutation of 0 .. p - 1, as a list -/
structure PermOf (p : Int) (ns : List Int) : Prop where
  len : (ns.length : Int) = p
  bnd : ∀ i, i < ns.length → 0 ≤ ns.getD i 0 ∧ ns.getD i 0 < p
  inj : ∀ i j, i < ns.length → j < ns.length → ns.getD i 0 = ns.getD j 0 → i = j
theorem getD_set {ns : List Int} {a i : Nat} {x : Int} (ha : a < ns.length) : (ns.set a x).getD i 0 = if i = a then x else ns.getD i 0 := by
  rw [List.getD_eq_getElem?_getD, List.getElem?_set, List.getD_eq_getElem?_getD]
  by_cases h : a = i
  · subst h
    simp [ha]
  · rw [if_neg h, if_neg (fun e => h e.symm)]
theorem PermOf.swap {p : Int} {ns : List Int} (P : PermOf p ns) {a b : Nat} (ha : a < ns.length) (hb : b < ns.length) :
    PermOf p ((ns.set a (ns.getD b 0)).set b (ns.getD a 0)) := by
  have hl : ((ns.set a (ns.getD b 0)).set b (ns.getD a 0)).length = ns.length := by rw [List.length_set, List.length_set]
  have hg : ∀ i, ((ns.set a (ns.getD b 0)).set b (ns.getD a 0)).getD i 0 = ns.getD (if i = b then a else if i = a then b else i) 0 := by
    intro i
    rw [getD_set (by rw [List.length_set]; exact hb), getD_set ha]
    split
    · rfl
    · split <;> rfl
  have hr : ∀ i, i < ns.length → (if i = b then a else if i = a then b else i) < ns.length := by
    intro i hi
    split
    · exact ha
    · split <;> assumption
  refine ⟨by rw [hl]; exact P.len, fun i hi => ?_, fun i j hi hj e => ?_⟩
  · rw [hg]; exact P.bnd _ (hr i (hl ▸ hi))
  · rw [hg, hg] at e
    have := P.inj _ _ (hr i (hl ▸ hi)) (hr j (hl ▸ hj)) e
    split at this <;> split at this <;> (try split at this) <;> (try split at this) <;> omega
end
section
/-- the number that the places' values spell, a digit of sixteen each -/
def numOf (ns : List Int) : Int := ns.foldl (fun a v => a * 16 + v + 1) 0
theorem numOf_snoc (ns : List Int) (v : Int) : numOf (ns ++ [v]) = numOf ns * 16 + v + 1 := by
  unfold numOf; rw [List.foldl_append]; rfl
theorem numOf_take {ns : List Int} {i : Nat} {v : Int} (h : ns[i]? = some v) : numOf (ns.take (i + 1)) = numOf (ns.take i) * 16 + v + 1 := by
  rw [List.take_add_one, h]; exact numOf_snoc _ _
theorem PermOf.get_bnd {p : Int} {ns : List Int} (P : PermOf p ns) {i : Nat} {v : Int} (h : ns[i]? = some v) : 0 ≤ v ∧ v < p := by
  obtain ⟨hi, rfl⟩ := List.getElem?_eq_some_iff.mp h
  have := P.bnd i hi
  rw [List.getD_eq_getElem?_getD, h, Option.getD_some] at this
  exact this
theorem numOf_bnd_take {ns : List Int} (hb : ∀ (i : Nat) (v : Int), ns[i]? = some v → 0 ≤ v ∧ v < 11) : ∀ i, i ≤ ns.length → 0 ≤ numOf (ns.take i) ∧ numOf (ns.take i) < 16 ^ i ∧ (0 < i → 1 ≤ numOf (ns.take i))
  | 0, _ => by simp [numOf]
  | i + 1, hi => by
    obtain ⟨h1, h2, _⟩ := numOf_bnd_take hb i (by omega)
    have hv : ns[i]? = some ns[i] := List.getElem?_eq_getElem (by omega)
    have := hb i _ hv
    rw [numOf_take hv]
    have e : (16 : Int) ^ (i + 1) = 16 ^ i * 16 := Int.pow_succ ..
    omega
theorem PermOf.numOf_bnd {p : Int} {ns : List Int} (P : PermOf p ns) (hp : p = 5 ∨ p = 7 ∨ p = 11) (i : Nat) : 0 ≤ numOf (ns.take i) ∧ numOf (ns.take i) < 16 ^ 11 := by
  have hl := P.len
  have hb : ∀ (i : Nat) (v : Int), ns[i]? = some v → 0 ≤ v ∧ v < 11 := fun i v h => by have := P.get_bnd h; omega
  have key : ∀ j, j ≤ ns.length → 0 ≤ numOf (ns.take j) ∧ numOf (ns.take j) < 16 ^ 11 := fun j hj => by
    obtain ⟨h1, h2, _⟩ := numOf_bnd_take hb j hj
    have : (16 : Int) ^ j ≤ 16 ^ 11 := by
      have hj2 : j ≤ 11 := by omega
      have e : (16 : Int) ^ 11 = 16 ^ j * 16 ^ (11 - j) := by rw [← Int.pow_add]; congr 1; omega
      have h3 : (1 : Int) ≤ 16 ^ (11 - j) := by have h9 : (0 : Int) < 16 ^ (11 - j) := Int.pow_pos (by decide); omega
      have h4 : (0 : Int) < 16 ^ j := Int.pow_pos (by decide)
      rw [e]
      calc (16 : Int) ^ j = 16 ^ j * 1 := (Int.mul_one _).symm
        _ ≤ 16 ^ j * 16 ^ (11 - j) := Int.mul_le_mul_of_nonneg_left h3 (Int.le_of_lt h4)
    omega
  by_cases h : i ≤ ns.length
  · exact key i h
  · have := key ns.length (Nat.le_refl _)
    rw [List.take_of_length_le (by omega)]
    rw [List.take_length] at this
    exact this
theorem letter_cuts : ∀ i : Nat, i < 11 → KBw.bInts (KBy.picked #[65, 66, 67, 68, 69, 70, 71, 72, 73, 74, 75, 76, 77, 78, 79, 80] (some ((i : Int) + 1)) (some ((i : Int) + 1 + 1))) = [66 + (i : Int)] := by decide +kernel
theorem letter_cut {v : Int} (h0 : 0 ≤ v) (h1 : v < 11) :
    KBw.bInts (KBy.picked #[65, 66, 67, 68, 69, 70, 71, 72, 73, 74, 75, 76, 77, 78, 79, 80] (some (v + 1)) (some (v + 1 + 1))) = [66 + v] := by
  have := letter_cuts v.toNat (by omega)
  rwa [Int.toNat_of_nonneg h0] at this
theorem numOf_step {ns : List Int} (hb : ∀ (i : Nat) (v : Int), ns[i]? = some v → 0 ≤ v ∧ v < 11) {k : Nat} (hk : k ≤ ns.length) (h : numOf (ns.take k) ≠ 0) :
    ∃ v j, k = j + 1 ∧ ns[j]? = some v ∧ (numOf (ns.take k)).fdiv 16 = numOf (ns.take j) ∧ (numOf (ns.take k)).fmod 16 = v + 1 ∧ 0 ≤ v ∧ v < 11 ∧ ns.drop j = v :: ns.drop k := by
  cases k with
  | zero => exact absurd rfl h
  | succ j =>
    have hv : ns[j]? = some ns[j] := List.getElem?_eq_getElem (by omega)
    have hvb := hb j _ hv
    have e := numOf_take hv
    refine ⟨ns[j], j, rfl, hv, ?_, ?_, hvb.1, hvb.2, List.drop_eq_getElem_cons (by omega)⟩
    · rw [e]
      have := fdiv_fmod_facts (numOf (ns.take j) * 16 + ns[j] + 1) 16
      omega
    · rw [e]
      have := fdiv_fmod_facts (numOf (ns.take j) * 16 + ns[j] + 1) 16
      omega
theorem numOf_zero {ns : List Int} (hb : ∀ (i : Nat) (v : Int), ns[i]? = some v → 0 ≤ v ∧ v < 11) {k : Nat} (hk : k ≤ ns.length) (h : numOf (ns.take k) = 0) : k = 0 := by
  have := (numOf_bnd_take hb k hk).2.2
  omega
end
section
/-- the word: a letter for each value, B for nought -/
def wordOf (ns : List Int) : PySem.Str := ⟨(ns.map fun v => (66 + v).toNat).toArray⟩
theorem join_word (ns : List Int) : Txt.join "" ((ns.map fun v => 66 + v).map fun a => (⟨#[a.toNat]⟩ : PySem.Str)) = wordOf ns := by
  have e : (ns.map fun v => 66 + v).map (fun a => (⟨#[a.toNat]⟩ : PySem.Str)) = signs (wordOf ns) := by
    simp [signs, wordOf, List.map_map]
  rw [e]
  show Builtin.Str.glued _ _ = _
  rw [StrLaws.glued_eq_join]
  exact join_nil_signs _
theorem word_size (ns : List Int) : (wordOf ns).cps.size = ns.length := by simp [wordOf]
theorem word_ascii {ns : List Int} (hb : ∀ (i : Nat) (v : Int), ns[i]? = some v → 0 ≤ v ∧ v < 11) : (wordOf ns).cps.all (· < 128) = true := by
  rw [Array.all_eq_true']
  intro x hx
  rw [wordOf, List.mem_toArray] at hx
  obtain ⟨v, hv, rfl⟩ := List.mem_map.mp hx
  obtain ⟨i, hi⟩ := List.getElem?_of_mem hv
  have := hb i v hi
  simp only [decide_eq_true_eq]
  omega
theorem word_get {ns : List Int} {i : Nat} {c : Nat} (h : (wordOf ns).cps[i]? = some c) : ∃ v, ns[i]? = some v ∧ c = (66 + v).toNat := by
  simp only [wordOf, List.getElem?_toArray, List.getElem?_map, Option.map_eq_some_iff] at h
  obtain ⟨v, hv, e⟩ := h
  exact ⟨v, hv, e.symm⟩
end
section
/-- the table of symbols: each is its own root, or tells one before it -/
structure UF (xs : List Int) : Prop where
  len : xs.length ≤ 10
  up : ∀ i, i < xs.length → xs.getD i 0 = i ∨ (256 ≤ xs.getD i 0 ∧ xs.getD i 0 - 256 < i)
inductive Root (xs : List Int) : Nat → Nat → Prop
  | here {k : Nat} : xs.getD k 0 < 256 → Root xs k k
  | up {k r : Nat} : 256 ≤ xs.getD k 0 → Root xs (xs.getD k 0 - 256).toNat r → Root xs k r
theorem Root.of {xs : List Int} (hU : UF xs) : ∀ (n k : Nat), k < n → k < xs.length → ∃ r, Root xs k r ∧ r ≤ k
  | 0, _, h, _ => absurd h (Nat.not_lt_zero _)
  | n + 1, k, h, hk => by
    have hl := hU.len
    rcases hU.up k hk with e | ⟨h1, h2⟩
    · exact ⟨k, .here (by omega), Nat.le_refl _⟩
    · obtain ⟨r, hr, hl⟩ := Root.of hU n (xs.getD k 0 - 256).toNat (by omega) (by omega)
      exact ⟨r, .up h1 hr, by omega⟩
theorem Root.uniq {xs : List Int} {k r : Nat} (h : Root xs k r) : ∀ {r'}, Root xs k r' → r = r' := by
  induction h with
  | here h1 =>
    intro r' h'
    cases h' with
    | here _ => rfl
    | up h2 _ => omega
  | up h1 _ ih =>
    intro r' h'
    cases h' with
    | here h2 => omega
    | up _ h3 => exact ih h3
theorem word_item {ns : List Int} {x : Int} (h0 : 0 ≤ x) (h1 : x < ns.length) : Txt.item (wordOf ns) x = ⟨#[(66 + ns.getD x.toNat 0).toNat]⟩ := by
  have hx : x.toNat < ns.length := by omega
  have e : (wordOf ns).cps[x.toNat]? = some (66 + ns.getD x.toNat 0).toNat := by
    rw [wordOf, List.getElem?_toArray, List.getElem?_map, List.getElem?_eq_getElem hx, List.getD_eq_getElem?_getD, List.getElem?_eq_getElem hx]
    rfl
  have e2 : seqIndex? x (wordOf ns).length = some x.toNat := by
    have hs : (wordOf ns).length = ns.length := word_size ns
    have h2 : ¬ x < 0 := by omega
    have h3 : (decide (0 ≤ x) && decide (x < (ns.length : Int))) = true := by
      rw [Bool.and_eq_true, decide_eq_true_eq, decide_eq_true_eq]; exact ⟨h0, h1⟩
    unfold seqIndex?
    rw [hs]
    simp only [if_neg h2, h3, if_true]
  show (⟨#[((seqIndex? x (wordOf ns).length).bind ((wordOf ns).cps[·]?)).getD 0]⟩ : PySem.Str) = _
  rw [e2]
  show (⟨#[((wordOf ns).cps[x.toNat]?).getD 0]⟩ : PySem.Str) = _
  rw [e]
  rfl
theorem turn_ne {x g p : Int} (hx : 0 ≤ x ∧ x < p) (hg : 1 ≤ g ∧ g < p) : x.toNat ≠ ((x + g).fmod p).toNat := by
  have h := fdiv_fmod_facts (x + g) p
  have h2 := h.2.2.1 (by omega)
  have h3 : x + g < p ∨ p ≤ x + g := by omega
  rcases h3 with h3 | h3
  · have e : (x + g).fmod p = x + g := Int.fmod_eq_of_lt (by omega) h3
    omega
  · have e : (x + g).fmod p = x + g - p := by
      have := Int.add_mul_fmod_self_left (x + g - p) p 1
      rw [Int.mul_one] at this
      have e2 : x + g - p + p = x + g := by omega
      rw [e2] at this
      rw [this]
      exact Int.fmod_eq_of_lt (by omega) (by omega)
    omega
/-- the step upon the values that a step g of the places makes from x -/
def gapTo (p : Int) (ns : List Int) (g x : Int) : Int :=
  let d := ns.getD ((x + g).fmod p).toNat 0 - ns.getD x.toNat 0
  if d < 0 then d + p else d
/-- the table behind the joining of two roots -/
def join (xs : List Int) (i j : Nat) : List Int := if i = j then xs else xs.set (max i j) (256 + ((min i j : Nat) : Int))
end
section
theorem gapTo_bnd {p : Int} {ns : List Int} (P : PermOf p ns) {g x : Int} (hg : 1 ≤ g ∧ g < p) (hx : 0 ≤ x ∧ x < p) : 1 ≤ gapTo p ns g x ∧ gapTo p ns g x < p := by
  have hl := P.len
  have hy := (fdiv_fmod_facts (x + g) p).2.2.1 (by omega)
  have b1 := P.bnd x.toNat (by omega)
  have b2 := P.bnd ((x + g).fmod p).toNat (by omega)
  have hne : ns.getD x.toNat 0 ≠ ns.getD ((x + g).fmod p).toNat 0 := fun e => absurd (P.inj _ _ (by omega) (by omega) e) (turn_ne hx hg)
  simp only [gapTo]
  split <;> omega
theorem Root.last {xs : List Int} {k r : Nat} (h : Root xs k r) : xs.getD r 0 < 256 := by
  induction h with
  | here h => exact h
  | up _ _ ih => exact ih
theorem Root.le {xs : List Int} (hU : UF xs) {k r : Nat} (h : Root xs k r) : k < xs.length → r ≤ k := by
  induction h with
  | here _ => intro _; exact Nat.le_refl _
  | @up k r h1 _ ih =>
    intro hk
    have := (hU.up k hk).resolve_left (by have := hU.len; omega)
    have := ih (by omega)
    omega
theorem root_self {xs : List Int} (hU : UF xs) {r : Nat} (hr : r < xs.length) (h : xs.getD r 0 < 256) : xs.getD r 0 = r := (hU.up r hr).resolve_right (by omega)
theorem join_length {xs : List Int} {i j : Nat} : (join xs i j).length = xs.length := by
  unfold join; split
  · rfl
  · exact List.length_set ..
theorem join_get {xs : List Int} {i j k : Nat} (hij : i ≠ j) (hi : i < xs.length) (hj : j < xs.length) : (join xs i j).getD k 0 = if k = max i j then 256 + ((min i j : Nat) : Int) else xs.getD k 0 := by
  rw [join, if_neg hij]
  exact getD_set (by omega)
theorem UF.join {xs : List Int} (hU : UF xs) {i j : Nat} (hi : i < xs.length) (hj : j < xs.length) : UF (join xs i j) := by
  refine ⟨by rw [join_length]; exact hU.len, fun k hk => ?_⟩
  rw [join_length] at hk
  by_cases hij : i = j
  · rw [Mine.join, if_pos hij]; exact hU.up k hk
  · rw [join_get hij hi hj]
    split
    · right; omega
    · exact hU.up k hk
theorem Root.join {xs : List Int} {i j : Nat} (hij : i ≠ j) (hi : i < xs.length) (hj : j < xs.length) (ri : xs.getD i 0 < 256) (rj : xs.getD j 0 < 256) {k r : Nat} (h : Root xs k r) :
    Root (join xs i j) k (if r = max i j then min i j else r) := by
  have hm : xs.getD (max i j) 0 < 256 := by rcases Nat.le_total i j with h | h <;> simp only [Nat.max_eq_right, Nat.max_eq_left, h] <;> assumption
  have hl : xs.getD (min i j) 0 < 256 := by rcases Nat.le_total i j with h | h <;> simp only [Nat.min_eq_right, Nat.min_eq_left, h] <;> assumption
  induction h with
  | @here k h =>
    split
    · rename_i e
      refine .up ?_ ?_
      · rw [join_get hij hi hj, if_pos e]; omega
      · rw [join_get hij hi hj, if_pos e]
        have e2 : (256 + ((min i j : Nat) : Int) - 256).toNat = min i j := by omega
        rw [e2]
        exact .here (by rw [join_get hij hi hj, if_neg (by omega)]; exact hl)
    · rename_i e
      exact .here (by rw [join_get hij hi hj, if_neg e]; exact h)
  | @up k r h1 _ ih =>
    have hk : k ≠ max i j := fun e => by rw [e] at h1; omega
    have e : (Mine.join xs i j).getD k 0 = xs.getD k 0 := by rw [join_get hij hi hj, if_neg hk]
    exact .up (by rw [e]; exact h1) (by rw [e]; exact ih)
/-- what holds of the table behind i gaps and j places -/
structure Inv (p : Int) (ns xs : List Int) (i j : Nat) : Prop where
  uf : UF xs
  len : (xs.length : Int) = p - 1
  sound : ∀ c : Nat → Nat, (∀ g x : Int, 1 ≤ g → g < p → 0 ≤ x → x < p → c (g - 1).toNat = c (gapTo p ns g x - 1).toNat) → ∀ k r, k < xs.length → Root xs k r → c k = c r
  done : ∀ g x : Int, 1 ≤ g → g < p → 0 ≤ x → x < p → (g - 1 < i ∨ (g - 1 = i ∧ x < j)) → ∃ r, Root xs (g - 1).toNat r ∧ Root xs (gapTo p ns g x - 1).toNat r
theorem rangeKs_get {n k : Nat} (h : k < n) : (rangeKs 0 n).getD k 0 = k := by
  have e : (rangeKs 0 n)[k]? = some (k : Int) := by simp [rangeKs, h]
  rw [List.getD_eq_getElem?_getD, e]; rfl
theorem Inv.start {p : Int} {ns : List Int} (hp : p = 5 ∨ p = 7 ∨ p = 11) : Inv p ns (rangeKs 0 (p - 1).toNat) 0 0 := by
  have hl := rangeKs_length 0 (p - 1).toNat
  refine ⟨⟨by omega, fun i hi => .inl (rangeKs_get (by omega))⟩, by omega, fun c _ k r hk h => ?_, fun g x h1 _ _ _ h5 => by omega⟩
  have : Root (rangeKs 0 (p - 1).toNat) k k := .here (by rw [rangeKs_get (by omega)]; omega)
  rw [this.uniq h]
theorem Inv.next {p : Int} {ns xs : List Int} {i j : Nat} (h : Inv p ns xs i j) (hj : (j : Int) = p) : Inv p ns xs (i + 1) 0 :=
  ⟨h.uf, h.len, h.sound, fun g x h1 h2 h3 h4 h5 => h.done g x h1 h2 h3 h4 (by omega)⟩
theorem Inv.step {p : Int} {ns xs : List Int} {i j : Nat} (h : Inv p ns xs i j) (P : PermOf p ns) (hi : (i : Int) < p - 1) (hj : (j : Int) < p) {u v : Nat} (hu : Root xs i u) (hv : Root xs (gapTo p ns ((i : Int) + 1) j - 1).toNat v) :
    Inv p ns (join xs u v) i (j + 1) := by
  have hl := h.len
  have hb := gapTo_bnd P (g := (i : Int) + 1) (x := j) (by omega) (by omega)
  have hul := hu.le h.uf (by omega)
  have hvl := hv.le h.uf (by omega)
  by_cases huv : u = v
  · have e : join xs u v = xs := by rw [Mine.join, if_pos huv]
    rw [e]
    refine ⟨h.uf, h.len, h.sound, fun g x h1 h2 h3 h4 h5 => ?_⟩
    by_cases hq : g - 1 = i ∧ x = j
    · have eg : g = (i : Int) + 1 := by omega
      have ex : x = (j : Int) := hq.2
      rw [eg, ex]
      have e1 : ((i : Int) + 1 - 1).toNat = i := by omega
      rw [e1]
      exact ⟨u, hu, huv ▸ hv⟩
    · exact h.done g x h1 h2 h3 h4 (by omega)
  · have hu2 : u < xs.length := by omega
    have hv2 : v < xs.length := by omega
    have J := fun {k r : Nat} (hr : Root xs k r) => hr.join huv hu2 hv2 hu.last hv.last
    refine ⟨h.uf.join hu2 hv2, by rw [join_length]; exact h.len, fun c hc k r hk hr => ?_, fun g x h1 h2 h3 h4 h5 => ?_⟩
    · rw [join_length] at hk
      obtain ⟨r0, hr0, _⟩ := Root.of h.uf (k + 1) k (by omega) hk
      have e := (J hr0).uniq hr
      have hc0 := h.sound c hc k r0 hk hr0
      have hcu := h.sound c hc i u (by omega) hu
      have hcv := h.sound c hc _ v (by omega) hv
      have hcc := hc ((i : Int) + 1) j (by omega) (by omega) (by omega) (by omega)
      have e1 : ((i : Int) + 1 - 1).toNat = i := by omega
      rw [e1] at hcc
      have huv' : c u = c v := by rw [← hcu, hcc, hcv]
      rw [hc0, ← e]
      split
      · rename_i e2
        rw [e2]
        rcases Nat.le_total u v with h | h
        · rw [Nat.max_eq_right h, Nat.min_eq_left h]; exact huv'.symm
        · rw [Nat.max_eq_left h, Nat.min_eq_right h]; exact huv'
      · rfl
    · by_cases hq : g - 1 = i ∧ x = j
      · have eg : g = (i : Int) + 1 := by omega
        have ex : x = (j : Int) := hq.2
        rw [eg, ex]
        have e1 : ((i : Int) + 1 - 1).toNat = i := by omega
        rw [e1]
        refine ⟨min u v, ?_, ?_⟩
        · have := J hu
          split at this
          · exact this
          · have e : min u v = u := by omega
            rw [e]; exact this
        · have := J hv
          split at this
          · exact this
          · have e : min u v = v := by omega
            rw [e]; exact this
      · obtain ⟨r, hr1, hr2⟩ := h.done g x h1 h2 h3 h4 (by omega)
        exact ⟨_, J hr1, J hr2⟩
/-- how many stand under each root -/
def cnt (n : Nat) (rs : List Nat) : List Int := rs.foldl (fun z r => z.set r (z.getD r 0 + 1)) (List.replicate n 0)
theorem cnt_snoc {n : Nat} {rs : List Nat} {r : Nat} : cnt n (rs ++ [r]) = (cnt n rs).set r ((cnt n rs).getD r 0 + 1) := by
  unfold cnt; rw [List.foldl_append]; rfl
theorem cnt_length {n : Nat} {rs : List Nat} : (cnt n rs).length = n := by
  have key : ∀ (rs : List Nat) (z : List Int), (rs.foldl (fun z r => z.set r (z.getD r 0 + 1)) z).length = z.length := by
    intro rs
    induction rs with
    | nil => intro z; rfl
    | cons r t ih => intro z; rw [List.foldl_cons, ih, List.length_set]
  unfold cnt; rw [key, List.length_replicate]
theorem cnt_bnd {n : Nat} : ∀ {rs : List Nat}, ∀ i, 0 ≤ (cnt n rs).getD i 0 ∧ (cnt n rs).getD i 0 ≤ rs.length := by
  intro rs
  have key : ∀ (rs : List Nat) (z : List Int) (k : Nat), (∀ i, 0 ≤ z.getD i 0 ∧ z.getD i 0 ≤ k) → ∀ i, 0 ≤ (rs.foldl (fun z r => z.set r (z.getD r 0 + 1)) z).getD i 0 ∧ (rs.foldl (fun z r => z.set r (z.getD r 0 + 1)) z).getD i 0 ≤ ((k + rs.length : Nat) : Int) := by
    intro rs
    induction rs with
    | nil => intro z k h i; simpa using h i
    | cons r t ih =>
      intro z k h i
      rw [List.foldl_cons, List.length_cons]
      have := ih (z.set r (z.getD r 0 + 1)) (k + 1) (fun i => by
        by_cases hr : r < z.length
        · rw [getD_set hr]
          have h1 := h i
          have h2 := h r
          split <;> omega
        · rw [List.set_eq_of_length_le (by omega)]
          have := h i
          omega) i
      omega
  intro i
  have := key rs (List.replicate n 0) 0 (fun i => by
    rw [List.getD_eq_getElem?_getD, List.getElem?_replicate]
    split <;> simp) i
  simpa [cnt] using this
theorem getD_eq {ns : List Int} {i : Nat} (h : i < ns.length) : ns.getD i 0 = ns[i] := by
  rw [List.getD_eq_getElem?_getD, List.getElem?_eq_getElem h, Option.getD_some]
/-- a run of blanks and a tab -/
def blk (k : Int) : PySem.Str := ⟨(List.replicate k.toNat 32 ++ [9]).toArray⟩
theorem fold_blank : ∀ (n : Nat) (acc : List Nat), (List.replicate n #[32]).foldl (fun a b : Array Nat => a ++ b) acc.toArray = (acc ++ List.replicate n 32).toArray
  | 0, acc => by simp
  | n + 1, acc => by
    rw [List.replicate_succ, List.foldl_cons]
    have e : acc.toArray ++ #[32] = (acc ++ [32]).toArray := by simp
    rw [e, fold_blank n, List.append_assoc]
    rfl
theorem mul_blank (k : Int) : Txt.mul (PySem.Str.ofString " ") k = ⟨(List.replicate k.toNat 32).toArray⟩ := by
  have e0 : PySem.Str.ofString " " = ⟨#[32]⟩ := by decide +kernel
  rw [e0]
  unfold Txt.mul
  split
  · rename_i h
    have e : k.toNat = 0 := by omega
    rw [e]; rfl
  · split
    · rename_i h1 h
      have hk : k = 1 := by
        rcases Bool.or_eq_true_iff.mp h with h | h
        · exact eq_of_beq h
        · exact absurd h (by decide)
      subst hk; rfl
    · exact congrArg PySem.Str.mk (by simpa using fold_blank k.toNat [])
theorem blk_eq (k : Int) : Txt.mul (PySem.Str.ofString " ") k ++ PySem.Str.ofString "\t" = blk k := by
  have e1 : PySem.Str.ofString "\t" = ⟨#[9]⟩ := by decide +kernel
  rw [mul_blank, e1]
  show (⟨(List.replicate k.toNat 32).toArray ++ #[9]⟩ : PySem.Str) = _
  rw [blk]
  congr 1
  apply Array.toList_inj.mp
  simp
theorem blks_short (bs : List Int) (h : ∀ k ∈ bs, k ≤ 10) : ((bs.map blk).map (·.length)).sum ≤ bs.length * 11 := by
  induction bs with
  | nil => exact Nat.le_refl _
  | cons k r ih =>
    have h1 : (blk k).length = k.toNat + 1 := by simp [blk, PySem.Str.length]
    have h2 := h k List.mem_cons_self
    have h3 := ih fun k hk => h k (List.mem_cons_of_mem _ hk)
    simp only [List.map_cons, List.sum_cons, List.length_cons]
    omega
end
section
/-- one more run of b blanks in the counts -/
def bump (count : List Int) (b : Int) : List Int :=
  if b ≥ count.length then (count ++ List.replicate (b - count.length + 1).toNat 0).set b.toNat ((count ++ List.replicate (b - count.length + 1).toNat 0).getD b.toNat 0 + 1)
  else count.set b.toNat (count.getD b.toNat 0 + 1)
structure Sc where
  count : List Int
  b : Int
  n : Int
  nt : Int
def Sc.step (z : Sc) (c : Nat) : Sc := if c = 32 then ⟨z.count, z.b + 1, z.n + 1, z.nt⟩ else if c = 9 then ⟨bump z.count z.b, 0, z.n + 1, z.nt + 1⟩ else z
def scan (cs : List Nat) : Sc := cs.foldl Sc.step ⟨[], 0, 0, 0⟩
theorem scan_take {cs : List Nat} {i c : Nat} (h : cs[i]? = some c) : scan (cs.take (i + 1)) = (scan (cs.take i)).step c := by
  rw [List.take_add_one, h]; unfold scan; rw [Option.toList_some, List.foldl_append]; rfl
structure Bd (z : Sc) (k : Int) : Prop where
  b0 : 0 ≤ z.b
  b1 : z.b ≤ k
  n0 : 0 ≤ z.n
  n1 : z.n ≤ k
  t0 : 0 ≤ z.nt
  t1 : z.nt ≤ k
  len : (z.count.length : Int) ≤ k + 1
  cnt : ∀ i, 0 ≤ z.count.getD i 0 ∧ z.count.getD i 0 ≤ k
theorem grown_get {count : List Int} {k j : Nat} {i : Nat} (h : ∀ i, 0 ≤ count.getD i 0 ∧ count.getD i 0 ≤ (k : Int)) : 0 ≤ (count ++ List.replicate j (0 : Int)).getD i 0 ∧ (count ++ List.replicate j (0 : Int)).getD i 0 ≤ k := by
  rw [List.getD_eq_getElem?_getD, List.getElem?_append]
  split
  · have := h i
    rwa [List.getD_eq_getElem?_getD] at this
  · rw [List.getElem?_replicate]
    split <;> simp
theorem bump_bnd {count : List Int} {b : Int} {k : Nat} (hb : 0 ≤ b) (hk : b ≤ k) (hl : (count.length : Int) ≤ k + 1) (h : ∀ i, 0 ≤ count.getD i 0 ∧ count.getD i 0 ≤ (k : Int)) :
    ((bump count b).length : Int) ≤ k + 1 ∧ ∀ i, 0 ≤ (bump count b).getD i 0 ∧ (bump count b).getD i 0 ≤ (k : Int) + 1 := by
  unfold bump
  split
  · rename_i hge
    refine ⟨by rw [List.length_set, List.length_append, List.length_replicate]; omega, fun i => ?_⟩
    rw [getD_set (by rw [List.length_append, List.length_replicate]; omega)]
    have h1 := grown_get (j := (b - count.length + 1).toNat) (i := i) h
    have h2 := grown_get (j := (b - count.length + 1).toNat) (i := b.toNat) h
    split <;> omega
  · rename_i hge
    refine ⟨by rw [List.length_set]; exact hl, fun i => ?_⟩
    rw [getD_set (by omega)]
    have h1 := h i
    have h2 := h b.toNat
    split <;> omega
theorem Bd.step {z : Sc} {k : Nat} (h : Bd z k) (c : Nat) : Bd (z.step c) ((k + 1 : Nat) : Int) := by
  obtain ⟨h1, h2, h3, h4, h5, h6, h7, h8⟩ := h
  have hb := bump_bnd (k := k) h1 h2 h7 h8
  unfold Sc.step
  split
  · exact ⟨by dsimp only; omega, by dsimp only; omega, by dsimp only; omega, by dsimp only; omega, by dsimp only; omega, by dsimp only; omega, by dsimp only; omega, fun i => by have := h8 i; dsimp only; omega⟩
  · split
    · exact ⟨by dsimp only; omega, by dsimp only; omega, by dsimp only; omega, by dsimp only; omega, by dsimp only; omega, by dsimp only; omega, by dsimp only; omega, fun i => by have := hb.2 i; dsimp only; omega⟩
    · exact ⟨h1, by omega, h3, by omega, h5, by omega, by omega, fun i => by have := h8 i; omega⟩
theorem scan_bnd {cs : List Nat} {i : Nat} (hi : i ≤ cs.length) : Bd (scan (cs.take i)) i := by
  induction i with
  | zero =>
    rw [List.take_zero]
    exact ⟨by decide, by decide, by decide, by decide, by decide, by decide, by decide, fun i => ⟨by simp [scan], by simp [scan]⟩⟩
  | succ i ih =>
    have hc : cs[i]? = some cs[i] := List.getElem?_eq_getElem (by omega)
    rw [scan_take hc]
    exact (ih (by omega)).step _
theorem blank_eq {c : Nat} : ((⟨#[c]⟩ : PySem.Str) == PySem.Str.ofString " ") = decide (c = 32) := by
  have e0 : PySem.Str.ofString " " = ⟨#[32]⟩ := by decide +kernel
  rw [e0]
  by_cases h : c = 32
  · subst h; decide
  · rw [decide_eq_false h, beq_eq_false_iff_ne]
    intro e
    injection e with e
    have := congrArg Array.toList e
    simp at this
    exact h this
theorem tab_eq {c : Nat} : ((⟨#[c]⟩ : PySem.Str) == PySem.Str.ofString "\t") = decide (c = 9) := by
  have e0 : PySem.Str.ofString "\t" = ⟨#[9]⟩ := by decide +kernel
  rw [e0]
  by_cases h : c = 9
  · subst h; decide
  · rw [decide_eq_false h, beq_eq_false_iff_ne]
    intro e
    injection e with e
    have := congrArg Array.toList e
    simp at this
    exact h this
theorem flat_zeros : ∀ n : Nat, (List.replicate n [(0 : Int)]).flatten = List.replicate n 0
  | 0 => rfl
  | n + 1 => by rw [List.replicate_succ, List.flatten_cons, flat_zeros n, List.replicate_succ]; rfl
/-- a Whitespace as it lies: its norm, its counts, itself, its names -/
def WsObjs (w : World) (x d tn tc : Nat) (cv : List Value) (z : Sc) (W : PySem.Str) (t k1 k2 k3 k4 k5 t1 t2 t3 : Tok) (q : Bool) : List (Addr × Obj) :=
  [(tn, { cls := .type "tuple", data := .seq #[.ref tc, .int z.b t3] }), (tc, { cls := .type "tuple", data := .seq cv.toArray }), (x, instObj 83 d),
    (d, dictOf [⟨PyData.keyHash w.params "raw", .str "raw" k1, .str W t⟩, ⟨PyData.keyHash w.params "n", .str "n" k2, .int z.n t1⟩, ⟨PyData.keyHash w.params "nt", .str "nt" k3, .int z.nt t2⟩, ⟨PyData.keyHash w.params "norm", .str "norm" k4, .ref tn⟩, ⟨PyData.keyHash w.params "is_simple", .str "is_simple" k5, .bool q⟩] 5)]
end
section
def blanks (bs : List Int) : List Nat := bs.flatMap fun k => List.replicate k.toNat 32 ++ [9]
def letters (ns : List Int) : List Nat := ns.map fun v => (66 + v).toNat
theorem blanks_cons (b : Int) (r : List Int) : blanks (b :: r) = (List.replicate b.toNat 32 ++ [9]) ++ blanks r := by
  simp [blanks]
theorem join_blks : ∀ bs : List Int, (Str.join "" (bs.map blk)).cps.toList = blanks bs
  | [] => by decide +kernel
  | [b] => by simp [Str.join, blk, blanks]
  | b :: c :: r => by
    have h := join_blks (c :: r)
    have e0 : PySem.Str.ofString "" = ⟨#[]⟩ := by decide +kernel
    rw [blanks_cons, ← h]
    show ((blk b).cps ++ (PySem.Str.ofString "").cps ++ (Str.join "" ((c :: r).map blk)).cps).toList = _
    rw [e0, Array.toList_append, Array.toList_append, blk]
    simp
theorem word_list (ns : List Int) : (wordOf ns).cps.toList = letters ns := by simp [wordOf, letters]
theorem told_list (bs ns : List Int) : (Txt.join "" (bs.map blk) ++ wordOf ns).cps.toList = blanks bs ++ letters ns := by
  show ((Txt.join "" (bs.map blk)).cps ++ (wordOf ns).cps).toList = _
  rw [Array.toList_append, word_list]
  congr 1
  show (Builtin.Str.glued _ _).cps.toList = _
  rw [StrLaws.glued_eq_join]
  exact join_blks bs
theorem whole_list (k : Int) (ns : List Int) : (blk k ++ wordOf ns).cps.toList = blanks [k] ++ letters ns := by
  show ((blk k).cps ++ (wordOf ns).cps).toList = _
  rw [Array.toList_append, word_list, blk, blanks]
  simp
theorem fold_run : ∀ (n : Nat) (z : Sc), (List.replicate n 32).foldl Sc.step z = ⟨z.count, z.b + n, z.n + n, z.nt⟩
  | 0, z => by simp
  | n + 1, z => by
    rw [List.replicate_succ, List.foldl_cons, fold_run n]
    unfold Sc.step
    rw [if_pos rfl]
    simp only [Sc.mk.injEq]
    refine ⟨trivial, ?_, ?_, trivial⟩ <;> push_cast <;> omega
theorem fold_blanks : ∀ (bs : List Int) (z : Sc), (∀ k ∈ bs, 0 ≤ k) → z.b = 0 → (blanks bs).foldl Sc.step z = ⟨bs.foldl bump z.count, 0, z.n + (blanks bs).length, z.nt + bs.length⟩
  | [], z, _, h => by
    obtain ⟨a, b, c, d⟩ := z
    simp only at h
    subst h
    simp [blanks]
  | k :: r, z, hk, h => by
    obtain ⟨a, b, c, d⟩ := z
    simp only at h
    subst h
    have h0 := hk k List.mem_cons_self
    rw [blanks_cons, List.foldl_append, List.foldl_append, fold_run]
    have e : [9].foldl Sc.step ⟨a, 0 + (k.toNat : Int), c + (k.toNat : Int), d⟩ = ⟨bump a k, 0, c + (k.toNat : Int) + 1, d + 1⟩ := by
      simp only [List.foldl_cons, List.foldl_nil, Sc.step]
      rw [if_neg (by decide), if_pos trivial, show (0 : Int) + (k.toNat : Int) = k from by omega]
    rw [e, fold_blanks r _ (fun k hk' => hk k (List.mem_cons_of_mem _ hk')) rfl]
    simp only [List.foldl_cons, Sc.mk.injEq, List.length_append, List.length_replicate, List.length_cons, List.length_nil]
    refine ⟨trivial, trivial, ?_, ?_⟩ <;> push_cast <;> omega
theorem scan_blanks {bs : List Int} (h : ∀ k ∈ bs, 0 ≤ k) : scan (blanks bs) = ⟨bs.foldl bump [], 0, (blanks bs).length, bs.length⟩ := by
  unfold scan
  rw [fold_blanks bs _ h rfl]
  simp
theorem blanks_mem {bs : List Int} {c : Nat} (h : c ∈ blanks bs) : c = 32 ∨ c = 9 := by
  unfold blanks at h
  rw [List.mem_flatMap] at h
  obtain ⟨k, _, h⟩ := h
  rcases List.mem_append.mp h with h | h
  · exact .inl (List.mem_replicate.mp h).2
  · exact .inr (List.mem_singleton.mp h)
theorem blanks_len {bs : List Int} (h : ∀ k ∈ bs, k ≤ 10) : (blanks bs).length ≤ bs.length * 11 := by
  induction bs with
  | nil => exact Nat.le_refl _
  | cons k r ih =>
    have h1 := h k List.mem_cons_self
    have h2 := ih fun k hk => h k (List.mem_cons_of_mem _ hk)
    rw [blanks_cons, List.length_append, List.length_append, List.length_replicate, List.length_cons, List.length_nil, List.length_cons]
    omega
theorem text_facts {W : PySem.Str} {bs ns : List Int} (hW : W.cps.toList = blanks bs ++ letters ns) (hbs : ∀ k ∈ bs, 0 ≤ k ∧ k ≤ 10) (hbl : bs.length ≤ 10) (hns : ns.length ≤ 11) (hn0 : 0 < ns.length)
    (hvs : ∀ (i : Nat) (v : Int), ns[i]? = some v → 0 ≤ v ∧ v < 11) :
    W.cps.all (· < 128) = true ∧ W.cps.size ≤ 1000 ∧ (∀ j, j < (blanks bs).length → W.cps[j]? = some 32 ∨ W.cps[j]? = some 9) ∧
      (∃ c, W.cps[(blanks bs).length]? = some c ∧ c ≠ 32 ∧ c ≠ 9) ∧ W.cps.toList.take (blanks bs).length = blanks bs := by
  refine ⟨?_, ?_, ?_, ?_, ?_⟩
  · rw [Array.all_eq_true']
    intro x hx
    rw [← Array.mem_toList_iff, hW] at hx
    rcases List.mem_append.mp hx with hx | hx
    · rcases blanks_mem hx with rfl | rfl <;> decide
    · obtain ⟨v, hv, rfl⟩ := List.mem_map.mp hx
      obtain ⟨i, hi⟩ := List.getElem?_of_mem hv
      have := hvs i v hi
      simp only [decide_eq_true_eq]
      omega
  · rw [← Array.length_toList, hW, List.length_append]
    have := blanks_len fun k hk => (hbs k hk).2
    simp only [letters, List.length_map]
    omega
  · intro j hj
    rw [← Array.getElem?_toList, hW, List.getElem?_append_left hj, List.getElem?_eq_getElem hj]
    rcases blanks_mem (List.getElem_mem hj) with h | h <;> rw [h]
    · exact .inl rfl
    · exact .inr rfl
  · obtain ⟨v, t, rfl⟩ : ∃ v t, ns = v :: t := by
      cases ns with
      | nil => exact absurd hn0 (Nat.lt_irrefl _)
      | cons v t => exact ⟨v, t, rfl⟩
    have hv := hvs 0 v rfl
    refine ⟨(66 + v).toNat, ?_, ?_, ?_⟩
    · rw [← Array.getElem?_toList, hW, List.getElem?_append_right (Nat.le_refl _), Nat.sub_self]
      rfl
    · omega
    · omega
  · rw [hW, List.take_left']
    rfl
/-- a Whitespace of these runs lies in the ledger -/
def HasWs (w : World) (nw : List (Addr × Obj)) (x : Nat) (bs : List Int) : Prop := ∃ (d tn tc : Nat) (cv : List Value) (W : PySem.Str) (t k1 k2 k3 k4 k5 t1 t2 t3 : Tok) (q : Bool) (n : Int),
  (∀ e ∈ WsObjs w x d tn tc cv ⟨bs.foldl bump [], 0, n, bs.length⟩ W t k1 k2 k3 k4 k5 t1 t2 t3 q, e ∈ nw) ∧ IntsAre cv (bs.foldl bump [])
theorem HasWs.mono {w : World} {nw nw' : List (Addr × Obj)} {x : Nat} {bs : List Int} (h : HasWs w nw x bs) (hs : ∀ e ∈ nw, e ∈ nw') : HasWs w nw' x bs := by
  obtain ⟨d, tn, tc, cv, W, t, k1, k2, k3, k4, k5, t1, t2, t3, q, n, h1, h2⟩ := h
  exact ⟨d, tn, tc, cv, W, t, k1, k2, k3, k4, k5, t1, t2, t3, q, n, fun e he => hs e (h1 e he), h2⟩
theorem news_flip {h₀ h : Heap} {L : Addr} {a b : List (Addr × Obj)} (N : News h₀ L h (a ++ b)) : News h₀ L h (b ++ a) :=
  fun q hq => N q ((List.mem_append.mp hq).elim (fun h => List.mem_append_right _ h) fun h => List.mem_append_left _ h)
theorem glued_len (ys : List PySem.Str) : (Txt.join "" ys).length ≤ (ys.map (·.length)).sum := by
  have h := StrLaws.join_length_le "" ys
  have e0 : (PySem.Str.ofString "").length = 0 := by decide +kernel
  rw [e0] at h
  show (Builtin.Str.glued _ _).length ≤ _
  rw [StrLaws.glued_eq_join]
  omega
theorem news_into7 {h₀ h : Heap} {L : Addr} {a b : List (Addr × Obj)} {p1 p2 p3 p4 p5 p6 p7 : Addr × Obj} (N : News h₀ L h (a ++ (p1 :: p2 :: p3 :: p4 :: p5 :: p6 :: p7 :: b))) :
    News h₀ L h (p1 :: p2 :: p3 :: p4 :: p5 :: p6 :: p7 :: (a ++ b)) := fun q hq => N q (by
  simp only [List.mem_append, List.mem_cons] at hq ⊢
  rcases hq with h | h | h | h | h | h | h | h | h <;> simp [h])
theorem news_tail1 {h₀ h : Heap} {L : Addr} {b : List (Addr × Obj)} {q : Addr × Obj} (N : News h₀ L h (q :: b)) : News h₀ L h b := fun e he => N e (.tail _ he)
end
section
def lawIf : List Stmt := match lawBody.getD 19 (.Pass default) with
  | .If _ body _ _ => body
  | _ => []
def pw (p s : Int) : Nat → Int
  | 0 => s
  | i + 1 => (pw p s i * s).fmod p
def ordOf (p s : Int) : Nat := ((List.range 10).find? fun i => pw p s i == 1).getD 0 + 1
abbrev OrdOk (p s : Int) : Prop := pw p s (ordOf p s - 1) = 1 ∧ (∀ i, i < ordOf p s - 1 → pw p s i ≠ 1) ∧ ordOf p s ≤ 10 ∧ 1 ≤ ordOf p s
theorem ord_ok5 : ∀ i : Nat, i < 4 → OrdOk 5 ((i : Int) + 1) := by decide +kernel
theorem ord_ok7 : ∀ i : Nat, i < 6 → OrdOk 7 ((i : Int) + 1) := by decide +kernel
theorem ord_ok11 : ∀ i : Nat, i < 10 → OrdOk 11 ((i : Int) + 1) := by decide +kernel
theorem ord_facts {p s : Int} (hp : p = 5 ∨ p = 7 ∨ p = 11) (hs : 1 ≤ s ∧ s < p) : pw p s (ordOf p s - 1) = 1 ∧ (∀ i, i < ordOf p s - 1 → pw p s i ≠ 1) ∧ ordOf p s ≤ 10 ∧ 1 ≤ ordOf p s := by
  have e : s = ((s - 1).toNat : Int) + 1 := by omega
  rw [e]
  rcases hp with rfl | rfl | rfl
  · exact ord_ok5 _ (by omega)
  · exact ord_ok7 _ (by omega)
  · exact ord_ok11 _ (by omega)
theorem pw_bnd {p s : Int} (hp : 0 < p) (hs : 0 ≤ s ∧ s < p) : ∀ i, 0 ≤ pw p s i ∧ pw p s i < p
  | 0 => hs
  | i + 1 => (fdiv_fmod_facts _ p).2.2.1 hp
/-- the values are a straight line -/
def Aff (p : Int) (ns : List Int) : Prop := ns = (rangeKs 0 (p - 0).toNat).map fun k => ((ns.getD 1 0 - ns.getD 0 0).fmod p * k + ns.getD 0 0).fmod p
open Classical in
noncomputable def powersOf (p : Int) (ns : List Int) : Nat := if Aff p ns then ordOf p ((ns.getD 1 0 - ns.getD 0 0).fmod p) else (p - 1).toNat
theorem slope_pos {p : Int} {ns : List Int} (hp : p = 5 ∨ p = 7 ∨ p = 11) (hP : PermOf p ns) : 1 ≤ (ns.getD 1 0 - ns.getD 0 0).fmod p ∧ (ns.getD 1 0 - ns.getD 0 0).fmod p < p := by
  have hl := hP.len
  have h0 := hP.bnd 0 (by omega)
  have h1 := hP.bnd 1 (by omega)
  have hi := hP.inj 0 1 (by omega) (by omega)
  have hb := (fdiv_fmod_facts (ns.getD 1 0 - ns.getD 0 0) p).2.2.1 (by omega)
  refine ⟨?_, hb.2⟩
  rcases Int.lt_or_le 0 ((ns.getD 1 0 - ns.getD 0 0).fmod p) with h | h
  · omega
  · exfalso
    have e : (ns.getD 1 0 - ns.getD 0 0).fmod p = 0 := by omega
    have hd := Int.fmod_eq_emod_of_nonneg (ns.getD 1 0 - ns.getD 0 0) (show 0 ≤ p by omega)
    rw [e] at hd
    have : ns.getD 0 0 = ns.getD 1 0 := by
      rcases hp with rfl | rfl | rfl <;> omega
    exact absurd (hi this) (by decide)
end
section
def tri (t : Int × Int × Int) : Dat := .tuple [.int t.1, .int t.2.1, .int t.2.2]
def hereOf (p k z : Int) : Int := z * (p - 1).fdiv k * (k.fdiv z + 1)
def thereOf (p z : Int) : Int := z * ((p - 1).fdiv z + 1)
def dueStep (p k z : Int) : List (Int × Int × Int) := if hereOf p k z = thereOf p z then [] else [(z, hereOf p k z, thereOf p z)]
def duesTo (p k : Int) (n : Nat) : List (Int × Int × Int) := (rangeKs 1 n).flatMap (dueStep p k)
theorem dues_zero (p k : Int) : duesTo p k 0 = [] := rfl
theorem dues_succ (p k : Int) (n : Nat) : duesTo p k (n + 1) = duesTo p k n ++ dueStep p k (1 + (n : Int)) := by
  have e : rangeKs 1 (n + 1) = rangeKs 1 n ++ [1 + (n : Int)] := by
    unfold rangeKs
    rw [List.range_succ, List.map_append]
    rfl
  unfold duesTo
  rw [e, List.flatMap_append]
  simp
theorem dues_len (p k : Int) : ∀ n, (duesTo p k n).length ≤ n
  | 0 => Nat.le_refl _
  | n + 1 => by
    have := dues_len p k n
    rw [dues_succ, List.length_append, dueStep]
    split <;> simp <;> omega
theorem powers_bnd {p : Int} {ns : List Int} (hp : p = 5 ∨ p = 7 ∨ p = 11) (hP : PermOf p ns) : 1 ≤ powersOf p ns ∧ powersOf p ns ≤ 10 := by
  unfold powersOf
  split
  · have := ord_facts hp (slope_pos hp hP)
    exact ⟨this.2.2.2, this.2.2.1⟩
  · omega
def AllNe (a : Nat) (l : List (Addr × Obj)) : Prop := ∀ q ∈ l, q.1 ≠ a
theorem due_news {h₀ h : Heap} {L D ld : Nat} {o : Obj} {dv : List Value} {v : Value} {n : Nat} {q : Addr × Obj} {nw own : List (Addr × Obj)} (N : News h₀ L h ((D, o) :: (ld, listOf (dv.toArray.push v) n) :: q :: (nw ++ own))) :
    News h₀ L h (((ld, listOf (dv ++ [v]).toArray n) :: q :: ((D, o) :: nw)) ++ own) := by
  have e : dv.toArray.push v = (dv ++ [v]).toArray := by simp
  rw [e] at N
  intro z hz
  apply N
  simp only [List.mem_append, List.mem_cons, List.cons_append] at hz ⊢
  rcases hz with h | h | h | h | h <;> simp [h]
theorem due_own {D ld L : Nat} {o o1 : Obj} {nw own : List (Addr × Obj)} {v : Obj} {v' : Obj} (h : OwnOff own (((ld, v) :: (L + 1, o1) :: nw).map (·.1))) (hl : AllLt D (nw ++ own)) : OwnOff own (((ld, v') :: (L + 1, o1) :: ((D, o) :: nw)).map (·.1)) := by
  intro p hp b hb
  rw [List.map_cons, List.map_cons, List.map_cons] at hb
  rcases List.mem_cons.mp hb with rfl | hb
  · exact h p hp _ (.head _)
  rcases List.mem_cons.mp hb with rfl | hb
  · exact h p hp _ (.tail _ (.head _))
  rcases List.mem_cons.mp hb with rfl | hb
  · exact Nat.ne_of_lt (allLt_lt hl p (List.mem_append_right _ hp))
  · exact h p hp _ (.tail _ (.tail _ hb))
theorem dat_snoc {nw : List (Addr × Obj)} {dv : List Value} {D : Nat} {a b c : Int} {t1 t2 t3 : Tok} {ts : List (Int × Int × Int)} (h : DatAll nw dv (ts.map tri)) :
    DatAll ((D, { cls := .type "tuple", data := .seq #[.int a t1, .int b t2, .int c t3] }) :: nw) (dv ++ [.ref D]) ((ts ++ [(a, b, c)]).map tri) := by
  rw [List.map_append]
  exact (h.mono fun p hp => .tail _ hp).append (.one (.tuple (vs := [.int a t1, .int b t2, .int c t3]) (.head _) (.cons (.int a t1) (.cons (.int b t2) (.cons (.int c t3) .nil)))))
theorem news_one {h₀ h : Heap} {L : Nat} {q1 q2 : Addr × Obj} {nw a : List (Addr × Obj)} (N : News h₀ L h (q1 :: q2 :: nw)) (ha : ∀ e ∈ a, e ∈ nw) : News h₀ L h (q1 :: q2 :: (a ++ nw)) := fun z hz => by
  rcases List.mem_cons.mp hz with rfl | hz
  · exact N _ (.head _)
  rcases List.mem_cons.mp hz with rfl | hz
  · exact N _ (.tail _ (.head _))
  rcases List.mem_append.mp hz with hz | hz
  · exact N _ (.tail _ (.tail _ (ha z hz)))
  · exact N _ (.tail _ (.tail _ hz))
theorem news_both {h₀ h : Heap} {L : Nat} {q1 q2 : Addr × Obj} {nw a b : List (Addr × Obj)} (N : News h₀ L h (q1 :: q2 :: nw)) (ha : ∀ e ∈ a, e ∈ nw) (hb : ∀ e ∈ b, e ∈ nw) : News h₀ L h (q1 :: q2 :: (a ++ (b ++ nw))) :=
  news_one (news_one N hb) fun e he => List.mem_append_right _ (ha e he)
theorem news_drop4 {h₀ h : Heap} {L : Nat} {a b c d : Addr × Obj} {nw : List (Addr × Obj)} (N : News h₀ L h (a :: b :: c :: d :: nw)) : News h₀ L h nw := fun z hz => N z (.tail _ (.tail _ (.tail _ (.tail _ hz))))
def longOf (bs : List Int) : Int := max (((bs.foldl bump []).length : Int) - 1) 0
def ilTo (ct : List Int) (ts : Int) : Nat → Int
  | 0 => 0
  | i + 1 => ilTo ct ts i + (ts + (i : Int)).fdiv ts * ct.getD (ts + (i : Int)).toNat 0
def indentOf (bs : List Int) (ts : Int) : Int := 0 + ts * (ilTo (bs.foldl bump []) ts (((bs.foldl bump []).length : Int) - ts).toNat + bs.length)
theorem quot_bnd {x ts : Int} (h : 0 ≤ x) (hts : 1 ≤ ts) : 0 ≤ x.fdiv ts ∧ x.fdiv ts ≤ x := by
  rw [Int.fdiv_eq_ediv_of_nonneg _ (by omega)]
  exact ⟨Int.ediv_nonneg h (by omega), Int.ediv_le_self _ h⟩
theorem mul_bnd {a b m n : Int} (ha : 0 ≤ a ∧ a ≤ m) (hb : 0 ≤ b ∧ b ≤ n) : 0 ≤ a * b ∧ a * b ≤ m * n :=
  ⟨Int.mul_nonneg ha.1 hb.1, Int.mul_le_mul ha.2 hb.2 hb.1 (by omega)⟩
theorem il_bnd {ct : List Int} {ts : Int} (hc : ∀ i, 0 ≤ ct.getD i 0 ∧ ct.getD i 0 ≤ 1000) (hts : 1 ≤ ts ∧ ts ≤ 1000) : ∀ i : Nat, i ≤ 1000 → 0 ≤ ilTo ct ts i ∧ ilTo ct ts i ≤ (i : Int) * 2000000
  | 0, _ => ⟨Int.le_refl _, Int.le_refl _⟩
  | i + 1, h => by
    have ih := il_bnd hc hts i (by omega)
    have hq := quot_bnd (x := ts + (i : Int)) (ts := ts) (by omega) hts.1
    have hm := mul_bnd (m := 2000) (n := 1000) ⟨hq.1, by omega⟩ (hc (ts + (i : Int)).toNat)
    show 0 ≤ ilTo ct ts i + _ ∧ ilTo ct ts i + _ ≤ _
    push_cast
    omega
def witStep (b1 b2 : List Int) (z : Int) : List (Int × Int × Int) := if indentOf b1 z = indentOf b2 z then [] else [(z, indentOf b1 z, indentOf b2 z)]
def witTo (b1 b2 : List Int) (n : Nat) : List (Int × Int × Int) := (rangeKs 1 n).flatMap (witStep b1 b2)
theorem wit_succ (b1 b2 : List Int) (n : Nat) : witTo b1 b2 (n + 1) = witTo b1 b2 n ++ witStep b1 b2 (1 + (n : Int)) := by
  have e : rangeKs 1 (n + 1) = rangeKs 1 n ++ [1 + (n : Int)] := by
    unfold rangeKs
    rw [List.range_succ, List.map_append]
    rfl
  unfold witTo
  rw [e, List.flatMap_append]
  simp
theorem wit_len (b1 b2 : List Int) : ∀ n, (witTo b1 b2 n).length ≤ n
  | 0 => Nat.le_refl _
  | n + 1 => by
    have := wit_len b1 b2 n
    rw [wit_succ, List.length_append, witStep]
    split <;> simp <;> omega
/-- what a list of runs must be for the walk of its Whitespace -/
structure Sane (bs : List Int) : Prop where
  len : (bs.foldl bump []).length ≤ 500
  cnt : ∀ i, 0 ≤ (bs.foldl bump []).getD i 0 ∧ (bs.foldl bump []).getD i 0 ≤ 1000
  runs : bs.length ≤ 1000
theorem news_both0 {h₀ h : Heap} {L : Nat} {nw a b : List (Addr × Obj)} (N : News h₀ L h nw) (ha : ∀ e ∈ a, e ∈ nw) (hb : ∀ e ∈ b, e ∈ nw) : News h₀ L h (a ++ (b ++ nw)) := fun z hz => by
  rcases List.mem_append.mp hz with hz | hz
  · exact N z (ha z hz)
  rcases List.mem_append.mp hz with hz | hz
  · exact N z (hb z hz)
  · exact N z hz
section
variable {h₀ h : Heap} {L D ld : Nat} {o : Obj} {dv : List Value} {v : Value} {n : Nat} {p1 p2 p3 p4 p5 p6 p7 p8 : Addr × Obj} {nw own : List (Addr × Obj)}
theorem wit_news (N : News h₀ L h ((D, o) :: (ld, listOf (dv.toArray.push v) n) :: p1 :: p2 :: p3 :: p4 :: p5 :: p6 :: p7 :: p8 :: (nw ++ own))) :
    News h₀ L h (((ld, listOf (dv ++ [v]).toArray n) :: ((D, o) :: nw)) ++ own) := by
  have e : dv.toArray.push v = (dv ++ [v]).toArray := by simp
  rw [e] at N
  intro z hz
  apply N
  simp only [List.mem_append, List.mem_cons, List.cons_append] at hz ⊢
  rcases hz with h | h | h | h <;> simp [h]
theorem wit_news0 {q : Addr × Obj} (N : News h₀ L h (q :: p1 :: p2 :: p3 :: p4 :: p5 :: p6 :: p7 :: p8 :: (nw ++ own))) : News h₀ L h ((q :: nw) ++ own) := by
  intro z hz
  apply N
  simp only [List.mem_append, List.mem_cons, List.cons_append] at hz ⊢
  rcases hz with h | h | h <;> simp [h]
theorem news_mid {q : Addr × Obj} {a z : List (Addr × Obj)} (N : News h₀ L h (q :: z)) (ha : ∀ e ∈ a, e ∈ z) : News h₀ L h (q :: (a ++ z)) := fun e he => by
  rcases List.mem_cons.mp he with rfl | he
  · exact N _ (.head _)
  rcases List.mem_append.mp he with he | he
  · exact N _ (.tail _ (ha e he))
  · exact N _ (.tail _ he)
theorem wit_own {v1 v2 : Obj} (h : OwnOff own (((ld, v1) :: nw).map (·.1))) (hl : AllLt D (nw ++ own)) : OwnOff own (((ld, v2) :: ((D, o) :: nw)).map (·.1)) := by
  intro p hp b hb
  rw [List.map_cons, List.map_cons] at hb
  rcases List.mem_cons.mp hb with rfl | hb
  · exact h p hp _ (.head _)
  rcases List.mem_cons.mp hb with rfl | hb
  · exact Nat.ne_of_lt (allLt_lt hl p (List.mem_append_right _ hp))
  · exact h p hp _ (.tail _ hb)
end
theorem long_bnd {bs : List Int} (S : Sane bs) : 0 ≤ longOf bs ∧ longOf bs ≤ 500 := by
  have := S.len
  unfold longOf
  omega
end
section
/-- steps along the ring of p places -/
theorem ringN {p a b : Nat} (ha : a < p) (hb : b < p) : (a + p - b) % p = if b ≤ a then a - b else a + p - b := by
  split
  · rename_i h
    rw [show a + p - b = (a - b) + p from by omega, Nat.add_mod_right, Nat.mod_eq_of_lt (by omega)]
  · exact Nat.mod_eq_of_lt (by omega)
theorem ringA {p a b : Nat} (ha : a < p) (hb : b < p) : ((a + p - b) % p + b = a ∨ ((a + p - b) % p + b = a + p ∧ a < b)) := by
  rw [ringN ha hb]
  split
  · exact .inl (Nat.sub_add_cancel (by assumption))
  · exact .inr ⟨Nat.sub_add_cancel (by omega), by omega⟩
/-- there and back -/
theorem ring_back {p a b : Nat} (ha : a < p) (hb : b < p) (hab : a ≠ b) : (b + p - a) % p = p - (a + p - b) % p ∧ 1 ≤ (a + p - b) % p ∧ (a + p - b) % p < p := by
  have h := ringA ha hb
  have k := ringA hb ha
  generalize (a + p - b) % p = r at *
  generalize (b + p - a) % p = q at *
  have e : q + r = p ∧ 1 ≤ r ∧ r < p := by
    rcases h with h | h <;> rcases k with k | k
    · exact absurd (by omega) hab
    · omega
    · omega
    · omega
  exact ⟨Nat.eq_sub_of_add_eq e.1, e.2⟩
theorem ringI {p a b : Int} (ha : 0 ≤ a ∧ a < p) (hb : 0 ≤ b ∧ b < p) : (a - b) % p = if a - b < 0 then a - b + p else a - b := by
  split
  · rw [← Int.add_emod_right, Int.emod_eq_of_lt (by omega) (by omega)]
  · exact Int.emod_eq_of_lt (by omega) (by omega)
theorem gapTo_mod {p : Int} {ns : List Int} (P : PermOf p ns) {g x : Int} (hg : 1 ≤ g ∧ g < p) (hx : 0 ≤ x ∧ x < p) : gapTo p ns g x = (ns.getD ((x + g).fmod p).toNat 0 - ns.getD x.toNat 0) % p := by
  have hl := P.len
  have hy := (PyProof.Rows.fdiv_fmod_facts (x + g) p).2.2.1 (by omega)
  rw [ringI (P.bnd _ (by omega)) (P.bnd _ (by omega))]
  rfl
theorem prime_nat {p : Int} (h : p = 5 ∨ p = 7 ∨ p = 11) : p.toNat = 5 ∨ p.toNat = 7 ∨ p.toNat = 11 := by
  rcases h with rfl | rfl | rfl <;> decide
end
section
/-- a turn's end where the ledger may have grown -/
def GrowBack (h₀ : Heap) (L : Addr) (J : (Str → Option Value) → List (Addr × Obj) → Prop) (own : List (Addr × Obj)) (s₁ : Shared) (Q : Flow → Shared → Prop) (f : Flow) (s₂ : Shared) : Prop := InvPostG h₀ L J own s₁ Q f s₂
section
variable {prog : Program} {w : World} {A : Around} {E : Value → Shared → Prop} {s : Shared} {h₀ : Heap} {L : Addr} {m : Str → Option Value} {news : List (Addr × Obj)}
theorem grow_back {J : (Str → Option Value) → List (Addr × Obj) → Prop} {own : List (Addr × Obj)} {s₁ : Shared} {Q : Flow → Shared → Prop} {h' : Heap} {tk : Nat} {m' : Str → Option Value} {nx : List (Addr × Obj)}
    (F : Fr h₀ L h' m') (N : News h₀ L h' (nx ++ own)) (ho : OwnOff own (nx.map (·.1))) (hj : J m' nx) : GrowBack h₀ L J own s₁ Q .next { s₁ with heap := h', toks := tk } :=
  ⟨h', tk, m', nx ++ own, nx, rfl, F, N, fun _ hp => List.mem_append_left _ hp, fun _ hp => List.mem_append_right _ hp, ho, hj⟩
theorem range_grow {env : Env} {x : Str} {body : List Stmt} {Q : Flow → Shared → Prop} {r : Addr} {a₀ b₀ : Int} {t₀ u₀ v₀ : Tok} {n : Nat} {m₀ : Str → Option Value} (J : Nat → (Str → Option Value) → List (Addr × Obj) → Prop)
    (hh : A.handled = none) (hr : IsRange s.heap r a₀ b₀ 1 t₀ u₀ v₀) (hsmall : Builtin.Range.small a₀ b₀ 1 = true) (hn : Builtin.Range.rangeSize a₀ b₀ 1 = (n : Int)) (F : Fr h₀ env.locals s.heap m₀) (N : News h₀ env.locals s.heap news) (hj : J 0 m₀ news)
    (turn : ∀ (i : Nat) t m₁ nx h tk own, i < n → OwnOff own (nx.map (·.1)) → J i m₁ nx → Fr h₀ env.locals h (fun y => if y = x then some (.int (a₀ + (i : Int)) t) else m₁ y) → News h₀ env.locals h (nx ++ own) →
      wpAny (model prog w) A (execs body env) (GrowBack h₀ env.locals (J (i + 1)) own { s with heap := h, toks := tk } Q) E { s with heap := h, toks := tk })
    (done : ∀ m₁ nx h tk, J n m₁ nx → Fr h₀ env.locals h m₁ → News h₀ env.locals h nx → Q .next { s with heap := h, toks := tk }) :
    wpAny (model prog w) A (pyIter (.ref r)) (fun it s₂ => LoopAtV prog w A h₀ env x body Q E it s₂) E s := by
  refine wpAny_pyIter_range hr hsmall ?_
  have W : Walks prog w A s.heap.objs.size [s.heap.objs.size] [s.heap.objs.size] n (fun i v => i < n ∧ ∃ t, v = .int (a₀ + i * 1) t)
      (fun i h => IsRangeIter h s.heap.objs.size (a₀ + (i : Nat) * 1) ((n : Int) - (i : Nat)) 1) := (Walks.range hh _ a₀ 1 n).bound
  refine kdr_loop J W (fun _ h => h) (fun _ h => h) ?_ ?_ ?_ ?_ (by show IsRangeIter _ _ _ _ _; rw [hn]; simpa using Heap.get?_push_size _ rfl) (F.push _) (fun p hp => ⟨Heap.get?_push_of_some _ (N p hp).1, (N p hp).2⟩) hj ?_ ?_
  · intro i h hi b hb
    rw [List.mem_singleton.mp hb]
    exact ⟨_, hi⟩
  · intro hm
    exact absurd F.ns.lt ((List.mem_singleton.mp hm) ▸ Nat.lt_irrefl _)
  · intro b hb
    rw [List.mem_singleton.mp hb]
    exact next_is_new F
  · intro p hp hI
    exact absurd (Heap.lt_size (N p hp).1) ((List.mem_singleton.mp hI) ▸ Nat.lt_irrefl _)
  · rintro i v m₁ nx h tk own hi ⟨_, t, rfl⟩ hoff hJ F₁ N₁
    have e1 : a₀ + (i : Int) * 1 = a₀ + (i : Int) := by omega
    rw [e1] at F₁
    exact turn i t m₁ nx h tk own hi hoff hJ F₁ N₁
  · rintro m₁ nx h tk hJ F₁ N₁
    exact done m₁ nx h tk hJ F₁ N₁
end
section
variable {prog : Program} {w : World} {A : Around} {E : Value → Shared → Prop} {s : Shared} {h₀ : Heap} {L : Addr} {news : List (Addr × Obj)}
/-- the length of a tuple of ints of the ledger -/
theorem len_led {t : Addr} {vs : List Value} {ns : List Int} {Q : Value → Shared → Prop} (N : News h₀ L s.heap news) (hm : (t, ({ cls := .type "tuple", data := .seq vs.toArray } : Obj)) ∈ news) (hI : IntsAre vs ns) (hfit : (ns.length : Int) < 2 ^ 63)
    (h : ∀ t', Q (.int ns.length t') { s with toks := s.toks + 1 + 1 }) : wpAny (model prog w) A (call (.builtin "len") [.ref t]) Q E s := by
  refine len_tuple (items := vs.toArray) ⟨_, (N _ hm).1, rfl, _, rfl⟩ (by rw [List.size_toArray, hI.length]; exact hfit) ?_
  rw [List.size_toArray, hI.length]
  exact h _
/-- an item of a tuple of ints of the ledger -/
theorem item_led {value slice : Expr} {t : Addr} {vs : List Value} {ns : List Int} {k : Int} {u : Tok} {Q : Value → Shared → Prop} (N : News h₀ L s.heap news) (hm : (t, ({ cls := .type "tuple", data := .seq vs.toArray } : Obj)) ∈ news) (hI : IntsAre vs ns)
    (h0 : 0 ≤ k) (h1 : k < ns.length) (hfit : k < 2 ^ 63) (h : ∀ t, Q (.int (ns.getD k.toNat 0) t) s)
    (hs : subscripted slice false (.ref t) (.int k u) = operate [.ref t, .int k u] (getItem (.ref t) (.int k u)) := by with_unfolding_all rfl) (hg : ∀ r, letTemporaryGo value (.ref t) r = pure () := by intro _; with_unfolding_all rfl) :
    wpAny (model prog w) A (subscriptTail value slice (.ref t) (.int k u)) Q E s := item_tuple_ints ⟨_, (N _ hm).1, rfl, _, rfl⟩ hI h0 h1 hfit h hs hg
end
end
section
open PySem PySem.W PyProof.Rows PyProof.Rows.LCg PyProof.Rows.LCp
set_option maxHeartbeats 2000000
/-- three values of a tuple, as data -/
def swap3 (t : Int × Int × Int) : Int × Int × Int := (t.1, t.2.2, t.2.1)
theorem tri_in {news : List (Addr × Obj)} {v : Value} {t : Int × Int × Int} (h : DatIn news v (tri t)) :
    ∃ (a : Addr) (n : Nat) (t1 t2 t3 : Tok), v = .ref a ∧ (a, ({ cls := .type "tuple", data := .seq #[.int t.1 t1, .int t.2.1 t2, .int t.2.2 t3] n } : Obj)) ∈ news := by
  unfold tri at h
  cases h with
  | tuple hm hd =>
    cases hd with
    | cons h1 hd =>
      cases hd with
      | cons h2 hd =>
        cases hd with
        | cons h3 hd =>
          cases hd
          cases h1
          cases h2
          cases h3
          exact ⟨_, _, _, _, _, rfl, hm⟩
/-- the tuple that a turn of the comprehension makes -/
def tup3 (t : Int × Int × Int) (t1 t2 t3 : Tok) : Obj := { cls := .type "tuple", data := .seq #[.int t.1 t1, .int t.2.1 t2, .int t.2.2 t3] }
section
variable {prog : Program} {w : World} {A : Around} {E : Value → Shared → Prop} {s : Shared} {h₀ : Heap} {L : Addr} {m : Str → Option Value} {env : Env} {news : List (Addr × Obj)}
theorem trip_block {elt iter : Expr} {x y z : Str} {px py pz tp : Pos} {tk9} {scope : Scope} {cl : List (Str × Addr)} {pos : Pos} {s₂ : Shared} {ax : Nat} {dv : List Value} {nd : Nat} {ts : List (Int × Int × Int)} {RR : Value → Addr → Result → Shared → Prop}
    (hcell : ∀ q ∈ scope.names, q.2 ≠ .cell) (hkind : scope.kind = .function) (hx : scope.names.lookup x = some .local) (hy : scope.names.lookup y = some .local) (hz : scope.names.lookup z = some .local) (hxy : x ≠ y) (hxz : x ≠ z) (hyz : y ≠ z) (hh : A.handled = none)
    (F : Fr h₀ L s₂.heap m) (N : News h₀ L s₂.heap news) (hm : (ax, listOf dv.toArray nd) ∈ news) (hD : DatAll news dv (ts.map tri)) (hsz : dv.length ≤ sizeLine)
    (turn : ∀ (t : Int × Int × Int) t1 t2 t3 C h tk m₂ E', h.Ns C m₂ → m₂ x = some (.int t.1 t1) → m₂ y = some (.int t.2.1 t2) → m₂ z = some (.int t.2.2 t3) →
      wpAny (model prog w) A (eval elt (compEnvC scope cl C env)) (fun r s₃ => r = .ref h.objs.size ∧ s₃ = { s with heap := h.push (tup3 (swap3 t) t1 t3 t2), toks := tk }) E' { s with heap := h, toks := tk })
    (he : ∃ g tk, s₂ = { s with heap := g, toks := tk })
    (hRR : ∀ D C h tk m' ys nw', Fr h₀ L h m → News h₀ L h ((D, lst ys) :: nw') → AllNe D nw' → (∀ e ∈ news, e ∈ nw') → DatAll nw' ys ((ts.map swap3).map tri) → h.Ns C m' → h₀.get? C = none → C ≠ L → (∀ p ∈ (D, lst ys) :: nw', p.1 ≠ C) → RR (.ref D) C (.ok .next) { s with heap := h, toks := tk }) :
    wpAny (model prog w) A (pyIter (.ref ax)) (fun it s₃ => wpAny (model prog w) A (newList []) (fun acc s₃ => wpAny (model prog w) A (newFunctionEnv scope env.globals cl [] env.qual none .none (some env)) (fun cenv s₄ =>
      codeAny (model prog w) A (.compStart (.ListComp elt [⟨.Tuple [.Name x px, .Name y py, .Name z pz] tk9 tp, iter, [], 0⟩] scope pos) 0 it acc { cenv with scope := relabel scope env }) (RR acc cenv.locals) s₄) E s₃) E s₃) E s₂ := by
  have hl : s₂.heap.IsList ax dv.toArray := ⟨_, (N _ hm).1, rfl, _, rfl⟩
  have hax : ax < s₂.heap.objs.size := Heap.lt_size (N _ hm).1
  have hLlt : L < s₂.heap.objs.size := F.ns.lt
  refine wpAny_pyIter_list hl ?_
  obtain ⟨g₂, tk₂, rfl⟩ := he
  dsimp only at F N hl hax hLlt ⊢
  refine wpAny_newObj_type (wpAny_newFunctionEnv hcell (by intro y hy; simp at hy) (fun h₁ hns₁ hsb₁ => ?_) hkind)
  dsimp only at hns₁ hsb₁ ⊢
  generalize hG1 : g₂.push { cls := .type "list_iterator", data := .fields #[.ref ax, .int 0 0] } = G1 at hns₁ hsb₁ ⊢
  generalize hG2 : G1.push { cls := .type "list", dict := none, data := .seq ([] : List Value).toArray } = G2 at hns₁ hsb₁ ⊢
  have hI : G1.objs.size = g₂.objs.size + 1 := by rw [← hG1, Heap.size_push]
  have hC : G2.objs.size = g₂.objs.size + 1 + 1 := by rw [← hG2, Heap.size_push, hI]
  have fresh₀ : ∀ a, g₂.objs.size ≤ a → h₀.get? a = none := fun a ha => by
    cases e : h₀.get? a with
    | none => rfl
    | some o' => exact absurd (Heap.lt_size (F.keep a o' e)) (Nat.not_lt.mpr ha)
  have ltG : ∀ b : Nat, b < g₂.objs.size → b ≠ G1.objs.size ∧ b ≠ G2.objs.size ∧ G1.objs.size ≠ b ∧ G2.objs.size ≠ b := fun b hb => ⟨by omega, by omega, by omega, by omega⟩
  have nI : g₂.objs.size ≠ G2.objs.size ∧ G1.objs.size ≠ G2.objs.size := ⟨by omega, by omega⟩
  have old : ∀ b o, g₂.get? b = some o → h₁.get? b = some o := fun b o e => hsb₁.extBut b o (ltG b (Heap.lt_size e)).2.1 (Heap.get?_push_of_some _ (hG2 ▸ Heap.get?_push_of_some _ (hG1 ▸ Heap.get?_push_of_some _ e)))
  have hIat : G1.get? g₂.objs.size = some { cls := .type "list_iterator", data := .fields #[.ref ax, .int 0 0] } := hG1 ▸ Heap.get?_push_size _ rfl
  have hIat1 : h₁.get? g₂.objs.size = some { cls := .type "list_iterator", data := .fields #[.ref ax, .int 0 0] } := hsb₁.extBut _ _ nI.1 (Heap.get?_push_of_some _ (hG2 ▸ Heap.get?_push_of_some _ hIat))
  have hDat1 : h₁.get? G1.objs.size = some (lst []) := hsb₁.extBut _ _ nI.2 (Heap.get?_push_of_some _ (hG2 ▸ Heap.get?_push_size _ rfl))
  have hDI : G1.objs.size ≠ g₂.objs.size := by omega
  have hCI : G2.objs.size ≠ g₂.objs.size := by omega
  have hCD : G2.objs.size ≠ G1.objs.size := by omega
  have hD₀ := fresh₀ G1.objs.size (by omega)
  have hC₀ := fresh₀ G2.objs.size (by omega)
  have hI₀ := fresh₀ g₂.objs.size (Nat.le_refl _)
  have hDL : G1.objs.size ≠ L := (ltG L hLlt).2.2.1
  have hCL : G2.objs.size ≠ L := (ltG L hLlt).2.2.2
  have hIL : L ≠ g₂.objs.size := Nat.ne_of_lt hLlt
  have W := Walks.list hh g₂.objs.size ax (Nat.ne_of_lt hax) dv.toArray (prog := prog) (w := w)
  have hst₁ : h₁.IsListIter g₂.objs.size ax 0 ∧ h₁.IsList ax dv.toArray := ⟨⟨_, hIat1, rfl, rfl⟩, hl.at fun o e => old _ o e⟩
  have fpD : ∀ b ∈ [g₂.objs.size, ax], b ≠ G1.objs.size ∧ b ≠ G2.objs.size := fun b hb => by
    rcases List.mem_cons.mp hb with rfl | hb
    · exact ⟨hDI.symm, hCI.symm⟩
    · rw [List.mem_singleton.mp hb]
      exact ⟨(ltG ax hax).1, (ltG ax hax).2.1⟩
  have loop : ∀ s₃ : Shared, s₃ = { s with heap := h₁, toks := tk₂ + ([] : List (Str × Value)).length } →
      codeAny (model prog w) A (.compLoop (.ListComp elt [⟨.Tuple [.Name x px, .Name y py, .Name z pz] tk9 tp, iter, [], 0⟩] scope pos) 0 (.ref g₂.objs.size) (.ref G1.objs.size) (compEnvC scope cl G2.objs.size env))
        (RR (.ref G1.objs.size) G2.objs.size) s₃ := by
    rintro s₃ rfl
    refine codeAny_compLoop_pair
      (fun k s' => ∃ h' tk i ys m' nw', s' = { s with heap := h', toks := tk } ∧ i ≤ dv.length ∧ k = dv.length + 1 - i ∧ ys.length = i ∧ (h'.IsListIter g₂.objs.size ax i ∧ h'.IsList ax dv.toArray) ∧ Fr h₀ L h' m ∧ h'.Ns G2.objs.size m' ∧ News h₀ L h' ((G1.objs.size, lst ys) :: nw') ∧
        Off3 g₂.objs.size G2.objs.size G1.objs.size nw' ∧ (∀ e ∈ news, e ∈ nw') ∧ DatAll nw' ys (((ts.take i).map swap3).map tri)) ?_ (dv.length + 1)
      ⟨h₁, _, 0, [], _, news, rfl, Nat.zero_le _, rfl, rfl, ⟨⟨_, hIat1, rfl, rfl⟩, ?_⟩, F.keeps old, hns₁, fun p hp => ?_, Off3.of fun p hp => ?_, fun _ h => h, .nil⟩
    · rintro k s' ⟨h', tk, i, ys, m', nw', rfl, hi, rfl, hyl, hst', F', hn', N', off', hsub, hDy⟩
      by_cases hlt : i < dv.length
      · refine W.item i _ _ _ (by rw [List.size_toArray]; exact hlt) hst' fun v h₂ tk₂ hPv hst₂ hk₂ => ?_
        have off3 := off'.mem
        have hil : i < ts.length := by have := hD.length; rw [List.length_map] at this; omega
        obtain ⟨u, hu, hiu⟩ := hD.get (k := i) (by rw [List.length_map]; exact hil)
        have huv : u = v := by
          have e1 : dv.toArray[i]? = some v := hPv
          rw [List.getElem?_toArray, hu] at e1
          exact Option.some.inj e1
        subst huv
        rw [List.getElem_map] at hiu
        obtain ⟨t, nt, u1, u2, u3, rfl, hmt⟩ := tri_in hiu
        have N₂ : News h₀ L h₂ ((G1.objs.size, lst ys) :: nw') := news_but N' hk₂ fun p hp => by
          rcases List.mem_cons.mp hp with rfl | hp
          · exact hDI
          · exact (off3 p hp).1
        have ht : IsTup h₂ t #[.int ts[i].1 u1, .int ts[i].2.1 u2, .int ts[i].2.2 u3] := ⟨_, (N₂ _ (List.mem_cons_of_mem _ (hsub _ hmt))).1, rfl, _, rfl⟩
        refine wpAny_letOwnedTupleGo_listiter hst₂.1 ?_
        refine assign_Tuple_tuple hh ht rfl rfl fun h₅ he => ?_
        have he' : ∀ b o, h₂.get? b = some o → h₅.get? b = some o := fun b o e => he b o (Nat.ne_of_lt (Heap.lt_size e)) e
        refine assignInOrder_cons (wpAny_assign_Name (wpAny_storeName_local (lookup_relabel_local hx) ((hn'.at' fun o e => hk₂ _ o (by simpa using hCI) e).at' fun o e => he' _ o e) (fun h₆ hn₆ hs₆ => ?_) (by simp [compEnvC, relabel, hkind])))
        refine assignInOrder_cons (wpAny_assign_Name (wpAny_storeName_local (lookup_relabel_local hy) hn₆ (fun h₇ hn₇ hs₇ => ?_) (by simp [compEnvC, relabel, hkind])))
        refine assignInOrder_cons (wpAny_assign_Name (wpAny_storeName_local (lookup_relabel_local hz) hn₇ (fun h₃ hn₃ hs₃ => ?_) (by simp [compEnvC, relabel, hkind])))
        refine assignInOrder_nil ?_
        have old3 : ∀ b o, b ≠ G2.objs.size → h₂.get? b = some o → h₃.get? b = some o := fun b o hb e => hs₃.extBut b o hb (hs₇.extBut b o hb (hs₆.extBut b o hb (he' b o e)))
        have F₃ : Fr h₀ L h₃ m := ((((fr_but F' hk₂ hIL hI₀).keeps he').change hs₆ hCL hC₀).change hs₇ hCL hC₀).change hs₃ hCL hC₀
        have N₃ : News h₀ L h₃ ((G1.objs.size, lst ys) :: nw') := fun p hp => by
          have z := N₂ p hp
          refine ⟨old3 _ _ ?_ z.1, z.2⟩
          rcases List.mem_cons.mp hp with rfl | hp
          · exact nI.2
          · exact (off3 p hp).2.1
        refine wpAny_mono (turn ts[i] u1 u2 u3 G2.objs.size h₃ _ _ _ hn₃ (by simp [hxy, hxz]) (by simp [hyz]) (by simp)) (fun r s₄ h₄ => ?_) fun _ _ e => e
        obtain ⟨rfl, rfl⟩ := h₄
        have up : ∀ b o, h₃.get? b = some o → (h₃.push (tup3 (swap3 ts[i]) u1 u3 u2)).get? b = some o := fun b o e => Heap.get?_push_of_some _ e
        have F₄ := F₃.keeps up
        have N₄ : News h₀ L (h₃.push (tup3 (swap3 ts[i]) u1 u3 u2)) ((G1.objs.size, lst ys) :: nw') := fun p hp => ⟨up _ _ (N₃ p hp).1, (N₃ p hp).2⟩
        have hst₃ : h₃.IsListIter g₂.objs.size ax (i + 1) ∧ h₃.IsList ax dv.toArray := W.frame _ _ _ hst₂ fun b hb o e => old3 b o (fpD b hb).2 e
        have hDlt : G1.objs.size < h₃.objs.size := Heap.lt_size (N₃ _ (.head _)).1
        have hIlt : g₂.objs.size < h₃.objs.size := by obtain ⟨o, e, _⟩ := hst₃.1; exact Heap.lt_size e
        refine append_at (hsz := by show ys.toArray.size ≤ sizeLine; rw [List.size_toArray, hyl]; exact Nat.le_trans hi hsz) (N₄ _ (.head _)).1 fun h₈ hs₈ hD₈ => ?_
        refine ⟨dv.length + 1 - (i + 1), by omega, h₈, _, i + 1, ys ++ [.ref h₃.objs.size], _, (h₃.objs.size, tup3 (swap3 ts[i]) u1 u3 u2) :: nw', rfl, hlt, rfl, by rw [List.length_append, List.length_singleton, hyl], ?_, F₄.change hs₈ hDL hD₀, (hn₃.at' fun o e => up _ o e).sameBut hs₈ nI.2.symm, fun p hp => ?_, ?_, fun e he => .tail _ (hsub e he), ?_⟩
        · exact W.frame _ _ _ hst₃ fun b hb o e => hs₈.extBut b o (fpD b hb).1 (up b o e)
        · rcases List.mem_cons.mp hp with rfl | hp
          · exact ⟨hD₈.trans (congrArg some (lst_snoc ys _)), hDL, hD₀⟩
          rcases List.mem_cons.mp hp with rfl | hp
          · exact ⟨hs₈.extBut _ _ (Nat.ne_of_lt hDlt).symm (Heap.get?_push_size _ rfl), (Nat.ne_of_lt F₃.ns.lt).symm, next_is_new F₃⟩
          · exact ⟨hs₈.extBut _ _ (off3 p hp).2.2 (N₄ p (.tail _ hp)).1, (N₄ p (.tail _ hp)).2⟩
        · exact ⟨⟨(Nat.ne_of_lt hIlt).symm, (Nat.ne_of_lt hn₃.lt).symm, (Nat.ne_of_lt hDlt).symm⟩, off'⟩
        · have e9 : ts.take (i + 1) = ts.take i ++ [ts[i]] := by rw [List.take_add_one, List.getElem?_eq_getElem hil]; rfl
          rw [e9, List.map_append]
          exact dat_snoc hDy
      · obtain rfl : i = dv.length := Nat.le_antisymm hi (Nat.not_lt.mp hlt)
        have hdl := hD.length
        rw [List.length_map] at hdl
        rw [hdl, List.take_length] at hDy
        refine W.done _ _ _ (by rw [List.size_toArray]; exact hst') fun h₂ tk₂ hk₂ => ?_
        have off3 := off'.mem
        refine hRR _ _ h₂ tk₂ _ ys nw' (fr_but F' hk₂ hIL hI₀) (news_but N' hk₂ fun p hp => ?_) (fun q hq => (off3 q hq).2.2) hsub hDy (hn'.at' fun o e => hk₂ _ o (by simpa using hCI) e) hC₀ hCL (fun p hp => ?_)
        · rcases List.mem_cons.mp hp with rfl | hp
          · exact hDI
          · exact (off3 p hp).1
        · rcases List.mem_cons.mp hp with rfl | hp
          · exact nI.2
          · exact (off3 p hp).2.1
    · exact hst₁.2
    · rcases List.mem_cons.mp hp with rfl | hp
      · exact ⟨hDat1, hDL, hD₀⟩
      · exact ⟨old _ _ (N p hp).1, (N p hp).2⟩
    · have h9 := ltG p.1 (Heap.lt_size (N p hp).1)
      exact ⟨Nat.ne_of_lt (Heap.lt_size (N p hp).1), h9.2.1, h9.1⟩
  exact codeAny_compStart_list (loop _ rfl) (W.self 0 _ _ _ hst₁ (loop _ rfl))
theorem trip_comp {elt iter : Expr} {x y z : Str} {px py pz tp : Pos} {tk9} {scope : Scope} {cl : List (Str × Addr)} {pos : Pos} {ax : Nat} {dv : List Value} {nd : Nat} {ts : List (Int × Int × Int)} {Q : Value → Shared → Prop}
    (hclos : closureFor scope env = pure cl) (hcell : ∀ q ∈ scope.names, q.2 ≠ .cell) (hkind : scope.kind = .function) (hnames : ∀ y ∈ scope.names, y.2 = .local → scope.names.lookup y.1 = some .local) (hx : scope.names.lookup x = some .local) (hy : scope.names.lookup y = some .local) (hz : scope.names.lookup z = some .local) (hxy : x ≠ y) (hxz : x ≠ z) (hyz : y ≠ z) (hh : A.handled = none)
    (hit : wpAny (model prog w) A (eval iter env) (fun xv s₁ => xv = .ref ax ∧ s₁ = s) E s)
    (F : Fr h₀ L s.heap m) (N : News h₀ L s.heap news) (hm : (ax, listOf dv.toArray nd) ∈ news) (hD : DatAll news dv (ts.map tri)) (hsz : dv.length ≤ sizeLine)
    (turn : ∀ (t : Int × Int × Int) t1 t2 t3 C h tk m₂ E', h.Ns C m₂ → m₂ x = some (.int t.1 t1) → m₂ y = some (.int t.2.1 t2) → m₂ z = some (.int t.2.2 t3) →
      wpAny (model prog w) A (eval elt (compEnvC scope cl C env)) (fun r s₃ => r = .ref h.objs.size ∧ s₃ = { s with heap := h.push (tup3 (swap3 t) t1 t3 t2), toks := tk }) E' { s with heap := h, toks := tk })
    (fin : ∀ (D : Nat) ys nw' h tk, Fr h₀ L h m → News h₀ L h ((D, lst ys) :: nw') → AllNe D nw' → (∀ e ∈ news, e ∈ nw') → DatAll nw' ys ((ts.map swap3).map tri) → Q (.ref D) { s with heap := h, toks := tk })
    (hs : ∀ x, foldedSetIterable iter env x = pure x := by intro _; rfl) :
    wpAny (model prog w) A (eval (.ListComp elt [⟨.Tuple [.Name x px, .Name y py, .Name z pz] tk9 tp, iter, [], 0⟩] scope pos) env) Q E s := by
  rw [eval_ListComp]
  refine wpAny_comprehension_free (use := none) rfl hs hclos hkind hnames (wpAny_mono hit (fun xv s₁ h₁ => ?_) fun _ _ e => e)
  obtain ⟨rfl, rfl⟩ := h₁
  refine trip_block hcell hkind hx hy hz hxy hxz hyz hh F N hm hD hsz turn ⟨_, _, rfl⟩ ?_
  intro D C h tk m' ys nw' F' N' o1 hsub hDy hn hC₀ hCL hoff
  refine ⟨m', hn, fun h'' hs'' => fin D ys nw' h'' tk (F'.change hs'' hCL hC₀) (fun p hp => ?_) o1 hsub hDy⟩
  exact ⟨hs''.extBut _ _ (hoff p hp) (N' p hp).1, (N' p hp).2⟩
theorem eval_stop {e : Expr} {Q : Value → Shared → Prop} (h : Stop (wpAny (model prog w) A (eval e env) Q E s)) : wpAny (model prog w) A (eval e env) Q E s := h
end
theorem news_ten {h₀ h : Heap} {L : Nat} {q p1 p2 p3 p4 p5 p6 p7 p8 p9 p10 : Addr × Obj} {nw z : List (Addr × Obj)} (N : News h₀ L h (q :: z)) (hs : ∀ e ∈ p1 :: p2 :: p3 :: p4 :: p5 :: p6 :: p7 :: p8 :: p9 :: p10 :: nw, e ∈ z) : News h₀ L h (q :: p1 :: p2 :: p3 :: p4 :: p5 :: p6 :: p7 :: p8 :: p9 :: p10 :: z) :=
  news_mid (a := [p1, p2, p3, p4, p5, p6, p7, p8, p9, p10]) N fun e he => hs e (List.mem_append_left nw he)
theorem tri_ok {ts : List (Int × Int × Int)} : ∀ d ∈ ts.map tri, kqdOk 8 d = true := fun d hd => by
  obtain ⟨t, _, rfl⟩ := List.mem_map.mp hd
  rfl
section
variable {prog : Program} {w : World} {A : Around} {E : Value → Shared → Prop} {s : Shared} {h₀ : Heap} {L a b : Addr} {news n₁ n₂ : List (Addr × Obj)} {oa ob : Obj} {xs ys : List Value} {ka kb : Nat} {ds es : List Dat} {Q : Value → Shared → Prop}
theorem ne_same (N : News h₀ L s.heap news) (ma : (a, oa) ∈ news) (ca : oa.cls = .type "list") (da : oa.data = .seq xs.toArray ka) (Da : DatAll n₁ xs ds) (sa : ∀ p ∈ n₁, p ∈ news)
    (mb : (b, ob) ∈ news) (cb : ob.cls = .type "list") (db : ob.data = .seq ys.toArray kb) (Db : DatAll n₂ ys es) (sb : ∀ p ∈ n₂, p ∈ news)
    (ha : ∀ d ∈ ds, kqdOk 8 d = true) (hb : ∀ d ∈ es, kqdOk 8 d = true) (hu : A.units + 64 < cLine) (he : ds = es) (h : Q (.bool false) s) : wpAny (model prog w) A (compareOp .NotEq (.ref a) (.ref b)) Q E s :=
  kqd_ne N ma ca da Da sa mb cb db Db sb ha hb hu (by subst he; simpa using h)
theorem eq_same (N : News h₀ L s.heap news) (ma : (a, oa) ∈ news) (ca : oa.cls = .type "list") (da : oa.data = .seq xs.toArray ka) (Da : DatAll n₁ xs ds) (sa : ∀ p ∈ n₁, p ∈ news)
    (mb : (b, ob) ∈ news) (cb : ob.cls = .type "list") (db : ob.data = .seq ys.toArray kb) (Db : DatAll n₂ ys es) (sb : ∀ p ∈ n₂, p ∈ news)
    (ha : ∀ d ∈ ds, kqdOk 8 d = true) (hb : ∀ d ∈ es, kqdOk 8 d = true) (hu : A.units + 64 < cLine) (he : ds = es) (h : Q (.bool true) s) : wpAny (model prog w) A (compareOp .Eq (.ref a) (.ref b)) Q E s :=
  kqd_eq N ma ca da Da sa mb cb db Db sb ha hb hu (by subst he; simpa using h)
end
theorem cmp_stop {M : Model} {A : Around} {op : CmpOp} {a b : Value} {Q E : Value → Shared → Prop} {s : Shared} (h : Stop (wpAny M A (compareOp op a b) Q E s)) : wpAny M A (compareOp op a b) Q E s := h
theorem news_drop6 {h₀ h : Heap} {L : Nat} {a b c d e f g : Addr × Obj} {nw : List (Addr × Obj)} (N : News h₀ L h (a :: b :: c :: d :: e :: f :: g :: nw)) : News h₀ L h (g :: nw) := fun z hz => N z (.tail _ (.tail _ (.tail _ (.tail _ (.tail _ (.tail _ hz))))))
end
section
theorem fresh_St01 : True := by w_top off; exact trivial
section
variable {w : World} {mean : ExcName → Option Value} {mg mb : Str → Option Value} {s : Shared} {h₀ : Heap} {a : Addr} {cd : Value} {m : Str → Option Value} {Q : Flow → Shared → Prop}
  {L : Nat} {lc : Nat} {vs : List Value} {ns : List Int} {n : Nat} {o1 o2 o3 o4 o5 : Obj} {rest : List Stmt} {l : Nat}
set_option maxRecDepth 100000 in
set_option maxHeartbeats 8000000 in
theorem st01 (B : Below callerA h₀ [] h₀) (KX : (hd.heap_39 w.params).In h₀) (T : Top hd.view_39 (looseW hd.view_39 ["Whitespace"]) mean mg mb h₀)
  (F : Fr h₀ L s.heap m) (hL : h₀.IsList l vs.toArray) (hI : IntsAre vs ns) (hs : m "script" = some (.ref l)) (hlen : ns.length ≤ 63)
  (N : News h₀ L s.heap [(L + 1 + 1 + 1 + 1 + 1, o5), (L + 1 + 1 + 1 + 1, o4), (L + 1 + 1 + 1, o3), (L + 1 + 1, o2), (L + 1, o1)])
  (hk : ∀ (lc : Nat) vs cs n m' h' tk', (L + 1 + 1 + 1 + 1 + 1 < lc ∧ L + 1 + 1 + 1 + 1 < lc ∧ L + 1 + 1 + 1 < lc ∧ L + 1 + 1 < lc ∧ L + 1 < lc) → Fr h₀ L h' m' → m' "cells" = some (.ref lc) →
    News h₀ L h' [(lc, listOf vs.toArray n), (L + 1 + 1 + 1 + 1 + 1, o5), (L + 1 + 1 + 1 + 1, o4), (L + 1 + 1 + 1, o3), (L + 1 + 1, o2), (L + 1, o1)] →
    IntsAre vs cs → cs.length = 6 → (∀ c ∈ cs, 0 ≤ c ∧ c ≤ 18000032) →
    wpAny (model Challenge.rw_wj0023_01.row.prog w) (callerA.deeper (envOfC "law" lawScope L a cd)) (execs rest (envOfC "law" lawScope L a cd)) Q (fun _ _ => False) { s with heap := h', toks := tk' }) :
  wpAny (model Challenge.rw_wj0023_01.row.prog w) (callerA.deeper (envOfC "law" lawScope L a cd)) (execs (lawBody.getD 0 (.Pass default) :: lawBody.getD 1 (.Pass default) :: rest) (envOfC "law" lawScope L a cd)) Q (fun _ _ => False) s := by
  revert KX; k_fill; intro KX
  replace F := pin F hs
  conv => arg 3; arg 1; arg 1; whnf
  conv => arg 3; arg 1; arg 2; arg 1; whnf
  k_steps
  rename News _ _ _ _ => N'
  rename Fr _ _ _ _ => F'
  rename IntsAre _ (List.take 18 _) => hI8
  rename_i lc' _ hlc _ D' _ _ _ hlt _
  refine enum_led (by rfl) (IntsAre.areOf hI8) F' N' (by k_all) (fun h' e F1 N1 S => ?_)
  refine pair_inv S rfl (fun i m' nw => ∃ vs cs n, nw = (lc', listOf vs.toArray n) :: [(L + 1 + 1 + 1 + 1 + 1, o5), (L + 1 + 1 + 1 + 1, o4), (L + 1 + 1 + 1, o3), (L + 1 + 1, o2), (L + 1, o1)] ∧ IntsAre vs cs ∧ cs.length = 6 ∧ (∀ c ∈ cs, 0 ≤ c ∧ c ≤ 32 + i * 1000000) ∧ m' "cells" = some (.ref lc')) ?_ ?_ ?_
  · refine ⟨_, [21, 19, 10, 24, 6, 32], _, rfl, ?_, rfl, by decide, rfl⟩
    repeat constructor
  · rintro i x t v m₁ nx h tk own hx hv ⟨vs', cs, n', rfl, hI', h6, hb, hc⟩ _ hown F2 N2
    obtain ⟨tx, rfl⟩ := ItemKind.int_is hv
    have hix : i < 18 := by have := List.getElem?_eq_some_iff.mp hx; obtain ⟨h1, _⟩ := this; rw [List.length_take] at h1; omega
    have F3 := pin (x := "cells") (v := .ref lc') F2 (Eq.trans (by rfl) hc)
    clear F2
    simp only [List.cons_append, List.nil_append] at N2
    k_steps
    rename News _ _ _ _ => N4
    rename Fr _ _ _ _ => F4
    refine inv_end F4 (nx := _ :: [_, _, _, _, _]) N4 rfl ?_
    refine ⟨_, _, _, rfl, by assumption, by rw [List.length_set]; exact h6, ?_, rfl⟩
    intro c hc2
    rcases List.mem_or_eq_of_mem_set hc2 with h | h
    · have := hb c h; omega
    · have h6' := fdiv_fmod_facts (i : Int) 6
      have hm := getD_of_all hb (k := ((i : Int).fmod 6).toNat) (by omega)
      subst h
      have h7 := (fdiv_fmod_facts x (10 ^ Int.toNat 6)).2.2.1 (by decide)
      have e8 : (10 : Int) ^ Int.toNat 6 = 1000000 := by decide
      rw [e8] at h7 ⊢
      omega
  · rintro h' tk m' nw F2 N2 _ ⟨vs', cs, n', rfl, hI', h6, hb, hc⟩
    refine hk _ _ _ _ _ _ _ hlc F2 hc N2 hI' h6 (fun c hc => ⟨(hb c hc).1, ?_⟩)
    have := (hb c hc).2
    rw [List.length_take] at this
    omega
end
end
section
theorem fresh_St2 : True := by w_top off; exact trivial
section
variable {w : World} {mean : ExcName → Option Value} {mg mb : Str → Option Value} {s : Shared} {h₀ : Heap} {a : Addr} {cd : Value} {m : Str → Option Value} {Q : Flow → Shared → Prop}
  {L lc lv ls : Nat} {vs ys us : List Value} {cs ns xs : List Int} {n n2 n3 : Nat} {o1 o2 o3 o4 o5 : Obj} {rest : List Stmt} {p f sh : Int} {t1 t2 t3 t4 : Tok}
set_option maxRecDepth 100000 in
set_option maxHeartbeats 8000000 in
theorem st2 (B : Below callerA h₀ [] h₀) (KX : (hd.heap_39 w.params).In h₀) (T : Top hd.view_39 (looseW hd.view_39 ["Whitespace"]) mean mg mb h₀)
  (F : Fr h₀ L s.heap m) (hm : m "cells" = some (.ref lc)) (N : News h₀ L s.heap [(lc, listOf vs.toArray n), (L + 1 + 1 + 1 + 1 + 1, o5), (L + 1 + 1 + 1 + 1, o4), (L + 1 + 1 + 1, o3), (L + 1 + 1, o2), (L + 1, o1)]) (hlc : (L + 1 + 1 + 1 + 1 + 1 < lc ∧ L + 1 + 1 + 1 + 1 < lc ∧ L + 1 + 1 + 1 < lc ∧ L + 1 + 1 < lc ∧ L + 1 < lc)) (c1 : o1.data = .cell none)
  (hI : IntsAre vs cs) (h6 : cs.length = 6) (hb : ∀ c ∈ cs, 0 ≤ c ∧ c ≤ 18000032)
  (hk : ∀ (p : Int) t o1 m' h' tk', p = 5 ∨ p = 7 ∨ p = 11 → Fr h₀ L h' m' → m' "cells" = some (.ref lc) → News h₀ L h' [(lc, listOf vs.toArray n), (L + 1 + 1 + 1 + 1 + 1, o5), (L + 1 + 1 + 1 + 1, o4), (L + 1 + 1 + 1, o3), (L + 1 + 1, o2), (L + 1, o1)] → o1.data = .cell (some (.int p t)) →
    wpAny (model Challenge.rw_wj0023_01.row.prog w) (callerA.deeper (envOfC "law" lawScope L a cd)) (execs (rest) (envOfC "law" lawScope L a cd)) Q (fun _ _ => False) { s with heap := h', toks := tk' }) :
  wpAny (model Challenge.rw_wj0023_01.row.prog w) (callerA.deeper (envOfC "law" lawScope L a cd)) (execs (lawBody.getD 2 (.Pass default) :: rest) (envOfC "law" lawScope L a cd)) Q (fun _ _ => False) s := by
  revert KX; k_fill; intro KX
  replace F := pin F hm
  conv => arg 3; arg 1; arg 1; whnf
  k_steps
  all_goals (rename News _ _ _ _ => N'; rename Fr _ _ _ _ => F')
  · exact hk 7 _ _ _ _ _ (by decide) F' rfl (news_sub N' fun _ hp => .tail _ hp) (by assumption)
  · exact hk 11 _ _ _ _ _ (by decide) F' rfl (news_sub N' fun _ hp => .tail _ hp) (by assumption)
  · exact hk 5 _ _ _ _ _ (by decide) F' rfl (news_sub N' fun _ hp => .tail _ hp) (by assumption)
end
end
section
theorem fresh_St345 : True := by w_top off; exact trivial
section
variable {w : World} {mean : ExcName → Option Value} {mg mb : Str → Option Value} {s : Shared} {h₀ : Heap} {a : Addr} {cd : Value} {m : Str → Option Value} {Q : Flow → Shared → Prop}
  {L lc lv ls : Nat} {vs ys us : List Value} {cs ns xs : List Int} {n n2 n3 : Nat} {o1 o2 o3 o4 o5 : Obj} {rest : List Stmt} {p f sh : Int} {t1 t2 t3 t4 : Tok}
set_option maxRecDepth 100000 in
set_option maxHeartbeats 8000000 in
theorem st345 (B : Below callerA h₀ [] h₀) (KX : (hd.heap_39 w.params).In h₀) (T : Top hd.view_39 (looseW hd.view_39 ["Whitespace"]) mean mg mb h₀)
  (F : Fr h₀ L s.heap m) (hm : m "cells" = some (.ref lc)) (N : News h₀ L s.heap [(lc, listOf vs.toArray n), (L + 1 + 1 + 1 + 1 + 1, o5), (L + 1 + 1 + 1 + 1, o4), (L + 1 + 1 + 1, o3), (L + 1 + 1, o2), (L + 1, o1)]) (hlc : (L + 1 + 1 + 1 + 1 + 1 < lc ∧ L + 1 + 1 + 1 + 1 < lc ∧ L + 1 + 1 + 1 < lc ∧ L + 1 + 1 < lc ∧ L + 1 < lc)) (c1 : o1.data = .cell (some (.int p t1))) (c2 : o2.data = .cell none) (c3 : o3.data = .cell none) (c4 : o4.data = .cell none)
  (hI : IntsAre vs cs) (h6 : cs.length = 6) (hb : ∀ c ∈ cs, 0 ≤ c ∧ c ≤ 18000032) (hp : p = 5 ∨ p = 7 ∨ p = 11)
  (hk : ∀ (f sh : Int) (lv : Nat) ys n2 o2 o3 o4 m' h' tk', 1 ≤ f → f < p → 0 ≤ sh → sh < p → lc ≠ lv ∧ L + 1 + 1 + 1 + 1 + 1 ≠ lv ∧ L + 1 + 1 + 1 + 1 ≠ lv ∧ L + 1 + 1 + 1 ≠ lv ∧ L + 1 + 1 ≠ lv ∧ L + 1 ≠ lv → Fr h₀ L h' m' → m' "cells" = some (.ref lc) →
    News h₀ L h' [(lv, listOf ys.toArray n2), (lc, listOf vs.toArray n), (L + 1 + 1 + 1 + 1 + 1, o5), (L + 1 + 1 + 1 + 1, o4), (L + 1 + 1 + 1, o3), (L + 1 + 1, o2), (L + 1, o1)] → (∃ v, o2.data = .cell v) → (∃ v, o3.data = .cell v) → o4.data = .cell (some (.ref lv)) → IntsAre ys ((rangeKs 0 p.toNat).map fun k => (f * k + sh).fmod p) →
    wpAny (model Challenge.rw_wj0023_01.row.prog w) (callerA.deeper (envOfC "law" lawScope L a cd)) (execs (rest) (envOfC "law" lawScope L a cd)) Q (fun _ _ => False) { s with heap := h', toks := tk' }) :
  wpAny (model Challenge.rw_wj0023_01.row.prog w) (callerA.deeper (envOfC "law" lawScope L a cd)) (execs (lawBody.getD 3 (.Pass default) :: lawBody.getD 4 (.Pass default) :: lawBody.getD 5 (.Pass default) :: rest) (envOfC "law" lawScope L a cd)) Q (fun _ _ => False) s := by
  revert KX; k_fill; intro KX
  replace F := pin F hm
  have hb1 := getD_of_all hb (k := 1) (by omega)
  conv => arg 3; arg 1; arg 1; whnf
  conv => arg 3; arg 1; arg 2; arg 1; whnf
  conv => arg 3; arg 1; arg 2; arg 2; arg 1; whnf
  k_steps
  rename News _ _ _ _ => N'
  rename Fr _ _ _ _ => F'
  rename IntsAre _ (List.map _ _) => hI8
  have h7 := (fdiv_fmod_facts (cs.getD 1 0) (p - 1)).2.2.1 (by omega)
  have h8 := (fdiv_fmod_facts ((cs.getD 1 0).fdiv (p - 1)) p).2.2.1 (by omega)
  have e0 : p - 0 = p := by omega
  rw [e0] at hI8
  exact hk _ _ _ _ _ _ _ _ _ _ _ (by show 1 ≤ 1 + (cs.getD 1 0).fmod (p - 1); omega) (by show 1 + (cs.getD 1 0).fmod (p - 1) < p; omega) h8.1 h8.2 (by assumption) F' rfl N' ⟨_, by assumption⟩ ⟨_, by assumption⟩ (by assumption) hI8
end
end
local macro_rules | `(tactic| walk_at "exec For Name Name cons nil") => `(tactic| (k_here; (rename Fr _ _ _ _ => lF9); (with_unfolding_all refine' for_stop lF9 ?k1 ?k2 ?_; (case k1 => exact rfl); (case k2 => exact rfl); k_whole)))
local macro_rules | `(tactic| walk_at "exec For Name Call cons nil") => `(tactic| (k_here; (rename Fr _ _ _ _ => lF9); (with_unfolding_all refine' for_stop lF9 ?k1 ?k2 ?_; (case k1 => exact rfl); (case k2 => exact rfl); k_whole)))
local macro_rules | `(tactic| walk_at "exec For Name Subscript cons nil") => `(tactic| (k_here; (rename Fr _ _ _ _ => lF9); (with_unfolding_all refine' for_stop lF9 ?k1 ?k2 ?_; (case k1 => exact rfl); (case k2 => exact rfl); k_whole)))
local macro_rules | `(tactic| walk_at "exec For Name Attribute cons nil") => `(tactic| (k_here; (rename Fr _ _ _ _ => lF9); (with_unfolding_all refine' for_stop lF9 ?k1 ?k2 ?_; (case k1 => exact rfl); (case k2 => exact rfl); k_whole)))
section
theorem fresh_St6 : True := by w_top off; exact trivial
section
variable {w : World} {mean : ExcName → Option Value} {mg mb : Str → Option Value} {s : Shared} {h₀ : Heap} {a : Addr} {cd : Value} {m : Str → Option Value} {Q : Flow → Shared → Prop}
  {L lc lv ls : Nat} {vs ys us : List Value} {cs ns xs : List Int} {n n2 n3 : Nat} {o1 o2 o3 o4 o5 : Obj} {rest : List Stmt} {p f sh : Int} {t1 t2 t3 t4 : Tok}
set_option maxRecDepth 100000 in
set_option maxHeartbeats 8000000 in
theorem st6 (B : Below callerA h₀ [] h₀) (KX : (hd.heap_39 w.params).In h₀) (T : Top hd.view_39 (looseW hd.view_39 ["Whitespace"]) mean mg mb h₀)
  (F : Fr h₀ L s.heap m) (hm : m "cells" = some (.ref lc)) (N : News h₀ L s.heap [(lv, listOf ys.toArray n2), (lc, listOf vs.toArray n), (L + 1 + 1 + 1 + 1 + 1, o5), (L + 1 + 1 + 1 + 1, o4), (L + 1 + 1 + 1, o3), (L + 1 + 1, o2), (L + 1, o1)]) (hlc : (L + 1 + 1 + 1 + 1 + 1 < lc ∧ L + 1 + 1 + 1 + 1 < lc ∧ L + 1 + 1 + 1 < lc ∧ L + 1 + 1 < lc ∧ L + 1 < lc)) (hne : lc ≠ lv ∧ L + 1 + 1 + 1 + 1 + 1 ≠ lv ∧ L + 1 + 1 + 1 + 1 ≠ lv ∧ L + 1 + 1 + 1 ≠ lv ∧ L + 1 + 1 ≠ lv ∧ L + 1 ≠ lv) (c1 : o1.data = .cell (some (.int p t1))) (c4 : o4.data = .cell (some (.ref lv)))
  (hI : IntsAre vs cs) (h6 : cs.length = 6) (hb : ∀ c ∈ cs, 0 ≤ c ∧ c ≤ 18000032) (hp : p = 5 ∨ p = 7 ∨ p = 11) (hI2 : IntsAre ys ns) (hP : PermOf p ns)
  (hk : ∀ ys ns n2 m' h' tk', Fr h₀ L h' m' → News h₀ L h' [(lv, listOf ys.toArray n2), (L + 1 + 1 + 1 + 1 + 1, o5), (L + 1 + 1 + 1 + 1, o4), (L + 1 + 1 + 1, o3), (L + 1 + 1, o2), (L + 1, o1)] → IntsAre ys ns → PermOf p ns →
    wpAny (model Challenge.rw_wj0023_01.row.prog w) (callerA.deeper (envOfC "law" lawScope L a cd)) (execs (rest) (envOfC "law" lawScope L a cd)) Q (fun _ _ => False) { s with heap := h', toks := tk' }) :
  wpAny (model Challenge.rw_wj0023_01.row.prog w) (callerA.deeper (envOfC "law" lawScope L a cd)) (execs (lawBody.getD 6 (.Pass default) :: rest) (envOfC "law" lawScope L a cd)) Q (fun _ _ => False) s := by
  revert KX; k_fill; intro KX
  replace F := pin F hm
  conv => arg 3; arg 1; arg 1; whnf
  k_steps
  rename News _ _ _ _ => N1
  rename Fr _ _ _ _ => F1
  rename IntsAre _ (List.drop 2 cs) => hI1
  rename_i D' _ _ _ _ hl9
  refine Stop.go ?_
  replace N1 := news_sub (nx' := [(D', _), (lv, listOf ys.toArray n2), (L + 1 + 1 + 1 + 1 + 1, o5), (L + 1 + 1 + 1 + 1, o4), (L + 1 + 1 + 1, o3), (L + 1 + 1, o2), (L + 1, o1)]) N1 (by k_allIn)
  refine iter_invNL (fun i m' nx => ∃ ys ns n2, nx = [(D', _), (lv, listOf ys.toArray n2), (L + 1 + 1 + 1 + 1 + 1, o5), (L + 1 + 1 + 1 + 1, o4), (L + 1 + 1 + 1, o3), (L + 1 + 1, o2), (L + 1, o1)] ∧ IntsAre ys ns ∧ PermOf p ns) (by rfl) (.head _) hI1 F1 N1 ⟨_, _, _, rfl, hI2, hP⟩ ?_ ?_
  · rintro i c t m₁ nx h tk own hc _ hown _ ⟨ys', ns', n2', rfl, hI3, hP3⟩ F2 N2
    have hlen := hP3.len
    have hcb : 0 ≤ c ∧ c ≤ 18000032 := hb c (List.mem_of_mem_drop (List.mem_of_getElem? hc))
    simp only [List.cons_append, List.nil_append] at N2
    k_steps
    all_goals (rename News _ _ _ _ => N4; rename Fr _ _ _ _ => F4)
    · refine inv_end F4 (nx := _ :: _ :: [_, _, _, _, _]) (news_sub N4 fun _ hp => .tail _ hp) rfl ⟨.head _, _, _, _, rfl, by assumption, ?_⟩
      have h7 := (fdiv_fmod_facts (c.fdiv 2) p).2.2.1 (by omega)
      have h8 := (fdiv_fmod_facts ((c.fdiv 2).fdiv p) p).2.2.1 (by omega)
      refine PermOf.swap hP3 ?_ ?_
      · omega
      · omega
    · exact inv_end F4 (nx := _ :: _ :: [_, _, _, _, _]) N4 rfl ⟨.head _, _, _, _, rfl, hI3, hP3⟩
  · rintro m₁ nx h tk _ ⟨ys', ns', n2', rfl, hI3, hP3⟩ F2 N2
    exact hk _ _ _ _ _ _ F2 (news_sub N2 fun _ hp => .tail _ hp) hI3 hP3
end
end
section
theorem fresh_St78 : True := by w_top off; exact trivial
section
variable {w : World} {mean : ExcName → Option Value} {mg mb : Str → Option Value} {s : Shared} {h₀ : Heap} {a : Addr} {cd : Value} {m : Str → Option Value} {Q : Flow → Shared → Prop}
  {L lc lv ls : Nat} {vs ys us : List Value} {cs ns xs : List Int} {n n2 n3 : Nat} {o1 o2 o3 o4 o5 : Obj} {rest : List Stmt} {p f sh : Int} {t1 t2 t3 t4 : Tok}
set_option maxRecDepth 100000 in
set_option maxHeartbeats 8000000 in
theorem st78 (B : Below callerA h₀ [] h₀) (KX : (hd.heap_39 w.params).In h₀) (T : Top hd.view_39 (looseW hd.view_39 ["Whitespace"]) mean mg mb h₀)
  (F : Fr h₀ L s.heap m) (N : News h₀ L s.heap [(lv, listOf ys.toArray n2), (L + 1 + 1 + 1 + 1 + 1, o5), (L + 1 + 1 + 1 + 1, o4), (L + 1 + 1 + 1, o3), (L + 1 + 1, o2), (L + 1, o1)]) (c4 : o4.data = .cell (some (.ref lv)))
  (hI2 : IntsAre ys ns) (hP : PermOf p ns) (hp : p = 5 ∨ p = 7 ∨ p = 11)
  (hk : ∀ t m' h' tk', Fr h₀ L h' m' → m' "number" = some (.int (numOf ns) t) → News h₀ L h' [(lv, listOf ys.toArray n2), (L + 1 + 1 + 1 + 1 + 1, o5), (L + 1 + 1 + 1 + 1, o4), (L + 1 + 1 + 1, o3), (L + 1 + 1, o2), (L + 1, o1)] →
    wpAny (model Challenge.rw_wj0023_01.row.prog w) (callerA.deeper (envOfC "law" lawScope L a cd)) (execs (rest) (envOfC "law" lawScope L a cd)) Q (fun _ _ => False) { s with heap := h', toks := tk' }) :
  wpAny (model Challenge.rw_wj0023_01.row.prog w) (callerA.deeper (envOfC "law" lawScope L a cd)) (execs (lawBody.getD 7 (.Pass default) :: lawBody.getD 8 (.Pass default) :: rest) (envOfC "law" lawScope L a cd)) Q (fun _ _ => False) s := by
  revert KX; k_fill; intro KX
  conv => arg 3; arg 1; arg 1; whnf
  conv => arg 3; arg 1; arg 2; arg 1; whnf
  k_steps
  rename News _ _ _ _ => N1
  rename Fr _ _ _ _ => F1
  refine Stop.go ?_
  refine iter_invNL (fun i m' nx => nx = [(lv, listOf ys.toArray n2), (L + 1 + 1 + 1 + 1 + 1, o5), (L + 1 + 1 + 1 + 1, o4), (L + 1 + 1 + 1, o3), (L + 1 + 1, o2), (L + 1, o1)] ∧ ∃ t, m' "number" = some (.int (numOf (ns.take i)) t)) (by rfl) (.head _) hI2 F1 N1 ⟨rfl, _, rfl⟩ ?_ ?_
  · rintro i v t m₁ nx h tk own hv _ hown _ ⟨rfl, tn, hn⟩ F2 N2
    have F3 := pin (x := "number") (v := .int (numOf (ns.take i)) tn) F2 (Eq.trans (by rfl) hn)
    clear F2
    have hlen := hP.len
    have hb := hP.get_bnd hv
    have hnb : 0 ≤ numOf (ns.take i) ∧ numOf (ns.take i) < 16 ^ 11 := hP.numOf_bnd hp i
    simp only [List.cons_append, List.nil_append] at N2
    k_steps
    rename News _ _ _ _ => N4
    rename Fr _ _ _ _ => F4
    refine inv_end F4 (nx := _ :: [_, _, _, _, _]) N4 rfl ⟨.head _, rfl, ?tok, ?eq⟩
    case eq =>
      rw [numOf_take hv]
      exact rfl
  · rintro m₁ nx h tk _ ⟨rfl, tn, hn⟩ F2 N2
    rw [List.take_length] at hn
    exact hk _ _ _ _ F2 hn N2
end
end
local macro_rules | `(tactic| walk_at "exec While Name cons nil") => `(tactic| (k_here; with_reducible refine while_stop ?_))
local macro_rules | `(tactic| walk_at "exec While Call cons nil") => `(tactic| (k_here; with_reducible refine while_stop ?_))
local macro_rules | `(tactic| walk_at "exec While Compare cons nil") => `(tactic| (k_here; with_reducible refine while_stop ?_))
section
theorem fresh_Int2AP : True := by w_top off; exact trivial
section
variable {w : World} {mean : ExcName → Option Value} {mg mb : Str → Option Value} {dp un : Nat} {gd : Option (List Code)} {cn : Str} {cs : Scope} {a : Addr} {ccd : Value} {cl : List (Str × Addr)} {outer : List Env} {A₀ : Around} {base h₀ : Heap} {L : Nat} {m : Str → Option Value} {s : Shared} {Q E : Value → Shared → Prop} {news : List (Addr × Obj)}
set_option maxRecDepth 100000 in
set_option maxHeartbeats 8000000 in
theorem int2ap (B : Below A₀ base outer h₀) (F : Fr h₀ L s.heap m) (KX : (hd.heap_39 w.params).In h₀) (N : News h₀ L s.heap news) (T : Top hd.view_39 (looseW hd.view_39 ["Whitespace"]) mean mg mb h₀) (hkind : cs.kind = .function) (hdp : dp + 1 < recursionLimit) (hun : un + 8 < cLine) {x : Int} {t : Tok} {ns : List Int} (hx : x.natAbs = numOf ns) (hb : ∀ (i : Nat) (v : Int), ns[i]? = some v → 0 ≤ v ∧ v < 11) (hl : ns.length ≤ 11)
  (hret : ∀ b t h' tk', KBw.bInts b = ns.map (fun v => 66 + v) → Fr h₀ L h' m → News h₀ L h' news → Q (.bytes b t) { s with heap := h', toks := tk' }) :
  wpAny (model Challenge.rw_wj0023_01.row.prog w) (ktrTop dp un gd cn cs L a ccd cl outer) (call (.ref 94) [.int x t]) Q E s := by
  revert KX; k_fill; intro KX
  refine wpAny_call ?_
  k_dflt cell_enter
  k_steps
  rename Fr _ _ _ _ => F1
  rename News _ _ _ _ => N1
  refine Stop.go (While_inv2 (fun k m' nx => k ≤ ns.length ∧ nx = news ∧ (∃ t, m' "num" = some (.int (numOf (ns.take k)) t)) ∧ (∃ t, m' "AP" = some (.bytes #[65, 66, 67, 68, 69, 70, 71, 72, 73, 74, 75, 76, 77, 78, 79, 80] t)) ∧ ∃ b t, m' "val" = some (.bytes b t) ∧ KBw.bInts b = (ns.drop k).map fun v => 66 + v) F1 N1 ⟨Nat.le_refl _, rfl, ⟨?w1, ?e1⟩, ⟨_, rfl⟩, ⟨#[], ?w2, ?e2, ?e3⟩⟩ ?_)
  case e1 =>
    rw [List.take_length, ← hx]
    have e : (x.natAbs : Int) = if x < 0 then -x else x := by split <;> omega
    rw [e]
    exact rfl
  case e2 => exact rfl
  case e3 => rw [List.drop_length]; rfl
  rintro k m₁ nx h tk F2 N2 ⟨hkl, rfl, ⟨t1, q1⟩, ⟨t2, q2⟩, ⟨b, t3, q3, hbi⟩⟩
  have F3 := pin (pin (pin F2 q1) (x := "AP") (Eq.trans (by rfl) q2)) (x := "val") (Eq.trans (by rfl) q3)
  clear F2 F1 N1
  have hnb := numOf_bnd_take hb k hkl
  k_steps
  · (with_reducible rename Fr _ _ _ _ => F'); (with_reducible rename News _ _ _ _ => N')
    refine KBc.slice_K (s := ⟨_, _, _, _, _⟩) F' N' rfl (by constructor) (by constructor) (by decide) ?_
    intro h5 t5 k5 F5 N5 K5
    obtain ⟨v, j, hkj, hvj, ed, em, hv0, hv1, edr⟩ := numOf_step hb hkl (by assumption)
    have K6 := letter_cut hv0 hv1
    rw [← em] at K6
    clear K5
    k_steps
    rename News _ _ _ _ => N9
    rename Fr _ _ _ _ => F9
    rename KBw.bInts (_ ++ _) = _ => K9
    refine ⟨_, _, _, nx, j, rfl, F9, news_sub N9 (fun _ hp => .tail _ hp), by omega, by omega, rfl, ⟨?t1, ?e1⟩, ⟨?t2, ?e2⟩, ⟨?b, ?t3, ?e3, ?e4⟩⟩
    case e1 => rw [← ed]; exact rfl
    case e2 => exact rfl
    case e3 => exact rfl
    case e4 => rw [K9, edr]; rfl
  · have hk0 : k = 0 := numOf_zero hb hkl (by omega)
    subst hk0
    exact hret _ _ _ _ hbi (by assumption) (by assumption)
end
end
section
theorem fresh_St9 : True := by w_top off; exact trivial
section
variable {w : World} {mean : ExcName → Option Value} {mg mb : Str → Option Value} {s : Shared} {h₀ : Heap} {a : Addr} {cd : Value} {m : Str → Option Value} {Q : Flow → Shared → Prop}
  {L lc lv ls : Nat} {vs ys us : List Value} {cs ns xs : List Int} {n n2 n3 : Nat} {o1 o2 o3 o4 o5 : Obj} {rest : List Stmt} {p f sh : Int} {t1 t2 t3 t4 : Tok}
local macro_rules | `(tactic| walk_at "call ref") => `(tactic| (k_here; (with_reducible show wpAny _ _ (call (Value.ref 94) _) _ _ _); with_reducible refine call_stop ?_))
local macro_rules | `(tactic| walk_at "eval ListComp") => `(tactic| (k_here; k_dflt (refine comp_any (by k_asm) (by rfl) (by decide) (by rfl) (by decide) (by rfl) ?_)))
set_option maxRecDepth 100000 in
set_option maxHeartbeats 8000000 in
theorem st9 (B : Below callerA h₀ [] h₀) (KX : (hd.heap_39 w.params).In h₀) (T : Top hd.view_39 (looseW hd.view_39 ["Whitespace"]) mean mg mb h₀)
  (F : Fr h₀ L s.heap m) (N : News h₀ L s.heap [(lv, listOf ys.toArray n2), (L + 1 + 1 + 1 + 1 + 1, o5), (L + 1 + 1 + 1 + 1, o4), (L + 1 + 1 + 1, o3), (L + 1 + 1, o2), (L + 1, o1)]) (c4 : o4.data = .cell (some (.ref lv))) (hm : m "number" = some (.int (numOf ns) t1))
  (hI2 : IntsAre ys ns) (hP : PermOf p ns) (hp : p = 5 ∨ p = 7 ∨ p = 11)
  (hk : ∀ t m' h' tk', Fr h₀ L h' m' → m' "word" = some (.str (wordOf ns) t) → News h₀ L h' [(lv, listOf ys.toArray n2), (L + 1 + 1 + 1 + 1 + 1, o5), (L + 1 + 1 + 1 + 1, o4), (L + 1 + 1 + 1, o3), (L + 1 + 1, o2), (L + 1, o1)] →
    wpAny (model Challenge.rw_wj0023_01.row.prog w) (callerA.deeper (envOfC "law" lawScope L a cd)) (execs (rest) (envOfC "law" lawScope L a cd)) Q (fun _ _ => False) { s with heap := h', toks := tk' }) :
  wpAny (model Challenge.rw_wj0023_01.row.prog w) (callerA.deeper (envOfC "law" lawScope L a cd)) (execs (lawBody.getD 9 (.Pass default) :: rest) (envOfC "law" lawScope L a cd)) Q (fun _ _ => False) s := by
  revert KX; k_fill; intro KX
  conv => arg 3; arg 1; arg 1; whnf
  replace F := pin F hm
  have hlen := hP.len
  have hb : ∀ (i : Nat) (v : Int), ns[i]? = some v → 0 ≤ v ∧ v < 11 := fun i v h => by have := hP.get_bnd h; omega
  have hnb := numOf_bnd_take hb ns.length (Nat.le_refl _)
  rw [List.take_length] at hnb
  k_steps
  rename News _ _ _ _ => N1
  rename Fr _ _ _ _ => F1
  refine Stop.go ?_
  with_unfolding_all refine' int2ap (ns := ns) B ?qF KX ?qN T ?q1 ?q2 ?q3 ?q4 hb ?q5 ?_
  case qF => exact F1
  case qN => exact N1
  case q1 => exact rfl
  case q2 => decide
  case q3 => decide
  case q4 => omega
  case q5 => omega
  intro b t h' tk' hbi F2 N2
  clear F1 N1
  k_steps
  refine Stop.go ?_
  have hsz := KBw.ints_length b
  rw [hbi, List.length_map] at hsz
  refine src_bytes rfl (by assumption) (by assumption) (by rw [← hsz, sizeLine_eq]; omega) fun g => ?_
  refine kct_rest (ks := ns.map fun v => 66 + v) (fun k => ⟨#[k.toNat]⟩) (by rw [List.length_map]; exact hsz) ?_ ?_ ?_
  · rintro i v hi ⟨c, u, hc, rfl⟩
    have := KBw.ints_get hc
    rw [hbi] at this
    exact ⟨_, _, this, rfl⟩
  · intro k t I oI C oC D m₂ ys h tk E' hk hC hx F N off ne mk
    obtain ⟨v, hv, rfl⟩ := List.mem_map.mp hk
    obtain ⟨iv, hiv⟩ := List.getElem?_of_mem hv
    have hvb := hb iv v hiv
    have hkb : 0 ≤ 66 + v ∧ 66 + v ≤ 1114111 := by omega
    simp only [LCg.Off3, and_true] at off
    k_steps
  · intro ys9 hC hl9 D h tk F9 N9 o9
    k_steps
    rename News _ _ _ _ => N4
    rename Fr _ _ _ _ => F4
    refine hk ?tok _ _ _ F4 ?eq (news_sub N4 fun _ hp => .tail _ hp)
    case eq =>
      rw [← join_word]
      exact rfl
end
end
section
theorem fresh_St10 : True := by w_top off; exact trivial
section
variable {w : World} {mean : ExcName → Option Value} {mg mb : Str → Option Value} {s : Shared} {h₀ : Heap} {a : Addr} {cd : Value} {m : Str → Option Value} {Q : Flow → Shared → Prop}
  {L lc lv ls : Nat} {vs ys us : List Value} {cs ns xs : List Int} {n n2 n3 : Nat} {o1 o2 o3 o4 o5 : Obj} {rest : List Stmt} {p f sh : Int} {t1 t2 t3 t4 : Tok}
local macro_rules | `(tactic| walk_at "eval ListComp") => `(tactic| (k_here; k_dflt (refine comp_any (by k_asm) (by rfl) (by decide) (by rfl) (by decide) (by rfl) ?_)))
set_option maxRecDepth 100000 in
set_option maxHeartbeats 8000000 in
theorem st10 (B : Below callerA h₀ [] h₀) (KX : (hd.heap_39 w.params).In h₀) (T : Top hd.view_39 (looseW hd.view_39 ["Whitespace"]) mean mg mb h₀)
  (F : Fr h₀ L s.heap m) (N : News h₀ L s.heap [(lv, listOf ys.toArray n2), (L + 1 + 1 + 1 + 1 + 1, o5), (L + 1 + 1 + 1 + 1, o4), (L + 1 + 1 + 1, o3), (L + 1 + 1, o2), (L + 1, o1)]) (c4 : o4.data = .cell (some (.ref lv))) (hm : m "word" = some (.str (wordOf ns) t1))
  (hI2 : IntsAre ys ns) (hP : PermOf p ns) (hp : p = 5 ∨ p = 7 ∨ p = 11)
  (hk : ∀ m' h' tk', Fr h₀ L h' m' → m' "word" = some (.str (wordOf ns) t1) → News h₀ L h' [(lv, listOf ys.toArray n2), (L + 1 + 1 + 1 + 1 + 1, o5), (L + 1 + 1 + 1 + 1, o4), (L + 1 + 1 + 1, o3), (L + 1 + 1, o2), (L + 1, o1)] →
    wpAny (model Challenge.rw_wj0023_01.row.prog w) (callerA.deeper (envOfC "law" lawScope L a cd)) (execs (rest) (envOfC "law" lawScope L a cd)) Q (fun _ _ => False) { s with heap := h', toks := tk' }) :
  wpAny (model Challenge.rw_wj0023_01.row.prog w) (callerA.deeper (envOfC "law" lawScope L a cd)) (execs (lawBody.getD 10 (.Pass default) :: rest) (envOfC "law" lawScope L a cd)) Q (fun _ _ => False) s := by
  revert KX; k_fill; intro KX
  conv => arg 3; arg 1; arg 1; whnf
  replace F := pin F hm
  have hlen := hP.len
  have hb : ∀ (i : Nat) (v : Int), ns[i]? = some v → 0 ≤ v ∧ v < 11 := fun i v h => by have := hP.get_bnd h; omega
  k_steps
  rename News _ _ _ _ => N1
  rename Fr _ _ _ _ => F1
  refine Stop.go ?_
  have hsz := word_size ns
  refine src_ascii (word_ascii hb) rfl F1 N1 (by rw [hsz, sizeLine_eq]; omega) fun g => ?_
  refine comp_ints (as := ns) id (fun v x => ∃ t, x = .str ⟨#[(66 + v).toNat]⟩ t) hsz.symm ?_ ?_ ?_
  · rintro i v hi ⟨c, u, hc, rfl⟩
    obtain ⟨v, hv, rfl⟩ := word_get hc
    exact ⟨v, hv, _, rfl⟩
  · rintro v x I oI C oC D m₂ ys h tk E' hv ⟨t, rfl⟩ hC hx F N off ne
    obtain ⟨iv, hiv⟩ := List.getElem?_of_mem hv
    have hvb := hb iv v hiv
    simp only [LCg.Off3, and_true] at off
    k_steps
    have e : (((66 + v).toNat : Nat) : Int) - 66 = v := by omega
    rw [e]
    exact rfl
  · intro ys9 hI9 D h tk F9 N9 o9
    rw [List.map_id] at hI9
    k_steps
    exact hk _ _ _ F9 rfl (news_sub N9 fun _ hp => .tail _ hp)
end
end
section
theorem fresh_St11 : True := by w_top off; exact trivial
section
variable {w : World} {mean : ExcName → Option Value} {mg mb : Str → Option Value} {s : Shared} {h₀ : Heap} {a : Addr} {cd : Value} {m : Str → Option Value} {Q : Flow → Shared → Prop}
  {L lc lv ls : Nat} {vs ys us : List Value} {cs ns xs : List Int} {n n2 n3 : Nat} {o1 o2 o3 o4 o5 : Obj} {rest : List Stmt} {p f sh : Int} {t1 t2 t3 t4 : Tok}
set_option maxRecDepth 100000 in
set_option maxHeartbeats 8000000 in
theorem st11 (B : Below callerA h₀ [] h₀) (KX : (hd.heap_39 w.params).In h₀) (T : Top hd.view_39 (looseW hd.view_39 ["Whitespace"]) mean mg mb h₀)
  (F : Fr h₀ L s.heap m) (N : News h₀ L s.heap [(lv, listOf ys.toArray n2), (L + 1 + 1 + 1 + 1 + 1, o5), (L + 1 + 1 + 1 + 1, o4), (L + 1 + 1 + 1, o3), (L + 1 + 1, o2), (L + 1, o1)]) (c1 : o1.data = .cell (some (.int p t1))) (hm : m "word" = some (.str (wordOf ns) t2))
  (hp : p = 5 ∨ p = 7 ∨ p = 11)
  (hk : ∀ (ls : Nat) us n3 m' h' tk', lv ≠ ls ∧ L + 1 + 1 + 1 + 1 + 1 ≠ ls ∧ L + 1 + 1 + 1 + 1 ≠ ls ∧ L + 1 + 1 + 1 ≠ ls ∧ L + 1 + 1 ≠ ls ∧ L + 1 ≠ ls → Fr h₀ L h' m' → m' "word" = some (.str (wordOf ns) t2) → m' "symbols" = some (.ref ls) → News h₀ L h' [(ls, listOf us.toArray n3), (lv, listOf ys.toArray n2), (L + 1 + 1 + 1 + 1 + 1, o5), (L + 1 + 1 + 1 + 1, o4), (L + 1 + 1 + 1, o3), (L + 1 + 1, o2), (L + 1, o1)] → IntsAre us (rangeKs 0 (p - 1).toNat) →
    wpAny (model Challenge.rw_wj0023_01.row.prog w) (callerA.deeper (envOfC "law" lawScope L a cd)) (execs (rest) (envOfC "law" lawScope L a cd)) Q (fun _ _ => False) { s with heap := h', toks := tk' }) :
  wpAny (model Challenge.rw_wj0023_01.row.prog w) (callerA.deeper (envOfC "law" lawScope L a cd)) (execs (lawBody.getD 11 (.Pass default) :: rest) (envOfC "law" lawScope L a cd)) Q (fun _ _ => False) s := by
  revert KX; k_fill; intro KX
  conv => arg 3; arg 1; arg 1; whnf
  replace F := pin F hm
  k_steps
  rename News _ _ _ _ => N4
  rename Fr _ _ _ _ => F4
  rename IntsAre _ _ => hI4
  have e0 : p - 1 - 0 = p - 1 := by omega
  rw [e0] at hI4
  exact hk _ _ _ _ _ _ (by omega) F4 rfl rfl N4 hI4
end
end
section
theorem fresh_IsNon : True := by w_top off; exact trivial
section
variable {w : World} {mean : ExcName → Option Value} {mg mb : Str → Option Value} {dp un : Nat} {gd : Option (List Code)} {cn : Str} {cs : Scope} {a : Addr} {ccd : Value} {cl : List (Str × Addr)} {outer : List Env} {A₀ : Around} {base h₀ : Heap} {L : Nat} {m : Str → Option Value} {s : Shared} {Q E : Value → Shared → Prop} {news : List (Addr × Obj)}
set_option maxRecDepth 100000 in
set_option maxHeartbeats 8000000 in
theorem isnonterm (B : Below A₀ base outer h₀) (F : Fr h₀ L s.heap m) (KX : (hd.heap_39 w.params).In h₀) (N : News h₀ L s.heap news) (T : Top hd.view_39 (looseW hd.view_39 ["Whitespace"]) mean mg mb h₀) (hkind : cs.kind = .function) (hdp : dp + 10 < recursionLimit) (hun : un + 50 < cLine) {x : Int} {t : Tok}
  (hret : ∀ h' tk', Fr h₀ L h' m → News h₀ L h' news → Q (.bool (decide (256 ≤ x))) { s with heap := h', toks := tk' }) :
  wpAny (model Challenge.rw_wj0023_01.row.prog w) (ktrTop dp un gd cn cs L a ccd cl outer) (call (.ref 108) [.int x t]) Q E s := by
  revert KX; k_fill; intro KX
  refine wpAny_call ?_
  k_dflt cell_enter
  k_steps
  exact hret _ _ (by assumption) (by assumption)
end
end
section
theorem fresh_LawRoot : True := by w_top off; exact trivial
section
variable {w : World} {mean : ExcName → Option Value} {mg mb : Str → Option Value} {dp un : Nat} {gd : Option (List Code)} {cn : Str} {cs : Scope} {a : Addr} {ccd : Value} {cl : List (Str × Addr)} {outer : List Env} {A₀ : Around} {base h₀ : Heap} {L : Nat} {m : Str → Option Value} {s : Shared} {Q E : Value → Shared → Prop} {news : List (Addr × Obj)}
local macro_rules | `(tactic| walk_at "call ref") => `(tactic| (k_here; (with_reducible show wpAny _ _ (call (Value.ref 108) _) _ _ _); with_reducible refine call_stop ?_))
set_option maxRecDepth 100000 in
set_option maxHeartbeats 8000000 in
theorem law_root (B : Below A₀ base outer h₀) (F : Fr h₀ L s.heap m) (KX : (hd.heap_39 w.params).In h₀) (N : News h₀ L s.heap news) (T : Top hd.view_39 (looseW hd.view_39 ["Whitespace"]) mean mg mb h₀) (hkind : cs.kind = .function) (hdp : dp + 20 < recursionLimit) (hun : un + 100 < cLine) {l : Nat} {vs : List Value} {xs : List Int} {n : Nat} {k : Int} {t : Tok} (hm : (l, listOf vs.toArray n) ∈ news) (hi : IntsAre vs xs) (hU : UF xs) (h0 : 0 ≤ k) (h1 : k < xs.length)
  (hret : ∀ (r : Nat) t h' tk', r < xs.length → Root xs k.toNat r → Fr h₀ L h' m → News h₀ L h' news → Q (.int r t) { s with heap := h', toks := tk' }) :
  wpAny (model Challenge.rw_wj0023_01.row.prog w) (ktrTop dp un gd cn cs L a ccd cl outer) (call (.ref 115) [.ref l, .int k t]) Q E s := by
  revert KX; k_fill; intro KX
  refine wpAny_call ?_
  k_dflt cell_enter
  k_steps
  rename Fr _ _ _ _ => F1
  rename News _ _ _ _ => N1
  have N2 := news_sub (nx' := (l, listOf vs.toArray n) :: news) N1 (fun p hp => (List.mem_cons.mp hp).elim (fun e => e ▸ hm) id)
  refine Stop.go (While_inv2 (fun k' m' nx => k' < xs.length ∧ nx = (l, listOf vs.toArray n) :: news ∧ (∃ t, m' "spot" = some (.int (k' : Int) t)) ∧ m' "symbols" = some (.ref l) ∧ ∀ r, Root xs k' r → Root xs k.toNat r) (n₀ := k.toNat) F1 N2 ⟨by omega, rfl, ⟨t, ?e1⟩, rfl, fun _ h => h⟩ ?_)
  case e1 =>
    have e : ((k.toNat : Nat) : Int) = k := by omega
    rw [e]
    exact rfl
  rintro k' m₁ nx h tk F2 N3 ⟨hkl, rfl, ⟨t1, q1⟩, q2, hr⟩
  have F3 := pin (pin F2 q2) (x := "spot") (Eq.trans (by rfl) q1)
  clear F2 F1 N1 N2
  have hlen := hU.len
  have hki : 0 ≤ (k' : Int) ∧ (k' : Int) < (xs.length : Int) ∧ (k' : Int) < 2 ^ 63 := by omega
  k_steps
  rename News _ _ _ _ => N5
  rename Fr _ _ _ _ => F5
  refine Stop.go ?_
  with_unfolding_all refine' isnonterm ?qB ?qF ?qK ?qN ?qT ?q1 ?q2 ?q3 ?_
  case qB => assumption
  case qF => exact F5
  case qN => exact N5
  case qK => assumption
  case qT => assumption
  case q1 => exact rfl
  case q2 => show dp + 1 + 10 < recursionLimit; omega
  case q3 => show un + 3 + 50 < cLine; omega
  intro h' tk' F6 N6
  clear F5 N5
  k_steps
  · rename News _ _ _ _ => N9
    rename Fr _ _ _ _ => F9
    rename _ ≤ List.getD _ _ _ => hge
    rw [Int.toNat_natCast] at hge
    have hup := (hU.up k' hkl).resolve_left (by omega)
    refine ⟨_, _, _, _, (xs.getD k' 0 - 256).toNat, rfl, F9, N9, by omega, by omega, rfl, ⟨?tok, ?eq⟩, rfl, fun r h => hr r (.up hge h)⟩
    case eq =>
      have e : (((xs.getD k' 0 - 256).toNat : Nat) : Int) = xs.getD ((k' : Nat) : Int).toNat 0 - 256 := by rw [Int.toNat_natCast]; omega
      rw [e]
      exact rfl
  · rename ¬ _ ≤ List.getD _ _ _ => hge
    rw [Int.toNat_natCast] at hge
    exact hret k' _ _ _ hkl (hr _ (.here (by omega))) (by assumption) (news_sub (by assumption) fun _ hp => .tail _ hp)
end
end
section
theorem fresh_StrColl : True := by w_top off; exact trivial
section
variable {w : World} {mean : ExcName → Option Value} {mg mb : Str → Option Value} {dp un : Nat} {gd : Option (List Code)} {cn : Str} {cs : Scope} {a : Addr} {ccd : Value} {cl : List (Str × Addr)} {outer : List Env} {A₀ : Around} {base h₀ : Heap} {L : Nat} {m : Str → Option Value} {s : Shared} {Q E : Value → Shared → Prop} {news : List (Addr × Obj)}
set_option maxRecDepth 100000 in
set_option maxHeartbeats 8000000 in
theorem strcoll (B : Below A₀ base outer h₀) (F : Fr h₀ L s.heap m) (KX : (hd.heap_39 w.params).In h₀) (N : News h₀ L s.heap news) (T : Top hd.view_39 (looseW hd.view_39 ["Whitespace"]) mean mg mb h₀) (hkind : cs.kind = .function) (hdp : dp + 10 < recursionLimit) (hun : un + 50 < cLine) {x y : Nat} {t t' : Tok}
  (hret : ∀ t h' tk', Fr h₀ L h' m → News h₀ L h' news → Q (.int ((if y < x then 1 else 0) - (if x < y then 1 else 0)) t) { s with heap := h', toks := tk' }) :
  wpAny (model Challenge.rw_wj0023_01.row.prog w) (ktrTop dp un gd cn cs L a ccd cl outer) (call (.ref 101) [.str ⟨#[x]⟩ t, .str ⟨#[y]⟩ t']) Q E s := by
  revert KX; k_fill; intro KX
  refine wpAny_call ?_
  k_dflt cell_enter
  k_steps
  have e1 : ([y] : List Nat) < [x] ↔ y < x := by simp [List.cons_lt_cons_iff]
  have e2 : ([x] : List Nat) < [y] ↔ x < y := by simp [List.cons_lt_cons_iff]
  have e : b2i (decide ([y] < [x])) - b2i (decide ([x] < [y])) = ((if y < x then 1 else 0) - (if x < y then 1 else 0)) := by
    simp only [e1, e2]
    by_cases h1 : y < x <;> by_cases h2 : x < y <;> simp [h1, h2, b2i]
  rw [e]
  exact hret _ _ _ (by assumption) (by assumption)
end
end
section
theorem fresh_InnerHead : True := by w_top off; exact trivial
section
variable {w : World} {mean : ExcName → Option Value} {mg mb : Str → Option Value} {s : Shared} {h₀ : Heap} {a : Addr} {cd : Value} {m : Str → Option Value} {Q : Flow → Shared → Prop}
  {L lc lv ls : Nat} {vs ys us : List Value} {cs ns xs : List Int} {n n2 n3 : Nat} {o1 o2 o3 o4 o5 : Obj} {rest : List Stmt} {p f sh : Int} {t1 t2 t3 t4 : Tok}
local macro_rules | `(tactic| walk_at "call ref") => `(tactic| (k_here; (with_reducible show wpAny _ _ (call (Value.ref 101) _) _ _ _); with_reducible refine call_stop ?_))
set_option maxRecDepth 100000 in
set_option maxHeartbeats 8000000 in
theorem inner_head (B : Below callerA h₀ [] h₀) (KX : (hd.heap_39 w.params).In h₀) (T : Top hd.view_39 (looseW hd.view_39 ["Whitespace"]) mean mg mb h₀) {g x : Int} {tg tx : Tok} {own : List (Addr × Obj)}
  (F : Fr h₀ L s.heap m) (N : News h₀ L s.heap ([(ls, listOf us.toArray n3), (lv, listOf ys.toArray n2), (L + 1 + 1 + 1 + 1 + 1, o5), (L + 1 + 1 + 1 + 1, o4), (L + 1 + 1 + 1, o3), (L + 1 + 1, o2), (L + 1, o1)] ++ own)) (c1 : o1.data = .cell (some (.int p t1))) (hw : m "word" = some (.str (wordOf ns) t2)) (hsy : m "symbols" = some (.ref ls)) (hgm : m "gap" = some (.int g tg)) (hxm : m "place" = some (.int x tx))
  (hp : p = 5 ∨ p = 7 ∨ p = 11) (hP : PermOf p ns) (hg : 1 ≤ g ∧ g < p) (hx : 0 ≤ x ∧ x < p)
  (hk : ∀ t m' h' tk', Fr h₀ L h' m' → m' "reach" = some (.int (gapTo p ns g x) t) → m' "word" = some (.str (wordOf ns) t2) → m' "symbols" = some (.ref ls) → m' "gap" = some (.int g tg) → News h₀ L h' ([(ls, listOf us.toArray n3), (lv, listOf ys.toArray n2), (L + 1 + 1 + 1 + 1 + 1, o5), (L + 1 + 1 + 1 + 1, o4), (L + 1 + 1 + 1, o3), (L + 1 + 1, o2), (L + 1, o1)] ++ own) →
    wpAny (model Challenge.rw_wj0023_01.row.prog w) (callerA.deeper (envOfC "law" lawScope L a cd)) (execs (rest) (envOfC "law" lawScope L a cd)) Q (fun _ _ => False) { s with heap := h', toks := tk' }) :
  wpAny (model Challenge.rw_wj0023_01.row.prog w) (callerA.deeper (envOfC "law" lawScope L a cd)) (execs (lawInner.getD 0 (.Pass default) :: lawInner.getD 1 (.Pass default) :: lawInner.getD 2 (.Pass default) :: lawInner.getD 3 (.Pass default) :: lawInner.getD 4 (.Pass default) :: lawInner.getD 5 (.Pass default) :: rest) (envOfC "law" lawScope L a cd)) Q (fun _ _ => False) s := by
  revert KX; k_fill; intro KX
  conv => arg 3; arg 1; arg 1; whnf
  conv => arg 3; arg 1; arg 2; arg 1; whnf
  conv => arg 3; arg 1; arg 2; arg 2; arg 1; whnf
  conv => arg 3; arg 1; arg 2; arg 2; arg 2; arg 1; whnf
  conv => arg 3; arg 1; arg 2; arg 2; arg 2; arg 2; arg 1; whnf
  conv => arg 3; arg 1; arg 2; arg 2; arg 2; arg 2; arg 2; arg 1; whnf
  replace F := pin (pin (pin (pin F hw) (x := "symbols") (Eq.trans (by rfl) hsy)) (x := "gap") (Eq.trans (by rfl) hgm)) (x := "place") (Eq.trans (by rfl) hxm)
  have hlen := hP.len
  simp only [List.cons_append, List.nil_append] at N
  have hyb := (fdiv_fmod_facts (x + g) p).2.2.1 (by omega)
  have hws : (wordOf ns).length = ns.length := word_size ns
  have hx2 : 0 ≤ x ∧ x < ((wordOf ns).length : Int) := by omega
  have hy2 : 0 ≤ (x + g).fmod p ∧ (x + g).fmod p < ((wordOf ns).length : Int) := by omega
  have hz2 : ((wordOf ns).length : Int) ≤ 11 := by omega
  have e1 := word_item (ns := ns) hx.1 (by omega)
  have e2 := word_item (ns := ns) hyb.1 (by omega)
  have b1 := hP.bnd x.toNat (by omega)
  have b2 := hP.bnd ((x + g).fmod p).toNat (by omega)
  have hvne : ns.getD x.toNat 0 ≠ ns.getD ((x + g).fmod p).toNat 0 := fun e => by
    have := hP.inj _ _ (by omega) (by omega) e
    exact absurd this (turn_ne hx hg)
  k_steps
  rename News _ _ _ _ => N4
  rename Fr _ _ _ _ => F4
  refine Stop.go ?_
  rw [e1, e2] at F4
  rw [e1, e2]
  generalize hv1 : ns.getD x.toNat 0 = v1 at *
  generalize hv2 : ns.getD ((x + g).fmod p).toNat 0 = v2 at *
  with_unfolding_all refine' strcoll B ?qF KX ?qN T ?q1 ?q2 ?q3 ?_
  case qF => exact F4
  case qN => exact N4
  case q1 => exact rfl
  case q2 => decide
  case q3 => decide
  intro ts h' tk' F5 N5
  clear F4 N4
  have hgt : gapTo p ns g x = if v2 - v1 < 0 then v2 - v1 + p else v2 - v1 := by
    rw [gapTo, hv1, hv2]
  rw [hgt] at hk
  have hlt : v1 < v2 ∨ v2 < v1 := by omega
  rcases hlt with hlt | hlt
  · have es : ((if (66 + v1).toNat < (66 + v2).toNat then 1 else 0) - (if (66 + v2).toNat < (66 + v1).toNat then 1 else 0) : Int) = 1 := by
      rw [if_pos (by omega), if_neg (by omega)]; rfl
    rw [es]
    clear es
    k_steps
    rename News _ _ _ _ => N6
    rename Fr _ _ _ _ => F6
    refine hk ?tok1 _ _ _ F6 ?eq1 rfl rfl rfl N6
    case eq1 =>
      have e : (if v2 - v1 < 0 then v2 - v1 + p else v2 - v1) = (((66 + v2).toNat : Nat) : Int) - (((66 + v1).toNat : Nat) : Int) := by rw [if_neg (by omega)]; omega
      rw [e]
      exact rfl
  · have es : ((if (66 + v1).toNat < (66 + v2).toNat then 1 else 0) - (if (66 + v2).toNat < (66 + v1).toNat then 1 else 0) : Int) = -1 := by
      rw [if_neg (by omega), if_pos (by omega)]; rfl
    rw [es]
    clear es
    k_steps
    rename News _ _ _ _ => N6
    rename Fr _ _ _ _ => F6
    refine hk ?tok2 _ _ _ F6 ?eq2 rfl rfl rfl N6
    case eq2 =>
      have e : (if v2 - v1 < 0 then v2 - v1 + p else v2 - v1) = (((66 + v2).toNat : Nat) : Int) - (((66 + v1).toNat : Nat) : Int) + p := by rw [if_pos (by omega)]; omega
      rw [e]
      exact rfl
end
end
section
local macro_rules | `(tactic| walk_at "idle 0") => `(tactic| done)
theorem fresh_InnerTail : True := by w_top off; exact trivial
section
variable {w : World} {mean : ExcName → Option Value} {mg mb : Str → Option Value} {s : Shared} {h₀ : Heap} {a : Addr} {cd : Value} {m : Str → Option Value} {Q : Flow → Shared → Prop}
  {L lc lv ls : Nat} {vs ys us : List Value} {cs ns xs : List Int} {n n2 n3 : Nat} {o1 o2 o3 o4 o5 : Obj} {rest : List Stmt} {p f sh : Int} {t1 t2 t3 t4 : Tok}
local macro_rules | `(tactic| walk_at "call ref") => `(tactic| (k_here; (with_reducible show wpAny _ _ (call (Value.ref 115) _) _ _ _); with_reducible refine call_stop ?_))
set_option maxRecDepth 100000 in
set_option maxHeartbeats 8000000 in
theorem inner_tail (B : Below callerA h₀ [] h₀) (KX : (hd.heap_39 w.params).In h₀) (T : Top hd.view_39 (looseW hd.view_39 ["Whitespace"]) mean mg mb h₀) {ea eb : Int} {ta tb : Tok} {own : List (Addr × Obj)}
  (F : Fr h₀ L s.heap m) (N : News h₀ L s.heap ([(ls, listOf us.toArray n3), (lv, listOf ys.toArray n2), (L + 1 + 1 + 1 + 1 + 1, o5), (L + 1 + 1 + 1 + 1, o4), (L + 1 + 1 + 1, o3), (L + 1 + 1, o2), (L + 1, o1)] ++ own)) (hsy : m "symbols" = some (.ref ls)) (hgm : m "gap" = some (.int (ea + 1) ta)) (hrm : m "reach" = some (.int (eb + 1) tb))
  (hne : lv ≠ ls ∧ L + 1 + 1 + 1 + 1 + 1 ≠ ls ∧ L + 1 + 1 + 1 + 1 ≠ ls ∧ L + 1 + 1 + 1 ≠ ls ∧ L + 1 + 1 ≠ ls ∧ L + 1 ≠ ls) (hown : OwnOff own [ls, lv, L + 1 + 1 + 1 + 1 + 1, L + 1 + 1 + 1 + 1, L + 1 + 1 + 1, L + 1 + 1, L + 1]) (hI : IntsAre us xs) (hU : UF xs) (ha : 0 ≤ ea ∧ ea < xs.length) (hb : 0 ≤ eb ∧ eb < xs.length)
  (hk : ∀ us' (i j : Nat) m' h' tk', i < xs.length → j < xs.length → Root xs ea.toNat i → Root xs eb.toNat j → Fr h₀ L h' m' → (∀ z : Str, z ≠ "upper" → z ≠ "lower" → m' z = m z) → News h₀ L h' ((ls, listOf us'.toArray n3) :: (lv, listOf ys.toArray n2) :: (L + 1 + 1 + 1 + 1 + 1, o5) :: (L + 1 + 1 + 1 + 1, o4) :: (L + 1 + 1 + 1, o3) :: (L + 1 + 1, o2) :: (L + 1, o1) :: own) → IntsAre us' (join xs i j) →
    Q .next { s with heap := h', toks := tk' }) :
  wpAny (model Challenge.rw_wj0023_01.row.prog w) (callerA.deeper (envOfC "law" lawScope L a cd)) (execs (lawInner.drop 6) (envOfC "law" lawScope L a cd)) Q (fun _ _ => False) s := by
  revert KX; k_fill; intro KX
  conv => arg 3; arg 1; whnf
  replace F := pin (pin (pin F hsy) (x := "gap") (Eq.trans (by rfl) hgm)) (x := "reach") (Eq.trans (by rfl) hrm)
  simp only [List.cons_append, List.nil_append] at N
  k_steps
  rename News _ _ _ _ => N4
  rename Fr _ _ _ _ => F4
  refine Stop.go ?_
  with_unfolding_all refine' law_root ?qB ?qF ?qK ?qN ?qT ?q1 ?q2 ?q3 ?q4 hI hU ?q5 ?q6 ?_
  case qB => assumption
  case qF => exact F4
  case qK => assumption
  case qN => exact N4
  case qT => assumption
  case q1 => exact rfl
  case q2 => decide
  case q3 => decide
  case q4 => exact .head _
  case q5 => omega
  case q6 => omega
  intro i ti h1 tk1 hil hri F5 N5
  clear F4 N4
  rw [show ea + 1 - 1 = ea from by omega] at hri
  k_steps
  rename News _ _ _ _ => N4
  rename Fr _ _ _ _ => F4
  refine Stop.go ?_
  with_unfolding_all refine' law_root ?qB ?qF ?qK ?qN ?qT ?q1 ?q2 ?q3 ?q4 hI hU ?q5 ?q6 ?_
  case qB => assumption
  case qF => exact F4
  case qK => assumption
  case qN => exact N4
  case qT => assumption
  case q1 => exact rfl
  case q2 => decide
  case q3 => decide
  case q4 => exact .head _
  case q5 => omega
  case q6 => omega
  intro j tj h2 tk2 hjl hrj F6 N6
  clear F4 N4
  rw [show eb + 1 - 1 = eb from by omega] at hrj
  have hlen9 := hU.len
  k_steps
  all_goals (rename News _ _ _ _ => N4; rename Fr _ _ _ _ => F4)
  · rename IntsAre _ (List.set _ _ _) => hI4
    have hij : i ≠ j := by omega
    have e1 : (if (j : Int) > (i : Int) then (j : Int) else (i : Int)).toNat = max i j := by split <;> omega
    have e2 : (256 + if (j : Int) < (i : Int) then (j : Int) else (i : Int)) = 256 + ((min i j : Nat) : Int) := by split <;> omega
    refine hk _ i j _ _ _ hil hjl hri hrj F4 (fun z h1 h2 => ?_) N4 ?_
    · show (if z = _ then _ else if z = _ then _ else if z = _ then _ else if z = _ then _ else if z = _ then _ else m z) = m z
      rw [if_neg h2, if_neg h1, keep_pin hsy, keep_pin hgm, keep_pin hrm]
    · rw [join, if_neg hij, ← e1, ← e2]
      exact hI4
  · have hij : i = j := by omega
    refine hk _ i j _ _ _ hil hjl hri hrj F4 (fun z h1 h2 => ?_) N4 ?_
    · show (if z = _ then _ else if z = _ then _ else if z = _ then _ else if z = _ then _ else if z = _ then _ else m z) = m z
      rw [if_neg h2, if_neg h1, keep_pin hsy, keep_pin hgm, keep_pin hrm]
    · rw [join, if_pos hij]
      exact hI
end
end
section
theorem fresh_St12 : True := by w_top off; exact trivial
section
variable {w : World} {mean : ExcName → Option Value} {mg mb : Str → Option Value} {s : Shared} {h₀ : Heap} {a : Addr} {cd : Value} {m : Str → Option Value} {Q : Flow → Shared → Prop}
  {L lc lv ls : Nat} {vs ys us : List Value} {cs ns xs : List Int} {n n2 n3 : Nat} {o1 o2 o3 o4 o5 : Obj} {rest : List Stmt} {p f sh : Int} {t1 t2 t3 t4 : Tok}
set_option maxRecDepth 100000 in
set_option maxHeartbeats 8000000 in
theorem st12 (B : Below callerA h₀ [] h₀) (KX : (hd.heap_39 w.params).In h₀) (T : Top hd.view_39 (looseW hd.view_39 ["Whitespace"]) mean mg mb h₀)
  (F : Fr h₀ L s.heap m) (N : News h₀ L s.heap [(ls, listOf us.toArray n3), (lv, listOf ys.toArray n2), (L + 1 + 1 + 1 + 1 + 1, o5), (L + 1 + 1 + 1 + 1, o4), (L + 1 + 1 + 1, o3), (L + 1 + 1, o2), (L + 1, o1)]) (c1 : o1.data = .cell (some (.int p t1))) (hw : m "word" = some (.str (wordOf ns) t2)) (hsy : m "symbols" = some (.ref ls))
  (hp : p = 5 ∨ p = 7 ∨ p = 11) (hP : PermOf p ns) (hne : lv ≠ ls ∧ L + 1 + 1 + 1 + 1 + 1 ≠ ls ∧ L + 1 + 1 + 1 + 1 ≠ ls ∧ L + 1 + 1 + 1 ≠ ls ∧ L + 1 + 1 ≠ ls ∧ L + 1 ≠ ls) (hI : IntsAre us (rangeKs 0 (p - 1).toNat))
  (hk : ∀ us xs m' h' tk', Fr h₀ L h' m' → m' "word" = some (.str (wordOf ns) t2) → m' "symbols" = some (.ref ls) → News h₀ L h' [(ls, listOf us.toArray n3), (lv, listOf ys.toArray n2), (L + 1 + 1 + 1 + 1 + 1, o5), (L + 1 + 1 + 1 + 1, o4), (L + 1 + 1 + 1, o3), (L + 1 + 1, o2), (L + 1, o1)] → IntsAre us xs → Inv p ns xs (p - 1).toNat 0 →
    wpAny (model Challenge.rw_wj0023_01.row.prog w) (callerA.deeper (envOfC "law" lawScope L a cd)) (execs (rest) (envOfC "law" lawScope L a cd)) Q (fun _ _ => False) { s with heap := h', toks := tk' }) :
  wpAny (model Challenge.rw_wj0023_01.row.prog w) (callerA.deeper (envOfC "law" lawScope L a cd)) (execs (lawBody.getD 12 (.Pass default) :: rest) (envOfC "law" lawScope L a cd)) Q (fun _ _ => False) s := by
  revert KX; k_fill; intro KX
  conv => arg 3; arg 1; arg 1; whnf
  replace F := pin (pin F hw) (x := "symbols") (Eq.trans (by rfl) hsy)
  k_steps
  rename News _ _ _ _ => N1
  rename Fr _ _ _ _ => F1
  rename IsRange _ _ _ _ _ _ _ _ => R1
  refine Stop.go ?_
  refine range_inv (n := (p - 1).toNat) (fun i m' nx => ∃ us xs, nx = [(ls, listOf us.toArray n3), (lv, listOf ys.toArray n2), (L + 1 + 1 + 1 + 1 + 1, o5), (L + 1 + 1 + 1 + 1, o4), (L + 1 + 1 + 1, o3), (L + 1 + 1, o2), (L + 1, o1)] ∧ IntsAre us xs ∧ Inv p ns xs i 0 ∧ m' "word" = some (.str (wordOf ns) t2) ∧ m' "symbols" = some (.ref ls)) rfl R1 (small_one (by omega) (by omega) (by omega) (by omega)) (rangeSize_nat _ _) F1 N1 ⟨_, _, rfl, hI, Inv.start hp, rfl, rfl⟩ ?_ ?_
  · rintro i t m₁ nx h tk own hi _ hown ⟨us1, xs1, rfl, hI1, hV, hw1, hs1⟩ F2 N2
    have F3 := pin (pin F2 (x := "word") (Eq.trans (by rfl) hw1)) (x := "symbols") (Eq.trans (by rfl) hs1)
    clear F2 F1 N1 R1
    simp only [List.cons_append, List.nil_append] at N2
    k_steps
    rename News _ _ _ _ => N4
    rename Fr _ _ _ _ => F4
    rename IsRange _ _ _ _ _ _ _ _ => R4
    refine Stop.go ?_
    refine range_inv (n := p.toNat) (fun j m' nx => ∃ us xs, nx = (ls, listOf us.toArray n3) :: (lv, listOf ys.toArray n2) :: (L + 1 + 1 + 1 + 1 + 1, o5) :: (L + 1 + 1 + 1 + 1, o4) :: (L + 1 + 1 + 1, o3) :: (L + 1 + 1, o2) :: (L + 1, o1) :: own ∧ IntsAre us xs ∧ Inv p ns xs i j ∧ m' "word" = some (.str (wordOf ns) t2) ∧ m' "symbols" = some (.ref ls) ∧ m' "gap" = some (.int (1 + (i : Int)) t)) rfl R4 (small_one (by omega) (by omega) (by omega) (by omega)) (by have e := rangeSize_nat 0 p; rw [show p - 0 = p from by omega] at e; exact e) F4 N4 ⟨_, _, rfl, hI1, hV, rfl, rfl, rfl⟩ ?_ ?_
    · rintro j t' m₁ nx h tk own2 hj _ hown2 ⟨us2, xs2, rfl, hI2, hV2, hw2, hs2, hg2⟩ F5 N5
      clear F4 N4 R4
      simp only [List.map_cons] at hown2 hown
      have hgb : 1 ≤ 1 + (i : Int) ∧ 1 + (i : Int) < p := by omega
      have hxb : 0 ≤ 0 + (j : Int) ∧ 0 + (j : Int) < p := by omega
      refine inner_head (us := us2) (own := own ++ own2) B KX T F5 N5 c1 (Eq.trans (by rfl) hw2) (Eq.trans (by rfl) hs2) (Eq.trans (by rfl) hg2) rfl hp hP hgb hxb ?_
      intro tr m2 h2 tk2 F6 hr6 hw6 hs6 hg6 N6
      have hgt := gapTo_bnd hP hgb hxb
      have hlx := hV2.len
      refine inner_tail (us := us2) (own := own ++ own2) (ea := i) (eb := gapTo p ns (1 + (i : Int)) (0 + (j : Int)) - 1) B KX T F6 N6 hs6 (hg6.trans (by rw [Int.add_comm])) (hr6.trans (by rw [Int.sub_add_cancel])) hne ?_ hI2 hV2.uf (by omega) (by omega) ?_
      · intro q hq b hb
        rcases List.mem_append.mp hq with hq | hq
        · exact hown q hq b hb
        · exact hown2 q hq b (List.mem_append_left (as := [ls, lv, L + 1 + 1 + 1 + 1 + 1, L + 1 + 1 + 1 + 1, L + 1 + 1 + 1, L + 1 + 1, L + 1]) _ hb)
      · intro us3 u v m3 h3 tk3 hul hvl hu hv F7 hk7 N7 hI7
        refine inv_end (nx := (ls, listOf us3.toArray n3) :: (lv, listOf ys.toArray n2) :: (L + 1 + 1 + 1 + 1 + 1, o5) :: (L + 1 + 1 + 1 + 1, o4) :: (L + 1 + 1 + 1, o3) :: (L + 1 + 1, o2) :: (L + 1, o1) :: own) F7 N7 rfl ?_
        refine ⟨us3, _, rfl, hI7, ?_, (hk7 _ (by decide) (by decide)).trans hw6, (hk7 _ (by decide) (by decide)).trans hs6, (hk7 _ (by decide) (by decide)).trans hg6⟩
        have e1 : (1 + (i : Int)) = (i : Int) + 1 := by omega
        have e2 : (0 + (j : Int)) = (j : Int) := by omega
        rw [e1, e2] at hv
        exact hV2.step hP (by omega) (by omega) (by simpa using hu) hv
    · rintro m₁ nx h tk ⟨us2, xs2, rfl, hI2, hV2, hw2, hs2, hg2⟩ F5 N5
      k_steps
      refine inv_end (nx := [(ls, listOf us2.toArray n3), (lv, listOf ys.toArray n2), (L + 1 + 1 + 1 + 1 + 1, o5), (L + 1 + 1 + 1 + 1, o4), (L + 1 + 1 + 1, o3), (L + 1 + 1, o2), (L + 1, o1)]) F5 N5 rfl ?_
      exact ⟨us2, _, rfl, hI2, hV2.next (by omega), hw2, hs2⟩
  · rintro m₁ nx h tk ⟨us1, xs1, rfl, hI1, hV, hw1, hs1⟩ F2 N2
    exact hk _ _ _ _ _ F2 hw1 hs1 N2 hI1 hV
end
end
section
theorem fresh_St13 : True := by w_top off; exact trivial
section
variable {w : World} {mean : ExcName → Option Value} {mg mb : Str → Option Value} {s : Shared} {h₀ : Heap} {a : Addr} {cd : Value} {m : Str → Option Value} {Q : Flow → Shared → Prop}
  {L lc lv ls : Nat} {vs ys us : List Value} {cs ns xs : List Int} {n n2 n3 : Nat} {o1 o2 o3 o4 o5 : Obj} {rest : List Stmt} {p f sh : Int} {t1 t2 t3 t4 : Tok}
set_option maxRecDepth 100000 in
set_option maxHeartbeats 8000000 in
theorem st13 (B : Below callerA h₀ [] h₀) (KX : (hd.heap_39 w.params).In h₀) (T : Top hd.view_39 (looseW hd.view_39 ["Whitespace"]) mean mg mb h₀)
  (F : Fr h₀ L s.heap m) (N : News h₀ L s.heap [(ls, listOf us.toArray n3), (lv, listOf ys.toArray n2), (L + 1 + 1 + 1 + 1 + 1, o5), (L + 1 + 1 + 1 + 1, o4), (L + 1 + 1 + 1, o3), (L + 1 + 1, o2), (L + 1, o1)]) (c1 : o1.data = .cell (some (.int p t1))) (hw : m "word" = some (.str (wordOf ns) t2)) (hsy : m "symbols" = some (.ref ls))
  (hp : p = 5 ∨ p = 7 ∨ p = 11)
  (hk : ∀ (lz : Nat) zs n4 m' h' tk', ls ≠ lz ∧ lv ≠ lz ∧ L + 1 + 1 + 1 + 1 + 1 ≠ lz ∧ L + 1 + 1 + 1 + 1 ≠ lz ∧ L + 1 + 1 + 1 ≠ lz ∧ L + 1 + 1 ≠ lz ∧ L + 1 ≠ lz → Fr h₀ L h' m' → m' "word" = some (.str (wordOf ns) t2) → m' "symbols" = some (.ref ls) → m' "sizes" = some (.ref lz) → News h₀ L h' [(lz, listOf zs.toArray n4), (ls, listOf us.toArray n3), (lv, listOf ys.toArray n2), (L + 1 + 1 + 1 + 1 + 1, o5), (L + 1 + 1 + 1 + 1, o4), (L + 1 + 1 + 1, o3), (L + 1 + 1, o2), (L + 1, o1)] → IntsAre zs (List.replicate (p - 1).toNat 0) →
    wpAny (model Challenge.rw_wj0023_01.row.prog w) (callerA.deeper (envOfC "law" lawScope L a cd)) (execs (rest) (envOfC "law" lawScope L a cd)) Q (fun _ _ => False) { s with heap := h', toks := tk' }) :
  wpAny (model Challenge.rw_wj0023_01.row.prog w) (callerA.deeper (envOfC "law" lawScope L a cd)) (execs (lawBody.getD 13 (.Pass default) :: rest) (envOfC "law" lawScope L a cd)) Q (fun _ _ => False) s := by
  revert KX; k_fill; intro KX
  conv => arg 3; arg 1; arg 1; whnf
  replace F := pin (pin F hw) (x := "symbols") (Eq.trans (by rfl) hsy)
  k_steps
  rename News _ _ _ _ => N4
  rename Fr _ _ _ _ => F4
  exact hk _ _ _ _ _ _ (by omega) F4 rfl rfl rfl (news_sub N4 fun q hq => (List.mem_cons.mp hq).elim (fun e => e ▸ .head _) fun h => .tail _ (.tail _ h)) (zeros_are _ _)
end
end
section
theorem fresh_St14 : True := by w_top off; exact trivial
section
variable {w : World} {mean : ExcName → Option Value} {mg mb : Str → Option Value} {s : Shared} {h₀ : Heap} {a : Addr} {cd : Value} {m : Str → Option Value} {Q : Flow → Shared → Prop}
  {L lc lv ls : Nat} {vs ys us : List Value} {cs ns xs : List Int} {n n2 n3 : Nat} {o1 o2 o3 o4 o5 : Obj} {rest : List Stmt} {p f sh : Int} {t1 t2 t3 t4 : Tok}
local macro_rules | `(tactic| walk_at "call ref") => `(tactic| (k_here; (with_reducible show wpAny _ _ (call (Value.ref 115) _) _ _ _); with_reducible refine call_stop ?_))
set_option maxRecDepth 100000 in
set_option maxHeartbeats 8000000 in
theorem st14 (B : Below callerA h₀ [] h₀) (KX : (hd.heap_39 w.params).In h₀) (T : Top hd.view_39 (looseW hd.view_39 ["Whitespace"]) mean mg mb h₀) {lz n4 : Nat} {zs : List Value}
  (F : Fr h₀ L s.heap m) (N : News h₀ L s.heap [(lz, listOf zs.toArray n4), (ls, listOf us.toArray n3), (lv, listOf ys.toArray n2), (L + 1 + 1 + 1 + 1 + 1, o5), (L + 1 + 1 + 1 + 1, o4), (L + 1 + 1 + 1, o3), (L + 1 + 1, o2), (L + 1, o1)]) (c1 : o1.data = .cell (some (.int p t1))) (hw : m "word" = some (.str (wordOf ns) t2)) (hsy : m "symbols" = some (.ref ls)) (hsz : m "sizes" = some (.ref lz))
  (hp : p = 5 ∨ p = 7 ∨ p = 11) (hI : IntsAre us xs) (hU : UF xs) (hlx : (xs.length : Int) = p - 1) (hZ : IntsAre zs (List.replicate (p - 1).toNat 0)) (hne : ls ≠ lz ∧ lv ≠ lz ∧ L + 1 + 1 + 1 + 1 + 1 ≠ lz ∧ L + 1 + 1 + 1 + 1 ≠ lz ∧ L + 1 + 1 + 1 ≠ lz ∧ L + 1 + 1 ≠ lz ∧ L + 1 ≠ lz)
  (hk : ∀ zs rs m' h' tk', Fr h₀ L h' m' → m' "word" = some (.str (wordOf ns) t2) → m' "symbols" = some (.ref ls) → m' "sizes" = some (.ref lz) → News h₀ L h' [(lz, listOf zs.toArray n4), (ls, listOf us.toArray n3), (lv, listOf ys.toArray n2), (L + 1 + 1 + 1 + 1 + 1, o5), (L + 1 + 1 + 1 + 1, o4), (L + 1 + 1 + 1, o3), (L + 1 + 1, o2), (L + 1, o1)] → IntsAre zs (cnt (p - 1).toNat rs) → rs.length = xs.length → (∀ k, k < xs.length → Root xs k (rs.getD k 0)) →
    wpAny (model Challenge.rw_wj0023_01.row.prog w) (callerA.deeper (envOfC "law" lawScope L a cd)) (execs (rest) (envOfC "law" lawScope L a cd)) Q (fun _ _ => False) { s with heap := h', toks := tk' }) :
  wpAny (model Challenge.rw_wj0023_01.row.prog w) (callerA.deeper (envOfC "law" lawScope L a cd)) (execs (lawBody.getD 14 (.Pass default) :: rest) (envOfC "law" lawScope L a cd)) Q (fun _ _ => False) s := by
  revert KX; k_fill; intro KX
  conv => arg 3; arg 1; arg 1; whnf
  replace F := pin (pin (pin F hw) (x := "symbols") (Eq.trans (by rfl) hsy)) (x := "sizes") (Eq.trans (by rfl) hsz)
  k_steps
  rename News _ _ _ _ => N1
  rename Fr _ _ _ _ => F1
  rename IsRange _ _ _ _ _ _ _ _ => R1
  refine Stop.go ?_
  refine range_turns (n := (p - 1).toNat) (fun i m' nx => ∃ zs rs, nx = [(lz, listOf zs.toArray n4), (ls, listOf us.toArray n3), (lv, listOf ys.toArray n2), (L + 1 + 1 + 1 + 1 + 1, o5), (L + 1 + 1 + 1 + 1, o4), (L + 1 + 1 + 1, o3), (L + 1 + 1, o2), (L + 1, o1)] ∧ IntsAre zs (cnt (p - 1).toNat rs) ∧ rs.length = i ∧ (∀ k, k < i → Root xs k (rs.getD k 0)) ∧ m' "word" = some (.str (wordOf ns) t2) ∧ m' "symbols" = some (.ref ls) ∧ m' "sizes" = some (.ref lz)) rfl R1 (small_one (by omega) (by omega) (by omega) (by omega)) (by have e := rangeSize_nat 0 (p - 1); rw [show p - 1 - 0 = p - 1 from by omega] at e; exact e) F1 N1 ⟨_, [], rfl, hZ, rfl, fun k hk => absurd hk (Nat.not_lt_zero _), rfl, rfl, rfl⟩ ?_ ?_
  · rintro i t m₁ nx h tk own hi _ hown ⟨zs1, rs, rfl, hI1, hrl, hrr, hw1, hs1, hz1⟩ F2 N2
    have F3 := pin (pin (pin F2 (x := "word") (Eq.trans (by rfl) hw1)) (x := "symbols") (Eq.trans (by rfl) hs1)) (x := "sizes") (Eq.trans (by rfl) hz1)
    clear F2 F1 N1 R1
    simp only [List.cons_append, List.nil_append] at N2
    k_steps
    rename News _ _ _ _ => N4
    rename Fr _ _ _ _ => F4
    refine Stop.go ?_
    with_unfolding_all refine' law_root ?qB ?qF ?qK ?qN ?qT ?q1 ?q2 ?q3 ?q4 hI hU ?q5 ?q6 ?_
    case qB => assumption
    case qF => exact F4
    case qK => assumption
    case qN => exact N4
    case qT => assumption
    case q1 => exact rfl
    case q2 => decide
    case q3 => decide
    case q4 => exact .tail _ (.head _)
    case q5 => omega
    case q6 => omega
    intro r tr h1 tk1 hrl2 hrr2 F5 N5
    clear F4 N4
    have e0 : (0 + (i : Int)).toNat = i := by omega
    rw [e0] at hrr2
    have hcl := cnt_length (n := (p - 1).toNat) (rs := rs)
    have hcb := cnt_bnd (n := (p - 1).toNat) (rs := rs) r
    have hrn : 0 ≤ (r : Int) ∧ (r : Int) < ((cnt (p - 1).toNat rs).length : Int) ∧ (r : Int) < 2 ^ 63 := by omega
    k_steps
    rename News _ _ _ _ => N6
    rename Fr _ _ _ _ => F6
    refine turn_back (nx := _ :: [_, _, _, _, _, _, _]) F6 N6 rfl ?_
    refine ⟨_, rs ++ [r], rfl, ?_, by rw [List.length_append, hrl]; rfl, fun k hk => ?_, rfl, rfl, rfl⟩
    · rw [cnt_snoc]
      assumption
    · rw [List.getD_eq_getElem?_getD, List.getElem?_append]
      split
      · have := hrr k (by omega)
        rwa [List.getD_eq_getElem?_getD] at this
      · have e : k = i := by omega
        rw [e, hrl, Nat.sub_self]
        exact hrr2
  · rintro m₁ nx h tk ⟨zs1, rs, rfl, hI1, hrl, hrr, hw1, hs1, hz1⟩ F2 N2
    have e : xs.length = (p - 1).toNat := by omega
    exact hk _ rs _ _ _ F2 hw1 hs1 hz1 N2 hI1 (by omega) (fun k hk => hrr k (by omega))
end
end
section
theorem fresh_WsLoop : True := by w_top off; exact trivial
section
variable {w : World} {mean : ExcName → Option Value} {mg mb : Str → Option Value} {A : Around} {s : Shared} {g : Heap} {L x d lc : Nat} {o9 : Obj} {news : List (Addr × Obj)} {m : Str → Option Value} {Q : Flow → Shared → Prop} {E : Value → Shared → Prop} {W : PySem.Str} {t tS tT tb tn tt : Tok} {i c : Nat}
set_option maxRecDepth 100000 in
set_option maxHeartbeats 8000000 in
theorem ws_loop (hh : A.handled = none) (KX : (hd.heap_39 w.params).In g) (T : Top hd.view_39 (looseW hd.view_39 ["Whitespace"]) mean mg mb g) (F : Fr g L s.heap m)
  (hS : m "S" = some (.str " " tS)) (hT : m "T" = some (.str "\t" tT)) (hcm : m "count" = some (.ref lc)) (hbm : m "b" = some (.int 0 tb)) (hnm : m "n" = some (.int 0 tn)) (htm : m "nt" = some (.int 0 tt))
  (N : News g L s.heap ((lc, listOf #[] 0) :: (x, instObj 83 d) :: (d, o9) :: news)) (l1 : AllLt d news) (l2 : d < x) (l3 : x < lc) (hno : ∀ q ∈ news, NoIter q.2) (h9 : NoIter o9)
  (ha : W.cps.all (· < 128) = true) (hsz : W.cps.size ≤ 1000) (hpre : ∀ j, j < i → W.cps[j]? = some 32 ∨ W.cps[j]? = some 9) (hci : W.cps[i]? = some c) (hc : c ≠ 32 ∧ c ≠ 9)
  (hk : ∀ (lc : Nat) cv n' m' h' tk' tb tn tt, d ≠ lc → x ≠ lc → (∀ q ∈ news, q.1 ≠ lc) → Fr g L h' m' → m' "self" = m "self" → m' "count" = some (.ref lc) → m' "b" = some (.int (scan (W.cps.toList.take i)).b tb) → m' "n" = some (.int (scan (W.cps.toList.take i)).n tn) → m' "nt" = some (.int (scan (W.cps.toList.take i)).nt tt) →
    News g L h' ((lc, listOf cv.toArray n') :: (x, instObj 83 d) :: (d, o9) :: news) → IntsAre cv (scan (W.cps.toList.take i)).count → Q .next { s with heap := h', toks := tk' }) :
  wpAny (model Challenge.rw_wj0023_01.row.prog w) A (pyIter (.str W t)) (fun it s₂ => LoopAtV Challenge.rw_wj0023_01.row.prog w A g (envOf "Whitespace.__init__" (defScope (wsDef 1)) L 38 (.ref 37)) "ch" initFor Q E it s₂) E s := by
  revert KX; k_fill; intro KX
  have mk9 := kstMark
  refine ascii_turns (fun j m' nx => j ≤ i ∧ ∃ lc : Nat, ∃ cv n' tb tn tt, nx = (lc, listOf cv.toArray n') :: (x, instObj 83 d) :: (d, o9) :: news ∧ d ≠ lc ∧ x ≠ lc ∧ (∀ q ∈ news, q.1 ≠ lc) ∧ IntsAre cv (scan (W.cps.toList.take j)).count ∧ m' "self" = m "self" ∧ m' "S" = some (.str " " tS) ∧ m' "T" = some (.str "\t" tT) ∧ m' "count" = some (.ref lc) ∧ m' "b" = some (.int (scan (W.cps.toList.take j)).b tb) ∧ m' "n" = some (.int (scan (W.cps.toList.take j)).n tn) ∧ m' "nt" = some (.int (scan (W.cps.toList.take j)).nt tt)) ha hh F N ?_ ?_ ?_ ?_
  · intro q hq
    rcases List.mem_cons.mp hq with rfl | hq
    · exact .inl (fun e => absurd (Value.type.inj e) (by decide))
    · rcases List.mem_cons.mp hq with rfl | hq
      · exact .inl (fun e => nomatch e)
      · rcases List.mem_cons.mp hq with rfl | hq
        · exact h9
        · exact hno q hq
  · refine ⟨Nat.zero_le _, lc, [], 0, tb, tn, tt, rfl, Nat.ne_of_lt (Nat.lt_trans l2 l3), Nat.ne_of_lt l3, fun q hq => ?_, .nil, rfl, hS, hT, hcm, hbm, hnm, htm⟩
    exact Nat.ne_of_lt (Nat.lt_trans (allLt_lt l1 q hq) (Nat.lt_trans l2 l3))
  · rintro j cc tcc m₁ nx h tk I oI hcc hoI hne hcl ⟨hji, lc1, cv1, n1, tb1, tn1, tt1, rfl, hd1, hx1, hn1, hI1, qse, qS, qT, qc, qb, qn, qt⟩ F2 N2
    have F3 := pin (pin (pin (pin (pin (pin F2 (x := "S") (Eq.trans (by rfl) qS)) (x := "T") (Eq.trans (by rfl) qT)) (x := "count") (Eq.trans (by rfl) qc)) (x := "b") (Eq.trans (by rfl) qb)) (x := "n") (Eq.trans (by rfl) qn)) (x := "nt") (Eq.trans (by rfl) qt)
    clear F2
    simp only [List.cons_append, List.nil_append] at N2
    have hjl : j < W.cps.size := by
      obtain ⟨h, _⟩ := Array.getElem?_eq_some_iff.mp hcc
      exact h
    have hB := scan_bnd (cs := W.cps.toList) (i := j) (by rw [Array.length_toList]; omega)
    have e4 := scan_take (cs := W.cps.toList) (i := j) (c := cc) (by rw [Array.getElem?_toList]; exact hcc)
    generalize hz : scan (W.cps.toList.take j) = z at hI1 qb qn qt F3 hB e4
    obtain ⟨zc, zb, zn, zt⟩ := z
    obtain ⟨B1, B2, B3, B4, B5, B6, B7, B8⟩ := hB
    dsimp only at B1 B2 B3 B4 B5 B6 B7 B8 hI1 F3
    have hoff : OwnOff (news ++ [(I, oI)]) [lc1] := fun q hq b hb => by
      rw [List.mem_singleton.mp hb]
      rcases List.mem_append.mp hq with hq | hq
      · exact hn1 q hq
      · rw [List.mem_singleton.mp hq]
        exact (hne _ (.head _)).symm
    have hjb : cc = 32 ∨ cc = 9 → j + 1 ≤ i := fun h => by
      have : j ≠ i := fun e => by
        rw [e, hci] at hcc
        have := Option.some.inj hcc
        omega
      omega
    conv => arg 3; arg 1; whnf
    refine named fun Q9 hQ9 => ?_
    k_steps
    · subst hQ9
      rename (_ == _) = true => hq
      rw [blank_eq, decide_eq_true_eq] at hq
      rename News _ _ _ _ => N9
      rename Fr _ _ _ _ => F9
      have e5 : scan (W.cps.toList.take (j + 1)) = ⟨zc, zb + 1, zn + 1, zt⟩ := by rw [e4, hq]; rfl
      refine ⟨_, _, _, (lc1, listOf cv1.toArray n1) :: (x, instObj 83 d) :: (d, o9) :: news, rfl, F9, N9, hcl, hjb (.inl hq), lc1, cv1, n1, ?tb, ?tn, ?tt, rfl, hd1, hx1, hn1, ?ei, qse, rfl, rfl, rfl, ?eb, ?en, ?et⟩
      case ei => rw [e5]; exact hI1
      case eb => rw [e5]; exact rfl
      case en => rw [e5]; exact rfl
      case et => rw [e5]; exact rfl
    · subst hQ9
      rename (_ == PySem.Str.ofString "	") = true => hq
      rw [tab_eq, decide_eq_true_eq] at hq
      rename _ ≤ zb => hge
      rename News _ _ _ _ => N9
      rename Fr _ _ _ _ => F9
      rename (_ < _ ∧ _ < _ ∧ _ < _ ∧ _ < _ ∧ _ < _ ∧ AllLt _ _) => hl9
      rename IntsAre (List.set _ _ _) _ => hI9
      have e5 : scan (W.cps.toList.take (j + 1)) = ⟨bump zc zb, 0, zn + 1, zt + 1⟩ := by rw [e4, hq]; rfl
      have e6 : bump zc zb = (zc ++ (List.replicate (zb - zc.length + 1).toNat [(0 : Int)]).flatten).set zb.toNat ((zc ++ (List.replicate (zb - zc.length + 1).toNat [0]).flatten).getD zb.toNat 0 + 1) := by
        rw [flat_zeros, bump, if_pos hge]
      have hn9 := allLt_ne hl9.2.2.2.2.2
      refine ⟨_, _, _, (_, listOf _ _) :: (x, instObj 83 d) :: (d, o9) :: news, rfl, F9, news_skip3 N9, ?ec, hjb (.inr hq), _, _, _, ?tb2, ?tn2, ?tt2, rfl, Nat.ne_of_lt hl9.2.2.2.2.1, Nat.ne_of_lt hl9.2.2.2.1, fun q hq => hn9 q (List.mem_append_left _ hq), ?ei2, qse, rfl, rfl, rfl, ?eb2, ?en2, ?et2⟩
      case ec =>
        intro q hq
        rcases List.mem_cons.mp hq with rfl | hq
        · exact .inl (fun e => absurd (Value.type.inj e) (by decide))
        · exact hcl q (.tail _ hq)
      case ei2 => rw [e5]; dsimp only; rw [e6]; exact hI9
      case eb2 => rw [e5]; exact rfl
      case en2 => rw [e5]; exact rfl
      case et2 => rw [e5]; exact rfl
    · subst hQ9
      rename (_ == PySem.Str.ofString "	") = true => hq
      rw [tab_eq, decide_eq_true_eq] at hq
      rename ¬ _ ≤ zb => hge
      rename News _ _ _ _ => N9
      rename Fr _ _ _ _ => F9
      rename IntsAre (List.set _ _ _) _ => hI9
      have e5 : scan (W.cps.toList.take (j + 1)) = ⟨bump zc zb, 0, zn + 1, zt + 1⟩ := by rw [e4, hq]; rfl
      have e6 : bump zc zb = zc.set zb.toNat (zc.getD zb.toNat 0 + 1) := by
        rw [bump, if_neg hge]
      refine ⟨_, _, _, (lc1, listOf _ n1) :: (x, instObj 83 d) :: (d, o9) :: news, rfl, F9, N9, ?ec, hjb (.inr hq), lc1, _, n1, ?tb3, ?tn3, ?tt3, rfl, hd1, hx1, hn1, ?ei3, qse, rfl, rfl, rfl, ?eb3, ?en3, ?et3⟩
      case ec =>
        intro q hq
        rcases List.mem_cons.mp hq with rfl | hq
        · exact .inl (fun e => absurd (Value.type.inj e) (by decide))
        · exact hcl q (.tail _ hq)
      case ei3 => rw [e5]; dsimp only; rw [e6]; exact hI9
      case eb3 => rw [e5]; exact rfl
      case en3 => rw [e5]; exact rfl
      case et3 => rw [e5]; exact rfl
    · subst hQ9
      rename (_ == PySem.Str.ofString " ") = false => hq1
      rename (_ == PySem.Str.ofString "	") = false => hq2
      rw [blank_eq, decide_eq_false_iff_not] at hq1
      rw [tab_eq, decide_eq_false_iff_not] at hq2
      have hij : j = i := by
        rcases Nat.lt_or_ge j i with h | h
        · rcases hpre j h with e | e <;> rw [hcc] at e <;> have := Option.some.inj e <;> omega
        · omega
      subst hij
      rename News _ _ _ _ => N9
      rename Fr _ _ _ _ => F9
      rw [hz] at hk
      exact hk lc1 cv1 n1 _ _ _ _ _ _ hd1 hx1 hn1 F9 qse rfl rfl rfl rfl (news_sub N9 fun q hq => List.mem_append_left (as := (lc1, listOf cv1.toArray n1) :: (x, instObj 83 d) :: (d, o9) :: news) _ hq) hI1
  · rintro m₁ nx h tk ⟨hji, _⟩ F2 N2
    obtain ⟨h, _⟩ := Array.getElem?_eq_some_iff.mp hci
    omega
end
end
section
theorem fresh_WsNew : True := by w_top off; exact trivial
section
variable {w : World} {mean : ExcName → Option Value} {mg mb : Str → Option Value} {s : Shared} {h₀ : Heap} {a : Addr} {cd : Value} {m : Str → Option Value} {Q : Flow → Shared → Prop}
  {L lc lv ls : Nat} {vs ys us : List Value} {cs ns xs : List Int} {n n2 n3 : Nat} {o1 o2 o3 o4 o5 : Obj} {rest : List Stmt} {p f sh : Int} {t1 t2 t3 t4 : Tok}
local macro_rules | `(tactic| walk_at "call type:tuple") => `(tactic| (k_here; (with_reducible show wpAny _ _ (call (Value.type _) [Value.ref _]) _ _ _); k_dflt (refine' tuple_led ?k1 ?k2 ?k3 ?k4 ?_; (case k1 => k_asm); (case k2 => k_asm); (case k3 => k_mem); (case k4 => (rw [PySem.sizeLine_eq]; omega)); k_whole); intro D9 h9 F9 N9 l9; (try simp only [AllLt, and_true] at l9)))
set_option maxRecDepth 100000 in
set_option maxHeartbeats 8000000 in
theorem ws_new (B : Below callerA h₀ [] h₀) (KX : (hd.heap_39 w.params).In h₀) (T : Top hd.view_39 (looseW hd.view_39 ["Whitespace"]) mean mg mb h₀) {W : PySem.Str} {t : Tok} {news : List (Addr × Obj)} {R : Value → Shared → Prop} {i : Nat} {c : Nat}
  (F : Fr h₀ L s.heap m) (N : News h₀ L s.heap news) (hno : ∀ q ∈ news, NoIter q.2) (ha : W.cps.all (· < 128) = true) (hsz : W.cps.size ≤ 1000)
  (hpre : ∀ j, j < i → W.cps[j]? = some 32 ∨ W.cps[j]? = some 9) (hci : W.cps[i]? = some c) (hc : c ≠ 32 ∧ c ≠ 9)
  (hk : ∀ (x d tn tc : Nat) cv h' tk' k1 k2 k3 k4 k5 t1 t2 t3 q, AllLt x news → AllLt d news → AllLt tn news → AllLt tc news → Fr h₀ L h' m → IntsAre cv (scan (W.cps.toList.take i)).count →
    News h₀ L h' (WsObjs w x d tn tc cv (scan (W.cps.toList.take i)) W t k1 k2 k3 k4 k5 t1 t2 t3 q ++ news) → R (.ref x) { s with heap := h', toks := tk' }) :
  wpAny (model Challenge.rw_wj0023_01.row.prog w) (callerA.deeper (envOfC "law" lawScope L a cd)) (call (.ref 83) [.str W t]) R (fun _ _ => False) s := by
  revert KX; k_fill; intro KX
  have mk9 := kstMark
  k_steps
  rename News _ _ _ _ => N1
  rename Fr _ _ _ _ => F1
  rename (∀ p : Addr × Obj, p ∈ news → _ < _) => q7
  rename _ < _ => q6
  refine Stop.go ?_
  with_unfolding_all refine' ws_loop (i := i) (c := c) ?hh ?hK ?hT ?hF ?hS ?hT2 ?hc1 ?hb1 ?hn1 ?ht1 ?hN ?l1 ?l2 ?l3 ?hno ?h9 ha hsz hpre hci hc ?_
  case hh => exact rfl
  case hK => assumption
  case hT => assumption
  case hF => exact F1
  case hS => exact rfl
  case hT2 => exact rfl
  case hc1 => exact rfl
  case hb1 => exact rfl
  case hn1 => exact rfl
  case ht1 => exact rfl
  case hN => exact news_drop2 N1
  case l1 => first | assumption | exact allLt_of (by assumption)
  case l2 => assumption
  case l3 => omega
  case hno => exact hno
  case h9 => exact .inl (fun e => absurd (Value.type.inj e) (by decide))
  intro lc cv n' m9 h9 tk9 tb tn tt hd9 hx9 hn9 F9 qse qc qb qn qt N9 hI9
  clear F1 N1
  replace F9 := pin (pin (pin (pin (pin F9 (x := "self") (Eq.trans qse (by rfl))) (x := "count") (Eq.trans (by rfl) qc)) (x := "b") (Eq.trans (by rfl) qb)) (x := "n") (Eq.trans (by rfl) qn)) (x := "nt") (Eq.trans (by rfl) qt)
  have hil : i < W.cps.size := by
    obtain ⟨h, _⟩ := Array.getElem?_eq_some_iff.mp hci
    exact h
  have hB := scan_bnd (cs := W.cps.toList) (i := i) (by rw [Array.length_toList]; omega)
  generalize hz : scan (W.cps.toList.take i) = z at *
  have hln := hB.len
  have hlc := hI9.length
  have hl9 : cv.length ≤ 1001 := by omega
  k_steps
  rename News _ _ _ _ => N8
  rename Fr _ _ _ _ => F8
  rename _ < (_ : Nat) ∧ _ < (_ : Nat) ∧ _ < (_ : Nat) ∧ AllLt _ _ => q9
  rename _ < (_ : Nat) ∧ _ < (_ : Nat) ∧ _ < (_ : Nat) ∧ _ < (_ : Nat) ∧ AllLt _ _ => q8
  refine hk _ _ _ _ cv _ _ _ _ _ _ _ _ _ _ _ (allLt_up (allLt_of q7) (Nat.le_of_lt q6)) (allLt_of q7) q8.2.2.2.2 q9.2.2.2 F8 hI9 (news_skip3rd N8)
end
end
section
section
variable {w : World} {mean : ExcName → Option Value} {mg mb : Str → Option Value} {s : Shared} {h₀ : Heap} {a : Addr} {cd : Value} {m : Str → Option Value} {Q : Flow → Shared → Prop}
  {L lc lv ls : Nat} {vs ys us : List Value} {cs ns xs : List Int} {n n2 n3 : Nat} {o1 o2 o3 o4 o5 : Obj} {rest : List Stmt} {p f sh : Int} {t1 t2 t3 t4 : Tok}
theorem hasWs_mk {w : World} {x d tn tc : Nat} {cv : List Value} {n : Int} {bs : List Int} {W : PySem.Str} {t k1 k2 k3 k4 k5 t1 t2 t3 : Tok} {q : Bool} (h : IntsAre cv (bs.foldl bump [])) :
    HasWs w (WsObjs w x d tn tc cv ⟨bs.foldl bump [], 0, n, bs.length⟩ W t k1 k2 k3 k4 k5 t1 t2 t3 q) x bs := ⟨d, tn, tc, cv, W, t, k1, k2, k3, k4, k5, t1, t2, t3, q, n, fun _ h => h, h⟩
set_option maxRecDepth 100000 in
set_option maxHeartbeats 8000000 in
theorem ws_text (B : Below callerA h₀ [] h₀) (KX : (hd.heap_39 w.params).In h₀) (T : Top hd.view_39 (looseW hd.view_39 ["Whitespace"]) mean mg mb h₀) {W : PySem.Str} {t : Tok} {news : List (Addr × Obj)} {R : Value → Shared → Prop} {bs : List Int}
  (F : Fr h₀ L s.heap m) (N : News h₀ L s.heap news) (hno : ∀ q ∈ news, NoIter q.2) (hW : W.cps.toList = blanks bs ++ letters ns) (hbs : ∀ k ∈ bs, 0 ≤ k ∧ k ≤ 10) (hbl : bs.length ≤ 10) (hns : ns.length ≤ 11) (hn0 : 0 < ns.length)
  (hvs : ∀ (i : Nat) (v : Int), ns[i]? = some v → 0 ≤ v ∧ v < 11)
  (hk : ∀ (x : Nat) nw h' tk', HasWs w nw x bs → (∀ q ∈ nw, NoIter q.2) → (∀ q ∈ nw, ∀ p ∈ news, p.1 < q.1) → Fr h₀ L h' m → News h₀ L h' (nw ++ news) → R (.ref x) { s with heap := h', toks := tk' }) :
  wpAny (model Challenge.rw_wj0023_01.row.prog w) (callerA.deeper (envOfC "law" lawScope L a cd)) (call (.ref 83) [.str W t]) R (fun _ _ => False) s := by
  obtain ⟨ha, hsz, hpre, ⟨c, hci, hc⟩, htk⟩ := text_facts hW hbs hbl hns hn0 hvs
  refine ws_new B KX T F N hno ha hsz hpre hci hc ?_
  intro x d tn tc cv h' tk' k1 k2 k3 k4 k5 t1 t2 t3 q l1 l2 l3 l4 F2 hI N2
  rw [htk, scan_blanks fun k hk => (hbs k hk).1] at hI N2
  refine hk x _ h' tk' (hasWs_mk hI) ?_ ?_ F2 N2
  · intro q hq
    unfold WsObjs at hq
    rcases List.mem_cons.mp hq with rfl | hq
    · exact .inl (fun e => absurd (Value.type.inj e) (by decide))
    rcases List.mem_cons.mp hq with rfl | hq
    · exact .inl (fun e => absurd (Value.type.inj e) (by decide))
    rcases List.mem_cons.mp hq with rfl | hq
    · exact .inl (fun e => nomatch e)
    rcases List.mem_cons.mp hq with rfl | hq
    · exact .inl (fun e => absurd (Value.type.inj e) (by decide))
    · cases hq
  · intro q hq p hp
    unfold WsObjs at hq
    rcases List.mem_cons.mp hq with rfl | hq
    · exact allLt_lt l3 p hp
    rcases List.mem_cons.mp hq with rfl | hq
    · exact allLt_lt l4 p hp
    rcases List.mem_cons.mp hq with rfl | hq
    · exact allLt_lt l1 p hp
    rcases List.mem_cons.mp hq with rfl | hq
    · exact allLt_lt l2 p hp
    · cases hq
end
end
section
theorem fresh_St15 : True := by w_top off; exact trivial
section
variable {w : World} {mean : ExcName → Option Value} {mg mb : Str → Option Value} {s : Shared} {h₀ : Heap} {a : Addr} {cd : Value} {m : Str → Option Value} {Q : Flow → Shared → Prop}
  {L lc lv ls : Nat} {vs ys us : List Value} {cs ns xs : List Int} {n n2 n3 : Nat} {o1 o2 o3 o4 o5 : Obj} {rest : List Stmt} {p f sh : Int} {t1 t2 t3 t4 : Tok}
local macro_rules | `(tactic| walk_at "call ref") => `(tactic| (k_here; (with_reducible show wpAny _ _ (call (Value.ref 83) _) _ _ _); with_reducible refine call_stop ?_))
local macro_rules | `(tactic| walk_at "call builtin:str.join") => `(tactic| (k_here; with_reducible refine call_stop ?_))
local macro_rules | `(tactic| walk_at "eval ListComp") => `(tactic| (k_here; k_dflt (refine comp_rows (by decide) (by decide) (by rfl) (by decide) (by rfl) ?_)))
set_option maxRecDepth 100000 in
set_option maxHeartbeats 8000000 in
theorem st15 (B : Below callerA h₀ [] h₀) (KX : (hd.heap_39 w.params).In h₀) (T : Top hd.view_39 (looseW hd.view_39 ["Whitespace"]) mean mg mb h₀) {lz n4 : Nat} {zs : List Value} {rs : List Nat} {w2 w3 w4 w5 : Option Value}
  (F : Fr h₀ L s.heap m) (N : News h₀ L s.heap [(lz, listOf zs.toArray n4), (ls, listOf us.toArray n3), (lv, listOf ys.toArray n2), (L + 1 + 1 + 1 + 1 + 1, o5), (L + 1 + 1 + 1 + 1, o4), (L + 1 + 1 + 1, o3), (L + 1 + 1, o2), (L + 1, o1)]) (c1 : o1.data = .cell (some (.int p t1))) (c2 : o2.data = .cell w2) (c3 : o3.data = .cell w3) (c4 : o4.data = .cell w4) (c5 : o5.data = .cell w5) (hw : m "word" = some (.str (wordOf ns) t2)) (hsy : m "symbols" = some (.ref ls)) (hsz : m "sizes" = some (.ref lz))
  (hp : p = 5 ∨ p = 7 ∨ p = 11) (hZ : IntsAre zs (cnt (p - 1).toNat rs)) (hrl : (rs.length : Int) = p - 1) (hne : ls ≠ lz ∧ lv ≠ lz ∧ L + 1 + 1 + 1 + 1 + 1 ≠ lz ∧ L + 1 + 1 + 1 + 1 ≠ lz ∧ L + 1 + 1 + 1 ≠ lz ∧ L + 1 + 1 ≠ lz ∧ L + 1 ≠ lz) (hnl : (ns.length : Int) = p)
  (hvs : ∀ (i : Nat) (v : Int), ns[i]? = some v → 0 ≤ v ∧ v < 11)
  (hk : ∀ (x : Nat) nw m' h' tk', HasWs w nw x ((cnt (p - 1).toNat rs).filter fun k => decide (0 < k)) → (∀ q ∈ nw, NoIter q.2) → (∀ q ∈ nw, (L + 1 + 1 + 1 + 1 + 1 : Nat) < q.1) → Fr h₀ L h' m' → m' "word" = some (.str (wordOf ns) t2) → m' "symbols" = some (.ref ls) → m' "told" = some (.ref x) → News h₀ L h' ([(lz, listOf zs.toArray n4), (ls, listOf us.toArray n3), (lv, listOf ys.toArray n2), (L + 1 + 1 + 1 + 1 + 1, o5), (L + 1 + 1 + 1 + 1, o4), (L + 1 + 1 + 1, o3), (L + 1 + 1, o2), (L + 1, o1)] ++ nw) →
    wpAny (model Challenge.rw_wj0023_01.row.prog w) (callerA.deeper (envOfC "law" lawScope L a cd)) (execs (rest) (envOfC "law" lawScope L a cd)) Q (fun _ _ => False) { s with heap := h', toks := tk' }) :
  wpAny (model Challenge.rw_wj0023_01.row.prog w) (callerA.deeper (envOfC "law" lawScope L a cd)) (execs (lawBody.getD 15 (.Pass default) :: rest) (envOfC "law" lawScope L a cd)) Q (fun _ _ => False) s := by
  revert KX; k_fill; intro KX
  conv => arg 3; arg 1; arg 1; whnf
  replace F := pin (pin (pin F hw) (x := "symbols") (Eq.trans (by rfl) hsy)) (x := "sizes") (Eq.trans (by rfl) hsz)
  have hcl := cnt_length (n := (p - 1).toNat) (rs := rs)
  have hcb : ∀ k ∈ cnt (p - 1).toNat rs, 0 ≤ k ∧ k ≤ 10 := fun k hk => by
    obtain ⟨i, hi, rfl⟩ := List.getElem_of_mem hk
    have := cnt_bnd (n := (p - 1).toNat) (rs := rs) i
    rw [getD_eq hi] at this
    omega
  k_steps
  rename News _ _ _ _ => N4
  rename Fr _ _ _ _ => F4
  refine Stop.go (src_if (pz := fun k => decide (0 < k)) (d := fun k => .str (blk k)) rfl F4 N4 (.head _) hZ (by rw [sizeLine_eq]; omega) ?_ ?_ ?_)
  · intro C k t s₂ m₂ E' hk2 hn hx
    k_steps
    exact ⟨_, _, rfl, fun _ _ e => e⟩
  · intro C k t s₂ m₂ E' hk2 hkp hn hx
    have hkb := hcb k hk2
    k_steps
    · rw [blk_eq]; exact .str _ _
    · exact ⟨_, _, rfl, fun _ _ e => e⟩
  · intro D ys9 n9 h9 tk9 F9 N9 hD9 hC9
    have hC10 : CarriedAll ys9 ((((cnt (p - 1).toNat rs).filter fun k => decide (0 < k)).map blk).map PyData.str) := by rw [List.map_map]; exact hC9
    have hS9 := StrsAre.of_carried hC10
    have hfl := List.length_filter_le (fun k => decide (0 < k)) (cnt (p - 1).toNat rs)
    have hbs := blks_short ((cnt (p - 1).toNat rs).filter fun k => decide (0 < k)) (fun k hk => (hcb k ((List.mem_filter.mp hk).1)).2)
    have hwl : (wordOf ns).length = ns.length := word_size ns
    have hjl : (Txt.join "" (((cnt (p - 1).toNat rs).filter fun k => decide (0 < k)).map blk)).length ≤ 1000 := by
      refine Nat.le_trans (glued_len _) (Nat.le_trans hbs ?_)
      omega
    have hb2 : ∀ k ∈ (cnt (p - 1).toNat rs).filter fun k => decide (0 < k), 0 ≤ k ∧ k ≤ 10 := fun k hk => hcb k (List.mem_filter.mp hk).1
    k_steps
    refine Stop.go (join_listW (items := ys9.toArray) (ys := ((cnt (p - 1).toNat rs).filter fun k => decide (0 < k)).map blk) ⟨_, (N9 _ (.head _)).1, rfl, _, rfl⟩ hS9 (by decide) (by rw [List.length_map]; omega) ?_)
    intro t9 k9
    k_steps
    refine Stop.go ?_
    with_unfolding_all refine' ws_text (ns := ns) ?qB ?qK ?qT ?qF ?qN ?qno (told_list _ _) hb2 ?ql ?qn ?qn0 hvs ?_
    case qB => assumption
    case qK => assumption
    case qT => assumption
    case qF => exact F9
    case qN => exact news_sub N9 fun q hq => .tail _ hq
    case ql => omega
    case qn => omega
    case qn0 => omega
    case qno =>
      intro q hq
      rcases List.mem_cons.mp hq with rfl | hq
      · exact .inl (fun e => absurd (Value.type.inj e) (by decide))
      rcases List.mem_cons.mp hq with rfl | hq
      · exact .inl (fun e => absurd (Value.type.inj e) (by decide))
      rcases List.mem_cons.mp hq with rfl | hq
      · exact .inl (fun e => absurd (Value.type.inj e) (by decide))
      rcases List.mem_cons.mp hq with rfl | hq
      · exact .inr ⟨_, c5⟩
      rcases List.mem_cons.mp hq with rfl | hq
      · exact .inr ⟨_, c4⟩
      rcases List.mem_cons.mp hq with rfl | hq
      · exact .inr ⟨_, c3⟩
      rcases List.mem_cons.mp hq with rfl | hq
      · exact .inr ⟨_, c2⟩
      rcases List.mem_cons.mp hq with rfl | hq
      · exact .inr ⟨_, c1⟩
      cases hq
    intro x nw h1 tk1 hws hno hlt F5 N5
    clear F9 N9 F4 N4
    have N6 := news_flip N5
    have mk9 := kstMark
    k_steps
    rename News _ _ _ _ => N7
    rename Fr _ _ _ _ => F7
    exact hk x nw _ _ _ hws hno (fun q hq => hlt q hq _ (.tail _ (.tail _ (.tail _ (.head _))))) F7 rfl rfl rfl N7
end
end
section
theorem fresh_St16 : True := by w_top off; exact trivial
section
variable {w : World} {mean : ExcName → Option Value} {mg mb : Str → Option Value} {s : Shared} {h₀ : Heap} {a : Addr} {cd : Value} {m : Str → Option Value} {Q : Flow → Shared → Prop}
  {L lc lv ls : Nat} {vs ys us : List Value} {cs ns xs : List Int} {n n2 n3 : Nat} {o1 o2 o3 o4 o5 : Obj} {rest : List Stmt} {p f sh : Int} {t1 t2 t3 t4 : Tok}
local macro_rules | `(tactic| walk_at "call ref") => `(tactic| (k_here; (with_reducible show wpAny _ _ (call (Value.ref 83) _) _ _ _); with_reducible refine call_stop ?_))
set_option maxRecDepth 100000 in
set_option maxHeartbeats 8000000 in
theorem st16 (B : Below callerA h₀ [] h₀) (KX : (hd.heap_39 w.params).In h₀) (T : Top hd.view_39 (looseW hd.view_39 ["Whitespace"]) mean mg mb h₀) {x : Nat} {nw : List (Addr × Obj)} {bs : List Int} {w2 w3 w4 w5 : Option Value}
  (F : Fr h₀ L s.heap m) (N : News h₀ L s.heap ((ls, listOf us.toArray n3) :: (lv, listOf ys.toArray n2) :: (L + 1 + 1 + 1 + 1 + 1, o5) :: (L + 1 + 1 + 1 + 1, o4) :: (L + 1 + 1 + 1, o3) :: (L + 1 + 1, o2) :: (L + 1, o1) :: nw)) (c1 : o1.data = .cell (some (.int p t1))) (c2 : o2.data = .cell w2) (c3 : o3.data = .cell w3) (c4 : o4.data = .cell w4) (c5 : o5.data = .cell w5) (hw : m "word" = some (.str (wordOf ns) t2)) (hsy : m "symbols" = some (.ref ls)) (htl : m "told" = some (.ref x))
  (hp : p = 5 ∨ p = 7 ∨ p = 11) (hnl : (ns.length : Int) = p) (hvs : ∀ (i : Nat) (v : Int), ns[i]? = some v → 0 ≤ v ∧ v < 11) (hws : HasWs w nw x bs) (hno : ∀ q ∈ nw, NoIter q.2) (hlt : ∀ q ∈ nw, (L + 1 + 1 + 1 + 1 + 1 : Nat) < q.1)
  (hk : ∀ (x2 : Nat) nw' m' h' tk', HasWs w nw' x bs → HasWs w nw' x2 [p - 1] → (∀ q ∈ nw', (L + 1 + 1 + 1 + 1 + 1 : Nat) < q.1) → Fr h₀ L h' m' → m' "word" = some (.str (wordOf ns) t2) → m' "symbols" = some (.ref ls) → m' "told" = some (.ref x) → m' "whole" = some (.ref x2) → News h₀ L h' ((ls, listOf us.toArray n3) :: (lv, listOf ys.toArray n2) :: (L + 1 + 1 + 1 + 1 + 1, o5) :: (L + 1 + 1 + 1 + 1, o4) :: (L + 1 + 1 + 1, o3) :: (L + 1 + 1, o2) :: (L + 1, o1) :: nw') →
    wpAny (model Challenge.rw_wj0023_01.row.prog w) (callerA.deeper (envOfC "law" lawScope L a cd)) (execs (rest) (envOfC "law" lawScope L a cd)) Q (fun _ _ => False) { s with heap := h', toks := tk' }) :
  wpAny (model Challenge.rw_wj0023_01.row.prog w) (callerA.deeper (envOfC "law" lawScope L a cd)) (execs (lawBody.getD 16 (.Pass default) :: rest) (envOfC "law" lawScope L a cd)) Q (fun _ _ => False) s := by
  revert KX; k_fill; intro KX
  conv => arg 3; arg 1; arg 1; whnf
  replace F := pin (pin (pin F hw) (x := "symbols") (Eq.trans (by rfl) hsy)) (x := "told") (Eq.trans (by rfl) htl)
  have mk9 := kstMark
  have hwl : (wordOf ns).length = ns.length := word_size ns
  have hbl : (blk (p - 1)).length ≤ 11 := by
    have e : (blk (p - 1)).length = (p - 1).toNat + 1 := by simp [blk, PySem.Str.length]
    omega
  have e5 : Txt.mul (PySem.Str.ofString " ") (p - 1) ++ PySem.Str.ofString "\t" = blk (p - 1) := blk_eq _
  k_steps
  rename News _ _ _ _ => N4
  rename Fr _ _ _ _ => F4
  refine Stop.go ?_
  with_unfolding_all refine' ws_text (ns := ns) (bs := [p - 1]) ?qB ?qK ?qT ?qF ?qN ?qno ?qW ?qb ?ql ?qn ?qn0 hvs ?_
  case qB => assumption
  case qK => assumption
  case qT => assumption
  case qF => exact F4
  case qN => exact N4
  case qW => rw [e5]; exact whole_list _ _
  case qb => intro k hk; rw [List.mem_singleton.mp hk]; omega
  case ql => exact (by decide : 1 ≤ 10)
  case qn => omega
  case qn0 => omega
  case qno =>
      intro q hq
      rcases List.mem_cons.mp hq with rfl | hq
      · exact .inl (fun e => absurd (Value.type.inj e) (by decide))
      rcases List.mem_cons.mp hq with rfl | hq
      · exact .inl (fun e => absurd (Value.type.inj e) (by decide))
      rcases List.mem_cons.mp hq with rfl | hq
      · exact .inr ⟨_, c5⟩
      rcases List.mem_cons.mp hq with rfl | hq
      · exact .inr ⟨_, c4⟩
      rcases List.mem_cons.mp hq with rfl | hq
      · exact .inr ⟨_, c3⟩
      rcases List.mem_cons.mp hq with rfl | hq
      · exact .inr ⟨_, c2⟩
      rcases List.mem_cons.mp hq with rfl | hq
      · exact .inr ⟨_, c1⟩
      exact hno q hq
  intro x2 nw2 h1 tk1 hws2 hno2 hlt2 F5 N5
  clear F4 N4
  have N6 := news_into7 N5
  k_steps
  rename News _ _ _ _ => N7
  rename Fr _ _ _ _ => F7
  refine hk x2 (nw2 ++ nw) _ _ _ (hws.mono fun e he => List.mem_append_right _ he) (hws2.mono fun e he => List.mem_append_left _ he) (fun q hq => ?_) F7 rfl rfl rfl rfl N7
  rcases List.mem_append.mp hq with hq | hq
  · exact hlt2 q hq _ (.tail _ (.tail _ (.head _)))
  · exact hlt q hq
end
end
section
theorem fresh_St17 : True := by w_top off; exact trivial
section
variable {w : World} {mean : ExcName → Option Value} {mg mb : Str → Option Value} {s : Shared} {h₀ : Heap} {a : Addr} {cd : Value} {m : Str → Option Value} {Q : Flow → Shared → Prop}
  {L lc lv ls : Nat} {vs ys us : List Value} {cs ns xs : List Int} {n n2 n3 : Nat} {o1 o2 o3 o4 o5 : Obj} {rest : List Stmt} {p f sh : Int} {t1 t2 t3 t4 : Tok}
set_option maxRecDepth 100000 in
set_option maxHeartbeats 8000000 in
theorem st17 (B : Below callerA h₀ [] h₀) (KX : (hd.heap_39 w.params).In h₀) (T : Top hd.view_39 (looseW hd.view_39 ["Whitespace"]) mean mg mb h₀) {x x2 : Nat} {nw : List (Addr × Obj)} {w5 : Option Value}
  (F : Fr h₀ L s.heap m) (N : News h₀ L s.heap ((ls, listOf us.toArray n3) :: (lv, listOf ys.toArray n2) :: (L + 1 + 1 + 1 + 1 + 1, o5) :: (L + 1 + 1 + 1 + 1, o4) :: (L + 1 + 1 + 1, o3) :: (L + 1 + 1, o2) :: (L + 1, o1) :: nw)) (c1 : o1.data = .cell (some (.int p t1))) (c4 : o4.data = .cell (some (.ref lv))) (c5 : o5.data = .cell w5) (hsy : m "symbols" = some (.ref ls)) (htl : m "told" = some (.ref x)) (hwh : m "whole" = some (.ref x2))
  (hp : p = 5 ∨ p = 7 ∨ p = 11) (hP : PermOf p ns) (hI : IntsAre ys ns) (hlt : ∀ q ∈ nw, (L + 1 + 1 + 1 + 1 + 1 : Nat) < q.1)
  (hne : L + 1 + 1 + 1 + 1 + 1 ≠ lv ∧ L + 1 + 1 + 1 + 1 + 1 ≠ ls)
  (hk : ∀ o5 t5 m' h' tk', o5.data = .cell (some (.int ((ns.getD 1 0 - ns.getD 0 0).fmod p) t5)) → Fr h₀ L h' m' → m' "symbols" = some (.ref ls) → m' "told" = some (.ref x) → m' "whole" = some (.ref x2) → News h₀ L h' ((ls, listOf us.toArray n3) :: (lv, listOf ys.toArray n2) :: (L + 1 + 1 + 1 + 1 + 1, o5) :: (L + 1 + 1 + 1 + 1, o4) :: (L + 1 + 1 + 1, o3) :: (L + 1 + 1, o2) :: (L + 1, o1) :: nw) →
    wpAny (model Challenge.rw_wj0023_01.row.prog w) (callerA.deeper (envOfC "law" lawScope L a cd)) (execs (rest) (envOfC "law" lawScope L a cd)) Q (fun _ _ => False) { s with heap := h', toks := tk' }) :
  wpAny (model Challenge.rw_wj0023_01.row.prog w) (callerA.deeper (envOfC "law" lawScope L a cd)) (execs (lawBody.getD 17 (.Pass default) :: rest) (envOfC "law" lawScope L a cd)) Q (fun _ _ => False) s := by
  revert KX; k_fill; intro KX
  conv => arg 3; arg 1; arg 1; whnf
  replace F := pin (pin (pin F hsy) (x := "told") (Eq.trans (by rfl) htl)) (x := "whole") (Eq.trans (by rfl) hwh)
  have mk9 := kstMark
  have hoff : OwnOff nw [L + 1 + 1 + 1 + 1 + 1] := fun q hq b hb => by
    rw [List.mem_singleton.mp hb]
    exact (Nat.ne_of_lt (hlt q hq)).symm
  have hl := hP.len
  have h0 := hP.bnd 0 (by omega)
  have h1 := hP.bnd 1 (by omega)
  k_steps
  rename News _ _ _ _ => N7
  rename Fr _ _ _ _ => F7
  exact hk _ _ _ _ _ (by assumption) F7 rfl rfl rfl N7
end
end
section
theorem fresh_PowLoop : True := by w_top off; exact trivial
section
variable {w : World} {mean : ExcName → Option Value} {mg mb : Str → Option Value} {s : Shared} {h₀ : Heap} {a : Addr} {cd : Value} {m : Str → Option Value} {Q : Flow → Shared → Prop}
  {L lc lv ls : Nat} {vs ys us : List Value} {cs ns xs : List Int} {n n2 n3 : Nat} {o1 o2 o3 o4 o5 : Obj} {rest : List Stmt} {p f sh : Int} {t1 t2 t3 t4 : Tok}
set_option maxRecDepth 100000 in
set_option maxHeartbeats 8000000 in
theorem pow_loop (B : Below callerA h₀ [] h₀) (KX : (hd.heap_39 w.params).In h₀) (T : Top hd.view_39 (looseW hd.view_39 ["Whitespace"]) mean mg mb h₀) {x x2 : Nat} {nw : List (Addr × Obj)} {sl : Int} {tp tq : Tok}
  (F : Fr h₀ L s.heap m) (N : News h₀ L s.heap ((ls, listOf us.toArray n3) :: (lv, listOf ys.toArray n2) :: (L + 1 + 1 + 1 + 1 + 1, o5) :: (L + 1 + 1 + 1 + 1, o4) :: (L + 1 + 1 + 1, o3) :: (L + 1 + 1, o2) :: (L + 1, o1) :: nw)) (c1 : o1.data = .cell (some (.int p t1))) (c4 : o4.data = .cell (some (.ref lv))) (c5 : o5.data = .cell (some (.int sl t2))) (hsy : m "symbols" = some (.ref ls)) (htl : m "told" = some (.ref x)) (hwh : m "whole" = some (.ref x2))
  (hpo : m "power" = some (.int sl tp)) (hps : m "powers" = some (.int 1 tq))
  (hp : p = 5 ∨ p = 7 ∨ p = 11) (hs : 1 ≤ sl ∧ sl < p) 
  (hk : ∀ m' h' tk' tq, Fr h₀ L h' m' → m' "symbols" = some (.ref ls) → m' "told" = some (.ref x) → m' "whole" = some (.ref x2) → m' "powers" = some (.int (ordOf p sl) tq) → News h₀ L h' ((ls, listOf us.toArray n3) :: (lv, listOf ys.toArray n2) :: (L + 1 + 1 + 1 + 1 + 1, o5) :: (L + 1 + 1 + 1 + 1, o4) :: (L + 1 + 1 + 1, o3) :: (L + 1 + 1, o2) :: (L + 1, o1) :: nw) → Q .next { s with heap := h', toks := tk' }) :
  wpAny (model Challenge.rw_wj0023_01.row.prog w) (callerA.deeper (envOfC "law" lawScope L a cd)) (exec (lawIf.getD 2 (.Pass default)) (envOfC "law" lawScope L a cd)) Q (fun _ _ => False) s := by
  revert KX; k_fill; intro KX
  conv => arg 3; arg 1; whnf
  have mk9 := kstMark
  obtain ⟨f1, f2, f3, f4⟩ := ord_facts hp hs
  refine While_inv2 (fun n m' nx => nx = (ls, listOf us.toArray n3) :: (lv, listOf ys.toArray n2) :: (L + 1 + 1 + 1 + 1 + 1, o5) :: (L + 1 + 1 + 1 + 1, o4) :: (L + 1 + 1 + 1, o3) :: (L + 1 + 1, o2) :: (L + 1, o1) :: nw ∧ (∃ i, n + i + 1 = ordOf p sl ∧ (∃ t, m' "power" = some (.int (pw p sl i) t)) ∧ (∃ t, m' "powers" = some (.int (1 + (i : Int)) t))) ∧ m' "symbols" = some (.ref ls) ∧ m' "told" = some (.ref x) ∧ m' "whole" = some (.ref x2)) (n₀ := ordOf p sl - 1) F N ⟨rfl, ⟨0, by omega, ⟨_, hpo⟩, ⟨_, hps⟩⟩, hsy, htl, hwh⟩ ?_
  rintro n m₁ nx h tk F2 N3 ⟨rfl, ⟨i, hi, ⟨t3, q1⟩, ⟨t4, q2⟩⟩, q3, q4, q5⟩
  have F3 := pin (pin (pin (pin (pin F2 q3) (x := "told") (Eq.trans (by rfl) q4)) (x := "whole") (Eq.trans (by rfl) q5)) (x := "power") (Eq.trans (by rfl) q1)) (x := "powers") (Eq.trans (by rfl) q2)
  clear F2 F N
  have hb := pw_bnd (by omega) (show 0 ≤ sl ∧ sl < p by omega) i
  k_steps
  · rename News _ _ _ _ => N9
    rename Fr _ _ _ _ => F9
    have hni : i ≠ ordOf p sl - 1 := fun e => by
      have e3 : pw p sl i = 1 := by rw [e]; exact f1
      contradiction
    refine ⟨_, _, _, _, ordOf p sl - 1 - (i + 1), rfl, F9, N9, by omega, rfl, ⟨i + 1, by omega, ⟨?tok, ?eq⟩, ⟨?tok2, ?eq2⟩⟩, rfl, rfl, rfl⟩
    case eq => exact rfl
    case eq2 =>
      have e : (1 : Int) + ((i + 1 : Nat) : Int) = 1 + (i : Int) + 1 := by omega
      rw [e]
      exact rfl
  · rename News _ _ _ _ => N9
    rename Fr _ _ _ _ => F9
    have hni : i = ordOf p sl - 1 := by
      rcases Nat.lt_or_ge i (ordOf p sl - 1) with h | h
      · have := f2 i h
        contradiction
      · omega
    have e : (1 : Int) + (i : Int) = ordOf p sl := by omega
    rw [e] at q2
    exact hk _ _ _ t4 F9 rfl rfl rfl (congrArg (fun z => some (Value.int z t4)) e) N9
end
end
section
theorem fresh_GapLoop : True := by w_top off; exact trivial
section
variable {w : World} {mean : ExcName → Option Value} {mg mb : Str → Option Value} {s : Shared} {h₀ : Heap} {a : Addr} {cd : Value} {m : Str → Option Value} {Q : Flow → Shared → Prop}
  {L lc lv ls : Nat} {vs ys us : List Value} {cs ns xs : List Int} {n n2 n3 : Nat} {o1 o2 o3 o4 o5 : Obj} {rest : List Stmt} {p f sh : Int} {t1 t2 t3 t4 : Tok}
local macro_rules | `(tactic| walk_at "call ref") => `(tactic| (k_here; (with_reducible show wpAny _ _ (call (Value.ref 115) _) _ _ _); with_reducible refine call_stop ?_))
set_option maxRecDepth 100000 in
set_option maxHeartbeats 8000000 in
theorem gap_loop (B : Below callerA h₀ [] h₀) (KX : (hd.heap_39 w.params).In h₀) (T : Top hd.view_39 (looseW hd.view_39 ["Whitespace"]) mean mg mb h₀) {x x2 : Nat} {nw : List (Addr × Obj)} {sl po : Int} {tq : Tok} {rr : Nat} {r1 r2 r3 : Tok}
  (F : Fr h₀ L s.heap m) (N : News h₀ L s.heap ((ls, listOf us.toArray n3) :: (lv, listOf ys.toArray n2) :: (L + 1 + 1 + 1 + 1 + 1, o5) :: (L + 1 + 1 + 1 + 1, o4) :: (L + 1 + 1 + 1, o3) :: (L + 1 + 1, o2) :: (L + 1, o1) :: nw)) (c1 : o1.data = .cell (some (.int p t1))) (c4 : o4.data = .cell (some (.ref lv))) (c5 : o5.data = .cell (some (.int sl t2))) (hsy : m "symbols" = some (.ref ls)) (htl : m "told" = some (.ref x)) (hwh : m "whole" = some (.ref x2))
  (hps : m "powers" = some (.int po tq)) (R1 : IsRange s.heap rr 1 p 1 r1 r2 r3)
  (hp : p = 5 ∨ p = 7 ∨ p = 11) (hs : 1 ≤ sl ∧ sl < p)  (hI : IntsAre us xs) (hU : UF xs) (hlx : (xs.length : Int) = p - 1)
  (hg : ∀ (g : Int) (r r' : Nat), 1 ≤ g → g < p → 1 ≤ (g * sl).fmod p ∧ (g * sl).fmod p < p ∧ (Root xs (g - 1).toNat r → Root xs ((g * sl).fmod p - 1).toNat r' → r = r'))
  (hk : ∀ m' h' tk' tq, Fr h₀ L h' m' → m' "symbols" = some (.ref ls) → m' "told" = some (.ref x) → m' "whole" = some (.ref x2) → m' "powers" = some (.int po tq) → News h₀ L h' ((ls, listOf us.toArray n3) :: (lv, listOf ys.toArray n2) :: (L + 1 + 1 + 1 + 1 + 1, o5) :: (L + 1 + 1 + 1 + 1, o4) :: (L + 1 + 1 + 1, o3) :: (L + 1 + 1, o2) :: (L + 1, o1) :: nw) → Q .next { s with heap := h', toks := tk' }) :
  wpAny (model Challenge.rw_wj0023_01.row.prog w) (callerA.deeper (envOfC "law" lawScope L a cd)) (pyIter (.ref rr)) (fun it s₂ => LoopAtV Challenge.rw_wj0023_01.row.prog w (callerA.deeper (envOfC "law" lawScope L a cd)) h₀ (envOfC "law" lawScope L a cd) "gap" (forBody (lawIf.getD 3 (.Pass default))) Q (fun _ _ => False) it s₂) (fun _ _ => False) s := by
  revert KX; k_fill; intro KX
  have mk9 := kstMark
  replace F := pin (pin (pin (pin F hsy) (x := "told") (Eq.trans (by rfl) htl)) (x := "whole") (Eq.trans (by rfl) hwh)) (x := "powers") (Eq.trans (by rfl) hps)
  have N1 := N
  have F1 := F
  refine range_turns (n := (p - 1).toNat) (fun i m' nx => nx = (ls, listOf us.toArray n3) :: (lv, listOf ys.toArray n2) :: (L + 1 + 1 + 1 + 1 + 1, o5) :: (L + 1 + 1 + 1 + 1, o4) :: (L + 1 + 1 + 1, o3) :: (L + 1 + 1, o2) :: (L + 1, o1) :: nw ∧ m' "symbols" = some (.ref ls) ∧ m' "told" = some (.ref x) ∧ m' "whole" = some (.ref x2) ∧ ∃ t, m' "powers" = some (.int po t)) rfl R1 (small_one (by omega) (by omega) (by omega) (by omega)) (rangeSize_nat _ _) F1 N1 ⟨rfl, rfl, rfl, rfl, _, rfl⟩ ?_ ?_
  · rintro i t m₁ nx h tk own hi _ hown ⟨rfl, q1, q2, q3, t9, q4⟩ F2 N2
    have F3 := pin (pin (pin (pin F2 (x := "symbols") (Eq.trans (by rfl) q1)) (x := "told") (Eq.trans (by rfl) q2)) (x := "whole") (Eq.trans (by rfl) q3)) (x := "powers") (Eq.trans (by rfl) q4)
    clear F2 F1 N1 R1 F N
    conv => arg 3; arg 1; whnf
    simp only [List.cons_append, List.nil_append] at N2
    have hg1 := fun r r' => hg (1 + (i : Int)) r r' (by omega) (by omega)
    obtain ⟨hb1, hb2, -⟩ := hg1 0 0
    k_steps
    rename News _ _ _ _ => N4
    rename Fr _ _ _ _ => F4
    refine Stop.go ?_
    with_unfolding_all refine' law_root ?qB ?qF ?qK ?qN ?qT ?q1 ?q2 ?q3 ?q4 hI hU ?q5 ?q6 ?_
    case qB => assumption
    case qF => exact F4
    case qK => assumption
    case qN => exact N4
    case qT => assumption
    case q1 => exact rfl
    case q2 => decide
    case q3 => decide
    case q4 => exact .head _
    case q5 => omega
    case q6 => omega
    intro ra ta h1 tk1 hrl1 hrr1 F5 N5
    clear F4 N4
    k_steps
    rename News _ _ _ _ => N4
    rename Fr _ _ _ _ => F4
    refine Stop.go ?_
    with_unfolding_all refine' law_root ?qB ?qF ?qK ?qN ?qT ?q1 ?q2 ?q3 ?q4 hI hU ?q5 ?q6 ?_
    case qB => assumption
    case qF => exact F4
    case qK => assumption
    case qN => exact N4
    case qT => assumption
    case q1 => exact rfl
    case q2 => decide
    case q3 => decide
    case q4 => exact .head _
    case q5 => omega
    case q6 => omega
    intro rb tb h2 tk2 hrl2 hrr2 F5 N5
    clear F4 N4
    have hab : ra = rb := (hg1 ra rb).2.2 hrr1 hrr2
    subst hab
    k_steps
    · exact absurd rfl (by assumption)
    · rename News _ _ _ _ => N6
      rename Fr _ _ _ _ => F6
      exact turn_back (nx := (ls, listOf us.toArray n3) :: (lv, listOf ys.toArray n2) :: (L + 1 + 1 + 1 + 1 + 1, o5) :: (L + 1 + 1 + 1 + 1, o4) :: (L + 1 + 1 + 1, o3) :: (L + 1 + 1, o2) :: (L + 1, o1) :: nw) F6 N6 rfl ⟨rfl, rfl, rfl, rfl, _, rfl⟩
  · rintro m₁ nx h tk ⟨rfl, q1, q2, q3, t9, q4⟩ F2 N2
    exact hk _ _ _ t9 F2 q1 q2 q3 q4 N2
end
end
section
theorem fresh_St18 : True := by w_top off; exact trivial
section
variable {w : World} {mean : ExcName → Option Value} {mg mb : Str → Option Value} {s : Shared} {h₀ : Heap} {a : Addr} {cd : Value} {m : Str → Option Value} {Q : Flow → Shared → Prop}
  {L lc lv ls : Nat} {vs ys us : List Value} {cs ns xs : List Int} {n n2 n3 : Nat} {o1 o2 o3 o4 o5 : Obj} {rest : List Stmt} {p f sh : Int} {t1 t2 t3 t4 : Tok}
set_option maxRecDepth 100000 in
set_option maxHeartbeats 8000000 in
theorem st18 (B : Below callerA h₀ [] h₀) (KX : (hd.heap_39 w.params).In h₀) (T : Top hd.view_39 (looseW hd.view_39 ["Whitespace"]) mean mg mb h₀) {x x2 : Nat} {nw : List (Addr × Obj)} {sl : Int}
  (F : Fr h₀ L s.heap m) (N : News h₀ L s.heap ((ls, listOf us.toArray n3) :: (lv, listOf ys.toArray n2) :: (L + 1 + 1 + 1 + 1 + 1, o5) :: (L + 1 + 1 + 1 + 1, o4) :: (L + 1 + 1 + 1, o3) :: (L + 1 + 1, o2) :: (L + 1, o1) :: nw)) (c1 : o1.data = .cell (some (.int p t1))) (c4 : o4.data = .cell (some (.ref lv))) (c5 : o5.data = .cell (some (.int sl t2))) (hsy : m "symbols" = some (.ref ls)) (htl : m "told" = some (.ref x)) (hwh : m "whole" = some (.ref x2))
  (hp : p = 5 ∨ p = 7 ∨ p = 11) (hP : PermOf p ns) (hI : IntsAre ys ns) (hsl : sl = (ns.getD 1 0 - ns.getD 0 0).fmod p)
  (hIx : IntsAre us xs) (hU : UF xs) (hlx : (xs.length : Int) = p - 1)
  (hg : Aff p ns → ∀ (g : Int) (r r' : Nat), 1 ≤ g → g < p → 1 ≤ (g * sl).fmod p ∧ (g * sl).fmod p < p ∧ (Root xs (g - 1).toNat r → Root xs ((g * sl).fmod p - 1).toNat r' → r = r'))
  (hk : ∀ m' h' tk' tq, Fr h₀ L h' m' → m' "told" = some (.ref x) → m' "whole" = some (.ref x2) → m' "powers" = some (.int (powersOf p ns) tq) → News h₀ L h' ((ls, listOf us.toArray n3) :: (lv, listOf ys.toArray n2) :: (L + 1 + 1 + 1 + 1 + 1, o5) :: (L + 1 + 1 + 1 + 1, o4) :: (L + 1 + 1 + 1, o3) :: (L + 1 + 1, o2) :: (L + 1, o1) :: nw) → wpAny (model Challenge.rw_wj0023_01.row.prog w) (callerA.deeper (envOfC "law" lawScope L a cd)) (execs (rest) (envOfC "law" lawScope L a cd)) Q (fun _ _ => False) { s with heap := h', toks := tk' }) :
  wpAny (model Challenge.rw_wj0023_01.row.prog w) (callerA.deeper (envOfC "law" lawScope L a cd)) (execs (lawBody.getD 18 (.Pass default) :: lawBody.getD 19 (.Pass default) :: rest) (envOfC "law" lawScope L a cd)) Q (fun _ _ => False) s := by
  revert KX; k_fill; intro KX
  conv => arg 3; arg 1; arg 1; whnf
  conv => arg 3; arg 1; arg 2; arg 1; whnf
  replace F := pin (pin (pin F hsy) (x := "told") (Eq.trans (by rfl) htl)) (x := "whole") (Eq.trans (by rfl) hwh)
  have mk9 := kstMark
  have hl := hP.len
  have h0 := hP.bnd 0 (by omega)
  have h1 := hP.bnd 1 (by omega)
  have hsb : 1 ≤ sl ∧ sl < p := by
    rw [hsl]
    exact slope_pos hp hP
  k_steps
  · rename ns = List.map _ _ => hA
    have hAff : Aff p ns := by
      rw [hsl] at hA
      exact hA
    rename News _ _ _ _ => N9
    rename Fr _ _ _ _ => F4
    have N4 := news_tail1 N9
    clear N9
    refine Stop.go ?_
    with_unfolding_all refine' pow_loop (x := x) (x2 := x2) (nw := nw) ?qB ?qK ?qT ?qF ?qN ?qc1 ?qc4 ?qc5 ?q1 ?q2 ?q3 ?q4 ?q5 ?hp ?hs ?_
    case qB => assumption
    case qK => assumption
    case qT => assumption
    case qF => exact F4
    case qN => exact N4
    case qc1 => exact c1
    case qc4 => exact c4
    case qc5 => exact c5
    case q1 => exact rfl
    case q2 => exact rfl
    case q3 => exact rfl
    case q4 => exact rfl
    case hp => exact hp
    case hs => exact hsb
    case q5 => exact rfl
    intro m7 h7 tk7 tq7 F7 w1 w2 w3 w4 N7
    clear F4 N4
    replace F7 := pin (pin (pin (pin F7 w1) (x := "told") (Eq.trans (by rfl) w2)) (x := "whole") (Eq.trans (by rfl) w3)) (x := "powers") (Eq.trans (by rfl) w4)
    k_steps
    rename News _ _ _ _ => N4
    rename Fr _ _ _ _ => F4
    rename IsRange _ _ _ _ _ _ _ _ => R1
    refine Stop.go ?_
    with_unfolding_all refine' gap_loop (x := x) (x2 := x2) (nw := nw) ?qB ?qK ?qT ?qF ?qN ?qc1 ?qc4 ?qc5 ?q1 ?q2 ?q3 ?q4 ?qR ?hp ?hs ?hI ?hU ?hlx ?hg ?_
    case qB => assumption
    case qK => assumption
    case qT => assumption
    case qF => exact F4
    case qN => exact N4
    case qc1 => exact c1
    case qc4 => exact c4
    case qc5 => exact c5
    case q1 => exact rfl
    case q2 => exact rfl
    case q3 => exact rfl
    case q4 => exact rfl
    case hp => exact hp
    case hs => exact hsb
    case qR => exact R1
    case hI => exact hIx
    case hU => exact hU
    case hlx => exact hlx
    case hg => exact hg hAff
    intro m8 h8 tk8 tq8 F8 w1 w2 w3 w4 N8
    clear F4 N4
    k_steps
    exact hk _ _ _ tq8 F8 w2 w3 (by rw [powersOf, if_pos hAff, ← hsl]; exact w4) N8
  · rename ¬ ns = List.map _ _ => hA
    rename News _ _ _ _ => N4
    rename Fr _ _ _ _ => F4
    have hAff : ¬ Aff p ns := fun h => hA (by rw [hsl]; exact h)
    have e : ((powersOf p ns : Nat) : Int) = p - 1 := by rw [powersOf, if_neg hAff]; omega
    exact hk _ _ _ _ F4 rfl rfl (by rw [e]; exact rfl) (news_tail1 N4)
end
end
section
theorem fresh_St20 : True := by w_top off; exact trivial
section
variable {w : World} {mean : ExcName → Option Value} {mg mb : Str → Option Value} {s : Shared} {h₀ : Heap} {a : Addr} {cd : Value} {m : Str → Option Value} {Q : Flow → Shared → Prop}
  {L lc lv ls : Nat} {vs ys us : List Value} {cs ns xs : List Int} {n n2 n3 : Nat} {o1 o2 o3 o4 o5 : Obj} {rest : List Stmt} {p f sh : Int} {t1 t2 t3 t4 : Tok}
set_option maxRecDepth 100000 in
set_option maxHeartbeats 8000000 in
theorem st20 (B : Below callerA h₀ [] h₀) (KX : (hd.heap_39 w.params).In h₀) (T : Top hd.view_39 (looseW hd.view_39 ["Whitespace"]) mean mg mb h₀) {x x2 : Nat} {nw : List (Addr × Obj)} {k : Int}
  (F : Fr h₀ L s.heap m) (N : News h₀ L s.heap ((L + 1, o1) :: nw)) (c1 : o1.data = .cell (some (.int p t1))) (htl : m "told" = some (.ref x)) (hwh : m "whole" = some (.ref x2)) (hpw : m "powers" = some (.int k t2))
  (hp : p = 5 ∨ p = 7 ∨ p = 11) (hkb : 1 ≤ k ∧ k ≤ 10)
  (hk : ∀ (ld nd : Nat) dv nw' m' h' tk', (∀ e ∈ nw, e ∈ nw') → DatAll nw' dv ((duesTo p k p.toNat).map tri) → Fr h₀ L h' m' → m' "told" = some (.ref x) → m' "whole" = some (.ref x2) → m' "due" = some (.ref ld) → News h₀ L h' ((ld, listOf dv.toArray nd) :: (L + 1, o1) :: nw') → wpAny (model Challenge.rw_wj0023_01.row.prog w) (callerA.deeper (envOfC "law" lawScope L a cd)) (execs (rest) (envOfC "law" lawScope L a cd)) Q (fun _ _ => False) { s with heap := h', toks := tk' }) :
  wpAny (model Challenge.rw_wj0023_01.row.prog w) (callerA.deeper (envOfC "law" lawScope L a cd)) (execs (lawBody.getD 20 (.Pass default) :: lawBody.getD 21 (.Pass default) :: lawBody.getD 22 (.Pass default) :: rest) (envOfC "law" lawScope L a cd)) Q (fun _ _ => False) s := by
  revert KX; k_fill; intro KX
  conv => arg 3; arg 1; arg 1; whnf
  conv => arg 3; arg 1; arg 2; arg 1; whnf
  conv => arg 3; arg 1; arg 2; arg 2; arg 1; whnf
  replace F := pin (pin (pin F htl) (x := "whole") (Eq.trans (by rfl) hwh)) (x := "powers") (Eq.trans (by rfl) hpw)
  have mk9 := kstMark
  k_steps
  rename News _ _ _ _ => N1
  rename Fr _ _ _ _ => F1
  rename IsRange _ _ _ _ _ _ _ _ => R1
  rename _ ∧ _ => q1
  refine Stop.go ?_
  refine range_grow (n := p.toNat) (fun i m' nx => ∃ (ld nd : Nat) (dv : List Value) (nw' : List (Addr × Obj)), nx = (ld, listOf dv.toArray nd) :: (L + 1, o1) :: nw' ∧ L + 1 ≠ ld ∧ AllNe ld nw' ∧ (∀ e ∈ nw, e ∈ nw') ∧ DatAll nw' dv ((duesTo p k i).map tri) ∧ m' "told" = some (.ref x) ∧ m' "whole" = some (.ref x2) ∧ m' "due" = some (.ref ld) ∧ (∃ t, m' "powers" = some (.int k t)) ∧ ∃ t, m' "many" = some (.int ((p - 1).fdiv k) t)) rfl R1 (small_one (by omega) (by omega) (by omega) (by omega)) ?e5 F1 N1 ?e6 ?_ ?_
  case e5 =>
    have e := rangeSize_nat 1 (p + 1)
    have e2 : (p + 1 - 1).toNat = p.toNat := by omega
    rw [e2] at e
    exact e
  case e6 =>
    refine ⟨_, _, [], nw, rfl, ?_, ?_, fun _ h => h, ?_, rfl, rfl, rfl, ⟨_, rfl⟩, _, rfl⟩
    · exact Nat.ne_of_lt q1.1
    · exact fun q hq => Nat.ne_of_lt (allLt_lt q1.2 q hq)
    · exact .nil
  · rintro i t m₁ nx h tk own hi hown ⟨ld, nd, dv, nw', rfl, hd1, hd2, hs, hD, q1, q2, q3, ⟨t9, q4⟩, ⟨t8, q5⟩⟩ F2 N2
    have F3 := pin (pin (pin (pin (pin F2 (x := "told") (Eq.trans (by rfl) q1)) (x := "whole") (Eq.trans (by rfl) q2)) (x := "powers") (Eq.trans (by rfl) q4)) (x := "many") (Eq.trans (by rfl) q5)) (x := "due") (Eq.trans (by rfl) q3)
    clear F2 F1 N1 R1
    simp only [List.cons_append, List.nil_append] at N2
    have hdl := hD.length
    have hdl2 := dues_len p k i
    rw [List.length_map] at hdl
    have hoff : OwnOff (nw' ++ own) [ld] := by
      intro q hq b hb
      rw [List.mem_singleton.mp hb]
      rcases List.mem_append.mp hq with hq | hq
      · exact hd2 q hq
      · exact hown q hq _ (.head _)
    k_steps
    · rename _ ≠ (_ : Int) => hne
      rename (_ < (_ : Nat) ∧ _ < (_ : Nat) ∧ AllLt _ _) => l9
      rename News _ _ _ _ => N9
      rename Fr _ _ _ _ => F9
      refine grow_back F9 (due_news N9) (due_own hown l9.2.2) ?_
      refine ⟨ld, nd + 1, _, _, rfl, hd1, ?_, fun e he => .tail _ (hs e he), ?_, rfl, rfl, rfl, ⟨_, rfl⟩, _, rfl⟩
      · intro q hq
        rcases List.mem_cons.mp hq with rfl | hq
        · exact (Nat.ne_of_lt l9.1).symm
        · exact hd2 q hq
      · rw [dues_succ, dueStep, if_neg (show ¬ hereOf p k (1 + (i : Int)) = thereOf p (1 + (i : Int)) from hne)]
        exact dat_snoc hD
    · rename _ = (_ : Int) => heq
      rename News _ _ _ _ => N9
      rename Fr _ _ _ _ => F9
      refine grow_back (nx := (ld, listOf dv.toArray nd) :: (L + 1, o1) :: nw') F9 N9 hown ?_
      refine ⟨ld, nd, dv, nw', rfl, hd1, hd2, hs, ?_, rfl, rfl, rfl, ⟨_, rfl⟩, _, rfl⟩
      rw [dues_succ, dueStep, if_pos (show hereOf p k (1 + (i : Int)) = thereOf p (1 + (i : Int)) from heq), List.append_nil]
      exact hD
  · rintro m₁ nx h tk ⟨ld, nd, dv, nw', rfl, hd1, hd2, hs, hD, q1, q2, q3, _, _⟩ F2 N2
    exact hk ld nd dv nw' _ _ _ hs hD F2 q1 q2 q3 N2
end
end
section
theorem fresh_Longest : True := by w_top off; exact trivial
section
variable {w : World} {mean : ExcName → Option Value} {mg mb : Str → Option Value} {dp un : Nat} {gd : Option (List Code)} {cn : Str} {cs : Scope} {a : Addr} {ccd : Value} {cl : List (Str × Addr)} {outer : List Env} {A₀ : Around} {base h₀ : Heap} {L : Nat} {m : Str → Option Value} {s : Shared} {Q E : Value → Shared → Prop} {news : List (Addr × Obj)}
local macro_rules | `(tactic| walk_at "call builtin:len") => `(tactic| (k_here; k_dflt (refine' len_led ?k1 ?k2 ?k3 ?k4 ?_; (case k1 => k_asm); (case k2 => k_mem); (case k3 => assumption); (case k4 => omega); k_whole); intro t9))
set_option maxRecDepth 100000 in
set_option maxHeartbeats 8000000 in
theorem longest (B : Below A₀ base outer h₀) (F : Fr h₀ L s.heap m) (KX : (hd.heap_39 w.params).In h₀) (N : News h₀ L s.heap news) (T : Top hd.view_39 (looseW hd.view_39 ["Whitespace"]) mean mg mb h₀) (hkind : cs.kind = .function) (hdp : dp + 10 < recursionLimit) (hun : un + 50 < cLine) {x : Nat} {bs : List Int} (hW : HasWs w news x bs) (hsm : (bs.foldl bump []).length ≤ 1000)
  (hk : ∀ t h' tk', Fr h₀ L h' m → News h₀ L h' news → Q (.int (longOf bs) t) { s with heap := h', toks := tk' }) :
  wpAny (model Challenge.rw_wj0023_01.row.prog w) (ktrTop dp un gd cn cs L a ccd cl outer) (call (.ref 45) [.ref x]) Q E s := by
  revert KX; k_fill; intro KX
  obtain ⟨d, tn, tc, cv, W, t, k1, k2, k3, k4, k5, t1, t2, t3, q, n, hs, hI⟩ := hW
  have N2 : News h₀ L s.heap (WsObjs w x d tn tc cv ⟨bs.foldl bump [], 0, n, bs.length⟩ W t k1 k2 k3 k4 k5 t1 t2 t3 q ++ news) := fun e he => N e ((List.mem_append.mp he).elim (hs e) id)
  unfold WsObjs at N2
  simp only [List.cons_append, List.nil_append] at N2
  clear hs
  have mk9 := kstMark
  generalize hct : bs.foldl bump [] = ct at *
  refine wpAny_call ?_
  k_dflt cell_enter
  k_steps
  rename News _ _ _ _ => N9
  rename Fr _ _ _ _ => F9
  have e : longOf bs = if (0 : Int) > (ct.length : Int) - 1 then 0 else (ct.length : Int) - 1 := by
    unfold longOf
    rw [hct]
    split <;> omega
  rw [e] at hk
  exact hk _ _ _ F9 (news_drop4 N9)
end
end
section
theorem fresh_Indent : True := by w_top off; exact trivial
section
variable {w : World} {mean : ExcName → Option Value} {mg mb : Str → Option Value} {dp un : Nat} {gd : Option (List Code)} {cn : Str} {cs : Scope} {a : Addr} {ccd : Value} {cl : List (Str × Addr)} {outer : List Env} {A₀ : Around} {base h₀ : Heap} {L : Nat} {m : Str → Option Value} {s : Shared} {Q E : Value → Shared → Prop} {news : List (Addr × Obj)}
local macro_rules | `(tactic| walk_at "call builtin:len") => `(tactic| (k_here; k_dflt (refine' len_led ?k1 ?k2 ?k3 ?k4 ?_; (case k1 => k_asm); (case k2 => k_mem); (case k3 => assumption); (case k4 => omega); k_whole); intro t9))
local macro_rules | `(tactic| walk_at "subscriptTail Name Name ref int") => `(tactic| (k_here; k_dflt (refine' item_led ?k1 ?k2 ?k3 ?k4 ?k5 ?k6 ?_; (case k1 => k_asm); (case k2 => k_mem); (case k3 => assumption); (case k4 => omega); (case k5 => omega); (case k6 => omega); k_whole); intro t9))
set_option maxRecDepth 100000 in
set_option maxHeartbeats 8000000 in
theorem indent (B : Below A₀ base outer h₀) (F : Fr h₀ L s.heap m) (KX : (hd.heap_39 w.params).In h₀) (N : News h₀ L s.heap news) (T : Top hd.view_39 (looseW hd.view_39 ["Whitespace"]) mean mg mb h₀) (hkind : cs.kind = .function) (hdp : dp + 10 < recursionLimit) (hun : un + 50 < cLine) {x : Nat} {bs : List Int} {ts : Int} {t0 : Tok} (hW : HasWs w news x bs) (hsm : (bs.foldl bump []).length ≤ 1000) (hts : 1 ≤ ts ∧ ts ≤ 1000) (hcb : ∀ i, 0 ≤ (bs.foldl bump []).getD i 0 ∧ (bs.foldl bump []).getD i 0 ≤ 1000) (hbl : bs.length ≤ 1000)
  (hk : ∀ t h' tk', Fr h₀ L h' m → News h₀ L h' news → Q (.int (indentOf bs ts) t) { s with heap := h', toks := tk' }) :
  wpAny (model Challenge.rw_wj0023_01.row.prog w) (ktrTop dp un gd cn cs L a ccd cl outer) (call (.ref 52) [.ref x, .int ts t0]) Q E s := by
  revert KX; k_fill; intro KX
  obtain ⟨d, tn, tc, cv, W, t, k1, k2, k3, k4, k5, t1, t2, t3, q, n, hs, hI⟩ := hW
  have N2 : News h₀ L s.heap (WsObjs w x d tn tc cv ⟨bs.foldl bump [], 0, n, bs.length⟩ W t k1 k2 k3 k4 k5 t1 t2 t3 q ++ news) := fun e he => N e ((List.mem_append.mp he).elim (hs e) id)
  unfold WsObjs at N2
  simp only [List.cons_append, List.nil_append] at N2
  clear hs
  have mk9 := kstMark
  generalize hct : bs.foldl bump [] = ct at *
  refine wpAny_call ?_
  k_dflt cell_enter
  k_steps
  rename News _ _ _ _ => N1
  rename Fr _ _ _ _ => F1
  rename IsRange _ _ _ _ _ _ _ _ => R1
  refine Stop.go ?_
  refine range_turns (n := ((ct.length : Int) - ts).toNat) (fun i m' nx => nx = (tn, { cls := .type "tuple", data := .seq #[.ref tc, .int 0 t3] }) :: (tc, { cls := .type "tuple", data := .seq cv.toArray }) :: (x, instObj 83 d) :: (d, dictOf [⟨PyData.keyHash w.params "raw", .str "raw" k1, .str W t⟩, ⟨PyData.keyHash w.params "n", .str "n" k2, .int n t1⟩, ⟨PyData.keyHash w.params "nt", .str "nt" k3, .int bs.length t2⟩, ⟨PyData.keyHash w.params "norm", .str "norm" k4, .ref tn⟩, ⟨PyData.keyHash w.params "is_simple", .str "is_simple" k5, .bool q⟩] 5) :: news ∧ (∃ t, m' "il" = some (.int (ilTo ct ts i) t)) ∧ m' "count" = some (.ref tc) ∧ (∃ t, m' "trailing" = some (.int 0 t)) ∧ m' "self" = some (.ref x) ∧ ∃ t, m' "tabsize" = some (.int ts t)) rfl R1 (small_one (by omega) (by omega) (by omega) (by omega)) (rangeSize_nat _ _) F1 N1 ⟨rfl, ⟨_, rfl⟩, rfl, ⟨_, rfl⟩, rfl, _, rfl⟩ ?_ ?_
  · rintro i ti m₁ nx h tk own hi _ hown ⟨rfl, ⟨u1, q1⟩, q2, ⟨u3, q3⟩, q4, ⟨u5, q5⟩⟩ F2 N2
    have F3 := pin (pin (pin (pin (pin F2 (x := "il") (Eq.trans (by rfl) q1)) (x := "count") (Eq.trans (by rfl) q2)) (x := "trailing") (Eq.trans (by rfl) q3)) (x := "self") (Eq.trans (by rfl) q4)) (x := "tabsize") (Eq.trans (by rfl) q5)
    clear F2 F1 N1 R1
    simp only [List.cons_append, List.nil_append] at N2
    have b1 := il_bnd hcb hts i (by omega)
    have b2 := hcb (ts + (i : Int)).toNat
    have b3 := quot_bnd (x := ts + (i : Int)) (ts := ts) (by omega) hts.1
    have b4 := mul_bnd (m := 2000) (n := 1000) ⟨b3.1, by omega⟩ b2
    k_steps
    rename News _ _ _ _ => N6
    rename Fr _ _ _ _ => F6
    refine turn_back (nx := (tn, { cls := .type "tuple", data := .seq #[.ref tc, .int 0 t3] }) :: (tc, { cls := .type "tuple", data := .seq cv.toArray }) :: (x, instObj 83 d) :: (d, dictOf [⟨PyData.keyHash w.params "raw", .str "raw" k1, .str W t⟩, ⟨PyData.keyHash w.params "n", .str "n" k2, .int n t1⟩, ⟨PyData.keyHash w.params "nt", .str "nt" k3, .int bs.length t2⟩, ⟨PyData.keyHash w.params "norm", .str "norm" k4, .ref tn⟩, ⟨PyData.keyHash w.params "is_simple", .str "is_simple" k5, .bool q⟩] 5) :: news) F6 N6 rfl ?_
    exact ⟨rfl, ⟨_, rfl⟩, rfl, ⟨_, rfl⟩, rfl, _, rfl⟩
  · rintro m₁ nx h tk ⟨rfl, ⟨u1, q1⟩, q2, ⟨u3, q3⟩, q4, ⟨u5, q5⟩⟩ F2 N2
    have F3 := pin (pin (pin (pin (pin F2 (x := "il") q1) (x := "count") (Eq.trans (by rfl) q2)) (x := "trailing") (Eq.trans (by rfl) q3)) (x := "self") (Eq.trans (by rfl) q4)) (x := "tabsize") (Eq.trans (by rfl) q5)
    clear F2 F1 N1 R1
    have b1 := il_bnd hcb hts ((ct.length : Int) - ts).toNat (by omega)
    k_steps
    rename News _ _ _ _ => N9
    rename Fr _ _ _ _ => F9
    have e : indentOf bs ts = 0 + ts * (ilTo ct ts ((ct.length : Int) - ts).toNat + bs.length) := by
      unfold indentOf
      rw [hct]
    rw [e] at hk
    exact hk _ _ _ F9 (news_drop4 N9)
end
end
section
local macro_rules | `(tactic| walk_at "idle 0") => `(tactic| done)
theorem fresh_Witness : True := by w_top off; exact trivial
section
variable {w : World} {mean : ExcName → Option Value} {mg mb : Str → Option Value} {dp un : Nat} {gd : Option (List Code)} {cn : Str} {cs : Scope} {a : Addr} {ccd : Value} {cl : List (Str × Addr)} {outer : List Env} {A₀ : Around} {base h₀ : Heap} {L : Nat} {m : Str → Option Value} {s : Shared} {Q E : Value → Shared → Prop} {news : List (Addr × Obj)}
local macro_rules | `(tactic| walk_at "call ref") => `(tactic| (k_here; (with_reducible show wpAny _ _ (call (Value.ref 45) _) _ _ _); with_reducible refine call_stop ?_))
local macro_rules | `(tactic| walk_at "call ref") => `(tactic| (k_here; (with_reducible show wpAny _ _ (call (Value.ref 52) _) _ _ _); with_reducible refine call_stop ?_))
set_option maxRecDepth 100000 in
set_option maxHeartbeats 8000000 in
theorem witness (B : Below A₀ base outer h₀) (F : Fr h₀ L s.heap m) (KX : (hd.heap_39 w.params).In h₀) (N : News h₀ L s.heap news) (T : Top hd.view_39 (looseW hd.view_39 ["Whitespace"]) mean mg mb h₀) (hkind : cs.kind = .function) (hdp : dp + 20 < recursionLimit) (hun : un + 100 < cLine) {x y : Nat} {b1 b2 : List Int} (hX : HasWs w news x b1) (hY : HasWs w news y b2) (S1 : Sane b1) (S2 : Sane b2)
  (hk : ∀ (D n : Nat) av nw' h' tk', (∀ e ∈ news, e ∈ nw') → AllNe D nw' → DatAll nw' av ((witTo b1 b2 (max (longOf b1) (longOf b2) + 1).toNat).map tri) → Fr h₀ L h' m → News h₀ L h' ((D, listOf av.toArray n) :: nw') → Q (.ref D) { s with heap := h', toks := tk' }) :
  wpAny (model Challenge.rw_wj0023_01.row.prog w) (ktrTop dp un gd cn cs L a ccd cl outer) (call (.ref 66) [.ref x, .ref y]) Q E s := by
  revert KX; k_fill; intro KX
  have hX0 := hX
  have hY0 := hY
  obtain ⟨d, tn, tc, cv, W, t, k1, k2, k3, k4, k5, t1, t2, t3, q, n, hs, hI⟩ := hX
  obtain ⟨d', tn', tc', cv', W', t', k1', k2', k3', k4', k5', t1', t2', t3', q', n', hs', hI'⟩ := hY
  have N2 := news_both0 N hs hs'
  unfold WsObjs at N2
  simp only [List.cons_append, List.nil_append] at N2
  clear N
  have mk9 := kstMark
  have z1 := long_bnd S1
  have z2 := long_bnd S2
  refine wpAny_call ?_
  k_dflt cell_enter
  k_steps
  rename News _ _ _ _ => N4
  rename Fr _ _ _ _ => F4
  refine Stop.go ?_
  with_unfolding_all refine' longest ?qB ?qF ?qK ?qN ?qT ?q1 ?q2 ?q3 ?q4 ?q5 ?_
  case qB => assumption
  case qF => exact F4
  case qK => assumption
  case qN => exact N4
  case qT => assumption
  case q1 => exact rfl
  case q2 => show dp + 1 + 10 < recursionLimit; omega
  case q3 => show un + 3 + 50 < cLine; omega
  case q4 => exact hX0.mono fun e he => .tail _ (.tail _ (.tail _ (.tail _ (.tail _ (.tail _ (.tail _ (.tail _ (he))))))))
  case q5 => exact Nat.le_trans S1.len (by decide)
  intro tl h9 tk9 F5 N5
  clear F4 N4
  k_steps
  rename News _ _ _ _ => N4
  rename Fr _ _ _ _ => F4
  refine Stop.go ?_
  with_unfolding_all refine' longest ?qB ?qF ?qK ?qN ?qT ?q1 ?q2 ?q3 ?q4 ?q5 ?_
  case qB => assumption
  case qF => exact F4
  case qK => assumption
  case qN => exact N4
  case qT => assumption
  case q1 => exact rfl
  case q2 => show dp + 1 + 10 < recursionLimit; omega
  case q3 => show un + 3 + 50 < cLine; omega
  case q4 => exact hY0.mono fun e he => .tail _ (.tail _ (.tail _ (.tail _ (.tail _ (.tail _ (.tail _ (.tail _ (he))))))))
  case q5 => exact Nat.le_trans S2.len (by decide)
  intro tl h9 tk9 F5 N5
  clear F4 N4
  k_steps
  rename News _ _ _ _ => N1
  rename Fr _ _ _ _ => F1
  rename IsRange _ _ _ _ _ _ _ _ => R1
  rename (_ < (_ : Nat) ∧ _ < (_ : Nat) ∧ _ < (_ : Nat) ∧ _ < (_ : Nat) ∧ _ < (_ : Nat) ∧ _ < (_ : Nat) ∧ _ < (_ : Nat) ∧ _ < (_ : Nat) ∧ AllLt _ _) => l1
  refine Stop.go ?_
  generalize hM : (if longOf b2 > longOf b1 then longOf b2 else longOf b1) = M at R1
  have eM : M = max (longOf b1) (longOf b2) := by rw [← hM]; split <;> omega
  have bM : 0 ≤ M ∧ M ≤ 500 := by omega
  rw [← eM] at hk
  clear hM eM
  refine range_grow (n := (M + 1).toNat) (fun i m' nx => ∃ (ld na : Nat) (av : List Value) (nw' : List (Addr × Obj)), nx = (ld, listOf av.toArray na) :: nw' ∧ (∀ e ∈ news, e ∈ nw') ∧ AllNe ld nw' ∧ DatAll nw' av ((witTo b1 b2 i).map tri) ∧ m' "self" = some (.ref x) ∧ m' "other" = some (.ref y) ∧ m' "a" = some (.ref ld)) rfl R1 (small_one (by omega) (by omega) (by omega) (by omega)) ?e5 F1 N1 ?e6 ?_ ?_
  case e5 =>
    have e := rangeSize_nat 1 (M + 1 + 1)
    have e2 : (M + 1 + 1 - 1).toNat = (M + 1).toNat := by omega
    rw [e2] at e
    exact e
  case e6 => exact ⟨_, 0, [], _, rfl, fun e he => .tail _ (.tail _ (.tail _ (.tail _ (.tail _ (.tail _ (.tail _ (.tail _ (he)))))))), fun q hq => Nat.ne_of_lt (allLt_lt (by exact l1) q hq), .nil, rfl, rfl, rfl⟩
  · rintro i ti m₁ nx h tk own hi hown ⟨ld, na, av, nw', rfl, hs9, hd9, hD9, q1, q2, q3⟩ F2 N3
    have F3 := pin (pin (pin F2 (x := "self") (Eq.trans (by rfl) q1)) (x := "other") (Eq.trans (by rfl) q2)) (x := "a") (Eq.trans (by rfl) q3)
    have N5 := news_mid (news_mid N3 (fun e he => List.mem_append_left own (hs9 e (hs' e he)))) (fun e he => List.mem_append_right _ (List.mem_append_left own (hs9 e (hs e he))))
    have hX9 : HasWs w (nw' ++ own) x b1 := hX0.mono fun e he => List.mem_append_left own (hs9 e he)
    have hY9 : HasWs w (nw' ++ own) y b2 := hY0.mono fun e he => List.mem_append_left own (hs9 e he)
    clear F2 F1 N1 R1 N3
    unfold WsObjs at N5
    simp only [List.cons_append, List.nil_append] at N5
    have hoff : OwnOff (nw' ++ own) [ld] := by
      intro q hq b hb
      rw [List.mem_singleton.mp hb]
      rcases List.mem_append.mp hq with hq | hq
      · exact hd9 q hq
      · exact hown q hq _ (.head _)
    have hz1 : tn ≠ ld ∧ tc ≠ ld ∧ x ≠ ld ∧ d ≠ ld := ⟨hd9 _ (hs9 _ (hs _ (.head _))), hd9 _ (hs9 _ (hs _ (.tail _ (.head _)))), hd9 _ (hs9 _ (hs _ (.tail _ (.tail _ (.head _))))), hd9 _ (hs9 _ (hs _ (.tail _ (.tail _ (.tail _ (.head _))))))⟩
    have hz2 : tn' ≠ ld ∧ tc' ≠ ld ∧ y ≠ ld ∧ d' ≠ ld := ⟨hd9 _ (hs9 _ (hs' _ (.head _))), hd9 _ (hs9 _ (hs' _ (.tail _ (.head _)))), hd9 _ (hs9 _ (hs' _ (.tail _ (.tail _ (.head _))))), hd9 _ (hs9 _ (hs' _ (.tail _ (.tail _ (.tail _ (.head _))))))⟩
    have hdl := hD9.length
    have hdl2 := wit_len b1 b2 i
    rw [List.length_map] at hdl
    k_steps
    rename News _ _ _ _ => N4
    rename Fr _ _ _ _ => F4
    refine Stop.go ?_
    with_unfolding_all refine' indent ?qB ?qF ?qK ?qN ?qT ?q1 ?q2 ?q3 ?q4 ?q5 ?q6 ?q7 ?q8 ?_
    case qB => assumption
    case qF => exact F4
    case qK => assumption
    case qN => exact N4
    case qT => assumption
    case q1 => exact rfl
    case q2 => show dp + 1 + 10 < recursionLimit; omega
    case q3 => show un + 3 + 50 < cLine; omega
    case q4 => exact hX9.mono fun e he => .tail _ (.tail _ (.tail _ (.tail _ (.tail _ (.tail _ (.tail _ (.tail _ (.tail _ (he)))))))))
    case q5 => exact Nat.le_trans S1.len (by decide)
    case q6 => omega
    case q7 => exact S1.cnt
    case q8 => exact S1.runs
    intro tl h9 tk9 F5 N5
    clear F4 N4
    k_steps
    rename News _ _ _ _ => N4
    rename Fr _ _ _ _ => F4
    refine Stop.go ?_
    with_unfolding_all refine' indent ?qB ?qF ?qK ?qN ?qT ?q1 ?q2 ?q3 ?q4 ?q5 ?q6 ?q7 ?q8 ?_
    case qB => assumption
    case qF => exact F4
    case qK => assumption
    case qN => exact N4
    case qT => assumption
    case q1 => exact rfl
    case q2 => show dp + 1 + 10 < recursionLimit; omega
    case q3 => show un + 3 + 50 < cLine; omega
    case q4 => exact hY9.mono fun e he => .tail _ (.tail _ (.tail _ (.tail _ (.tail _ (.tail _ (.tail _ (.tail _ (.tail _ (he)))))))))
    case q5 => exact Nat.le_trans S2.len (by decide)
    case q6 => omega
    case q7 => exact S2.cnt
    case q8 => exact S2.runs
    intro tl h9 tk9 F5 N5
    clear F4 N4
    k_steps
    · rename _ ≠ (_ : Int) => hne
      rename News _ _ _ _ => N4
      rename Fr _ _ _ _ => F4
      refine Stop.go ?_
      with_unfolding_all refine' indent ?qB ?qF ?qK ?qN ?qT ?q1 ?q2 ?q3 ?q4 ?q5 ?q6 ?q7 ?q8 ?_
      case qB => assumption
      case qF => exact F4
      case qK => assumption
      case qN => exact N4
      case qT => assumption
      case q1 => exact rfl
      case q2 => show dp + 1 + 10 < recursionLimit; omega
      case q3 => show un + 3 + 50 < cLine; omega
      case q4 => exact hX9.mono fun e he => .tail _ (.tail _ (.tail _ (.tail _ (.tail _ (.tail _ (.tail _ (.tail _ (.tail _ (he)))))))))
      case q5 => exact Nat.le_trans S1.len (by decide)
      case q6 => omega
      case q7 => exact S1.cnt
      case q8 => exact S1.runs
      intro tl h9 tk9 F5 N5
      clear F4 N4
      k_steps
      rename News _ _ _ _ => N4
      rename Fr _ _ _ _ => F4
      refine Stop.go ?_
      with_unfolding_all refine' indent ?qB ?qF ?qK ?qN ?qT ?q1 ?q2 ?q3 ?q4 ?q5 ?q6 ?q7 ?q8 ?_
      case qB => assumption
      case qF => exact F4
      case qK => assumption
      case qN => exact N4
      case qT => assumption
      case q1 => exact rfl
      case q2 => show dp + 1 + 10 < recursionLimit; omega
      case q3 => show un + 3 + 50 < cLine; omega
      case q4 => exact hY9.mono fun e he => .tail _ (.tail _ (.tail _ (.tail _ (.tail _ (.tail _ (.tail _ (.tail _ (.tail _ (he)))))))))
      case q5 => exact Nat.le_trans S2.len (by decide)
      case q6 => omega
      case q7 => exact S2.cnt
      case q8 => exact S2.runs
      intro tl h9 tk9 F5 N5
      clear F4 N4
      k_steps
      rename (_ < (_ : Nat) ∧ _ < (_ : Nat) ∧ _ < (_ : Nat) ∧ _ < (_ : Nat) ∧ _ < (_ : Nat) ∧ _ < (_ : Nat) ∧ _ < (_ : Nat) ∧ _ < (_ : Nat) ∧ _ < (_ : Nat) ∧ AllLt _ _) => l9
      rename News _ _ _ _ => N9
      rename Fr _ _ _ _ => F9
      refine grow_back F9 (wit_news N9) (wit_own hown l9.2.2.2.2.2.2.2.2.2) ?_
      refine ⟨ld, _, _, _, rfl, fun e he => .tail _ (hs9 e he), ?_, ?_, rfl, rfl, rfl⟩
      · intro q hq
        rcases List.mem_cons.mp hq with rfl | hq
        · exact (Nat.ne_of_lt l9.1).symm
        · exact hd9 q hq
      · rw [wit_succ, witStep, if_neg hne]
        exact dat_snoc hD9
    · rename _ = (_ : Int) => heq
      rename News _ _ _ _ => N9
      rename Fr _ _ _ _ => F9
      refine grow_back F9 (wit_news0 N9) hown ?_
      refine ⟨ld, na, av, nw', rfl, hs9, hd9, ?_, rfl, rfl, rfl⟩
      rw [wit_succ, witStep, if_pos heq, List.append_nil]
      exact hD9
  · rintro m₁ nx h tk ⟨ld, na, av, nw', rfl, hs9, hd9, hD9, q1, q2, q3⟩ F2 N2
    have F3 := pin (pin (pin F2 (x := "self") q1) (x := "other") (Eq.trans (by rfl) q2)) (x := "a") (Eq.trans (by rfl) q3)
    clear F2
    k_steps
    rename News _ _ _ _ => N9
    rename Fr _ _ _ _ => F9
    exact hk ld na av nw' _ _ hs9 hd9 hD9 F9 N9
end
end
section
theorem fresh_St23 : True := by w_top off; exact trivial
section
variable {w : World} {mean : ExcName → Option Value} {mg mb : Str → Option Value} {s : Shared} {h₀ : Heap} {a : Addr} {cd : Value} {m : Str → Option Value} {Q : Flow → Shared → Prop}
  {L lc lv ls : Nat} {vs ys us : List Value} {cs ns xs : List Int} {n n2 n3 : Nat} {o1 o2 o3 o4 o5 : Obj} {rest : List Stmt} {p f sh : Int} {t1 t2 t3 t4 : Tok}
local macro_rules | `(tactic| walk_at "call ref") => `(tactic| (k_here; (with_reducible show wpAny _ _ (call (Value.ref 66) _) _ _ _); with_reducible refine call_stop ?_))
local macro_rules | `(tactic| walk_at "eval ListComp") => `(tactic| (k_here; with_reducible refine eval_stop ?_))
local macro_rules | `(tactic| walk_at "compareOp NotEq ref ref") => `(tactic| (k_here; with_reducible refine cmp_stop ?_))
local macro_rules | `(tactic| walk_at "compareOp Eq ref ref") => `(tactic| (k_here; with_reducible refine cmp_stop ?_))
set_option maxRecDepth 100000 in
set_option maxHeartbeats 8000000 in
theorem st23 (B : Below callerA h₀ [] h₀) (KX : (hd.heap_39 w.params).In h₀) (T : Top hd.view_39 (looseW hd.view_39 ["Whitespace"]) mean mg mb h₀) {x x2 ld nd : Nat} {dv : List Value} {b1 b2 : List Int} {nw : List (Addr × Obj)} {ts : List (Int × Int × Int)}
  (F : Fr h₀ L s.heap m) (N : News h₀ L s.heap ((ld, listOf dv.toArray nd) :: (L + 1, o1) :: nw)) (htl : m "told" = some (.ref x)) (hwh : m "whole" = some (.ref x2)) (hdu : m "due" = some (.ref ld)) (hX : HasWs w nw x b1) (hY : HasWs w nw x2 b2) (S1 : Sane b1) (S2 : Sane b2)
  (hD : DatAll nw dv (ts.map tri)) (hsz : dv.length ≤ 1000) (hw1 : witTo b2 b1 (max (longOf b2) (longOf b1) + 1).toNat = ts.map swap3) (hw2 : witTo b1 b2 (max (longOf b1) (longOf b2) + 1).toNat = ts)
  (hk : ∀ tk' h' m', Fr h₀ L h' m' → Q (.ret (.bool true)) { s with heap := h', toks := tk' }) :
  wpAny (model Challenge.rw_wj0023_01.row.prog w) (callerA.deeper (envOfC "law" lawScope L a cd)) (execs (lawBody.getD 23 (.Pass default) :: lawBody.getD 24 (.Pass default) :: rest) (envOfC "law" lawScope L a cd)) Q (fun _ _ => False) s := by
  revert KX; k_fill; intro KX
  conv => arg 3; arg 1; arg 1; whnf
  conv => arg 3; arg 1; arg 2; arg 1; whnf
  replace F := pin (pin (pin F htl) (x := "whole") (Eq.trans (by rfl) hwh)) (x := "due") (Eq.trans (by rfl) hdu)
  have mk9 := kstMark
  have hu7 : (callerA.deeper (envOfC "law" lawScope L a cd)).units ≤ 100 := Nat.le_of_ble_eq_true rfl
  have hX0 := hX
  have hY0 := hY
  obtain ⟨d, tn, tc, cv, W, t, k1, k2, k3, k4, k5, t1, t2, t3, q, n, hs, hI⟩ := hX
  obtain ⟨d', tn', tc', cv', W', t', k1', k2', k3', k4', k5', t1', t2', t3', q', n', hs', hI'⟩ := hY
  have N2 := news_both N hs hs'
  unfold WsObjs at N2
  simp only [List.cons_append, List.nil_append] at N2
  clear N
  k_steps
  rename News _ _ _ _ => N4
  rename Fr _ _ _ _ => F4
  refine Stop.go ?_
  with_unfolding_all refine' witness (b1 := b2) (b2 := b1) ?qB ?qF ?qK ?qN ?qT ?q1 ?q2 ?q3 ?q4 ?q5 S2 S1 ?_
  case qB => assumption
  case qF => exact F4
  case qK => assumption
  case qN => exact N4
  case qT => assumption
  case q1 => exact rfl
  case q2 => decide
  case q3 => decide
  case q4 => exact hY0.mono fun e he => .tail _ (.tail _ (.tail _ (.tail _ (.tail _ (.tail _ (.tail _ (.tail _ (.tail _ (.tail _ (he))))))))))
  case q5 => exact hX0.mono fun e he => .tail _ (.tail _ (.tail _ (.tail _ (.tail _ (.tail _ (.tail _ (.tail _ (.tail _ (.tail _ (he))))))))))
  intro D1 n1 av1 nw1 h1 tk1 hs1 hn1 hE1 F5 N5
  clear F4 N4
  have hld : (ld, listOf dv.toArray nd) ∈ nw1 := hs1 _ (.head _)
  have hD1 : DatAll nw1 dv (ts.map tri) := hD.mono fun e he => hs1 e (.tail _ (.tail _ (.tail _ (.tail _ (.tail _ (.tail _ (.tail _ (.tail _ (.tail _ (.tail _ (he)))))))))))
  have hdl := hD1.length
  rw [List.length_map] at hdl
  have N6 := news_ten N5 hs1
  clear N5
  k_steps
  rename News _ _ _ _ => N4
  rename Fr _ _ _ _ => F4
  refine Stop.go ?_
  refine trip_comp (ax := ld) (dv := dv) (nd := nd) (ts := ts) (by with_unfolding_all rfl) (by decide) (by rfl) (by decide) (by rfl) (by rfl) (by rfl) (by decide) (by decide) (by decide) rfl ?_ F4 N4 (.tail _ (.head _)) (hD1.mono fun e he => .tail _ (.tail _ (.tail _ (.tail _ (.tail _ (.tail _ (.tail _ (.tail _ (.tail _ (.tail _ (.tail _ (he)))))))))))) (Nat.le_trans hsz (by decide)) ?_ ?_
  · k_steps
  · intro t u1 u2 u3 C h tk m₂ E' hn hx hy hz
    k_steps
    exact wpAny_newTuple ⟨rfl, rfl⟩
  · intro D2 ys2 nw2 h2 tk2 F5 N5 hn2 hs2 hD2
    have N7 : News h₀ L h2 ((D2, PyProof.Rows.LCg.lst ys2) :: _) := N5
    clear F4 N4
    have N8 := news_ten N5 (fun e he => hs2 e (.tail _ he))
    have hE2 : DatAll nw2 av1 ((witTo b2 b1 (max (longOf b2) (longOf b1) + 1).toNat).map tri) := hE1.mono fun e he => hs2 e (.tail _ (.tail _ (.tail _ (.tail _ (.tail _ (.tail _ (.tail _ (.tail _ (.tail _ (.tail _ (.tail _ (he))))))))))))
    have hD1m : (D1, listOf av1.toArray n1) ∈ nw2 := hs2 _ (.head _)
    have hldm : (ld, listOf dv.toArray nd) ∈ nw2 := hs2 _ (.tail _ (.head _))
    have hD3 : DatAll nw2 dv (ts.map tri) := hD1.mono fun e he => hs2 e (.tail _ (.tail _ (.tail _ (.tail _ (.tail _ (.tail _ (.tail _ (.tail _ (.tail _ (.tail _ (.tail _ (he))))))))))))
    k_steps
    refine Stop.go ?_
    refine ne_same (ds := (witTo b2 b1 (max (longOf b2) (longOf b1) + 1).toNat).map tri) (es := (ts.map swap3).map tri) N5 (.tail _ hD1m) rfl rfl hE2 (fun e he => .tail _ he) (.head _) rfl rfl hD2 (fun e he => .tail _ he) tri_ok tri_ok ?hu (by rw [hw1]) ?_
    case hu => exact Nat.lt_of_le_of_lt (Nat.add_le_add_right hu7 64) (by decide)
    clear N5
    k_steps
    rename News _ _ _ _ => N4
    rename Fr _ _ _ _ => F4
    refine Stop.go ?_
    with_unfolding_all refine' witness (b1 := b1) (b2 := b2) ?qB ?qF ?qK ?qN ?qT ?q1 ?q2 ?q3 ?q4 ?q5 S1 S2 ?_
    case qB => assumption
    case qF => exact F4
    case qK => assumption
    case qN => exact N4
    case qT => assumption
    case q1 => exact rfl
    case q2 => decide
    case q3 => decide
    case q4 => exact hX0.mono fun e he => .tail _ (.tail _ (.tail _ (.tail _ (.tail _ (.tail _ (.tail _ (.tail _ (.tail _ (.tail _ (.tail _ (hs2 _ (.tail _ (.tail _ (.tail _ (.tail _ (.tail _ (.tail _ (.tail _ (.tail _ (.tail _ (.tail _ (.tail _ (hs1 _ (.tail _ (.tail _ (.tail _ (.tail _ (.tail _ (.tail _ (.tail _ (.tail _ (.tail _ (.tail _ (he))))))))))))))))))))))))))))))))))
    case q5 => exact hY0.mono fun e he => .tail _ (.tail _ (.tail _ (.tail _ (.tail _ (.tail _ (.tail _ (.tail _ (.tail _ (.tail _ (.tail _ (hs2 _ (.tail _ (.tail _ (.tail _ (.tail _ (.tail _ (.tail _ (.tail _ (.tail _ (.tail _ (.tail _ (.tail _ (hs1 _ (.tail _ (.tail _ (.tail _ (.tail _ (.tail _ (.tail _ (.tail _ (.tail _ (.tail _ (.tail _ (he))))))))))))))))))))))))))))))))))
    intro D3 n3 av3 nw3 h3 tk3 hs3 hn3 hE3 F5 N5
    clear F4 N4
    have hD4 : DatAll nw3 dv (ts.map tri) := hD3.mono fun e he => hs3 e (.tail _ (.tail _ (.tail _ (.tail _ (.tail _ (.tail _ (.tail _ (.tail _ (.tail _ (.tail _ (.tail _ (he))))))))))))
    have hldm3 : (ld, listOf dv.toArray nd) ∈ nw3 := hs3 _ (.tail _ (.head _))
    k_steps
    refine Stop.go ?_
    refine eq_same (ds := (witTo b1 b2 (max (longOf b1) (longOf b2) + 1).toNat).map tri) (es := ts.map tri) N5 (.head _) rfl rfl hE3 (fun e he => .tail _ he) (.tail _ hldm3) rfl rfl hD4 (fun e he => .tail _ he) tri_ok tri_ok ?hu (by rw [hw2]) ?_
    case hu => exact Nat.lt_of_le_of_lt (Nat.add_le_add_right hu7 64) (by decide)
    exact hk _ _ _ (by assumption)
end
end
section
/-- a figure of the table, by eights -/
def dig (tab d : Nat) : Nat := Nat.mod (Nat.div tab (Nat.pow 8 d)) 8
/-- does the value v go with those before it, the last first -/
noncomputable def chk (p tab v : Nat) (fs : List Nat) : Nat → Bool :=
  List.rec (fun _ => true) (fun w _ ih e => cond (Nat.beq (dig tab (Nat.mod (Nat.sub (Nat.add v p) w) p)) (dig tab e)) (ih (Nat.succ e)) false) fs
/-- the steps between neighbours are all alike -/
noncomputable def line (p s : Nat) (fs : List Nat) : Nat → Bool :=
  List.rec (fun _ => true) (fun w _ ih v => cond (Nat.beq (Nat.mod (Nat.add w s) p) v) (ih w) false) fs
noncomputable def lineOf (p : Nat) (fs : List Nat) : Bool :=
  List.rec (motive := fun _ => Bool) true (fun v r _ => List.rec (motive := fun _ => Bool) true (fun w r2 _ => line p (Nat.mod (Nat.sub (Nat.add v p) w) p) (w :: r2) v) r) fs
noncomputable def branch (p tab : Nat) (fs : List Nat) (ih : List Nat → Bool) (vals : List Nat) : Bool :=
  List.rec (motive := fun _ => Bool) true (fun v _ go => cond (chk p tab v fs 1) (cond (ih (v :: fs)) go false) go) vals
noncomputable def dfs (p tab : Nat) (vals : List Nat) (n : Nat) : List Nat → Bool :=
  Nat.rec (fun fs => lineOf p fs) (fun _ ih fs => branch p tab fs ih vals) n
def tabL : List Nat → Nat
  | [] => 0
  | t :: r => t + 8 * tabL r
def bitsOf (bs : List Bool) : List Nat := 4 :: List.zipWith (fun a b => 2 * a.toNat + b.toNat) bs bs.reverse
def allb : Nat → (List Bool → Bool) → Bool
  | 0, g => g []
  | n + 1, g => allb n (fun r => g (true :: r)) && allb n (fun r => g (false :: r))
noncomputable def look (p : Nat) (bs : List Bool) : Bool := (bs.all id) || dfs p (tabL (bitsOf bs)) (List.range p) (p - 1) [0]
set_option maxRecDepth 100000
theorem look5 : allb 3 (fun r => look 5 (true :: r)) = true := by decide +kernel
theorem look7 : allb 5 (fun r => look 7 (true :: r)) = true := by decide +kernel
theorem look11_0000 : allb 5 (fun r => look 11 (true :: false :: false :: false :: false :: r)) = true := by decide +kernel
theorem look11_0001 : allb 5 (fun r => look 11 (true :: false :: false :: false :: true :: r)) = true := by decide +kernel
theorem look11_0010 : allb 5 (fun r => look 11 (true :: false :: false :: true :: false :: r)) = true := by decide +kernel
theorem look11_0011 : allb 5 (fun r => look 11 (true :: false :: false :: true :: true :: r)) = true := by decide +kernel
theorem look11_0100 : allb 5 (fun r => look 11 (true :: false :: true :: false :: false :: r)) = true := by decide +kernel
theorem look11_0101 : allb 5 (fun r => look 11 (true :: false :: true :: false :: true :: r)) = true := by decide +kernel
theorem look11_0110 : allb 5 (fun r => look 11 (true :: false :: true :: true :: false :: r)) = true := by decide +kernel
theorem look11_0111 : allb 5 (fun r => look 11 (true :: false :: true :: true :: true :: r)) = true := by decide +kernel
theorem look11_1000 : allb 5 (fun r => look 11 (true :: true :: false :: false :: false :: r)) = true := by decide +kernel
theorem look11_1001 : allb 5 (fun r => look 11 (true :: true :: false :: false :: true :: r)) = true := by decide +kernel
theorem look11_1010 : allb 5 (fun r => look 11 (true :: true :: false :: true :: false :: r)) = true := by decide +kernel
theorem look11_1011 : allb 5 (fun r => look 11 (true :: true :: false :: true :: true :: r)) = true := by decide +kernel
theorem look11_1100 : allb 5 (fun r => look 11 (true :: true :: true :: false :: false :: r)) = true := by decide +kernel
theorem look11_1101 : allb 5 (fun r => look 11 (true :: true :: true :: false :: true :: r)) = true := by decide +kernel
theorem look11_1110 : allb 5 (fun r => look 11 (true :: true :: true :: true :: false :: r)) = true := by decide +kernel
theorem look11_1111 : allb 5 (fun r => look 11 (true :: true :: true :: true :: true :: r)) = true := by decide +kernel
theorem allb_sound : ∀ (n : Nat) (g : List Bool → Bool), allb n g = true → ∀ bs, bs.length = n → g bs = true
  | 0, g, h, bs, hl => by
    rw [List.length_eq_zero_iff.mp hl]
    exact h
  | n + 1, g, h, bs, hl => by
    unfold allb at h
    rw [Bool.and_eq_true] at h
    cases bs with
    | nil => cases hl
    | cons b r =>
      have hl' : r.length = n := by simpa using hl
      cases b with
      | true => exact allb_sound n _ h.1 r hl'
      | false => exact allb_sound n _ h.2 r hl'
/-- the values before place x, the last first -/
def pre (F : Nat → Nat) : Nat → List Nat
  | 0 => []
  | x + 1 => F x :: pre F x
theorem chk_ok {p tab : Nat} {F : Nat → Nat} {v : Nat} : ∀ (x e : Nat), (∀ y, y < x → dig tab ((v + p - F y) % p) = dig tab (e + (x - 1 - y))) → chk p tab v (pre F x) e = true
  | 0, _, _ => rfl
  | x + 1, e, h => by
    have h0 := h x (Nat.lt_succ_self x)
    have e1 : e + (x + 1 - 1 - x) = e := by omega
    rw [e1] at h0
    have ih := chk_ok (p := p) (tab := tab) (F := F) (v := v) x (e + 1) fun y hy => by
      rw [h y (by omega)]
      congr 1
      omega
    show cond (Nat.beq (dig tab ((v + p - F x) % p)) (dig tab e)) (chk p tab v (pre F x) (e + 1)) false = true
    rw [h0, ih]
    simp
theorem branch_ok {p tab : Nat} {fs : List Nat} {ih : List Nat → Bool} {v : Nat} (hc : chk p tab v fs 1 = true) : ∀ vals : List Nat, v ∈ vals → branch p tab fs ih vals = true → ih (v :: fs) = true
  | [], h, _ => by cases h
  | u :: r, h, hb => by
    have hb' : cond (chk p tab u fs 1) (cond (ih (u :: fs)) (branch p tab fs ih r) false) (branch p tab fs ih r) = true := hb
    rcases List.mem_cons.mp h with rfl | h
    · rw [hc] at hb'
      cases hi : ih (v :: fs) with
      | true => rfl
      | false => rw [hi] at hb'; cases hb'
    · refine branch_ok hc r h ?_
      cases hu : chk p tab u fs 1 with
      | true =>
        rw [hu] at hb'
        cases hi : ih (u :: fs) with
        | true => rw [hi] at hb'; exact hb'
        | false => rw [hi] at hb'; cases hb'
      | false => rw [hu] at hb'; exact hb'
theorem dfs_ok {p tab : Nat} {F : Nat → Nat} (hF : ∀ x, x < p → F x < p) (hP : ∀ x y, y < x → x < p → dig tab ((F x + p - F y) % p) = dig tab (x - y)) :
    ∀ (n x : Nat), x + n = p → dfs p tab (List.range p) n (pre F x) = true → lineOf p (pre F p) = true
  | 0, x, hx, h => by
    rw [← hx]
    rw [← hx] at h
    exact h
  | n + 1, x, hx, h => by
    have hb : branch p tab (pre F x) (dfs p tab (List.range p) n) (List.range p) = true := h
    have hc : chk p tab (F x) (pre F x) 1 = true := chk_ok x 1 fun y hy => by
      rw [hP x y hy (by omega)]
      congr 1
      omega
    exact dfs_ok hF hP n (x + 1) (by omega) (branch_ok hc _ (List.mem_range.mpr (hF x (by omega))) hb)
theorem line_ok {p s : Nat} {F : Nat → Nat} : ∀ (x v : Nat), line p s (pre F x) v = true → ∀ y, y < x → (F y + s) % p = if y + 1 = x then v else F (y + 1)
  | 0, _, _, y, hy => absurd hy (Nat.not_lt_zero _)
  | x + 1, v, h, y, hy => by
    have h' : cond (Nat.beq ((F x + s) % p) v) (line p s (pre F x) (F x)) false = true := h
    cases hb : Nat.beq ((F x + s) % p) v with
    | false => rw [hb] at h'; cases h'
    | true =>
      rw [hb] at h'
      have e := Nat.eq_of_beq_eq_true hb
      by_cases hyx : y = x
      · subst hyx
        rw [if_pos rfl]
        exact e
      · have ih := line_ok x (F x) h' y (by omega)
        rw [ih, if_neg (by omega : ¬ y + 1 = x + 1)]
        split
        · rename_i e2
          rw [e2]
        · rfl
theorem lineOf_ok {p : Nat} {F : Nat → Nat} (hp : 2 ≤ p) (h : lineOf p (pre F p) = true) : ∃ s, ∀ x, x + 1 < p → F (x + 1) = (F x + s) % p := by
  obtain ⟨q, rfl⟩ : ∃ q, p = q + 2 := ⟨p - 2, by omega⟩
  have h' : line (q + 2) ((F (q + 1) + (q + 2) - F q) % (q + 2)) (pre F (q + 1)) (F (q + 1)) = true := h
  refine ⟨(F (q + 1) + (q + 2) - F q) % (q + 2), fun x hx => ?_⟩
  have := line_ok (q + 1) _ h' x (by omega)
  rw [this]
  split
  · rename_i e
    rw [e]
  · rfl
theorem dig_zero {t : Nat} {r : List Nat} (ht : t < 8) : dig (tabL (t :: r)) 0 = t := by
  show (t + 8 * tabL r) / 1 % 8 = t
  omega
theorem dig_succ {t d : Nat} {r : List Nat} (ht : t < 8) : dig (tabL (t :: r)) (d + 1) = dig (tabL r) d := by
  show (t + 8 * tabL r) / 8 ^ (d + 1) % 8 = tabL r / 8 ^ d % 8
  rw [Nat.pow_succ, Nat.mul_comm (8 ^ d) 8, ← Nat.div_div_eq_div_mul]
  congr 2
  omega
theorem dig_getD : ∀ (ts : List Nat) (d : Nat), (∀ t ∈ ts, t < 8) → d < ts.length → dig (tabL ts) d = ts.getD d 0
  | t :: r, 0, h, _ => dig_zero (h t List.mem_cons_self)
  | t :: r, d + 1, h, hd => by
    rw [dig_succ (h t List.mem_cons_self), dig_getD r d (fun t ht => h t (List.mem_cons_of_mem _ ht)) (by simpa using hd)]
    simp
end
section
/-- the row of a class upon 1 .. p - 1 -/
def bitRow (p : Nat) (c : Nat → Bool) : List Bool := (List.range (p - 1)).map fun i => c (i + 1)
theorem row_len {p : Nat} {c : Nat → Bool} : (bitRow p c).length = p - 1 := by simp [bitRow]
theorem row_get {p : Nat} {c : Nat → Bool} {i : Nat} (h : i < p - 1) : (bitRow p c)[i]? = some (c (i + 1)) := by
  simp [bitRow, h]
theorem bits_small {p : Nat} {c : Nat → Bool} : ∀ t ∈ bitsOf (bitRow p c), t < 8 := by
  intro t ht
  unfold bitsOf at ht
  rcases List.mem_cons.mp ht with rfl | ht
  · decide
  · obtain ⟨i, hi⟩ := List.getElem?_of_mem ht
    rw [List.getElem?_zipWith] at hi
    cases h1 : (bitRow p c)[i]? with
    | none => rw [h1] at hi; cases hi
    | some a =>
      cases h2 : (bitRow p c).reverse[i]? with
      | none => rw [h1, h2] at hi; cases hi
      | some b =>
        rw [h1, h2] at hi
        have := Option.some.inj hi
        rw [← this]
        cases a <;> cases b <;> decide
theorem bits_dig {p : Nat} {c : Nat → Bool} {d : Nat} (h1 : 1 ≤ d) (h2 : d < p) : dig (tabL (bitsOf (bitRow p c))) d = 2 * (c d).toNat + (c (p - d)).toNat := by
  have hl : (bitRow p c).length = p - 1 := row_len
  rw [dig_getD _ _ bits_small (by simp [bitsOf, hl]; omega)]
  obtain ⟨i, rfl⟩ : ∃ i, d = i + 1 := ⟨d - 1, by omega⟩
  unfold bitsOf
  rw [List.getD_eq_getElem?_getD, List.getElem?_cons_succ, List.getElem?_zipWith, row_get (by omega), List.getElem?_reverse (by omega), hl, row_get (by omega)]
  have e : p - 1 - 1 - i + 1 = p - (i + 1) := by omega
  rw [e]
  rfl
/-- Burnside, for these primes: who keeps a class of differences that is neither none nor all is a straight line -/
theorem burnside {p : Nat} (hp : p = 5 ∨ p = 7 ∨ p = 11) {F : Nat → Nat} {c : Nat → Bool} (h0 : F 0 = 0) (hF : ∀ x, x < p → F x < p) (hinj : ∀ x y, y < x → x < p → F x ≠ F y) (hc1 : c 1 = true) (hne : ∃ d, 1 ≤ d ∧ d < p ∧ c d = false)
    (hP : ∀ x y, x < p → y < p → x ≠ y → c ((F x + p - F y) % p) = c ((x + p - y) % p)) : ∃ s, ∀ x, x + 1 < p → F (x + 1) = (F x + s) % p := by
  have hrow : bitRow p c = true :: (List.range (p - 2)).map fun i => c (i + 2) := by
    obtain ⟨q, rfl⟩ : ∃ q, p = q + 2 := ⟨p - 2, by omega⟩
    show (List.range (q + 1)).map (fun i => c (i + 1)) = _
    rw [List.range_succ_eq_map, List.map_cons, List.map_map, hc1]
    rfl
  have hlook : look p (bitRow p c) = true := by
    rw [hrow]
    rcases hp with rfl | rfl | rfl
    · exact allb_sound _ _ look5 _ (by simp)
    · exact allb_sound _ _ look7 _ (by simp)
    · show look 11 (true :: c 2 :: c 3 :: c 4 :: c 5 :: ((List.range 5).map fun i => c (i + 6))) = true
      cases c 2 <;> cases c 3 <;> cases c 4 <;> cases c 5
      · exact allb_sound _ _ look11_0000 _ (by simp)
      · exact allb_sound _ _ look11_0001 _ (by simp)
      · exact allb_sound _ _ look11_0010 _ (by simp)
      · exact allb_sound _ _ look11_0011 _ (by simp)
      · exact allb_sound _ _ look11_0100 _ (by simp)
      · exact allb_sound _ _ look11_0101 _ (by simp)
      · exact allb_sound _ _ look11_0110 _ (by simp)
      · exact allb_sound _ _ look11_0111 _ (by simp)
      · exact allb_sound _ _ look11_1000 _ (by simp)
      · exact allb_sound _ _ look11_1001 _ (by simp)
      · exact allb_sound _ _ look11_1010 _ (by simp)
      · exact allb_sound _ _ look11_1011 _ (by simp)
      · exact allb_sound _ _ look11_1100 _ (by simp)
      · exact allb_sound _ _ look11_1101 _ (by simp)
      · exact allb_sound _ _ look11_1110 _ (by simp)
      · exact allb_sound _ _ look11_1111 _ (by simp)
  have hp2 : 2 ≤ p := by omega
  clear hp
  unfold look at hlook
  rw [Bool.or_eq_true] at hlook
  rcases hlook with hall | hd
  · exfalso
    obtain ⟨d, h1, h2, h3⟩ := hne
    rw [List.all_eq_true] at hall
    have hm : c d ∈ bitRow p c := List.mem_of_getElem? (i := d - 1) (by
      rw [row_get (by omega)]
      congr 2
      omega)
    have := hall _ hm
    rw [h3] at this
    cases this
  · have hpre : [0] = pre F 1 := by show [0] = [F 0]; rw [h0]
    rw [hpre] at hd
    refine lineOf_ok (by omega) (dfs_ok hF (fun x y hyx hx => ?_) (p - 1) 1 (by omega) hd)
    have a1 := hF x hx
    have a2 := hF y (by omega)
    have a3 := hinj x y hyx hx
    have e1 : (x + p - y) % p = x - y := by rw [ringN hx (Nat.lt_trans hyx hx), if_pos (Nat.le_of_lt hyx)]
    have e2 : (y + p - x) % p = p - (x - y) := by rw [(ring_back hx (Nat.lt_trans hyx hx) (Nat.ne_of_gt hyx)).1, e1]
    have e3 := ring_back a1 a2 a3
    have p1 := hP x y hx (by omega) (by omega)
    have p2 := hP y x (by omega) hx (by omega)
    rw [e1] at p1
    rw [e2, e3.1] at p2
    rw [bits_dig e3.2.1 e3.2.2, bits_dig (by omega) (by omega), p1, p2]
end
section
section
variable {p : Int} {ns xs : List Int} {rs : List Nat}
theorem same_root (h : Inv p ns xs (p - 1).toNat 0) (P : PermOf p ns) (hR : ∀ k, k < xs.length → Root xs k (rs.getD k 0)) {g x : Int} (h1 : 1 ≤ g) (h2 : g < p) (h3 : 0 ≤ x) (h4 : x < p) :
    rs.getD (g - 1).toNat 0 = rs.getD (gapTo p ns g x - 1).toNat 0 := by
  obtain ⟨r, r1, r2⟩ := h.done g x h1 h2 h3 h4 (.inl (by omega))
  have hl := h.len
  have hb := gapTo_bnd P ⟨h1, h2⟩ ⟨h3, h4⟩
  rw [(hR _ (by omega)).uniq r1, (hR _ (by omega)).uniq r2]
/-- the values, the first one at nought -/
def rel (p : Int) (ns : List Int) (x : Nat) : Nat := ((ns.getD x 0 - ns.getD 0 0) % p).toNat
theorem rel_cast (hp : 0 < p) (x : Nat) : ((rel p ns x : Nat) : Int) = (ns.getD x 0 - ns.getD 0 0) % p := by
  unfold rel
  rw [Int.toNat_of_nonneg (Int.emod_nonneg _ (by omega))]
theorem rel_bnd (hp : 0 < p) (x : Nat) : rel p ns x < p.toNat := by
  have := rel_cast (ns := ns) hp x
  have := Int.emod_lt_of_pos (ns.getD x 0 - ns.getD 0 0) hp
  omega
theorem gap_between (hp : 0 < p) (P : PermOf p ns) {x y : Nat} (hx : x < p.toNat) (hy : y < p.toNat) (hxy : x ≠ y) :
    1 ≤ (x + p.toNat - y) % p.toNat ∧ (x + p.toNat - y) % p.toNat < p.toNat ∧ gapTo p ns (((x + p.toNat - y) % p.toNat : Nat) : Int) y = (((rel p ns x + p.toNat - rel p ns y) % p.toNat : Nat) : Int) := by
  obtain ⟨n, rfl⟩ : ∃ n : Nat, p = n := ⟨p.toNat, by omega⟩
  have hrx := rel_bnd (ns := ns) hp x
  have hry := rel_bnd (ns := ns) hp y
  rw [Int.toNat_natCast] at hx hy hrx hry
  rw [Int.toNat_natCast]
  have hd : 1 ≤ (x + n - y) % n ∧ (x + n - y) % n < n := by
    rw [ringN hx hy]
    split <;> omega
  refine ⟨hd.1, hd.2, ?_⟩
  rw [gapTo_mod P (by omega) (by omega)]
  have e : (((y : Int) + (((x + n - y) % n : Nat) : Int)).fmod n).toNat = x := by
    rw [Int.fmod_eq_emod_of_nonneg _ (by omega), ← Int.natCast_add, ← Int.natCast_emod, Int.toNat_natCast, Nat.add_mod_mod, show y + (x + n - y) = x + n from by omega, Nat.add_mod_right, Nat.mod_eq_of_lt hx]
  rw [e, Int.toNat_natCast, Int.natCast_emod, Int.natCast_sub (by omega), Int.natCast_add, show ((rel n ns x : Int) + n - rel n ns y) = (rel n ns x - rel n ns y) + n from by omega, Int.add_emod_right, rel_cast hp, rel_cast hp, ← Int.sub_emod]
  congr 1
  omega
theorem rel_inj (hp : 0 < p) (P : PermOf p ns) {x y : Nat} (hx : x < p.toNat) (hy : y < p.toNat) (h : rel p ns x = rel p ns y) : x = y := by
  have hl := P.len
  have e : (ns.getD x 0 - ns.getD 0 0) % p = (ns.getD y 0 - ns.getD 0 0) % p := by rw [← rel_cast hp, ← rel_cast hp, h]
  have e3 : (ns.getD x 0 - ns.getD y 0) % p = 0 := by
    have := Int.emod_eq_emod_iff_emod_sub_eq_zero.mp e
    rwa [show ns.getD x 0 - ns.getD 0 0 - (ns.getD y 0 - ns.getD 0 0) = ns.getD x 0 - ns.getD y 0 from by omega] at this
  have b1 := P.bnd x (by omega)
  have b2 := P.bnd y (by omega)
  rw [ringI b1 b2] at e3
  refine P.inj x y (by omega) (by omega) ?_
  split at e3 <;> omega
theorem aff_of (hp : 1 < p) (P : PermOf p ns) {s : Nat} (hs : ∀ x, x + 1 < p.toNat → rel p ns (x + 1) = (rel p ns x + s) % p.toNat) : Aff p ns := by
  have hl := P.len
  have hp0 : 0 < p := by omega
  have hS : (ns.getD 1 0 - ns.getD 0 0).fmod p = (ns.getD 1 0 - ns.getD 0 0) % p := Int.fmod_eq_emod_of_nonneg _ (by omega)
  have e0 : rel p ns 0 = 0 := by simp [rel]
  have hr : ∀ x, x + 1 < p.toNat → ((rel p ns (x + 1) : Nat) : Int) = ((rel p ns x : Nat) + (s : Int)) % p := fun x hx => by
    rw [hs x hx, Int.natCast_emod, Int.natCast_add, Int.toNat_of_nonneg (by omega)]
  have hs1 : (ns.getD 1 0 - ns.getD 0 0) % p = (s : Int) % p := by
    rw [← rel_cast hp0, hr 0 (by omega), e0, Int.natCast_zero, Int.zero_add]
  have key : ∀ x : Nat, x < p.toNat → ((rel p ns x : Nat) : Int) = ((ns.getD 1 0 - ns.getD 0 0) % p * x) % p := by
    intro x
    induction x with
    | zero => intro _; simp [rel]
    | succ x ih =>
      intro hx
      rw [hr x hx, ih (by omega), Int.emod_add_emod, Int.natCast_succ, Int.mul_add, Int.mul_one, ← Int.add_emod_emod, ← hs1, Int.add_emod_emod]
  unfold Aff
  rw [hS]
  refine List.ext_getElem ?_ fun i h1 h2 => ?_
  · rw [List.length_map, rangeKs_length]
    omega
  · have bi := P.bnd i h1
    have hk := key i (by omega)
    rw [rel_cast hp0] at hk
    rw [List.getElem_map]
    have e : (rangeKs 0 (p - 0).toNat)[i]'(by rw [rangeKs_length]; omega) = (i : Int) := by simp [rangeKs]
    rw [e, Int.fmod_eq_emod_of_nonneg _ (by omega), ← Int.emod_add_emod, ← hk, Int.emod_add_emod, Int.sub_add_cancel, ← getD_eq h1, Int.emod_eq_of_lt bi.1 bi.2]
theorem roots_bent (hp : p = 5 ∨ p = 7 ∨ p = 11) (P : PermOf p ns) (h : Inv p ns xs (p - 1).toNat 0) (hR : ∀ k, k < xs.length → Root xs k (rs.getD k 0)) (hA : ¬ Aff p ns) : ∀ k, k < xs.length → rs.getD k 0 = 0 := by
  have hl := P.len
  have hlx := h.len
  have hz : rs.getD 0 0 = 0 := by
    have := (hR 0 (by omega)).le h.uf (by omega)
    omega
  intro k hk
  refine Eq.trans ?_ hz
  refine Classical.byContradiction fun hne => hA ?_
  have hpb := prime_bnd hp
  have hp0 : 0 < p := by omega
  have hinj : ∀ x y, y < x → x < p.toNat → rel p ns x ≠ rel p ns y := fun x y hyx hx e => absurd (rel_inj hp0 P hx (by omega) e) (by omega)
  have hPr : ∀ x y, x < p.toNat → y < p.toNat → x ≠ y → decide (rs.getD ((rel p ns x + p.toNat - rel p ns y) % p.toNat - 1) 0 = rs.getD 0 0) = decide (rs.getD ((x + p.toNat - y) % p.toNat - 1) 0 = rs.getD 0 0) := fun x y hx hy hxy => by
    obtain ⟨g1, g2, g3⟩ := gap_between hp0 P hx hy hxy
    have hsm := same_root h P hR (g := (((x + p.toNat - y) % p.toNat : Nat) : Int)) (x := y) (by omega) (by omega) (by omega) (by omega)
    rw [g3] at hsm
    have e1 : ((((x + p.toNat - y) % p.toNat : Nat) : Int) - 1).toNat = (x + p.toNat - y) % p.toNat - 1 := by omega
    have e2 : ((((rel p ns x + p.toNat - rel p ns y) % p.toNat : Nat) : Int) - 1).toNat = (rel p ns x + p.toNat - rel p ns y) % p.toNat - 1 := by omega
    rw [e1, e2] at hsm
    simp only [hsm]
  obtain ⟨s, hs⟩ := burnside (p := p.toNat) (prime_nat hp) (F := rel p ns) (c := fun d => decide (rs.getD (d - 1) 0 = rs.getD 0 0)) (by simp [rel]) (fun x _ => rel_bnd hp0 x) hinj (by simp) ⟨k + 1, by omega, by omega, by simpa using hne⟩ hPr
  exact aff_of (by omega) P hs
end
end
section
set_option maxRecDepth 100000
def slopeOf (p : Int) (ns : List Int) : Int := (ns.getD 1 0 - ns.getD 0 0).fmod p
def orb (p s : Int) : Nat → Int → Int
  | 0, g => g
  | i + 1, g => (orb p s i g * s).fmod p
def lab (p s : Int) (k : Nat) : Nat := ((List.range 10).map fun i => (orb p s i ((k : Int) + 1) - 1).toNat).foldl min k
def labs (p s : Int) : List Nat := (List.range (p - 1).toNat).map (lab p s)
def bsOf (p : Int) (k : Nat) : List Int := List.replicate ((p - 1).toNat / k) (k : Int)
abbrev LabOk (p s : Int) : Prop := (∀ k, k < (p - 1).toNat → lab p s k ≤ k ∧ (∃ i, i < 10 ∧ (orb p s i ((k : Int) + 1) - 1).toNat = lab p s k) ∧ lab p s k = lab p s ((((k : Int) + 1) * s).fmod p - 1).toNat) ∧
  (cnt (p - 1).toNat (labs p s)).filter (fun k => decide (0 < k)) = bsOf p (ordOf p s)
theorem lab_ok5 : ∀ i : Nat, i < 4 → LabOk 5 ((i : Int) + 1) := by decide +kernel
theorem lab_ok7 : ∀ i : Nat, i < 6 → LabOk 7 ((i : Int) + 1) := by decide +kernel
theorem lab_ok11 : ∀ i : Nat, i < 10 → LabOk 11 ((i : Int) + 1) := by decide +kernel
theorem lab_ok {p s : Int} (hp : p = 5 ∨ p = 7 ∨ p = 11) (hs : 1 ≤ s ∧ s < p) : LabOk p s := by
  have e : s = ((s - 1).toNat : Int) + 1 := by omega
  rw [e]
  rcases hp with rfl | rfl | rfl
  · exact lab_ok5 _ (by omega)
  · exact lab_ok7 _ (by omega)
  · exact lab_ok11 _ (by omega)
section
variable {p : Int} {ns xs : List Int} {rs : List Nat}
theorem aff_get (hA : Aff p ns) {y : Nat} (hy : y < p.toNat) : ns.getD y 0 = (slopeOf p ns * y + ns.getD 0 0).fmod p := by
  have h : ns.getD y 0 = ((rangeKs 0 (p - 0).toNat).map fun k => (slopeOf p ns * k + ns.getD 0 0).fmod p).getD y 0 := congrArg (fun l => List.getD l y 0) hA
  rw [h]
  have e : (rangeKs 0 (p - 0).toNat)[y]? = some (y : Int) := by
    have : y < (p - 0).toNat := by omega
    rw [rangeKs, List.getElem?_map, List.getElem?_range this]
    simp
  rw [List.getD_eq_getElem?_getD, List.getElem?_map, e]
  rfl
theorem mul_mod_in (S y p : Int) : (S * (y % p)) % p = (S * y) % p := by rw [Int.mul_emod, Int.emod_emod, ← Int.mul_emod]
theorem gap_aff (hp : p = 5 ∨ p = 7 ∨ p = 11) (P : PermOf p ns) (hA : Aff p ns) {g x : Int} (h1 : 1 ≤ g) (h2 : g < p) (h3 : 0 ≤ x) (h4 : x < p) : gapTo p ns g x = (g * slopeOf p ns).fmod p := by
  have hp0 : 0 < p := by omega
  have hy := (fdiv_fmod_facts (x + g) p).2.2.1 hp0
  clear hp
  rw [gapTo_mod P ⟨h1, h2⟩ ⟨h3, h4⟩, aff_get hA (y := ((x + g).fmod p).toNat) (by omega), aff_get hA (y := x.toNat) (by omega), Int.toNat_of_nonneg hy.1, Int.toNat_of_nonneg h3]
  simp only [Int.fmod_eq_emod_of_nonneg _ (Int.le_of_lt hp0)]
  rw [← Int.sub_emod, show ∀ a b o : Int, a + o - (b + o) = a - b from fun a b o => by omega, Int.sub_emod, mul_mod_in, ← Int.sub_emod, ← Int.mul_sub, show x + g - x = g from by omega, Int.mul_comm]
theorem orb_root (hp : p = 5 ∨ p = 7 ∨ p = 11) (P : PermOf p ns) (h : Inv p ns xs (p - 1).toNat 0) (hR : ∀ k, k < xs.length → Root xs k (rs.getD k 0)) (hA : Aff p ns) {g : Int} (h1 : 1 ≤ g) (h2 : g < p) :
    ∀ i, 1 ≤ orb p (slopeOf p ns) i g ∧ orb p (slopeOf p ns) i g < p ∧ rs.getD (orb p (slopeOf p ns) i g - 1).toNat 0 = rs.getD (g - 1).toNat 0
  | 0 => ⟨h1, h2, rfl⟩
  | i + 1 => by
    obtain ⟨i1, i2, i3⟩ := orb_root hp P h hR hA h1 h2 i
    have e := gap_aff hp P hA i1 i2 (x := 0) (by omega) (by omega)
    have b := gapTo_bnd P ⟨i1, i2⟩ (x := 0) ⟨by omega, by omega⟩
    have r := same_root h P hR i1 i2 (x := 0) (by omega) (by omega)
    rw [e] at b r
    exact ⟨b.1, b.2, by show rs.getD ((orb p (slopeOf p ns) i g * slopeOf p ns).fmod p - 1).toNat 0 = _; rw [← r, i3]⟩
theorem roots_line (hp : p = 5 ∨ p = 7 ∨ p = 11) (P : PermOf p ns) (h : Inv p ns xs (p - 1).toNat 0) (hR : ∀ k, k < xs.length → Root xs k (rs.getD k 0)) (hA : Aff p ns) : ∀ k, k < xs.length → rs.getD k 0 = lab p (slopeOf p ns) k := by
  have hl := P.len
  have hlx := h.len
  have hs := slope_pos hp P
  have ok := lab_ok hp (s := slopeOf p ns) hs
  intro k hk
  obtain ⟨o1, ⟨i, hi, o2⟩, o3⟩ := ok.1 k (by omega)
  have ho := orb_root hp P h hR hA (g := (k : Int) + 1) (by omega) (by omega) i
  have e1 : ((k : Int) + 1 - 1).toNat = k := by omega
  rw [o2, e1] at ho
  have hle := (hR (lab p (slopeOf p ns) k) (by omega)).le h.uf (by omega)
  rw [ho.2.2] at hle
  have hrk := (hR k hk).le h.uf hk
  have hso := h.sound (lab p (slopeOf p ns)) (fun g x g1 g2 x1 x2 => ?_) k _ hk (hR k hk)
  · have hge := (ok.1 (rs.getD k 0) (by omega)).1
    omega
  · rw [gap_aff hp P hA g1 g2 x1 x2]
    obtain ⟨_, _, q⟩ := ok.1 (g - 1).toNat (by omega)
    have e2 : (((g - 1).toNat : Nat) : Int) + 1 = g := by omega
    rw [e2] at q
    exact q
theorem runs_are (hp : p = 5 ∨ p = 7 ∨ p = 11) (P : PermOf p ns) (h : Inv p ns xs (p - 1).toNat 0) (hrl : rs.length = xs.length) (hR : ∀ k, k < xs.length → Root xs k (rs.getD k 0)) :
    (cnt (p - 1).toNat rs).filter (fun k => decide (0 < k)) = bsOf p (powersOf p ns) := by
  have hlx := h.len
  by_cases hA : Aff p ns
  · have e : rs = labs p (slopeOf p ns) := by
      refine List.ext_getElem (by rw [labs, List.length_map, List.length_range]; omega) fun i h1 h2 => ?_
      have := roots_line hp P h hR hA i (by omega)
      rw [List.getD_eq_getElem?_getD, List.getElem?_eq_getElem h1, Option.getD_some] at this
      rw [this]
      simp only [labs, List.getElem_map, List.getElem_range]
    rw [powersOf, if_pos hA, e]
    exact (lab_ok hp (s := slopeOf p ns) (slope_pos hp P)).2
  · have e : rs = List.replicate (p - 1).toNat 0 := by
      refine List.ext_getElem (by rw [List.length_replicate]; omega) fun i h1 h2 => ?_
      have := roots_bent hp P h hR hA i (by omega)
      rw [List.getD_eq_getElem?_getD, List.getElem?_eq_getElem h1, Option.getD_some] at this
      rw [this, List.getElem_replicate]
    rw [powersOf, if_neg hA, e]
    rcases hp with rfl | rfl | rfl <;> decide +kernel
end
end
section
set_option maxRecDepth 100000
theorem ord_c5 : ∀ i : Nat, i < 4 → ordOf 5 ((i : Int) + 1) = 1 ∨ ordOf 5 ((i : Int) + 1) = 2 ∨ ordOf 5 ((i : Int) + 1) = 4 := by decide +kernel
theorem ord_c7 : ∀ i : Nat, i < 6 → ordOf 7 ((i : Int) + 1) = 1 ∨ ordOf 7 ((i : Int) + 1) = 2 ∨ ordOf 7 ((i : Int) + 1) = 3 ∨ ordOf 7 ((i : Int) + 1) = 6 := by decide +kernel
theorem ord_c11 : ∀ i : Nat, i < 10 → ordOf 11 ((i : Int) + 1) = 1 ∨ ordOf 11 ((i : Int) + 1) = 2 ∨ ordOf 11 ((i : Int) + 1) = 5 ∨ ordOf 11 ((i : Int) + 1) = 10 := by decide +kernel
theorem ord_cases {p s : Int} (hp : p = 5 ∨ p = 7 ∨ p = 11) (hs : 1 ≤ s ∧ s < p) : (p = 5 ∧ (ordOf p s = 1 ∨ ordOf p s = 2 ∨ ordOf p s = 4)) ∨ (p = 7 ∧ (ordOf p s = 1 ∨ ordOf p s = 2 ∨ ordOf p s = 3 ∨ ordOf p s = 6)) ∨ (p = 11 ∧ (ordOf p s = 1 ∨ ordOf p s = 2 ∨ ordOf p s = 5 ∨ ordOf p s = 10)) := by
  have e : s = ((s - 1).toNat : Int) + 1 := by omega
  rw [e]
  rcases hp with rfl | rfl | rfl
  · exact .inl ⟨rfl, ord_c5 _ (by omega)⟩
  · exact .inr (.inl ⟨rfl, ord_c7 _ (by omega)⟩)
  · exact .inr (.inr ⟨rfl, ord_c11 _ (by omega)⟩)
theorem pow_cases {p : Int} {ns : List Int} (hp : p = 5 ∨ p = 7 ∨ p = 11) (P : PermOf p ns) : (p = 5 ∧ (powersOf p ns = 1 ∨ powersOf p ns = 2 ∨ powersOf p ns = 4)) ∨ (p = 7 ∧ (powersOf p ns = 1 ∨ powersOf p ns = 2 ∨ powersOf p ns = 3 ∨ powersOf p ns = 6)) ∨ (p = 11 ∧ (powersOf p ns = 1 ∨ powersOf p ns = 2 ∨ powersOf p ns = 5 ∨ powersOf p ns = 10)) := by
  by_cases hA : Aff p ns
  · rw [powersOf, if_pos hA]
    exact ord_cases hp (slope_pos hp P)
  · rw [powersOf, if_neg hA]
    rcases hp with rfl | rfl | rfl <;> decide
/-- all that the columns tell, for one count of powers -/
abbrev ColOk (p : Int) (k : Nat) : Prop :=
  (((bsOf p k).foldl bump []).length ≤ 500 ∧ (∀ v ∈ (bsOf p k).foldl bump [], 0 ≤ v ∧ v ≤ 1000) ∧ (bsOf p k).length ≤ 1000) ∧
  witTo [p - 1] (bsOf p k) (max (longOf [p - 1]) (longOf (bsOf p k)) + 1).toNat = (duesTo p k p.toNat).map swap3 ∧ witTo (bsOf p k) [p - 1] (max (longOf (bsOf p k)) (longOf [p - 1]) + 1).toNat = duesTo p k p.toNat
theorem col_ok {p : Int} {k : Nat} (h : (p = 5 ∧ (k = 1 ∨ k = 2 ∨ k = 4)) ∨ (p = 7 ∧ (k = 1 ∨ k = 2 ∨ k = 3 ∨ k = 6)) ∨ (p = 11 ∧ (k = 1 ∨ k = 2 ∨ k = 5 ∨ k = 10))) : ColOk p k := by
  rcases h with ⟨rfl, h⟩ | ⟨rfl, h⟩ | ⟨rfl, h⟩
  · rcases h with rfl | rfl | rfl <;> decide +kernel
  · rcases h with rfl | rfl | rfl | rfl <;> decide +kernel
  · rcases h with rfl | rfl | rfl | rfl <;> decide +kernel
theorem sane_of {bs : List Int} (h : (bs.foldl bump []).length ≤ 500 ∧ (∀ v ∈ bs.foldl bump [], 0 ≤ v ∧ v ≤ 1000) ∧ bs.length ≤ 1000) : Sane bs := by
  refine ⟨h.1, fun i => ?_, h.2.2⟩
  rw [List.getD_eq_getElem?_getD]
  cases e : (bs.foldl bump [])[i]? with
  | none => decide
  | some v => exact h.2.1 v (List.mem_of_getElem? e)
theorem sane_one {p : Int} (hp : p = 5 ∨ p = 7 ∨ p = 11) : Sane [p - 1] := by
  apply sane_of
  rcases hp with rfl | rfl | rfl <;> decide +kernel
theorem turns5 : ∀ f : Nat, f < 4 → ∀ i : Nat, i < 5 → ∀ j : Nat, j < 5 → (((f : Int) + 1) * i - ((f : Int) + 1) * j) % 5 = 0 → i = j := by decide +kernel
theorem turns7 : ∀ f : Nat, f < 6 → ∀ i : Nat, i < 7 → ∀ j : Nat, j < 7 → (((f : Int) + 1) * i - ((f : Int) + 1) * j) % 7 = 0 → i = j := by decide +kernel
theorem turns11 : ∀ f : Nat, f < 10 → ∀ i : Nat, i < 11 → ∀ j : Nat, j < 11 → (((f : Int) + 1) * i - ((f : Int) + 1) * j) % 11 = 0 → i = j := by decide +kernel
theorem perm_start {p f sh : Int} (hp : p = 5 ∨ p = 7 ∨ p = 11) (hf : 1 ≤ f ∧ f < p) : PermOf p ((rangeKs 0 p.toNat).map fun k => (f * k + sh).fmod p) := by
  have hl : ((rangeKs 0 p.toNat).map fun k => (f * k + sh).fmod p).length = p.toNat := by rw [List.length_map, rangeKs_length]
  have hg : ∀ i, i < p.toNat → ((rangeKs 0 p.toNat).map fun k => (f * k + sh).fmod p).getD i 0 = (f * i + sh) % p := by
    intro i hi
    have e : (rangeKs 0 p.toNat)[i]? = some (i : Int) := by
      rw [rangeKs, List.getElem?_map, List.getElem?_range hi]
      simp
    rw [List.getD_eq_getElem?_getD, List.getElem?_map, e]
    show (f * (i : Int) + sh).fmod p = _
    exact Int.fmod_eq_emod_of_nonneg _ (by omega)
  refine ⟨by omega, fun i hi => ?_, fun i j hi hj e => ?_⟩
  · rw [hg i (by omega)]
    exact ⟨Int.emod_nonneg _ (by omega), Int.emod_lt_of_pos _ (by omega)⟩
  · rw [hg i (by omega), hg j (by omega)] at e
    rw [hl] at hi hj
    clear hg hl
    have e0 := Int.emod_eq_emod_iff_emod_sub_eq_zero.mp e
    rw [show f * (i : Int) + sh - (f * (j : Int) + sh) = f * i - f * j from by omega, show f = ((f - 1).toNat : Int) + 1 from by omega] at e0
    rcases hp with rfl | rfl | rfl
    · exact turns5 _ (by omega) i (by omega) j (by omega) e0
    · exact turns7 _ (by omega) i (by omega) j (by omega) e0
    · exact turns11 _ (by omega) i (by omega) j (by omega) e0
/-- the roots of a gap and of the gap times the slope -/
theorem gaps_go {p : Int} {ns xs : List Int} (hp : p = 5 ∨ p = 7 ∨ p = 11) (P : PermOf p ns) (h : Inv p ns xs (p - 1).toNat 0) (hA : Aff p ns) : ∀ (g : Int) (r r' : Nat), 1 ≤ g → g < p →
    1 ≤ (g * slopeOf p ns).fmod p ∧ (g * slopeOf p ns).fmod p < p ∧ (Root xs (g - 1).toNat r → Root xs ((g * slopeOf p ns).fmod p - 1).toNat r' → r = r') := by
  intro g r r' h1 h2
  have e := gap_aff hp P hA h1 h2 (x := 0) (by omega) (by omega)
  have b := gapTo_bnd P ⟨h1, h2⟩ (x := 0) ⟨by omega, by omega⟩
  obtain ⟨q, q1, q2⟩ := h.done g 0 h1 h2 (by omega) (by omega) (.inl (by omega))
  rw [e] at b q2
  exact ⟨b.1, b.2, fun a1 a2 => by rw [← q1.uniq a1, ← q2.uniq a2]⟩
theorem word_bnd {p : Int} {ns : List Int} (hp : p = 5 ∨ p = 7 ∨ p = 11) (P : PermOf p ns) : ∀ (i : Nat) (v : Int), ns[i]? = some v → 0 ≤ v ∧ v < 11 := by
  intro i v hi
  obtain ⟨h, e⟩ := List.getElem?_eq_some_iff.mp hi
  have := P.bnd i h
  rw [getD_eq h, e] at this
  omega
end
section
section
variable {w : World} {mean : ExcName → Option Value} {mg mb : Str → Option Value} {s : Shared} {h₀ : Heap} {a : Addr} {cd : Value} {m : Str → Option Value} {Q : Flow → Shared → Prop}
  {L lc lv ls : Nat} {vs ys us : List Value} {cs ns xs : List Int} {n n2 n3 : Nat} {o1 o2 o3 o4 o5 : Obj} {rest : List Stmt} {p f sh : Int} {t1 t2 t3 t4 : Tok}
set_option maxRecDepth 100000 in
set_option maxHeartbeats 8000000 in
theorem law_walk (B : Below callerA h₀ [] h₀) (KX : (hd.heap_39 w.params).In h₀) (T : Top hd.view_39 (looseW hd.view_39 ["Whitespace"]) mean mg mb h₀) {l : Addr}
  (F : Fr h₀ L s.heap m) (hL : h₀.IsList l vs.toArray) (hI : IntsAre vs ns) (hs : m "script" = some (.ref l)) (hlen : ns.length ≤ 63)
  (N : News h₀ L s.heap [(L + 1 + 1 + 1 + 1 + 1, o5), (L + 1 + 1 + 1 + 1, o4), (L + 1 + 1 + 1, o3), (L + 1 + 1, o2), (L + 1, o1)]) (c1 : o1.data = .cell none) (c2 : o2.data = .cell none) (c3 : o3.data = .cell none) (c4 : o4.data = .cell none) (c5 : o5.data = .cell none)
  (hk : ∀ tk' h' m', Fr h₀ L h' m' → Q (.ret (.bool true)) { s with heap := h', toks := tk' }) :
  wpAny (model Challenge.rw_wj0023_01.row.prog w) (callerA.deeper (envOfC "law" lawScope L a cd)) (execs (lawBody.getD 0 (.Pass default) :: lawBody.getD 1 (.Pass default) :: lawBody.getD 2 (.Pass default) :: lawBody.getD 3 (.Pass default) :: lawBody.getD 4 (.Pass default) :: lawBody.getD 5 (.Pass default) :: lawBody.getD 6 (.Pass default) :: lawBody.getD 7 (.Pass default) :: lawBody.getD 8 (.Pass default) :: lawBody.getD 9 (.Pass default) :: lawBody.getD 10 (.Pass default) :: lawBody.getD 11 (.Pass default) :: lawBody.getD 12 (.Pass default) :: lawBody.getD 13 (.Pass default) :: lawBody.getD 14 (.Pass default) :: lawBody.getD 15 (.Pass default) :: lawBody.getD 16 (.Pass default) :: lawBody.getD 17 (.Pass default) :: lawBody.getD 18 (.Pass default) :: lawBody.getD 19 (.Pass default) :: lawBody.getD 20 (.Pass default) :: lawBody.getD 21 (.Pass default) :: lawBody.getD 22 (.Pass default) :: lawBody.getD 23 (.Pass default) :: lawBody.getD 24 (.Pass default) :: []) (envOfC "law" lawScope L a cd)) Q (fun _ _ => False) s := by
  refine st01 B KX T F hL hI hs hlen N ?_
  clear F N hL hI hs hlen
  intro lc vs cs n m1 h1 k1 hlc F hm N hI h6 hb
  refine st2 B KX T F hm N hlc c1 hI h6 hb ?_
  clear F N hm c1
  intro p t1 o1 m2 h2 k2 hp F hm N c1
  refine st345 B KX T F hm N hlc c1 c2 c3 c4 hI h6 hb hp ?_
  clear F N hm c2 c3 c4
  intro f sh lv ys n2 o2 o3 o4 m3 h3 k3 hf1 hf2 hs1 hs2 hne F hm N c2 c3 c4 hI3
  obtain ⟨w2, c2⟩ := c2
  obtain ⟨w3, c3⟩ := c3
  refine st6 B KX T F hm N hlc hne c1 c4 hI h6 hb hp hI3 (perm_start hp ⟨hf1, hf2⟩) ?_
  clear F N hm hI3 hI
  intro ys ns n2 m4 h4 k4 F N hI P
  refine st78 B KX T F N c4 hI P hp ?_
  clear F N
  intro t2 m5 h5 k5 F hm N
  refine st9 B KX T F N c4 hm hI P hp ?_
  clear F N hm
  intro t3 m6 h6 k6 F hm N
  refine st10 B KX T F N c4 hm hI P hp ?_
  clear F N hm
  intro m7 h7 k7 F hm N
  refine st11 B KX T F N c1 hm hp ?_
  clear F N hm
  intro ls us n3 m8 h8 k8 hls F hw hsy N hIu
  refine st12 B KX T F N c1 hw hsy hp P hls hIu ?_
  clear F N hw hsy hIu
  intro us xs m9 h9 k9 F hw hsy N hIu hInv
  refine st13 B KX T F N c1 hw hsy hp ?_
  clear F N hw hsy
  intro lz zs n4 m10 h10 k10 hlz F hw hsy hsz N hZ
  refine st14 B KX T F N c1 hw hsy hsz hp hIu hInv.uf hInv.len hZ hlz ?_
  clear F N hw hsy hsz hZ
  intro zs rs m11 h11 k11 F hw hsy hsz N hZ hrl hrr
  have hlp := P.len
  have hlx := hInv.len
  have hvs := word_bnd hp P
  refine st15 B KX T F N c1 c2 c3 c4 c5 hw hsy hsz hp hZ (by omega) hlz (by omega) hvs ?_
  clear F N hw hsy hsz hZ
  intro x nw m12 h12 k12 hws hno hlt F hw hsy htl N
  rw [runs_are hp P hInv hrl hrr] at hws
  have N2 := news_tail1 N
  refine st16 B KX T F N2 c1 c2 c3 c4 c5 hw hsy htl hp (by omega) hvs hws hno hlt ?_
  clear F N N2 hw hsy htl hws hno hlt
  intro x2 nw m13 h13 k13 hX hY hlt F hw hsy htl hwh N
  refine st17 B KX T F N c1 c4 c5 hsy htl hwh hp P hI hlt ⟨hne.2.1, hls.2.1⟩ ?_
  clear F N hw hsy htl hwh c5
  intro o5 t5 m14 h14 k14 c5 F hsy htl hwh N
  refine st18 B KX T F N c1 c4 c5 hsy htl hwh hp P hI rfl hIu hInv.uf hInv.len (gaps_go hp P hInv) ?_
  clear F N hsy htl hwh
  intro m15 h15 k15 t6 F htl hwh hpw N
  have hpb := powers_bnd hp P
  have hco := col_ok (pow_cases hp P)
  refine st20 B KX T F (news_drop6 N) c1 htl hwh hpw hp (by omega) ?_
  clear F N htl hwh
  intro ld nd dv nw' m16 h16 k16 hsub hD F htl hwh hdu N
  have hdl := hD.length
  have hdl2 := dues_len p (powersOf p ns) p.toNat
  rw [List.length_map] at hdl
  exact st23 B KX T F N htl hwh hdu (hX.mono hsub) (hY.mono hsub) (sane_of hco.1) (sane_one hp) hD (by omega) hco.2.1 hco.2.2 fun tk' h' m' F' => hk tk' h' m' F'
end
end
theorem fresh_M3 : True := by w_top off; exact trivial
end Mine
set_option maxRecDepth 100000 in
set_option maxHeartbeats 8000000 in
theorem PySem.Challenge.cw_wj0023_01_holds : PySem.Challenge.rw_wj0023_01.Holds := by
  refine Mine.hd (by
    k_go0
    k_fold
    rename News _ _ _ _ => N0
    rename Fr _ _ _ _ => F0
    rename IntsAre _ _ => hI0
    rename Heap.IsList _ _ _ => hL0
    rename ¬ (_ < _) => hc0
    with_unfolding_all refine' wpAny_mono (Mine.law_walk ?qB ?qK ?qT ?qF ?qL ?qI ?qs ?ql ?qN ?c1 ?c2 ?c3 ?c4 ?c5 ?_) (fun _ _ h => h) (fun _ _ h => h.elim)
    case qK => assumption
    case qB => assumption
    case qT => assumption
    case qF => exact F0
    case qL => exact hL0
    case qI => exact hI0
    case qs => exact rfl
    case ql => omega
    case qN => exact N0
    case c1 => assumption
    case c2 => assumption
    case c3 => assumption
    case c4 => assumption
    case c5 => assumption
    intro tk' h' m' F'
    clear F0 N0
    k_steps)
