import PyProof.Rows.All
import Wide.All
import OpenK.AllK
import Wide.FinOn
import Lean
import PySem.Challenge.RW_dn0167_03
open PySem PySem.W PyProof.Rows PySem.Calls
set_option Elab.async false
set_option maxRecDepth 100000
set_option linter.unusedVariables false

namespace Mine

/-- a def called, all that stood kept: the callee's ground is the heap at the call -/
theorem code_defP {prog : Program} {w : World} {A A₀ : Around} {s : Shared} {K : Frag} {L : Addr} {h₀ base : Heap} {m mg mb : Str → Option Value} {p : Program} {loose : List Str} {mean : ExcName → Option Value}
    {name qual : Str} {params : Arguments} {body : List Stmt} {scope : Scope} {an : Str} {as : Scope} {aa : Addr} {acd : Value} {outer : List Env} {R : Result → Shared → Prop} {dV kV doc pm cdv ct oc : Value} {ann od : Option Addr} {osl : Array (Option Value)} {f : Addr} {args : Args} {binds : List (Str × Value)}
    (B : Below A₀ base outer h₀) (F : Fr h₀ L s.heap m) (X₀ : K.In h₀) (T : Top p loose mean mg mb h₀) (hA : A = A₀.deeper (envOf an as L aa acd)) (hke : as.kind = .function)
    (ho : K.lookup f = some ⟨oc, od, .func (fnOf name qual params body scope dV kV doc pm ann cdv ct), osl⟩) (hcd : codeIn K cdv qual = true) (hroom : A.depth < recursionLimit)
    (hbind : BindsTo s (fnOf name qual params body scope dV kV doc pm ann cdv ct) args binds) (hloc : ∀ y ∈ binds, scope.names.lookup y.1 = some .local)
    (h : ∀ L' h₁, Fr s.heap L' h₁ (fun y => binds.reverse.lookup y) → News s.heap L' h₁ [] → Below A base (envOf an as L aa acd :: outer) s.heap → K.In s.heap → Top p loose mean mg mb s.heap →
      wpAny (model prog w) (A.deeper (envOf qual scope L' f cdv)) (execs body (envOf qual scope L' f cdv))
        (fun fl s' => R (.ok (.ret (match fl with | .ret v => v | _ => .none))) s')
        (fun e s' => wpAny (model prog w) (A.deeper (envOf qual scope L' f cdv)) (leaving (envOf qual scope L' f cdv) e) (fun _ s'' => R (.error e) s'') (fun e' s'' => R (.error e') s'') s')
        { s with heap := h₁, toks := s.toks + binds.length })
    (hco : scope.isCoroutine = false) (hgen : scope.isGenerator = false) (hk : scope.kind = .function)
    (hcell : ∀ x ∈ scope.names, x.2 ≠ .cell) : codeAny (model prog w) A (.call (.ref f) args) R s := by
  have X := X₀.keeps F.keep
  have TT := T.keeps F.keep
  refine codeAny_call_def (fd := fnOf name qual params body scope dV kV doc pm ann cdv ct) (body := body) (binds := binds) hroom (X _ _ ho) rfl TT.nolimit (codeRec_of X hcd) rfl hbind hcell hloc (fun h₁ hns hk₁ => ?_) hco hgen hk
  refine h s.heap.objs.size h₁ ⟨hns, hk₁, Nat.le_refl _⟩ News.nil ?_ X TT
  subst hA
  exact B.push F hke

section
variable {prog : Program} {w : World} {A : Around} {E : Value → Shared → Prop} {s : Shared} {env : Env} {h₀ : Heap} {x : Str} {body : List Stmt} {Q : Flow → Shared → Prop}

/-- a turn's end: what the loop holds between turns, the loop's own things as they were -/
def GEnd (h₀ : Heap) (L : Addr) (J : (Str → Option Value) → List (Addr × Obj) → Prop) (own : List (Addr × Obj)) (s₁ s₂ : Shared) : Prop :=
  ∃ h' tk m' nx, s₂ = { s₁ with heap := h', toks := tk } ∧ Fr h₀ L h' m' ∧ News h₀ L h' (nx ++ own) ∧ OwnOff own (nx.map (·.1)) ∧ J m' nx
def GPost (h₀ : Heap) (L : Addr) (J : (Str → Option Value) → List (Addr × Obj) → Prop) (own : List (Addr × Obj)) (s₁ : Shared) (Q : Flow → Shared → Prop) (f : Flow) (s₂ : Shared) : Prop :=
  match f with
  | .ret v => Q (.ret v) s₂
  | .brk => Q .next s₂
  | _ => GEnd h₀ L J own s₁ s₂

theorem loop_G {I : Addr} {fp wr : List Addr} {n : Nat} {P : Nat → Value → Prop} {St : Nat → Heap → Prop} {m₀ : Str → Option Value} {news : List (Addr × Obj)} (J : Nat → (Str → Option Value) → List (Addr × Obj) → Prop)
    (W : Walks prog w A I fp wr n P St) (hfw : ∀ b ∈ fp, b ∈ wr ∨ ∃ o, h₀.get? b = some o) (hin : ∀ h i, St i h → ∀ b ∈ wr, ∃ o, h.get? b = some o) (hLf : env.locals ∉ fp) (hwr : ∀ b ∈ wr, h₀.get? b = none) (hnw : ∀ p ∈ news, p.1 ∉ wr) (hst : St 0 s.heap) (F : Fr h₀ env.locals s.heap m₀) (N : News h₀ env.locals s.heap news) (hj : J 0 m₀ news)
    (turn : ∀ i v m₁ nx h tk own, i < n → P i v → OwnOff own (nx.map (·.1)) → J i m₁ nx → Fr h₀ env.locals h (fun y => if y = x then some v else m₁ y) → News h₀ env.locals h (nx ++ own) →
      wpAny (model prog w) A (execs body env) (GPost h₀ env.locals (J (i + 1)) own { s with heap := h, toks := tk } Q) E { s with heap := h, toks := tk })
    (done : ∀ m₁ nx h tk, J n m₁ nx → Fr h₀ env.locals h m₁ → News h₀ env.locals h nx → Q .next { s with heap := h, toks := tk }) :
    LoopAtV prog w A h₀ env x body Q E (.ref I) s := by
  refine ⟨I, fp, wr, n, P, St, m₀, news, J, rfl, W, hLf, hwr, hnw, hst, F, N, hj, ?_, ?_⟩
  · rintro i v m₁ news₁ s₁ own ⟨hh', tk', rfl⟩ hi hP hJ hoff hown hown2 hown3 hSt F₁ N₁
    have hsep : OwnOff own (news₁.map (·.1)) := by
      intro p hp b hb e
      obtain ⟨q, hq, rfl⟩ := List.mem_map.mp hb
      rcases hfw _ (hown p hp) with h1 | ⟨o, h1⟩
      · exact hoff q hq (e ▸ h1)
      · have h3 := (N₁ q (List.mem_append_right _ hq)).2.2
        rw [← e, h1] at h3; cases h3
    have N₂ : News h₀ env.locals hh' (news₁ ++ own) := fun p hp => N₁ p ((List.mem_append.mp hp).elim (fun h => List.mem_append.mpr (.inr h)) fun h => List.mem_append.mpr (.inl h))
    refine wpAny_mono (turn i v m₁ news₁ hh' tk' own hi hP hsep hJ F₁ N₂) (fun f s₂ p => ?_) fun _ _ e => e
    have fin : GEnd h₀ env.locals (J (i + 1)) own { s with heap := hh', toks := tk' } s₂ → LoopStepU h₀ env.locals wr own (J (i + 1)) { s with heap := hh', toks := tk' } .next s₂ := by
      rintro ⟨h', tk, m', nx, e, F', N', ho, hm⟩
      refine ⟨rfl, h', tk, m', nx, e, F', fun p hp => N' p ((List.mem_append.mp hp).elim (fun h => List.mem_append.mpr (.inr h)) fun h => List.mem_append.mpr (.inl h)), fun p hp hq => ?_, hm⟩
      obtain ⟨o, hoo⟩ := hin _ _ hSt _ hq
      exact ho _ (hown3 _ (W.sub _ hq) (hwr _ hq) o hoo) p.1 (List.mem_map.mpr ⟨p, hp, rfl⟩) rfl
    cases f with
    | ret v => exact .ret p
    | brk => exact .brk p
    | next => exact .next (fin p)
    | cont => exact .cont (fin p)
  · rintro h' tk m' news' F' N' _ hJ
    exact done m' news' h' tk hJ F' N'

theorem iter_rangeG {r : Addr} {a₀ b₀ : Int} {t₀ u₀ v₀ : Tok} {n : Nat} {m₀ : Str → Option Value} {news : List (Addr × Obj)} (J : Nat → (Str → Option Value) → List (Addr × Obj) → Prop)
    (hh : A.handled = none) (hr : IsRange s.heap r a₀ b₀ 1 t₀ u₀ v₀) (hsmall : Builtin.Range.small a₀ b₀ 1 = true) (hn : Builtin.Range.rangeSize a₀ b₀ 1 = (n : Int)) (F : Fr h₀ env.locals s.heap m₀) (N : News h₀ env.locals s.heap news) (hj : J 0 m₀ news)
    (turn : ∀ i t m₁ nx h tk own, i < n → OwnOff own (nx.map (·.1)) → J i m₁ nx → Fr h₀ env.locals h (fun y => if y = x then some (.int (a₀ + (i : Int)) t) else m₁ y) → News h₀ env.locals h (nx ++ own) →
      wpAny (model prog w) A (execs body env) (GPost h₀ env.locals (J (i + 1)) own { s with heap := h, toks := tk } Q) E { s with heap := h, toks := tk })
    (done : ∀ m₁ nx h tk, J n m₁ nx → Fr h₀ env.locals h m₁ → News h₀ env.locals h nx → Q .next { s with heap := h, toks := tk }) :
    wpAny (model prog w) A (pyIter (.ref r)) (fun it s₂ => LoopAtV prog w A h₀ env x body Q E it s₂) E s := by
  refine wpAny_pyIter_range hr hsmall ?_
  have W : Walks prog w A s.heap.objs.size [s.heap.objs.size] [s.heap.objs.size] n (fun i v => i < n ∧ ∃ t, v = .int (a₀ + i * 1) t)
      (fun i h => IsRangeIter h s.heap.objs.size (a₀ + (i : Nat) * 1) ((n : Int) - (i : Nat)) 1) := (Walks.range hh _ a₀ 1 n).bound
  refine loop_G J W (fun b hb => .inl hb) ?_ ?_ ?_ ?_ (by show IsRangeIter _ _ _ _ _; rw [hn]; simpa using Heap.get?_push_size _ rfl) (F.push _) (fun p hp => ⟨Heap.get?_push_of_some _ (N p hp).1, (N p hp).2⟩) hj ?_ ?_
  · intro h i hst b hb
    rw [List.mem_singleton.mp hb]
    exact ⟨_, hst⟩
  · intro hm
    exact absurd F.ns.lt ((List.mem_singleton.mp hm) ▸ Nat.lt_irrefl _)
  · intro b hb
    rw [List.mem_singleton.mp hb]
    exact next_is_new F
  · intro p hp hI
    exact absurd (Heap.lt_size (N p hp).1) ((List.mem_singleton.mp hI) ▸ Nat.lt_irrefl _)
  · rintro i v m₁ nx h tk own hi ⟨_, t, rfl⟩ ho hJ F' N'
    rw [Int.mul_one] at F'
    exact turn i t m₁ nx h tk own hi ho hJ F' N'
  · exact done

/-- as iter_rangeG, where a turn changes of the frame's names those of vars alone, and what is held is told of the made things -/
theorem iter_rangeV {r : Addr} {a₀ b₀ : Int} {t₀ u₀ v₀ : Tok} {n : Nat} {m₀ : Str → Option Value} {news : List (Addr × Obj)} (vars : List Str) (J : Nat → List (Addr × Obj) → Prop)
    (hh : A.handled = none) (hr : IsRange s.heap r a₀ b₀ 1 t₀ u₀ v₀) (hsmall : Builtin.Range.small a₀ b₀ 1 = true) (hn : Builtin.Range.rangeSize a₀ b₀ 1 = (n : Int)) (F : Fr h₀ env.locals s.heap m₀) (N : News h₀ env.locals s.heap news) (hj : J 0 news)
    (turn : ∀ i t (u : Str → Option Value) nx h tk own, i < n → OwnOff own (nx.map (·.1)) → J i nx → Fr h₀ env.locals h (fun y => if y = x then some (.int (a₀ + (i : Int)) t) else if vars.contains y then u y else m₀ y) → News h₀ env.locals h (nx ++ own) →
      wpAny (model prog w) A (execs body env) (GPost h₀ env.locals (fun m' nx' => J (i + 1) nx' ∧ ∀ z, z ≠ x → vars.contains z = false → m' z = m₀ z) own { s with heap := h, toks := tk } Q) E { s with heap := h, toks := tk })
    (done : ∀ (u : Str → Option Value) nx h tk, J n nx → Fr h₀ env.locals h (fun y => if y = x then u y else if vars.contains y then u y else m₀ y) → News h₀ env.locals h nx → Q .next { s with heap := h, toks := tk }) :
    wpAny (model prog w) A (pyIter (.ref r)) (fun it s₂ => LoopAtV prog w A h₀ env x body Q E it s₂) E s := by
  refine iter_rangeG (fun i m nx => J i nx ∧ ∀ z, z ≠ x → vars.contains z = false → m z = m₀ z) hh hr hsmall hn F N ⟨hj, fun _ _ _ => rfl⟩ ?_ ?_
  · rintro i t m₁ nx h tk own hi ho ⟨hJ, hm⟩ F' N'
    have e : (fun y => if y = x then some (Value.int (a₀ + (i : Int)) t) else m₁ y) = fun y => if y = x then some (Value.int (a₀ + (i : Int)) t) else if vars.contains y then m₁ y else m₀ y := by
      funext y
      by_cases h1 : y = x
      · simp [h1]
      · simp only [if_neg h1]
        cases h2 : vars.contains y with
        | true => rw [if_pos rfl]
        | false => rw [if_neg (by simp)]; exact hm y h1 h2
    rw [e] at F'
    exact turn i t m₁ nx h tk own hi ho hJ F' N'
  · rintro m₁ nx h tk ⟨hJ, hm⟩ F' N'
    refine done m₁ nx h tk hJ ?_ N'
    have e : (fun y => if y = x then m₁ y else if vars.contains y then m₁ y else m₀ y) = m₁ := by
      funext y
      by_cases h1 : y = x
      · simp [h1]
      · simp only [if_neg h1]
        cases h2 : vars.contains y with
        | true => rw [if_pos rfl]
        | false => rw [if_neg (by simp)]; exact (hm y h1 h2).symm
    rw [e]; exact F'
end

/-- an item of a list at a place in it -/
theorem item_at {prog : Program} {w : World} {A : Around} {E : Value → Shared → Prop} {s : Shared} {value slice : PySem.Expr} {l : Addr} {vs : Array Value} {k : Int} {u : Tok} {v : Value} {Q : Value → Shared → Prop}
    (hl : s.heap.IsList l vs) (h0 : 0 ≤ k) (hhi : k < 2 ^ 63) (hx : vs[k.toNat]? = some v) (h : Q v s)
    (hs : subscripted slice false (.ref l) (.int k u) = operate [.ref l, .int k u] (getItem (.ref l) (.int k u))) :
    wpAny (model prog w) A (subscriptTail value slice (.ref l) (.int k u)) Q E s :=
  tail_any hl.typeIs slot_list_getitem.lookup (wpAny_getItem_list hl h0 hhi hx h) hs
/-- a list's length -/
theorem len_at {prog : Program} {w : World} {A : Around} {E : Value → Shared → Prop} {s : Shared} {l : Addr} {vs : Array Value} {n : Nat} {Q : Value → Shared → Prop}
    (hl : s.heap.IsList l vs) (hn : vs.size = n) (hfit : n < 2 ^ 62) (h : Q (.int (n : Int) (s.toks + 1)) { s with toks := s.toks + 1 + 1 }) :
    wpAny (model prog w) A (call (.builtin "len") [.ref l]) Q E s := by
  subst hn
  exact len_list hl (by omega) h

/-- the frame's names in a turn: the loop's own, one that is known, those that a turn changes, the rest -/
theorem map_known {x y0 : Str} {v0 w0 : Value} {m₁ m₀ : Str → Option Value} {vars : List Str} (h1 : m₁ y0 = some v0) (h2 : ∀ z, z ≠ x → z ≠ y0 → vars.contains z = false → m₁ z = m₀ z) :
    (fun y => if y = x then some w0 else m₁ y) = fun y => if y = x then some w0 else if y = y0 then some v0 else if vars.contains y then m₁ y else m₀ y := by
  funext y
  by_cases e1 : y = x
  · simp [e1]
  · simp only [if_neg e1]
    by_cases e2 : y = y0
    · subst e2; simp [h1]
    · simp only [if_neg e2]
      cases e3 : vars.contains y with
      | true => rw [if_pos rfl]
      | false => rw [if_neg (by simp)]; exact h2 y e1 e2 e3
theorem map_known' {x y0 : Str} {v0 : Value} {m₁ m₀ : Str → Option Value} {vars : List Str} (h1 : m₁ y0 = some v0) (h2 : ∀ z, z ≠ x → z ≠ y0 → vars.contains z = false → m₁ z = m₀ z) :
    m₁ = fun y => if y = y0 then some v0 else if y = x then m₁ y else if vars.contains y then m₁ y else m₀ y := by
  funext y
  by_cases e2 : y = y0
  · subst e2; simp [h1]
  · simp only [if_neg e2]
    by_cases e1 : y = x
    · simp [e1]
    · simp only [if_neg e1]
      cases e3 : vars.contains y with
      | true => rw [if_pos rfl]
      | false => rw [if_neg (by simp)]; exact h2 y e1 e2 e3

theorem iadd_raw {prog : Program} {w : World} {A : Around} {E : Value → Shared → Prop} {s : Shared} {l b : Addr} {xs ys : Array Value} {n n2 : Nat} {Q : Value → Shared → Prop}
    (hl : s.heap.get? l = some (W.listOf xs n)) (hb : s.heap.get? b = some (W.listOf ys n2)) (hsz : xs.size + ys.size < 100000)
    (h : Q (.ref l) { s with heap := s.heap.update l (Obj.mapSeq fun x => x ++ ys) }) : wpAny (model prog w) A (inplaceOp .Add (.ref l) (.ref b)) Q E s := by
  have ha : s.TypeIs (.ref l) "list" := ⟨_, hl, rfl⟩
  have hb' : s.TypeIs (.ref b) "list" := ⟨_, hb, rfl⟩
  have hlk := F.slot_list_iadd.lookup
  have hsq : isSeqSlot (some (.builtin "list.__iadd__")) = true := by decide +kernel
  unfold inplaceOp
  refine wpAny_holding ?_
  have hfi : fillsInplaceSlot (.type "list") "add" (Operator.Add == .Add) = pure false := by
    unfold fillsInplaceSlot
    show (typeLookup (.type "list") (dunderI "add") >>= fun fi => pure (fi.isSome && !isSeqSlot fi)) = pure false
    rw [hlk, pure_bind, hsq]; rfl
  have hsi : seqSlot? (.type "list") (dunderI "add") = pure (some (.builtin "list.__iadd__")) := PySem.seqSlot_of hlk hsq
  refine wpAny_bind (wpAny_typeOf ha (wpAny_bind (wpAny_of_eq hfi ?_)))
  show wpAny _ A (if false = true then _ else _) Q E s
  rw [if_neg Bool.false_ne_true]
  refine wpAny_bind (wpAny_binaryOp1_none (nm := "add") ha hb' noFill_list_add ?_)
  refine wpAny_bind (wpAny_of_eq hsi ?_)
  refine wpAny_bind (wpAny_rule ?_)
  refine call_meets F.slot_list_iadd ha F.entry_list_iadd (F.args_list_iadd_2 _ _) (AutoSeq1.list___iadd___list_list_0 l xs n b ys n2 ?_ ?_ ?_) ⟨hl, hb, h⟩
  · have : Builtin.List.listTooLong (xs.size + ys.size) = false := by
      unfold Builtin.List.listTooLong
      rw [sizeLine_eq]
      exact decide_eq_false (by omega)
    rw [this]; simp
  · rw [sizeLine_eq]; omega
  · rw [sizeLine_eq]; omega

theorem iadd_N {prog : Program} {w : World} {A : Around} {E : Value → Shared → Prop} {s : Shared} {h₀ : Heap} {L l b : Addr} {m : Str → Option Value} {rest : List (Addr × Obj)} {xs ys : Array Value} {n n2 : Nat} {Q : Value → Shared → Prop}
    (F : Fr h₀ L s.heap m) (N : News h₀ L s.heap ((l, W.listOf xs n) :: rest)) (hoff : ∀ p ∈ rest, p.1 ≠ l) (hb : s.heap.get? b = some (W.listOf ys n2)) (hsz : xs.size + ys.size < 100000)
    (h : ∀ h' n', Fr h₀ L h' m → News h₀ L h' ((l, W.listOf (xs ++ ys) n') :: rest) → Q (.ref l) { s with heap := h' }) : wpAny (model prog w) A (inplaceOp .Add (.ref l) (.ref b)) Q E s := by
  refine iadd_raw (N _ (.head _)).1 hb hsz ?_
  have := news_upd (pre := []) (post := rest) (f := Obj.mapSeq fun x => x ++ ys) (o' := W.listOf (xs ++ ys) (if (xs ++ ys).size == xs.size then n else n + 1)) F N (fun _ hp => nomatch hp) hoff rfl rfl
  exact h _ _ this.1 this.2

/-- behind a call that keeps all: the frame and the ledger stand -/
theorem back_fr {h₀ h h' : Heap} {L : Addr} {m : Str → Option Value} (F : Fr h₀ L h m) (hs : h.StaysIn h') : Fr h₀ L h' m := F.kept hs
theorem back_news {h₀ h h' : Heap} {L : Addr} {news : List (Addr × Obj)} (N : News h₀ L h news) (hs : h.StaysIn h') : News h₀ L h' news :=
  fun p hp => ⟨hs _ _ (N p hp).1, (N p hp).2⟩
theorem back_new {h₀ h h' : Heap} {L r : Addr} {o : Obj} {m : Str → Option Value} {news : List (Addr × Obj)} (F : Fr h₀ L h m) (N : News h₀ L h news) (hs : h.StaysIn h') (hr : h'.get? r = some o) (hf : h.get? r = none) :
    News h₀ L h' ((r, o) :: news) := by
  intro p hp
  rcases List.mem_cons.mp hp with rfl | hp
  · refine ⟨hr, ?_, ?_⟩
    · rintro rfl
      obtain ⟨oL, _, _, hL, _⟩ := F.ns
      rw [hL] at hf; cases hf
    · cases hq : h₀.get? r with
      | none => rfl
      | some o' => rw [F.keep _ _ hq] at hf; cases hf
  · exact back_news N hs p hp

section
variable {prog : Program} {w : World} {A : Around} {E : Value → Shared → Prop} {s : Shared} {h₀ : Heap} {L : Addr} {m : Str → Option Value} {news : List (Addr × Obj)}
/-- the items ahead of a place -/
theorem slice_upto {value slice : PySem.Expr} {l : Addr} {vs : List Value} {ku : Int} {t : Tok} {Q : Value → Shared → Prop} (k : Nat) (F : Fr h₀ L s.heap m) (N : News h₀ L s.heap news) (hl : s.heap.IsList l vs.toArray) (hk : ku = (k : Int)) (hsz : vs.length ≤ 100000)
    (h : ∀ h' D, Fr h₀ L h' m → News h₀ L h' ((D, W.listOf (vs.take k).toArray 0) :: news) → Q (.ref D) { s with heap := h' })
    (hs : subscripted slice false (.ref l) (.ref s.heap.objs.size) = operate [.ref s.heap.objs.size, .ref l] (getItem (.ref l) (.ref s.heap.objs.size)))
    (ht : ∀ r, letTemporaryGo value (.ref l) r = pure ()) :
    wpAny (model prog w) A (subscriptTail value slice (.ref l) (.ref s.heap.objs.size)) Q E { s with heap := s.heap.push { cls := .type "slice", data := .fields #[.none, .int ku t, .none] } } := by
  subst hk
  refine slice_list F N hl .none (.int _ _) (fun h' F' N' => h _ _ F' ?_) hs ht (by rw [sizeLine_eq]; simp; omega)
  rw [slicePick_upto' vs.toArray k] at N'
  simpa using N'
/-- the items from a place on -/
theorem slice_from {value slice : PySem.Expr} {l : Addr} {vs : List Value} {ku : Int} {t : Tok} {Q : Value → Shared → Prop} (k : Nat) (F : Fr h₀ L s.heap m) (N : News h₀ L s.heap news) (hl : s.heap.IsList l vs.toArray) (hk : ku = (k : Int)) (hsz : vs.length ≤ 100000)
    (h : ∀ h' D, Fr h₀ L h' m → News h₀ L h' ((D, W.listOf (vs.drop k).toArray 0) :: news) → Q (.ref D) { s with heap := h' })
    (hs : subscripted slice false (.ref l) (.ref s.heap.objs.size) = operate [.ref s.heap.objs.size, .ref l] (getItem (.ref l) (.ref s.heap.objs.size)))
    (ht : ∀ r, letTemporaryGo value (.ref l) r = pure ()) :
    wpAny (model prog w) A (subscriptTail value slice (.ref l) (.ref s.heap.objs.size)) Q E { s with heap := s.heap.push { cls := .type "slice", data := .fields #[.int ku t, .none, .none] } } := by
  subst hk
  refine slice_list F N hl (.int _ _) .none (fun h' F' N' => h _ _ F' ?_) hs ht (by rw [sizeLine_eq]; simp; omega)
  rw [slicePick_from' vs.toArray k] at N'
  simpa using N'
/-- the items but the first and the last -/
theorem slice_mid {value slice : PySem.Expr} {l : Addr} {vs : List Value} {t u : Tok} {Q : Value → Shared → Prop} (F : Fr h₀ L s.heap m) (N : News h₀ L s.heap news) (hl : s.heap.IsList l vs.toArray) (h2 : 2 ≤ vs.length) (hsz : vs.length ≤ 100000)
    (h : ∀ h' D, Fr h₀ L h' m → News h₀ L h' ((D, W.listOf ((vs.drop 1).take (vs.length - 2)).toArray 0) :: news) → Q (.ref D) { s with heap := h' })
    (hs : subscripted slice false (.ref l) (.ref s.heap.objs.size) = operate [.ref s.heap.objs.size, .ref l] (getItem (.ref l) (.ref s.heap.objs.size)))
    (ht : ∀ r, letTemporaryGo value (.ref l) r = pure ()) :
    wpAny (model prog w) A (subscriptTail value slice (.ref l) (.ref s.heap.objs.size)) Q E { s with heap := s.heap.push { cls := .type "slice", data := .fields #[.int 1 t, .int (-1) u, .none] } } := by
  refine slice_list F N hl (.int _ _) (.int _ _) (fun h' F' N' => h _ _ F' ?_) hs ht (by rw [sizeLine_eq]; simp; omega)
  have e1 : clipAt vs.toArray.size 1 = 1 := by
    have := clipAt_nat vs.toArray.size 1
    rw [show ((1 : Nat) : Int) = 1 from rfl] at this
    rw [this]; simp; omega
  have e2 : clipAt vs.toArray.size (-1) = vs.length - 1 := by
    have := clipAt_neg vs.toArray.size 1 (by decide)
    rw [show (-((1 : Nat) : Int)) = -1 from rfl] at this
    rw [this]; simp
  rw [slicePick_plain] at N'
  simp only [Option.elim, e1, e2] at N'
  rw [show vs.length - 1 - 1 = vs.length - 2 by omega] at N'
  simpa using N'
/-- two lists joined -/
theorem add_N {l b : Addr} {xs ys : List Value} {n n2 : Nat} {Q : Value → Shared → Prop} (F : Fr h₀ L s.heap m) (N : News h₀ L s.heap news) (hl : s.heap.get? l = some (W.listOf xs.toArray n)) (hb : s.heap.get? b = some (W.listOf ys.toArray n2)) (hsz : xs.length + ys.length ≤ 100000)
    (h : ∀ h' D, Fr h₀ L h' m → News h₀ L h' ((D, W.listOf (xs ++ ys).toArray 0) :: news) → Q (.ref D) { s with heap := h' }) : wpAny (model prog w) A (binaryOp .Add (.ref l) (.ref b)) Q E s := by
  refine P.add_list hl hb ?_ (by rw [sizeLine_eq]; simp; omega)
  have N1 := N.push F { cls := .type "list", data := .seq (xs.toArray ++ ys.toArray) }
  have e : xs.toArray ++ ys.toArray = (xs ++ ys).toArray := by simp
  rw [e] at N1 ⊢
  exact h _ _ (F.push _) N1
end
end Mine


namespace Mine

/-- the float of a whole number over another -/
def fq (a n : Int) : UInt64 := Float64.ofFrac (decide (a < 0) != decide (n < 0)) a.natAbs n.natAbs
/-- the made list holds these floats -/
def Cuts (f : Nat → UInt64) (k : Nat) (vals : Array Value) : Prop := vals.size = k ∧ ∀ j, j < k → ∃ t, t ≠ 0 ∧ vals[j]? = some (.float (f j) t)
theorem Cuts.zero (f : Nat → UInt64) : Cuts f 0 #[] := ⟨rfl, fun _ h => absurd h (Nat.not_lt_zero _)⟩
theorem Cuts.push {f : Nat → UInt64} {k : Nat} {vals : Array Value} {t : Tok} {x : UInt64} (h : Cuts f k vals) (ht : t ≠ 0) (hx : x = f k) : Cuts f (k + 1) (vals.push (.float x t)) := by
  subst hx
  refine ⟨by rw [Array.size_push, h.1], fun j hj => ?_⟩
  by_cases e : j = k
  · subst e
    refine ⟨t, ht, ?_⟩
    have e2 := h.1
    subst e2
    exact Array.getElem?_push_size
  · obtain ⟨t', ht', hx'⟩ := h.2 j (by omega)
    refine ⟨t', ht', ?_⟩
    rw [Array.getElem?_push_lt (by rw [h.1]; omega)] 
    rw [← hx']
    exact (Array.getElem?_eq_getElem (by rw [h.1]; omega)).symm

/-- the numerator of the i-th cut, inclusive -/
def numI (ds : List Int) (n i : Int) : Int :=
  ds.getD ((i * ((ds.length : Int) - 1)).fdiv n).toNat 0 * (n - (i * ((ds.length : Int) - 1)).fmod n) + ds.getD ((i * ((ds.length : Int) - 1)).fdiv n + 1).toNat 0 * (i * ((ds.length : Int) - 1)).fmod n

theorem num_fits {a b c d : Int} (ha : a.natAbs < 2 ^ 1000) (hc : c.natAbs < 2 ^ 1000) (hb : b.natAbs ≤ 2 ^ 20) (hd : d.natAbs ≤ 2 ^ 20) : (a * b + c * d).natAbs < 2 ^ 1023 := by
  have h1 : (a * b).natAbs < 2 ^ 1021 := by
    rw [Int.natAbs_mul]
    calc a.natAbs * b.natAbs ≤ a.natAbs * 2 ^ 20 := Nat.mul_le_mul_left _ hb
      _ < 2 ^ 1000 * 2 ^ 20 := Nat.mul_lt_mul_of_pos_right ha (Nat.two_pow_pos _)
      _ = 2 ^ 1020 := by rw [← Nat.pow_add]
      _ < 2 ^ 1021 := Nat.pow_lt_pow_right (by decide) (by decide)
  have h2 : (c * d).natAbs < 2 ^ 1021 := by
    rw [Int.natAbs_mul]
    calc c.natAbs * d.natAbs ≤ c.natAbs * 2 ^ 20 := Nat.mul_le_mul_left _ hd
      _ < 2 ^ 1000 * 2 ^ 20 := Nat.mul_lt_mul_of_pos_right hc (Nat.two_pow_pos _)
      _ = 2 ^ 1020 := by rw [← Nat.pow_add]
      _ < 2 ^ 1021 := Nat.pow_lt_pow_right (by decide) (by decide)
  have h3 := Int.natAbs_add_le (a * b) (c * d)
  have h4 : (2 : Nat) ^ 1021 + 2 ^ 1021 = 2 ^ 1022 := by rw [← Nat.two_mul, ← Nat.pow_succ']
  have h5 : (2 : Nat) ^ 1022 < 2 ^ 1023 := Nat.pow_lt_pow_right (by decide) (by decide)
  generalize (2 : Nat) ^ 1021 = p at h1 h2 h4
  generalize (2 : Nat) ^ 1022 = q at h4 h5
  generalize (2 : Nat) ^ 1023 = r at h5 ⊢
  omega

theorem getD_bound {ds : List Int} {P : Int → Prop} (h0 : P 0) (h : ∀ x ∈ ds, P x) (j : Nat) : P (ds.getD j 0) := by
  rw [List.getD_eq_getElem?_getD]
  cases hx : ds[j]? with
  | none => exact h0
  | some v => exact h v (List.mem_of_getElem? hx)

theorem divs_incl {I M n : Int} (hI : 0 ≤ I) (hIn : I < n) (hM : 1 ≤ M) : 0 ≤ (I * M).fdiv n ∧ (I * M).fdiv n < M ∧ 0 ≤ (I * M).fmod n ∧ (I * M).fmod n < n := by
  have hn : 0 < n := by omega
  rw [Int.fdiv_eq_ediv_of_nonneg _ (by omega), Int.fmod_eq_emod_of_nonneg _ (by omega)]
  refine ⟨Int.ediv_nonneg (Int.mul_nonneg hI (by omega)) (by omega), ?_, Int.emod_nonneg _ (by omega), Int.emod_lt_of_pos _ hn⟩
  rw [Int.ediv_lt_iff_lt_mul hn]
  rw [Int.mul_comm M n]
  exact Int.mul_lt_mul_of_pos_right hIn (by omega)

/-- the place of the i-th cut, exclusive -/
def jE (ld n i : Int) : Int := if (i * (ld + 1)).fdiv n < 1 then 1 else if (i * (ld + 1)).fdiv n > ld - 1 then ld - 1 else (i * (ld + 1)).fdiv n
/-- the numerator of the i-th cut, exclusive -/
def numE (ds : List Int) (n i : Int) : Int :=
  ds.getD (jE (ds.length : Int) n i - 1).toNat 0 * (n - (i * ((ds.length : Int) + 1) - jE (ds.length : Int) n i * n)) + ds.getD (jE (ds.length : Int) n i).toNat 0 * (i * ((ds.length : Int) + 1) - jE (ds.length : Int) n i * n)

theorem divs_excl {I ld n : Int} (hI : 0 ≤ I) (hIn : I < n) (hn : n ≤ 64) (hM : 1 ≤ ld) (hM2 : ld ≤ 64) :
    0 ≤ (I * (ld + 1)).fdiv n ∧ 0 ≤ I * (ld + 1) ∧ I * (ld + 1) ≤ 5000 ∧ 0 ≤ (I * (ld + 1)).fdiv n * n ∧ (I * (ld + 1)).fdiv n * n ≤ I * (ld + 1) ∧ 0 ≤ (ld - 1) * n ∧ (ld - 1) * n ≤ 5000 := by
  have hn0 : 0 < n := by omega
  have h1 : 0 ≤ I * (ld + 1) := Int.mul_nonneg hI (by omega)
  have h2 : I * (ld + 1) ≤ 64 * 65 := Int.mul_le_mul (by omega) (by omega) (by omega) (by omega)
  have h3 : (ld - 1) * n ≤ 64 * 64 := Int.mul_le_mul (by omega) (by omega) (by omega) (by omega)
  have h4 : 0 ≤ (ld - 1) * n := Int.mul_nonneg (by omega) (by omega)
  rw [Int.fdiv_eq_ediv_of_nonneg _ (by omega)]
  have h5 : 0 ≤ I * (ld + 1) / n := Int.ediv_nonneg h1 (by omega)
  have h6 := Int.ediv_mul_le (I * (ld + 1)) (b := n) (by omega)
  have h7 := Int.mul_nonneg h5 (show 0 ≤ n by omega)
  exact ⟨h5, h1, by omega, h7, h6, h4, by omega⟩

theorem fdiv_two (n : Nat) : (n : Int).fdiv 2 = ((n / 2 : Nat) : Int) := by
  rw [Int.fdiv_eq_ediv_of_nonneg _ (by decide)]; omega
theorem fmod_two (n : Nat) : (n : Int).fmod 2 = ((n % 2 : Nat) : Int) := by
  rw [Int.fmod_eq_emod_of_nonneg _ (by decide)]; omega
theorem some_at {vs : List Value} {k : Int} {i : Nat} (hk : k = (i : Int)) (hi : i < vs.length) : vs.toArray[k.toNat]? = some vs[i] := by
  subst hk
  simp [hi]
end Mine


namespace Mine
open PySem.Float64

theorem V_rep : ∀ (k q : Nat), q < 2 ^ 53 → k ≤ 2045 → ∃ t, t < infMag ∧ V t = q * 2 ^ k := by
  intro k
  induction k with
  | zero =>
    intro q hq _
    exact ⟨0 * 2 ^ 52 + q, by unfold infMag; omega, V_at (by omega) (.inr rfl)⟩
  | succ k ih =>
    intro q hq hk
    by_cases h : 2 ^ 52 ≤ q
    · exact ⟨(k + 1) * 2 ^ 52 + q, by unfold infMag; omega, V_at (by omega) (.inl h)⟩
    · obtain ⟨t, h1, h2⟩ := ih (2 * q) (by omega) (by omega)
      refine ⟨t, h1, ?_⟩
      rw [h2, Nat.pow_succ]
      generalize 2 ^ k = p
      rw [Nat.mul_comm 2 q, Nat.mul_assoc, Nat.mul_comm 2 p]

theorem V_max {t : Nat} (h : t < infMag) : 2 * V t < (2 ^ 54 - 1) * 2 ^ 2045 := by
  have h1 : V t ≤ V (infMag - 1) := V_mono (by omega)
  have hA : V (infMag - 1) = (2 ^ 53 - 1) * 2 ^ 2045 := by
    have e : infMag - 1 = 2045 * 2 ^ 52 + (2 ^ 53 - 1) := by unfold infMag; omega
    rw [e]
    exact V_at (k := 2045) (q := 2 ^ 53 - 1) (by omega) (.inl (by omega))
  rw [hA] at h1
  have hp : 0 < (2 : Nat) ^ 2045 := Nat.two_pow_pos _
  generalize (2 : Nat) ^ 2045 = p at *
  omega

theorem right_exact {r : UInt64} {neg : Bool} {W D t₀ : Nat} (R : Right r neg W D) (hD : 0 < D) (hW : W = D * V t₀) (ht : t₀ < infMag) :
    (∃ m f, decode r = .fin neg m f) ∧ val r = sgn neg (V t₀) := by
  obtain ⟨t, hr, hle, hinf, hnear⟩ := R
  have hlt : t < infMag := by
    refine Nat.lt_of_le_of_ne hle fun e => ?_
    have h1 := hinf.mp e
    rw [hW, ← Nat.mul_assoc 2 D (V t₀), Nat.mul_comm 2 D, Nat.mul_assoc D 2 (V t₀)] at h1
    have h2 := Nat.le_of_mul_le_mul_left h1 hD
    exact absurd (V_max ht) (Nat.not_lt.mpr h2)
  have h1 := (hnear hlt t₀).1
  have h2 : dist W (D * V t₀) = 0 := by rw [← hW]; unfold Float64.dist; omega
  rw [h2] at h1
  have h3 : W = D * V t := by unfold Float64.dist at h1; omega
  have h4 : V t = V t₀ := Nat.eq_of_mul_eq_mul_left hD (by rw [← h3, hW])
  obtain ⟨m, f, hd, _⟩ := decode_pack neg hlt
  subst hr
  exact ⟨⟨m, f, hd⟩, by rw [val_pack neg hlt, h4]⟩

/-- the float's value is z over two to the e -/
def FinQ (x : UInt64) (z : Int) (e : Nat) : Prop := (∃ a m f, decode x = .fin a m f) ∧ val x = z * ((2 ^ (1074 - e) : Nat) : Int)

theorem sgn_of (z : Int) (p : Nat) : sgn (decide (z < 0)) (z.natAbs * p) = z * (p : Int) := by
  unfold sgn
  by_cases h : z < 0
  · simp only [h, decide_true, if_true]
    rw [Int.natCast_mul, ← Int.neg_mul]
    congr 1
    omega
  · simp only [h, decide_false, Bool.false_eq_true, if_false]
    rw [Int.natCast_mul]
    congr 1
    omega

theorem ofFrac_exact {a n : Nat} {b : Int} {k : Nat} (hn : 0 < n) (hk : k ≤ 1074) (hb : b.natAbs < 2 ^ 53) (h : a * 2 ^ k = b.natAbs * n) : FinQ (ofFrac (decide (b < 0)) a n) b k := by
  have hR : Right (ofFrac (decide (b < 0)) a n) (decide (b < 0)) (b.natAbs * 2 ^ (1074 - k)) 1 := by
    refine ofFrac_right hn ?_ (by decide)
    have e : 2 ^ 1074 = 2 ^ k * 2 ^ (1074 - k) := by rw [← Nat.pow_add]; congr 1; omega
    rw [e, Nat.mul_one, ← Nat.mul_assoc, h]
    generalize 2 ^ (1074 - k) = p
    ac_rfl
  obtain ⟨t, ht, hV⟩ := V_rep (1074 - k) b.natAbs hb (by omega)
  obtain ⟨⟨m, f, hd⟩, hv⟩ := right_exact hR (by decide) (by rw [Nat.one_mul, hV]) ht
  exact ⟨⟨_, m, f, hd⟩, by rw [hv, hV, sgn_of]⟩

theorem fq_exact {a n b : Int} {k : Nat} (hn : 0 < n) (hk : k ≤ 1074) (hb : b.natAbs < 2 ^ 53) (h : a * ((2 ^ k : Nat) : Int) = b * n) : FinQ (fq a n) b k := by
  have hs : (decide (a < 0) != decide (n < 0)) = decide (b < 0) := by
    have h0 : decide (n < 0) = false := decide_eq_false (by omega)
    rw [h0, Bool.bne_false]
    have hp : (0 : Int) < ((2 ^ k : Nat) : Int) := Int.ofNat_lt.mpr (Nat.two_pow_pos _)
    generalize ((2 ^ k : Nat) : Int) = p at *
    apply decide_eq_decide.mpr
    constructor
    · intro ha
      have h1 := Int.mul_neg_of_neg_of_pos ha hp
      rw [h] at h1
      by_cases hbb : b < 0
      · exact hbb
      · have := Int.mul_nonneg (show 0 ≤ b by omega) (show 0 ≤ n by omega); omega
    · intro hbb
      have h1 := Int.mul_neg_of_neg_of_pos hbb hn
      rw [← h] at h1
      by_cases ha : a < 0
      · exact ha
      · have := Int.mul_nonneg (show 0 ≤ a by omega) (show 0 ≤ p by omega); omega
  unfold fq
  rw [hs]
  refine ofFrac_exact (by omega) hk hb ?_
  have := congrArg Int.natAbs h
  rw [Int.natAbs_mul, Int.natAbs_mul, Int.natAbs_natCast] at this
  exact this

theorem ofInt_exact {i : Int} (hi : i.natAbs < 2 ^ 53) : FinQ (ofInt i) i 0 := by
  unfold ofInt
  exact ofFrac_exact (by decide) (by omega) hi (by simp)

theorem finQ_up {x : UInt64} {z : Int} {e : Nat} (h : FinQ x z e) {j : Nat} (hj : e + j ≤ 1074) : FinQ x (z * ((2 ^ j : Nat) : Int)) (e + j) := by
  refine ⟨h.1, ?_⟩
  rw [h.2, Int.mul_assoc, ← Int.natCast_mul, ← Nat.pow_add]
  congr 4
  omega

theorem two_cancel {a b : Int} {p : Nat} (h : a * ((2 ^ p : Nat) : Int) = b * ((2 ^ p : Nat) : Int)) : a = b :=
  Int.eq_of_mul_eq_mul_right (by have := Nat.two_pow_pos p; omega) h

theorem decode_zero (b : Bool) : ∃ a m f, decode (zero b) = .fin a m f := by
  obtain ⟨m, f, h, _⟩ := decode_pack b (t := 0) (by decide)
  exact ⟨_, m, f, h⟩
theorem val_zero (b : Bool) : val (zero b) = 0 := by
  unfold zero
  rw [val_pack b (by decide), V_zero]
  cases b <;> rfl

theorem add_exact {x y : UInt64} {z v : Int} {e : Nat} (hx : FinQ x z e) (hy : FinQ y v e) (hb : (z + v).natAbs < 2 ^ 53) : FinQ (add x y) (z + v) e := by
  obtain ⟨⟨a, m, f, hd⟩, hv⟩ := hx
  obtain ⟨⟨a', m', f', hd'⟩, hv'⟩ := hy
  obtain ⟨h0, h1⟩ := add_right hd hd'
  have hs : val x + val y = (z + v) * ((2 ^ (1074 - e) : Nat) : Int) := by rw [hv, hv', Int.add_mul]
  by_cases hz : val x + val y = 0
  · rw [h0 hz]
    refine ⟨decode_zero _, ?_⟩
    rw [val_zero, ← hs, hz]
  · have hR := h1 hz
    have hneg : decide (val x + val y < 0) = decide (z + v < 0) := by
      rw [hs]
      have hp : (0 : Int) < ((2 ^ (1074 - e) : Nat) : Int) := Int.ofNat_lt.mpr (Nat.two_pow_pos _)
      generalize ((2 ^ (1074 - e) : Nat) : Int) = p at *
      apply decide_eq_decide.mpr
      constructor
      · intro h
        by_cases hn : z + v < 0
        · exact hn
        · have := Int.mul_nonneg (show 0 ≤ z + v by omega) (Int.le_of_lt hp); omega
      · intro h; exact Int.mul_neg_of_neg_of_pos h hp
    rw [hneg, hs, Int.natAbs_mul, Int.natAbs_natCast] at hR
    obtain ⟨t, ht, hV⟩ := V_rep (1074 - e) (z + v).natAbs hb (by omega)
    obtain ⟨⟨m2, f2, hd2⟩, hv2⟩ := right_exact hR (by decide) (by rw [Nat.one_mul, hV]) ht
    exact ⟨⟨_, m2, f2, hd2⟩, by rw [hv2, hV, sgn_of]⟩

theorem ofInt_pos {n : Int} (hn : 0 < n) (hb : n.natAbs < 2 ^ 53) : ∃ m f, decode (ofInt n) = .fin false m f := by
  have hR := ofInt_right n
  have e : decide (n < 0) = false := decide_eq_false (by omega)
  rw [e] at hR
  obtain ⟨t, ht, hV⟩ := V_rep 1074 n.natAbs hb (by omega)
  exact (right_exact hR (by decide) (by rw [Nat.one_mul, hV]) ht).1

theorem half_exact {x : UInt64} {z : Int} {e : Nat} (hx : FinQ x z e) (he : e + 1 ≤ 1074) (hb : z.natAbs < 2 ^ 53) : FinQ (div x (ofInt 2)) z (e + 1) := by
  obtain ⟨⟨a, m, f, hd⟩, hv⟩ := hx
  obtain ⟨m', f', hd'⟩ := ofInt_pos (n := 2) (by decide) (by decide)
  obtain ⟨K, hK, hK0, hv'⟩ : ∃ K : Nat, (2 : Nat) ^ 1074 = K ∧ 0 < K ∧ (val (ofInt 2)).natAbs = 2 * K := by
    refine ⟨_, rfl, Nat.two_pow_pos _, ?_⟩
    have h := (ofInt_exact (i := 2) (by decide)).2
    rw [Nat.sub_zero] at h
    have gen : ∀ K : Nat, val (ofInt 2) = 2 * (K : Int) → (val (ofInt 2)).natAbs = 2 * K := by intro K h; rw [h]; omega
    exact gen _ h
  have hk : m' ≠ 0 := by
    intro h0
    have := val_natAbs hd'
    rw [hv', h0, Nat.zero_mul] at this
    omega
  have hR := div_right hd hd' hk
  rw [hv', hv, Int.natAbs_mul, Int.natAbs_natCast, hK] at hR
  obtain ⟨t, ht, hV⟩ := V_rep (1074 - (e + 1)) z.natAbs hb (by omega)
  have hW : z.natAbs * 2 ^ (1074 - e) * K = 2 * K * V t := by
    rw [hV]
    have e1 : 1074 - e = (1074 - (e + 1)) + 1 := by omega
    rw [e1, Nat.pow_succ]
    generalize 2 ^ (1074 - (e + 1)) = p
    ac_rfl
  obtain ⟨⟨m2, f2, hd2⟩, hv2⟩ := right_exact hR (Nat.mul_pos (by decide) hK0) hW ht
  refine ⟨⟨_, m2, f2, hd2⟩, ?_⟩
  rw [hv2, hV, Bool.bne_false]
  have h1 := val_eq hd
  have h2 := val_natAbs hd
  rw [hv] at h1
  rw [← h2, hv, Int.natAbs_mul, Int.natAbs_natCast] at h1
  have e1 : 1074 - e = (1074 - (e + 1)) + 1 := by omega
  rw [e1, Nat.pow_succ, ← Nat.mul_assoc, sgn_mul, Int.natCast_mul, ← Int.mul_assoc] at h1
  exact (Int.eq_of_mul_eq_mul_right (by decide) h1).symm

theorem mulInt_exact {x : UInt64} {z n : Int} {e : Nat} (hx : FinQ x z e) (he : e ≤ 1074) (hn : 0 < n) (hn2 : n.natAbs < 2 ^ 53) (hb : (z * n).natAbs < 2 ^ 53) : FinQ (mul x (ofInt n)) (z * n) e := by
  obtain ⟨⟨a, m, f, hd⟩, hv⟩ := hx
  obtain ⟨m', f', hd'⟩ := ofInt_pos hn hn2
  have hv' := (ofInt_exact hn2).2
  have hR := mul_right hd hd'
  rw [hv', hv, Int.natAbs_mul, Int.natAbs_mul, Int.natAbs_natCast, Int.natAbs_natCast] at hR
  obtain ⟨t, ht, hV⟩ := V_rep (1074 - e) (z * n).natAbs hb (by omega)
  have hW : z.natAbs * 2 ^ (1074 - e) * (n.natAbs * 2 ^ (1074 - 0)) = 2 ^ 1074 * V t := by
    rw [hV, Int.natAbs_mul]
    show _ * (_ * 2 ^ 1074) = _
    generalize 2 ^ (1074 - e) = p
    generalize 2 ^ 1074 = q
    ac_rfl
  obtain ⟨⟨m2, f2, hd2⟩, hv2⟩ := right_exact hR (Nat.two_pow_pos _) hW ht
  refine ⟨⟨_, m2, f2, hd2⟩, ?_⟩
  rw [hv2, hV, Bool.bne_false, Int.natAbs_mul]
  have h1 := val_eq hd
  have h2 := val_natAbs hd
  rw [hv] at h1
  rw [← h2, hv, Int.natAbs_mul, Int.natAbs_natCast] at h1
  rw [show z.natAbs * n.natAbs * 2 ^ (1074 - e) = z.natAbs * 2 ^ (1074 - e) * n.natAbs by generalize 2 ^ (1074 - e) = p; ac_rfl, sgn_mul, ← h1]
  have : (n.natAbs : Int) = n := by omega
  rw [this]
  generalize ((2 ^ (1074 - e) : Nat) : Int) = p
  rw [Int.mul_assoc, Int.mul_comm p n, Int.mul_assoc]

theorem cmp_exact {x y : UInt64} {z v : Int} {e : Nat} (hx : FinQ x z e) (hy : FinQ y v e) : cmp x y = some (compare z v) := by
  obtain ⟨⟨a, m, f, hd⟩, hv⟩ := hx
  obtain ⟨⟨a', m', f', hd'⟩, hv'⟩ := hy
  rw [cmp_right hd hd', hv, hv']
  have hp : (0 : Int) < ((2 ^ (1074 - e) : Nat) : Int) := Int.ofNat_lt.mpr (Nat.two_pow_pos _)
  generalize ((2 ^ (1074 - e) : Nat) : Int) = p at *
  congr 1
  rcases Int.lt_trichotomy z v with h | h | h
  · rw [Int.compare_eq_lt.mpr h, Int.compare_eq_lt.mpr (Int.mul_lt_mul_of_pos_right h hp)]
  · subst h; simp
  · rw [Int.compare_eq_gt.mpr h, Int.compare_eq_gt.mpr (Int.mul_lt_mul_of_pos_right h hp)]

theorem cmpInt_exact {x : UInt64} {z i : Int} {e : Nat} (hx : FinQ x z e) (he : e ≤ 1074) : cmpInt x i = some (compare z (i * ((2 ^ e : Nat) : Int))) := by
  obtain ⟨⟨a, m, f, hd⟩, hv⟩ := hx
  rw [cmpInt_right hd, hv]
  have hp : (0 : Int) < ((2 ^ (1074 - e) : Nat) : Int) := Int.ofNat_lt.mpr (Nat.two_pow_pos _)
  have e1 : i * 2 ^ 1074 = i * ((2 ^ e : Nat) : Int) * ((2 ^ (1074 - e) : Nat) : Int) := by
    rw [Int.mul_assoc, ← Int.natCast_mul, ← Nat.pow_add]
    have : e + (1074 - e) = 1074 := by omega
    rw [this]
    congr 1
  rw [e1]
  generalize i * ((2 ^ e : Nat) : Int) = v
  generalize ((2 ^ (1074 - e) : Nat) : Int) = p at *
  congr 1
  rcases Int.lt_trichotomy z v with h | h | h
  · rw [Int.compare_eq_lt.mpr h, Int.compare_eq_lt.mpr (Int.mul_lt_mul_of_pos_right h hp)]
  · subst h; simp
  · rw [Int.compare_eq_gt.mpr h, Int.compare_eq_gt.mpr (Int.mul_lt_mul_of_pos_right h hp)]
end Mine


namespace Mine

/-- an int or a float -/
def IsNum (v : Value) : Prop := (∃ i t, v = .int i t) ∨ (∃ x t, v = .float x t)
/-- Python's less-than on ints and floats -/
def numLt : Value → Value → Bool
  | .int a _, .int b _ => decide (a < b)
  | .int a _, .float y _ => Float64.cmpInt y a == some Ordering.gt
  | .float x _, .int b _ => Float64.cmpInt x b == some Ordering.lt
  | .float x _, .float y _ => Float64.cmp x y == some Ordering.lt
  | _, _ => false

theorem keyLt'_general (x y : Value) : keyLt' general' x y = oneLt' false x y := rfl

section
variable {prog : Program} {w : World} {A : Around} {E : Value → Shared → Prop} {s : Shared}

theorem oneLt_general {x y : Value} (hx : IsNum x) (hy : IsNum y) {Q : Bool → Shared → Prop} (h : Q (numLt x y) s) : wpAny (model prog w) A (oneLt' false x y) Q E s := by
  rw [oneLt'_eq]
  simp only [Bool.false_eq_true, if_false]
  rcases hx with ⟨a, t, rfl⟩ | ⟨a, t, rfl⟩ <;> rcases hy with ⟨b, u, rfl⟩ | ⟨b, u, rfl⟩
  · exact wpAny_bind (PyProof.Rows.lt_int (wpAny_truthy_bool h))
  · exact wpAny_bind (PyProof.Rows.lt_if (wpAny_truthy_bool h))
  · exact wpAny_bind (PyProof.Rows.lt_fi (wpAny_truthy_bool h))
  · exact wpAny_bind (AutoFloatOps.lt_0 (wpAny_truthy_bool h))

theorem call_float_lt {a b : UInt64} {t u : Tok} {Q : Value → Shared → Prop} (h : Q (.bool (Float64.cmp a b == some Ordering.lt)) s) :
    wpAny (model prog w) A (call (.builtin "float.__lt__") [.float a t, .float b u]) Q E s :=
  call_gives F.slot_float_lt (AutoFloatOps.typeIs_float s a t) F.entry_float_lt (F.args_float_lt_2 _ _) (AutoFloatG5.float___lt___float_float_0 a t b u) h

theorem oneLt_float {a b : UInt64} {t u : Tok} {Q : Bool → Shared → Prop} (h : Q (Float64.cmp a b == some Ordering.lt) s) : wpAny (model prog w) A (oneLt' true (.float a t) (.float b u)) Q E s := by
  rw [oneLt'_eq]
  simp only [if_true]
  refine wpAny_bind (wpAny_cRoomFor_byValue rfl ?_)
  refine wpAny_bind (wpAny_callSpecialIfBound?_slot (AutoFloatOps.typeIs_float s a t) F.slot_float_lt (call_float_lt ?_))
  exact wpAny_truthy_bool h
end

/-- the kind's name of a number -/
def numTy : Value → Value
  | .int _ _ => .type "int"
  | _ => .type "float"
theorem typeOf_num {v : Value} (h : IsNum v) : typeOf v = pure (numTy v) := by
  rcases h with ⟨i, t, rfl⟩ | ⟨x, t, rfl⟩ <;> rfl
theorem first_num {v : Value} (h : IsNum v) : firstOfTuple' v = pure none := by
  rcases h with ⟨i, t, rfl⟩ | ⟨x, t, rfl⟩ <;> rfl
theorem mapM_first_nums : ∀ {vs : List Value}, (∀ v ∈ vs, IsNum v) → vs.mapM firstOfTuple' = pure (vs.map fun _ => none)
  | [], _ => by simp
  | v :: vs, h => by rw [List.mapM_cons, first_num (h v (.head _)), mapM_first_nums fun u hu => h u (.tail _ hu)]; simp
theorem mapM_typeOf_nums : ∀ {vs : List Value}, (∀ v ∈ vs, IsNum v) → vs.mapM typeOf = pure (vs.map numTy)
  | [], _ => by simp
  | v :: vs, h => by
    rw [List.mapM_cons, typeOf_num (h v (.head _)), mapM_typeOf_nums fun u hu => h u (.tail _ hu)]; simp

/-- one kind for all, or the general way -/
theorem keyKind_nums {v₁ v₂ : Value} {vs : List Value} (h : ∀ v ∈ v₁ :: v₂ :: vs, IsNum v) :
    (keyKind' (v₁ :: v₂ :: vs).toArray = pure oneType' ∧ ∀ v ∈ v₁ :: v₂ :: vs, numTy v = numTy v₁) ∨ keyKind' (v₁ :: v₂ :: vs).toArray = pure general' := by
  rw [keyKind'_eq, List.mapM_toArray, mapM_first_nums h]
  simp only [map_pure, pure_bind]
  rw [if_neg (by simp), if_neg (by simp)]
  rw [oneTypeOnly'_eq, List.mapM_toArray, mapM_typeOf_nums h]
  simp only [map_pure, pure_bind]
  have h0 : (List.map numTy (v₁ :: v₂ :: vs)).toArray[0]? = some (numTy v₁) := by simp
  rw [h0]
  cases hall : (List.map numTy (v₁ :: v₂ :: vs)).toArray.all fun x => x == numTy v₁ with
  | true =>
    left
    simp only [hall, if_true, pure_bind, Option.isSome_some]
    refine ⟨trivial, fun v hv => ?_⟩
    simp only [List.all_toArray, List.all_map, List.all_eq_true] at hall
    exact eq_of_beq (hall v hv)
  | false =>
    right
    simp only [hall, Bool.false_eq_true, if_false, pure_bind, Option.isSome_none]

section
variable {prog : Program} {w : World} {A : Around} {E : Value → Shared → Prop} {s : Shared}

/-- in this kind the less-than of two of the items is numLt -/
def KindLt (vs : List Value) (kd : SortKind) : Prop :=
  ∀ (prog : Program) (w : World) (A : Around) (E : Value → Shared → Prop) (s : Shared) (x y : Value) {Q : Bool → Shared → Prop}, x ∈ vs → y ∈ vs → Q (numLt x y) s → wpAny (model prog w) A (keyLt' kd x y) Q E s

theorem kindLt_general {vs : List Value} (h : ∀ v ∈ vs, IsNum v) : KindLt vs general' := by
  intro prog w A E s x y Q hx hy hQ
  rw [keyLt'_general]
  exact oneLt_general (h x hx) (h y hy) hQ
theorem kindLt_one {vs : List Value} {ty : Value} (h : ∀ v ∈ vs, IsNum v) (ht : ∀ v ∈ vs, numTy v = ty) : KindLt vs oneType' := by
  intro prog w A E s x y Q hx hy hQ
  rw [keyLt'_oneType]
  have e : numTy x = numTy y := (ht x hx).trans (ht y hy).symm
  rcases h x hx with ⟨a, t, rfl⟩ | ⟨a, t, rfl⟩ <;> rcases h y hy with ⟨b, u, rfl⟩ | ⟨b, u, rfl⟩
  · exact oneLt_int hQ
  · simp [numTy] at e
  · simp [numTy] at e
  · exact oneLt_float hQ

theorem wpS_ltAtN {vs : List Value} {kd : SortKind} (hk : KindLt vs kd) {st : SortSt} {i j : Nat} {x y p q : Value} {Q : Option Bool → SortSt → Prop} (hkd : kindOf st = kd)
    (hi : (arrOf st)[i]? = some (x, p)) (hj : (arrOf st)[j]? = some (y, q)) (hx : x ∈ vs) (hy : y ∈ vs) (h : Q (some (numLt x y)) st) :
    wpS (model prog w) A E s (ltAt' i j) Q st := by
  rw [ltAt'_eq]
  refine wpS_bind (wpS_get ?_)
  show wpS _ _ _ _ (do let x ← elem' (arrOf st) i; let y ← elem' (arrOf st) j; lt' x y) Q st
  rw [elem'_eq, elem'_eq, hi, hj]
  refine wpS_bind (wpS_pure (wpS_bind (wpS_pure ?_)))
  rw [lt'_eq]
  refine wpS_bind (wpS_get ?_)
  rw [hkd]
  refine wpS_bind (wpS_lift (wpAny_attempt (hk prog w A _ s x y hx hy ⟨rfl, ?_⟩)))
  exact wpS_pure h

theorem pairs_at {vs : List Value} {i : Nat} (hi : i < vs.length) : (pairsOf vs)[i]? = some (vs[i], vs[i]) := by
  rw [← Array.getElem?_toList, pairsOf_toList, List.getElem?_zip_eq_some.mpr]
  simp [hi]

/-- a list that stands in order is found to be one run, and stays -/
theorem wpS_runs_ordered {vs : List Value} {kd : SortKind} (hk : KindLt vs kd) (hord : ∀ i, (hi : i + 1 < vs.length) → numLt vs[i + 1] vs[i] = false) (h2 : 2 ≤ vs.length) (h64 : vs.length < 64)
    {Q : Unit → SortSt → Prop} (h : ∀ st', arrOf st' = pairsOf vs → failedOf st' = none → Q () st') :
    wpS (model prog w) A E s sortRuns' Q (SortSt.mk' kd (pairsOf vs) #[] 7 none) := by
  have hsz : (pairsOf vs).size = vs.length := pairsOf_size vs
  have hmr : minRun' vs.length vs.length 0 = vs.length := by
    obtain ⟨f, hf⟩ : ∃ f, vs.length = f + 1 := ⟨vs.length - 1, by omega⟩
    have : minRun' (f + 1) vs.length 0 = vs.length := by rw [minRun'_succ, if_pos h64]; rfl
    rwa [← hf] at this
  rw [sortRuns'_eq]
  refine wpS_bind (wpS_get ?_)
  show wpS _ _ _ _ _ Q (SortSt.mk' kd (pairsOf vs) #[] 7 none)
  have hs' : (arrOf (SortSt.mk' kd (pairsOf vs) #[] 7 none)).size = vs.length := hsz
  simp only [hs', hmr]
  refine wpS_bind (wpS_mono (wpS_forRange
    (I := fun x c st' => (x = 0 ∧ c = (none, 0) ∧ st' = SortSt.mk' kd (pairsOf vs) #[] 7 none) ∨ (1 ≤ x ∧ c = (none, vs.length) ∧ arrOf st' = pairsOf vs ∧ failedOf st' = none ∧ pendingOf st' = #[(0, vs.length, 0)]))
    (Q := fun c st' => c = (none, vs.length) ∧ arrOf st' = pairsOf vs ∧ failedOf st' = none ∧ pendingOf st' = #[(0, vs.length, 0)]) ?step ?fin (.inl ⟨rfl, rfl, rfl⟩)) ?post)
  case fin =>
    rintro c st' (⟨hx, _, _⟩ | ⟨_, hc, hD⟩)
    · omega
    · exact ⟨hc, hD⟩
  case step =>
    rintro x c st' _ hx (⟨rfl, rfl, rfl⟩ | ⟨hx1, rfl, hD⟩)
    · dsimp only
      rw [if_neg (by omega)]
      simp only [Nat.sub_zero, Nat.min_self, Nat.zero_add]
      have hcr : ∀ {Q' : Option Nat → SortSt → Prop}, Q' (some vs.length) (SortSt.mk' kd (pairsOf vs) #[] 7 none) → wpS (model prog w) A E s (countRun' 0 vs.length) Q' (SortSt.mk' kd (pairsOf vs) #[] 7 none) := by
        intro Q' hQ'
        rw [countRun0_eq]
        refine wpS_bind (wpS_mono (Q := fun c st' => c = (none, vs.length) ∧ st' = SortSt.mk' kd (pairsOf vs) #[] 7 none) ?_ ?_)
        · unfold ascLoop
          refine wpS_forRange (I := fun x c st' => st' = SortSt.mk' kd (pairsOf vs) #[] 7 none ∧ c = (none, x)) ?_ ?_ ⟨rfl, rfl⟩
          · rintro x c st' hax hxn ⟨rfl, rfl⟩
            dsimp only
            refine wpS_bind (wpS_ltAtN hk rfl (pairs_at (by omega)) (pairs_at (i := x - 1) (by omega)) (List.getElem_mem _) (List.getElem_mem _) ?_)
            have ho := hord (x - 1) (by omega)
            have e : x - 1 + 1 = x := by omega
            simp only [e] at ho
            rw [ho]
            simp only [Bool.false_eq_true, if_false]
            exact wpS_pure ⟨rfl, rfl⟩
          · rintro c st' ⟨rfl, rfl⟩
            rw [show max 1 vs.length = vs.length by omega]
            exact ⟨rfl, rfl⟩
        · rintro c st' ⟨rfl, rfl⟩
          dsimp only
          rw [if_pos (by simp)]
          exact wpS_pure hQ'
      refine wpS_bind (hcr ?_)
      dsimp only
      rw [if_neg (Nat.lt_irrefl _)]
      refine wpS_bind (wpS_get ?_)
      have hb : (pendingOf (SortSt.mk' kd (pairsOf vs) #[] 7 none)).back? = none := rfl
      rw [hb]
      dsimp only
      exact wpS_bind (wpS_modify (wpS_pure (.inr ⟨by omega, rfl, rfl, rfl, rfl⟩)))
    · dsimp only
      rw [if_pos (Nat.le_refl _)]
      exact wpS_pure ⟨rfl, hD⟩
  case post =>
    rintro c st' ⟨rfl, hD⟩
    dsimp only
    refine wpS_bind (wpS_mono (wpS_forRange (I := fun _ c st'' => st'' = st' ∧ c = (none, ())) (Q := fun c st'' => st'' = st' ∧ c = (none, ())) ?_ (fun _ _ hh => hh) ⟨rfl, rfl⟩) ?_)
    · rintro x c st'' _ _ ⟨rfl, rfl⟩
      refine wpS_bind (wpS_get ?_)
      rw [if_pos (by rw [hD.2.2]; exact Nat.le_refl 1)]
      exact wpS_pure ⟨rfl, rfl⟩
    · rintro c st'' ⟨rfl, rfl⟩
      exact wpS_pure (h _ hD.1 hD.2.1)

theorem list_sort_ordered {a : Addr} {vs : List Value} {n : Nat} {P : Fin → Shared → Prop} (ho : s.heap.get? a = some (seqObj "list" vs.toArray n))
    (hnum : ∀ v ∈ vs, IsNum v) (hord : ∀ i, (hi : i + 1 < vs.length) → numLt vs[i + 1] vs[i] = false) (h64 : vs.length < 64)
    (h : P (.done (.ret .none)) { s with heap := sortedHeap s.heap a vs vs.toArray }) :
    wpAny (model prog w) A (Builtin.«list.sort» ⟨[.ref a], []⟩) P E s := by
  rw [list_sort_plain]
  have ha : a < s.heap.objs.size := Heap.lt_size ho
  refine wpAny_bind (listItems_at ho rfl ?_)
  refine wpAny_bind (listUpdate_at ho rfl ?_)
  obtain ⟨e1, ho1⟩ : ∃ e1, (s.heap.update a (Obj.mapSeq fun _ => #[])).get? a = some (seqObj "list" #[] e1) := ⟨_, get?_update_seq ho (fun _ => #[])⟩
  refine wpAny_bind (seqEpoch_at ho1 rfl ?_)
  refine wpAny_bind (wpAny_newTuple ?_)
  refine wpAny_bind (wpAny_newList ?_)
  refine wpAny_holding ?_
  have ho6 : (((s.heap.update a (Obj.mapSeq fun _ => #[])).push (seqObj "tuple" vs.toArray 0)).push (seqObj "list" #[] 0)).get? a = some (seqObj "list" #[] e1) := by
    rw [Heap.get?_push_ne _ _ _ (by rw [size_push', Heap.size_update]; exact Nat.ne_of_lt (Nat.lt_succ_of_lt ha)), Heap.get?_push_ne _ _ _ (by rw [Heap.size_update]; exact Nat.ne_of_lt ha)]
    exact ho1
  show wpAny (model prog w) A _ P E { s with heap := ((s.heap.update a (Obj.mapSeq fun _ => #[])).push (seqObj "tuple" vs.toArray 0)).push (seqObj "list" #[] 0) }
  dsimp only
  have hsz : vs.toArray.size = vs.length := by simp
  have hout : (pairsOf vs).map (·.2) = vs.toArray := by
    apply Array.toList_inj.mp
    rw [Array.toList_map, pairsOf_toList, List.map_snd_zip (Nat.le_refl _)]
  by_cases h2 : vs.toArray.size < 2
  · rw [if_pos h2, if_pos h2]
    refine wpAny_bind (wpAny_pure ?_)
    rw [StateT.run_pure]
    refine wpAny_bind (wpAny_pure ?_)
    dsimp only
    refine wpAny_bind (seqEpoch_at ho6 rfl ?_)
    refine wpAny_bind (listUpdate_at ho6 rfl ?_ (hsz2 := by rw [Array.size_map]; show (pairsOf vs).size ≤ _; rw [pairsOf_size, sizeLine_eq]; omega))
    simp only [bne_self_eq_false, Bool.false_eq_true, if_false]
    refine wpAny_pure ?_
    show P _ { s with heap := sortedHeap s.heap a vs ((pairsOf vs).map (·.2)) }
    rw [hout]
    exact h
  · rw [if_neg h2, if_neg h2]
    obtain ⟨v₁, v₂, rest, rfl⟩ : ∃ v₁ v₂ rest, vs = v₁ :: v₂ :: rest := by
      match vs, hsz, h2 with
      | [], _, h2 => simp at h2
      | [_], _, h2 => simp at h2
      | v₁ :: v₂ :: rest, _, _ => exact ⟨v₁, v₂, rest, rfl⟩
    obtain ⟨kd, hkd, hkl⟩ : ∃ kd, keyKind' (v₁ :: v₂ :: rest).toArray = pure kd ∧ KindLt (v₁ :: v₂ :: rest) kd := by
      rcases keyKind_nums hnum with ⟨e, ht⟩ | e
      · exact ⟨_, e, kindLt_one hnum ht⟩
      · exact ⟨_, e, kindLt_general hnum⟩
    rw [hkd]
    refine wpAny_bind (wpAny_pure ?_)
    refine wpAny_bind (wpAny_mono (wpS_runs_ordered hkl hord (by simp) h64 (Q := fun _ st' => arrOf st' = pairsOf (v₁ :: v₂ :: rest) ∧ failedOf st' = none) fun st' a1 a2 => ⟨a1, a2⟩) ?_ fun _ _ e => e)
    rintro ⟨⟨⟩, st'⟩ s' ⟨rfl, hp, hf⟩
    dsimp only at hp hf ⊢
    refine wpAny_bind (seqEpoch_at ho6 rfl ?_)
    refine wpAny_bind (listUpdate_at ho6 rfl ?_ (hsz2 := by rw [Array.size_map, hp, pairsOf_size, sizeLine_eq]; omega))
    rw [hf]
    simp only [bne_self_eq_false, Bool.false_eq_true, if_false]
    refine wpAny_pure ?_
    show P _ { s with heap := sortedHeap s.heap a (v₁ :: v₂ :: rest) ((arrOf st').map (·.2)) }
    rw [hp, hout]
    exact h

theorem sorted_ordered {l : Addr} {vs : List Value} {Q : Value → Shared → Prop} (hl : s.heap.IsList l vs.toArray)
    (hnum : ∀ v ∈ vs, IsNum v) (hord : ∀ i, (hi : i + 1 < vs.length) → numLt vs[i + 1] vs[i] = false) (h64 : vs.length < 64)
    (h : Q (.ref (s.heap.objs.size + 1)) { s with heap := sortedAll s.heap vs vs.toArray }) :
    wpAny (model prog w) A (call (.builtin "sorted") [.ref l]) Q E s := by
  refine Calls.call_function_entry kind_sorted plain_sorted entry_sorted (args_sorted1 _) ?_
  unfold Builtin.«sorted»
  refine wpAny_bind (m := checkCount "sorted" 1 1 _) (wpAny_pure ?_)
  refine wpAny_bind (collect_list hl ?_)
  refine wpAny_bind (wpAny_newList ?_)
  have hsz : ((s.heap.push (seqObj "list" #[] 0)).update s.heap.objs.size (Obj.mapSeq (· ++ vs.toArray))).objs.size = s.heap.objs.size + 1 := by
    rw [Heap.size_update, size_push']
  have hoL : (((s.heap.push (seqObj "list" #[] 0)).update s.heap.objs.size (Obj.mapSeq (· ++ vs.toArray))).push (seqObj "list" vs.toArray 0)).get? (s.heap.objs.size + 1) = some (seqObj "list" vs.toArray 0) := by
    rw [← hsz]; exact Heap.get?_push_size _ rfl
  show wpAny _ _ _ _ _ { s with heap := ((s.heap.push (seqObj "list" #[] 0)).update s.heap.objs.size (Obj.mapSeq (· ++ vs.toArray))).push (seqObj "list" vs.toArray 0) }
  rw [hsz]
  refine wpAny_bind (wpAny_holding (wpAny_call_entry slot_list_sort ⟨_, hoL, rfl⟩ entry_list_sort (list_sort_ordered hoL hnum hord h64 ⟨_, rfl, ?_⟩) (args_list_sort _)))
  exact wpAny_pure ⟨_, rfl, h⟩

theorem sorted_orderedN {h₀ : Heap} {L : Addr} {m : Str → Option Value} {news : List (Addr × Obj)} {l : Addr} {vs : List Value} {Q : Value → Shared → Prop}
    (F : Fr h₀ L s.heap m) (N : News h₀ L s.heap news) (hl : s.heap.IsList l vs.toArray)
    (hnum : ∀ v ∈ vs, IsNum v) (hord : ∀ i, (hi : i + 1 < vs.length) → numLt vs[i + 1] vs[i] = false) (h64 : vs.length < 64)
    (h : ∀ (h' : Heap) (D : Addr) (e : Nat), Fr h₀ L h' m → News h₀ L h' ((D, W.listOf vs.toArray e) :: news) → Q (.ref D) { s with heap := h' }) :
    wpAny (model prog w) A (call (.builtin "sorted") [.ref l]) Q E s := by
  refine sorted_ordered hl hnum hord h64 ?_
  obtain ⟨e, he⟩ := sortedAll_at s.heap vs vs.toArray
  exact h _ _ e (F.kept fun _ _ => sortedAll_old) (N.kept_cons F (fun _ _ => sortedAll_old) (Nat.le_succ _) he)
end
end Mine


namespace Mine

/-- an int or a float whose value is z over two to the e -/
def NumQ (v : Value) (z : Int) (e : Nat) : Prop := (∃ i t, v = .int i t ∧ z = i * ((2 ^ e : Nat) : Int)) ∨ (∃ x t, v = .float x t ∧ FinQ x z e ∧ t ≠ 0)

theorem NumQ.isNum {v : Value} {z : Int} {e : Nat} (h : NumQ v z e) : IsNum v := by
  rcases h with ⟨i, t, rfl, _⟩ | ⟨x, t, rfl, _⟩
  · exact .inl ⟨i, t, rfl⟩
  · exact .inr ⟨x, t, rfl⟩

theorem NumQ.int {i : Int} {t : Tok} {e : Nat} : NumQ (.int i t) (i * ((2 ^ e : Nat) : Int)) e := .inl ⟨i, t, rfl, rfl⟩

theorem NumQ.up {v : Value} {z : Int} {e : Nat} (h : NumQ v z e) (j : Nat) (hj : e + j ≤ 1074) : NumQ v (z * ((2 ^ j : Nat) : Int)) (e + j) := by
  rcases h with ⟨i, t, rfl, rfl⟩ | ⟨x, t, rfl, h⟩
  · refine .inl ⟨i, t, rfl, ?_⟩
    rw [Int.mul_assoc, ← Int.natCast_mul, ← Nat.pow_add]
  · exact .inr ⟨x, t, rfl, finQ_up h.1 hj, h.2⟩

theorem two_pow_pos' (e : Nat) : (0 : Int) < ((2 ^ e : Nat) : Int) := Int.ofNat_lt.mpr (Nat.two_pow_pos _)

theorem int_of_scaled {i z : Int} {e : Nat} (h : z = i * ((2 ^ e : Nat) : Int)) : i.natAbs ≤ z.natAbs := by
  rw [h, Int.natAbs_mul, Int.natAbs_natCast]
  exact Nat.le_mul_of_pos_right _ (Nat.two_pow_pos _)

theorem ofInt_scaled {i z : Int} {e : Nat} (h : z = i * ((2 ^ e : Nat) : Int)) (he : e ≤ 1074) (hz : z.natAbs < 2 ^ 53) : FinQ (Float64.ofInt i) z e := by
  have h1 := ofInt_exact (i := i) (Nat.lt_of_le_of_lt (int_of_scaled h) hz)
  have h2 := finQ_up h1 (j := e) (by omega)
  rw [Nat.zero_add] at h2
  rw [h]; exact h2

theorem compare_lt (a b : Int) : (some (compare a b) == some Ordering.lt) = decide (a < b) := by
  rcases Int.lt_trichotomy a b with h | h | h
  · rw [Int.compare_eq_lt.mpr h]; simp [h]
  · subst h; simp
  · rw [Int.compare_eq_gt.mpr h]; simp; omega
theorem compare_gt (a b : Int) : (some (compare a b) == some Ordering.gt) = decide (b < a) := by
  rcases Int.lt_trichotomy a b with h | h | h
  · rw [Int.compare_eq_lt.mpr h]; simp; omega
  · subst h; simp
  · rw [Int.compare_eq_gt.mpr h]; simp [h]

theorem scaled_lt {a b : Int} (e : Nat) : (a * ((2 ^ e : Nat) : Int) < b * ((2 ^ e : Nat) : Int)) ↔ a < b := by
  have hp := two_pow_pos' e
  generalize ((2 ^ e : Nat) : Int) = p at *
  constructor
  · intro h; exact Int.lt_of_mul_lt_mul_right h (Int.le_of_lt hp)
  · intro h; exact Int.mul_lt_mul_of_pos_right h hp

theorem numLt_of {u v : Value} {z y : Int} {e : Nat} (he : e ≤ 1074) (hu : NumQ u z e) (hv : NumQ v y e) : numLt u v = decide (z < y) := by
  rcases hu with ⟨i, t, rfl, rfl⟩ | ⟨x, t, rfl, hx, ht0⟩ <;> rcases hv with ⟨j, t', rfl, rfl⟩ | ⟨x', t', rfl, hx', ht0'⟩
  · show decide (i < j) = _
    exact decide_eq_decide.mpr (scaled_lt e).symm
  · show (Float64.cmpInt x' i == some Ordering.gt) = _
    rw [cmpInt_exact hx' he, compare_gt]
  · show (Float64.cmpInt x j == some Ordering.lt) = _
    rw [cmpInt_exact hx he, compare_lt]
  · show (Float64.cmp x x' == some Ordering.lt) = _
    rw [cmp_exact hx hx', compare_lt]

section
variable {prog : Program} {w : World} {A : Around} {E : Value → Shared → Prop} {s : Shared}

theorem fits_of {n : Int} (h : n.natAbs < 2 ^ 53) : ¬ Float64.isInf (Float64.ofInt n) = true := by
  obtain ⟨⟨a, m, f, hd⟩, _⟩ := ofInt_exact h
  unfold Float64.isInf
  rw [hd]; simp

theorem num_add {u v : Value} {z y : Int} {e : Nat} {Q : Value → Shared → Prop} (hA : A.handled = none) (hs0 : s.toks ≠ 0) (he : e ≤ 1074) (hu : NumQ u z e) (hv : NumQ v y e) (hz : z.natAbs < 2 ^ 52) (hy : y.natAbs < 2 ^ 52)
    (h : ∀ r tk, tk ≠ 0 → NumQ r (z + y) e → Q r { s with toks := tk }) : wpAny (model prog w) A (binaryOp .Add u v) Q E s := by
  have hzy : (z + y).natAbs < 2 ^ 53 := by omega
  rcases hu with ⟨i, t, rfl, hi⟩ | ⟨x, t, rfl, hx, ht0⟩ <;> rcases hv with ⟨j, t', rfl, hj⟩ | ⟨x', t', rfl, hx', ht0'⟩
  · refine PyProof.Rows.add_int (h _ _ (Nat.succ_ne_zero _) (.inl ⟨_, _, rfl, ?_⟩))
    rw [hi, hj, Int.add_mul]
  · have hf := ofInt_scaled hi he (by omega)
    refine add_if_or hA (fun hb => absurd hb (fits_of (Nat.lt_of_le_of_lt (int_of_scaled hi) (by omega)))) (fun _ => h _ _ (Nat.succ_ne_zero _) (.inr ⟨_, _, rfl, add_exact hf hx' hzy, hs0⟩))
  · have hf := ofInt_scaled hj he (by omega)
    refine add_fi_or hA (fun hb => absurd hb (fits_of (Nat.lt_of_le_of_lt (int_of_scaled hj) (by omega)))) (fun _ => h _ _ (Nat.succ_ne_zero _) (.inr ⟨_, _, rfl, add_exact hx hf hzy, hs0⟩))
  · exact add_float (h _ _ (Nat.succ_ne_zero _) (.inr ⟨_, _, rfl, add_exact hx hx' hzy, hs0⟩))

theorem num_half {u : Value} {z : Int} {e : Nat} {t' : Tok} {Q : Value → Shared → Prop} (hA : A.handled = none) (hs0 : s.toks ≠ 0) (he : e + 1 ≤ 1074) (hu : NumQ u z e) (hz : z.natAbs < 2 ^ 53)
    (h : ∀ r tk, tk ≠ 0 → NumQ r z (e + 1) → Q r { s with toks := tk }) : wpAny (model prog w) A (binaryOp .Div u (.int 2 t')) Q E s := by
  rcases hu with ⟨i, t, rfl, hi⟩ | ⟨x, t, rfl, hx, ht0⟩
  · have hib := Nat.lt_of_le_of_lt (int_of_scaled hi) hz
    refine PySem.Flt.div_ii_fits hA (Nat.lt_of_lt_of_le hib (Nat.pow_le_pow_right (by decide) (by decide))) (fun h0 => absurd h0 (by decide)) (fun _ _ => h _ _ (Nat.succ_ne_zero _) (.inr ⟨_, _, rfl, ?_, hs0⟩))
    show FinQ (fq i 2) z (e + 1)
    have h1 : FinQ (fq i 2) i 1 := fq_exact (by decide) (by omega) hib (by rfl)
    have h2 := finQ_up h1 (j := e) (by omega)
    rw [Nat.add_comm 1 e] at h2
    rw [hi]; exact h2
  · have ho : ¬ PySem.Flt.Over 2 := fun ho => absurd (PySem.Flt.inf_of_over ho) (fits_of (by decide))
    exact PySem.Flt.truediv_fi hA (fun h0 => absurd h0 ho) (fun h0 => absurd h0 (by decide)) (fun _ _ => h _ _ (Nat.succ_ne_zero _) (.inr ⟨_, _, rfl, half_exact hx he hz, hs0⟩))

theorem wpAny_isSame_float {p q : UInt64} {t u : Tok} {Q : Bool → Shared → Prop} (ht : t ≠ 0) (hu : u ≠ 0) (hb : NoneBooked s.heap) (hq : ∀ b, Q b s) : wpAny (model prog w) A (isSame (.float p t) (.float q u)) Q E s := by
  show wpAny _ A (isSame.created (p == q && !Float64.isNaN p) t u) Q E s
  unfold isSame.created
  refine wpAny_ite ?_
  split
  · rename_i h
    simp only [Bool.or_eq_true, beq_iff_eq] at h
    exact h.elim (fun h => absurd h ht) fun h => absurd h hu
  refine wpAny_ite ?_
  split
  · exact wpAny_pure (hq _)
  refine wpAny_ite ?_
  split
  · exact wpAny_pure (hq _)
  refine wpAny_bind (wpAny_sharingNotTold_none hb ?_)
  first | rw [if_neg Bool.false_ne_true] | simp only [Bool.false_eq_true, if_false]
  refine wpAny_bind (wpAny_sharingNotTold_none hb ?_)
  first | rw [if_neg Bool.false_ne_true] | simp only [Bool.false_eq_true, if_false]
  exact wpAny_bind (wpAny_rule (wpAny_bind (wpAny_askSetting (wpAny_pure (hq _)))))

open PySem.SeqAt in
theorem num_eqAt {u v : Value} {z : Int} {e : Nat} (hb : NoneBooked s.heap) (he : e ≤ 1074) (hu : NumQ u z e) (hv : NumQ v z e) : EqAt A s u v true := by
  intro prog w E Q hq
  unfold eqBool
  refine wpAny_holding ?_
  refine wpAny_ite_split (fun _ => wpAny_bind (wpAny_rule (wpAny_pure hq))) (fun _ => ?_)
  rcases hu with ⟨i, t, rfl, hi⟩ | ⟨x, t, rfl, hx, ht0⟩ <;> rcases hv with ⟨j, t', rfl, hj⟩ | ⟨x', t', rfl, hx', ht0'⟩
  · have e1 : i = j := two_cancel (hi.symm.trans hj)
    subst e1
    refine wpAny_bind (PyProof.Rows.eq_int (wpAny_truthy_bool ?_))
    rw [beq_self_eq_true]; exact hq
  · refine wpAny_bind (eq_if (wpAny_truthy_bool ?_))
    rw [cmpInt_exact hx' he, ← hi]; simpa using hq
  · refine wpAny_bind (eq_fi (wpAny_truthy_bool ?_))
    rw [cmpInt_exact hx he, ← hj]; simpa using hq
  · dsimp only
    refine wpAny_bind (wpAny_isSame_float ht0 ht0' hb fun b => ?_)
    cases b with
    | true => exact wpAny_pure hq
    | false =>
      refine wpAny_bind (AutoFloatOps.eq_0 (wpAny_truthy_bool ?_))
      rw [cmp_exact hx hx']; simpa using hq

open PySem.SeqAt in
theorem lists_eq {l b : Addr} {xs ys : Array Value} {Q : Value → Shared → Prop} (hl : s.heap.IsList l xs) (hb : s.heap.IsList b ys) (hsz : xs.size = ys.size) (hu : A.units < cLine)
    (he : ∀ j (h1 : j < xs.size) (h2 : j < ys.size), EqAt A.in1 s xs[j] ys[j] true) (h : Q (.bool true) s) : wpAny (model prog w) A (compareOp .Eq (.ref l) (.ref b)) Q E s := by
  refine RcAt.lists (e := fun _ => true) hl hb hsz hu he prog w E Q ?_
  have : (List.range xs.size).all (fun _ => true) = true := by simp
  rw [this]; exact h
open PySem.SeqAt in
theorem lists_ne {l b : Addr} {xs ys : Array Value} {Q : Value → Shared → Prop} (hl : s.heap.IsList l xs) (hb : s.heap.IsList b ys) (hsz : xs.size = ys.size) (hu : A.units < cLine)
    (he : ∀ j (h1 : j < xs.size) (h2 : j < ys.size), EqAt A.in1 s xs[j] ys[j] true) (h : Q (.bool false) s) : wpAny (model prog w) A (compareOp .NotEq (.ref l) (.ref b)) Q E s := by
  refine RcNeAt.lists (e := fun _ => true) hl hb hsz hu he prog w E Q ?_
  have : (List.range xs.size).all (fun _ => true) = true := by simp
  rw [this]; exact h
end

theorem booked_of {K : Frag} {h : Heap} {o : Obj} {n : Nat} (X : K.In h) (hk : K.lookup cStatics = some o) (ho : o.data = .dict #[] n) : NoneBooked h :=
  ⟨fun _ => none, ⟨o, #[], n, X _ _ hk, ho, by intro e he; simp at he, fun _ => rfl⟩, rfl⟩
end Mine


namespace Mine

/-- D times the value at p Dths of the way along A -/
def interp (A : Nat → Int) (D p : Nat) : Int := A (p / D) * ((D : Int) - ((p % D : Nat) : Int)) + A (p / D + 1) * ((p % D : Nat) : Int)

theorem interp_one (A : Nat → Int) (p : Nat) : interp A 1 p = A p := by
  unfold interp
  simp [Nat.mod_one]

theorem interp_even (A : Nat → Int) {D : Nat} (hD : 0 < D) (p : Nat) : interp A (2 * D) (2 * p) = 2 * interp A D p := by
  unfold interp
  have e1 : 2 * p / (2 * D) = p / D := Nat.mul_div_mul_left _ _ (by decide)
  have e2 : 2 * p % (2 * D) = 2 * (p % D) := Nat.mul_mod_mul_left _ _ _
  rw [e1, e2]
  generalize A (p / D) = a
  generalize A (p / D + 1) = b
  generalize p % D = r
  rw [Int.natCast_mul, Int.natCast_mul]
  simp only [Int.mul_add, Int.mul_sub]
  generalize (r : Int) = r
  generalize (D : Int) = d
  rw [Int.mul_left_comm a, Int.mul_left_comm a, Int.mul_left_comm b]
  rfl

theorem interp_step (A : Nat → Int) {D : Nat} (hD : 0 < D) (p : Nat) : interp A D (p + 1) - interp A D p = A (p / D + 1) - A (p / D) := by
  unfold interp
  have hr := Nat.mod_lt p hD
  have hp := Nat.div_add_mod p D
  by_cases h : p % D + 1 < D
  · have e1 : (p + 1) / D = p / D := by
      rw [Nat.div_eq_of_lt_le]
      · rw [Nat.mul_comm]; omega
      · rw [Nat.add_mul, Nat.mul_comm]; omega
    have e2 : (p + 1) % D = p % D + 1 := by
      have := Nat.div_add_mod (p + 1) D
      rw [e1] at this; omega
    rw [e1, e2]
    generalize A (p / D) = a
    generalize A (p / D + 1) = b
    generalize p % D = r
    rw [Int.natCast_add]
    generalize (r : Int) = r
    generalize (D : Int) = d
    show a * (d - (r + 1)) + b * (r + 1) - (a * (d - r) + b * r) = b - a
    simp only [Int.mul_sub, Int.mul_add, Int.mul_one]
    omega
  · have e0 : p % D + 1 = D := by omega
    have e1 : (p + 1) / D = p / D + 1 := by
      have : p + 1 = D * (p / D + 1) := by rw [Nat.mul_add]; omega
      rw [this, Nat.mul_div_cancel_left _ hD]
    have e2 : (p + 1) % D = 0 := by
      have : p + 1 = D * (p / D + 1) := by rw [Nat.mul_add]; omega
      rw [this, Nat.mul_mod_right]
    have e3 : ((p % D : Nat) : Int) = (D : Int) - 1 := by omega
    rw [e1, e2, e3]
    generalize A (p / D) = a
    generalize A (p / D + 1) = b
    generalize A (p / D + 1 + 1) = c
    generalize (D : Int) = d
    simp only [Int.mul_sub, Int.mul_one, Int.natCast_zero, Int.mul_zero]
    omega

theorem interp_odd (A : Nat → Int) {D : Nat} (hD : 0 < D) (p : Nat) : interp A (2 * D) (2 * p + 1) = interp A D p + interp A D (p + 1) := by
  have h1 := interp_step A (D := 2 * D) (by omega) (2 * p)
  have h2 := interp_step A hD p
  have h3 := interp_even A hD p
  have e1 : 2 * p / (2 * D) = p / D := Nat.mul_div_mul_left _ _ (by decide)
  rw [e1] at h1
  omega

theorem interp_join (A : Nat → Int) {D : Nat} (hD : 0 < D) (q : Nat) : interp A D (q / 2) + interp A D ((q + 1) / 2) = interp A (2 * D) q := by
  rcases Nat.mod_two_eq_zero_or_one q with h | h
  · have e1 : q = 2 * (q / 2) := by omega
    have e2 : (q + 1) / 2 = q / 2 := by omega
    have := interp_even A hD (q / 2)
    rw [← e1] at this
    rw [e2, this]; omega
  · have e1 : q = 2 * (q / 2) + 1 := by omega
    have e2 : (q + 1) / 2 = q / 2 + 1 := by omega
    have := interp_odd A hD (q / 2)
    rw [← e1] at this
    rw [e2, this]

theorem interp_mono (A : Nat → Int) {D G : Nat} (hD : 0 < D) (hA : ∀ q, q < G → A q ≤ A (q + 1)) (p : Nat) (hp : p < G * D) : interp A D p ≤ interp A D (p + 1) := by
  have h1 := interp_step A hD p
  have h2 := hA (p / D) ((Nat.div_lt_iff_lt_mul hD).mpr hp)
  omega

theorem natAbs_mul_le {a : Int} {b : Nat} {M : Nat} (ha : a.natAbs ≤ M) : (a * (b : Int)).natAbs ≤ M * b := by
  rw [Int.natAbs_mul, Int.natAbs_natCast]
  exact Nat.mul_le_mul_right _ ha

theorem interp_bound (A : Nat → Int) {D M : Nat} (hD : 0 < D) (hA : ∀ q, (A q).natAbs ≤ M) (p : Nat) : (interp A D p).natAbs ≤ M * D := by
  unfold interp
  have hr := Nat.mod_lt p hD
  have e : (D : Int) - ((p % D : Nat) : Int) = ((D - p % D : Nat) : Int) := by omega
  rw [e]
  have h1 := natAbs_mul_le (b := D - p % D) (hA (p / D))
  have h2 := natAbs_mul_le (b := p % D) (hA (p / D + 1))
  have h3 := Int.natAbs_add_le (A (p / D) * ((D - p % D : Nat) : Int)) (A (p / D + 1) * ((p % D : Nat) : Int))
  have h4 : M * (D - p % D) + M * (p % D) = M * D := by rw [← Nat.mul_add]; congr 1; omega
  omega

theorem interp_const (A : Nat → Int) {D p : Nat} {x : Int} (h1 : A (p / D) = x) (h2 : p % D = 0 ∨ A (p / D + 1) = x) : interp A D p = x * (D : Int) := by
  unfold interp
  rw [h1]
  rcases h2 with h | h
  · rw [h]; simp
  · rw [h, ← Int.mul_add]
    congr 1
    omega

theorem fdiv_nat (a b : Nat) : ((a : Int)).fdiv (b : Int) = ((a / b : Nat) : Int) := by
  rw [Int.fdiv_eq_ediv_of_nonneg _ (by omega)]; exact (Int.natCast_ediv a b).symm
theorem fmod_nat (a b : Nat) : ((a : Int)).fmod (b : Int) = ((a % b : Nat) : Int) := by
  rw [Int.fmod_eq_emod_of_nonneg _ (by omega)]; exact (Int.natCast_emod a b).symm

/-- the inclusive cut's numerator -/
theorem numI_interp {ds : List Int} {N i : Nat} (h1 : 1 ≤ ds.length) : numI ds (N : Int) (1 + (i : Int)) = interp (fun q => ds.getD q 0) N ((i + 1) * (ds.length - 1)) := by
  unfold numI interp
  have e : (1 + (i : Int)) * ((ds.length : Int) - 1) = (((i + 1) * (ds.length - 1) : Nat) : Int) := by
    rw [Int.natCast_mul]; congr 1 <;> omega
  rw [e, fdiv_nat, fmod_nat]
  have e2 : ∀ q : Nat, ((q : Int) + 1).toNat = q + 1 := by intro q; omega
  rw [e2, Int.toNat_natCast]

/-- the data with one more item at each end -/
def wideA (ds : List Int) (q : Nat) : Int := if q = 0 then 2 * ds.getD 0 0 - ds.getD 1 0 else if q ≤ ds.length then ds.getD (q - 1) 0 else 2 * ds.getD (ds.length - 1) 0 - ds.getD (ds.length - 2) 0

theorem numE_interp {ds : List Int} {N i : Nat} (h2 : 2 ≤ ds.length) (hi : i + 1 < N) : numE ds (N : Int) (1 + (i : Int)) = interp (wideA ds) N ((i + 1) * (ds.length + 1)) := by
  have hN : 0 < N := by omega
  unfold numE interp
  have e : (1 + (i : Int)) * ((ds.length : Int) + 1) = (((i + 1) * (ds.length + 1) : Nat) : Int) := by
    rw [Int.natCast_mul]; congr 1 <;> omega
  have hq : (i + 1) * (ds.length + 1) / N < ds.length + 1 := by
    rw [Nat.div_lt_iff_lt_mul hN, Nat.mul_comm (ds.length + 1) N]
    exact Nat.mul_lt_mul_of_pos_right hi (by omega)
  have hdm := Nat.div_add_mod ((i + 1) * (ds.length + 1)) N
  have hj : jE (ds.length : Int) (N : Int) (1 + (i : Int)) = if (i + 1) * (ds.length + 1) / N < 1 then 1 else if (i + 1) * (ds.length + 1) / N > ds.length - 1 then (ds.length : Int) - 1 else (((i + 1) * (ds.length + 1) / N : Nat) : Int) := by
    unfold jE
    rw [e, fdiv_nat]
    by_cases c1 : (i + 1) * (ds.length + 1) / N < 1
    · rw [if_pos c1, if_pos (by omega)]
    · rw [if_neg c1, if_neg (by omega)]
      by_cases c2 : (i + 1) * (ds.length + 1) / N > ds.length - 1
      · rw [if_pos c2, if_pos (by omega)]
      · rw [if_neg c2, if_neg (by omega)]
  rw [hj, e]
  generalize hQ : (i + 1) * (ds.length + 1) / N = Q at *
  generalize hR : (i + 1) * (ds.length + 1) % N = R at *
  have hW : (((i + 1) * (ds.length + 1) : Nat) : Int) = (N : Int) * (Q : Int) + (R : Int) := by rw [← hdm]; simp
  rw [hW]
  by_cases c1 : Q < 1
  · have hQ0 : Q = 0 := by omega
    subst hQ0
    rw [if_pos c1]
    have w0 : wideA ds 0 = 2 * ds.getD 0 0 - ds.getD 1 0 := rfl
    have w1 : wideA ds (0 + 1) = ds.getD 0 0 := by unfold wideA; rw [if_neg (by omega), if_pos (by omega)]
    rw [w0, w1]
    show ds.getD 0 0 * _ + ds.getD 1 0 * _ = _
    generalize ds.getD 0 0 = a
    generalize ds.getD 1 0 = b
    generalize (N : Int) = n
    generalize (R : Int) = r
    simp only [Int.natCast_zero, Int.mul_zero, Int.zero_add, Int.one_mul, Int.mul_sub, Int.sub_mul, Int.mul_assoc]
    omega
  · rw [if_neg c1]
    have w1 : wideA ds Q = ds.getD (Q - 1) 0 := by unfold wideA; rw [if_neg (by omega), if_pos (by omega)]
    by_cases c2 : Q > ds.length - 1
    · have hQl : Q = ds.length := by omega
      rw [if_pos c2, w1]
      have w2 : wideA ds (Q + 1) = 2 * ds.getD (ds.length - 1) 0 - ds.getD (ds.length - 2) 0 := by unfold wideA; rw [if_neg (by omega), if_neg (by omega)]
      rw [w2, hQl]
      have t1 : ((ds.length : Int) - 1 - 1).toNat = ds.length - 2 := by omega
      have t2 : ((ds.length : Int) - 1).toNat = ds.length - 1 := by omega
      rw [t1, t2]
      generalize ds.getD (ds.length - 1) 0 = a
      generalize ds.getD (ds.length - 2) 0 = b
      generalize (ds.length : Int) = l
      generalize (N : Int) = n
      generalize (R : Int) = r
      have e1 : n * l + r - (l - 1) * n = n + r := by rw [Int.sub_mul, Int.mul_comm n l]; omega
      rw [e1]
      simp only [Int.mul_sub, Int.sub_mul, Int.mul_add, Int.mul_assoc]
      omega
    · rw [if_neg c2, w1]
      have w2 : wideA ds (Q + 1) = ds.getD Q 0 := by unfold wideA; rw [if_neg (by omega), if_pos (by omega)]; rfl
      rw [w2]
      have t1 : ((Q : Int) - 1).toNat = Q - 1 := by omega
      rw [t1, Int.toNat_natCast]
      have e1 : (N : Int) * (Q : Int) + (R : Int) - (Q : Int) * (N : Int) = (R : Int) := by rw [Int.mul_comm (N : Int) (Q : Int)]; omega
      rw [e1]
end Mine


namespace Mine
set_option maxRecDepth 100000 in
set_option maxHeartbeats 8000000 in
open_top hd for PySem.Challenge.rw_dn0167_03
end Mine


namespace Mine
theorem wp_cut {M : Model} {Γ : Ctx} {env : Env} {E : Value → Shared → Prop} {Q : Flow → Shared → Prop} {Mid : Shared → Prop} {rest : List Stmt} (hr : ∀ p s', Mid s' → Sem.wp M Γ (execs rest env) (fun a _ s' => Q a s') (fun e _ s' => E e s') p s') : ∀ (pre : List Stmt) (p : Pos) (s : Shared),
    Sem.wp M Γ (execs pre env) (fun f _ s' => match f with | .next => Mid s' | f => Q f s') (fun e _ s' => E e s') p s → Sem.wp M Γ (execs (pre ++ rest) env) (fun a _ s' => Q a s') (fun e _ s' => E e s') p s
  | [], p, s, h1 => hr p s h1
  | a :: r, p, s, h1 => by
    rw [List.cons_append, execs_cons, Sem.wp_bind']
    rw [execs_cons, Sem.wp_bind'] at h1
    refine Sem.wp_mono M Γ _ (fun f p' s' h' => ?_) (fun _ _ _ h' => h') _ _ h1
    cases f <;> first | exact wp_cut hr r p' s' h' | exact h'
/-- a suite cut in two, with what holds between -/
theorem execs_cut {M : Model} {A : Around} {env : Env} {E : Value → Shared → Prop} {Q : Flow → Shared → Prop} {s : Shared} (Mid : Shared → Prop) (k : Nat) {stmts : List Stmt}
    (h1 : wpAny M A (execs (stmts.take k) env) (fun f s' => match f with | .next => Mid s' | f => Q f s') E s) (h2 : ∀ s', Mid s' → wpAny M A (execs (stmts.drop k) env) Q E s') : wpAny M A (execs stmts env) Q E s := by
  intro Γ p hΓ
  have := wp_cut (fun p' s' hm => h2 s' hm Γ p' hΓ) _ p s (h1 Γ p hΓ)
  rwa [List.take_append_drop] at this
theorem hbind_of {K : Frag} {f : Addr} {s : Shared} {args : Args} {binds : List (Str × Value)} {oc : Value} {od : Option Addr} {fd : FuncData} {osl : Array (Option Value)} (h : K.lookup f = some ⟨oc, od, .func fd, osl⟩) (hb : BindsTo s fd args binds) :
    ∀ oc od fd osl, K.lookup f = some ⟨oc, od, .func fd, osl⟩ → BindsTo s fd args binds := by
  intro oc' od' fd' osl' h'
  rw [h] at h'
  cases h'
  exact hb
theorem none_of {h h' : Heap} {a : Addr} (hk : ∀ b o, h.get? b = some o → h'.get? b = some o) (hn : h'.get? a = none) : h.get? a = none := by
  cases q : h.get? a with
  | none => rfl
  | some o => have := hk _ _ q; rw [hn] at this; cases this
end Mine


namespace Mine

/-- a def called from any frame, all that stood kept: the callee's ground is the heap at the call -/
theorem code_defPX {prog : Program} {w : World} {A A₀ : Around} {s : Shared} {K : Frag} {L : Addr} {h₀ base : Heap} {m mg mb : Str → Option Value} {p : Program} {loose : List Str} {mean : ExcName → Option Value}
    {name qual : Str} {params : Arguments} {body : List Stmt} {scope : Scope} {env : Env} {outer : List Env} {R : Result → Shared → Prop} {dV kV doc pm cdv ct oc : Value} {ann od : Option Addr} {osl : Array (Option Value)} {f : Addr} {args : Args} {binds : List (Str × Value)}
    (B : Below A₀ base outer h₀) (F : Fr h₀ L s.heap m) (X₀ : K.In h₀) (T : Top p loose mean mg mb h₀) (hA : A.frames = some (env :: outer)) (hfr : env.frame = some L) (hke : env.scope.kind = .function)
    (ho : K.lookup f = some ⟨oc, od, .func (fnOf name qual params body scope dV kV doc pm ann cdv ct), osl⟩) (hcd : codeIn K cdv qual = true) (hroom : A.depth < recursionLimit)
    (hbind : BindsTo s (fnOf name qual params body scope dV kV doc pm ann cdv ct) args binds) (hloc : ∀ y ∈ binds, scope.names.lookup y.1 = some .local)
    (h : ∀ L' h₁, Fr s.heap L' h₁ (fun y => binds.reverse.lookup y) → News s.heap L' h₁ [] → Below A base (env :: outer) s.heap → K.In s.heap → Top p loose mean mg mb s.heap →
      wpAny (model prog w) (A.deeper (envOf qual scope L' f cdv)) (execs body (envOf qual scope L' f cdv))
        (fun fl s' => R (.ok (.ret (match fl with | .ret v => v | _ => .none))) s')
        (fun e s' => wpAny (model prog w) (A.deeper (envOf qual scope L' f cdv)) (leaving (envOf qual scope L' f cdv) e) (fun _ s'' => R (.error e) s'') (fun e' s'' => R (.error e') s'') s')
        { s with heap := h₁, toks := s.toks + binds.length })
    (hco : scope.isCoroutine = false) (hgen : scope.isGenerator = false) (hk : scope.kind = .function)
    (hcell : ∀ x ∈ scope.names, x.2 ≠ .cell) : codeAny (model prog w) A (.call (.ref f) args) R s := by
  have X := X₀.keeps F.keep
  have TT := T.keeps F.keep
  refine codeAny_call_def (fd := fnOf name qual params body scope dV kV doc pm ann cdv ct) (body := body) (binds := binds) hroom (X _ _ ho) rfl TT.nolimit (codeRec_of X hcd) rfl hbind hcell hloc (fun h₁ hns hk₁ => ?_) hco hgen hk
  refine h s.heap.objs.size h₁ ⟨hns, hk₁, Nat.le_refl _⟩ News.nil ?_ X TT
  have P := pushX B F hfr hke
  exact ⟨hA, P.stays, P.frames⟩

/-- as code_defS0 of the library, from a frame that may hold cells -/
theorem code_defSX {prog : Program} {w : World} {A A₀ : Around} {s : Shared} {base h₀ : Heap} {env : Env} {L : Addr} {m : Str → Option Value} {news : List (Addr × Obj)} {K : Frag} {p : Program} {loose : List Str} {mean : ExcName → Option Value} {mg mb : Str → Option Value}
    {R : Result → Shared → Prop} {name qual : Str} {params : Arguments} {body : List Stmt} {scope : Scope} {dV kV doc pm cdv ct oc : Value} {an od : Option Addr} {osl : Array (Option Value)} {f : Addr} {args : Args} {binds : List (Str × Value)}
    (B : Below A₀ base [] h₀) (F : Fr h₀ L s.heap m) (X₀ : K.In h₀) (N : News h₀ L s.heap news) (T : Top p loose mean mg mb h₀) (hA : A.frames = some [env]) (hfr : env.frame = some L) (hke : env.scope.kind = .function)
    (ho : K.lookup f = some ⟨oc, od, .func (fnOf name qual params body scope dV kV doc pm an cdv ct), osl⟩) (hcd : codeIn K cdv qual = true) (hroom : A.depth < recursionLimit)
    (hbind : BindsTo s (fnOf name qual params body scope dV kV doc pm an cdv ct) args binds) (hloc : ∀ y ∈ binds, scope.names.lookup y.1 = some .local)
    (h : ∀ g L' h₁, Fr h₀ L g m → Fr g L' h₁ (fun y => binds.reverse.lookup y) → News g L' h₁ news → Below A base [env] g → K.In g → Top p loose mean mg mb g → KtsDicts ([env].filterMap (·.frame)) g →
      wpAny (model prog w) (A.deeper (envOf qual scope L' f cdv)) (execs body (envOf qual scope L' f cdv))
        (fun fl s' => LeaveS0 ([env].filterMap (·.frame)) h₀ L m g R (match fl with | .ret v => v | _ => .none) s')
        (fun e s' => wpAny (model prog w) (A.deeper (envOf qual scope L' f cdv)) (leaving (envOf qual scope L' f cdv) e) (fun _ s'' => R (.error e) s'') (fun e' s'' => R (.error e') s'') s')
        { s with heap := h₁, toks := s.toks + binds.length })
    (hco : scope.isCoroutine = false) (hgen : scope.isGenerator = false) (hk : scope.kind = .function)
    (hcell : ∀ x ∈ scope.names, x.2 ≠ .cell) : codeAny (model prog w) A (.call (.ref f) args) R s := by
  have X := X₀.keeps F.keep
  have hmem : ∀ b, b ∈ [env].filterMap (·.frame) ↔ b = L := by
    intro b
    simp [hfr]
  have nm : ∀ b o, h₀.get? b = some o → b ∉ news.map (·.1) := fun b o e q => by
    obtain ⟨p, hp, rfl⟩ := List.mem_map.mp q
    rw [(N p hp).2.2] at e; cases e
  have st : h₀.StaysIn (hideAll s.heap (news.map (·.1))) := fun b o e => hideAll_get _ (F.keep b o e) (nm b o e)
  obtain ⟨oL, es, ep, hL, hLd, hLk, hLf⟩ := F.ns
  have nL : L ∉ news.map (·.1) := fun q => by
    obtain ⟨p, hp, e⟩ := List.mem_map.mp q
    exact (N p hp).2.1 e
  have hLg := hideAll_get (news.map (·.1)) hL nL
  have hNs : ∀ (sl : Array (Option Value)) h', h'.get? L = some { oL with slots := sl } → Heap.Ns h' L m := fun sl h' e => ⟨_, es, ep, e, hLd, hLk, hLf⟩
  have B₁ := pushX B F hfr hke
  have B₂ : Below A base [env] (hideAll s.heap (news.map (·.1))) := ⟨hA, fun b o e => st b o (B.stays b o e), funFrames_hideAll B₁.frames fun env' he b hb hf => by
    rw [List.mem_singleton.mp he, hfr] at hf
    exact nL (Option.some.inj hf ▸ hb)⟩
  refine codeAny_call_def (fd := fnOf name qual params body scope dV kV doc pm an cdv ct) (body := body) (binds := binds) hroom (X _ _ ho) rfl (T.nolimit.keeps F.keep) (codeRec_of X hcd) rfl hbind hcell hloc (fun h₁ hns hk₁ => ?_) hco hgen hk
  refine wpAny_mono (h _ s.heap.objs.size h₁ ⟨⟨oL, es, ep, hLg, hLd, hLk, hLf⟩, st, F.above⟩ ⟨hns, fun b o e => hk₁ b o (of_hideAll _ e), Nat.le_of_eq (hideAll_size _ _)⟩
    (fun p hp => ⟨hk₁ _ _ (N p hp).1, Nat.ne_of_lt (Heap.lt_size (N p hp).1), hideAll_none _ (List.mem_map_of_mem hp)⟩) B₂ (X₀.keeps st) (T.keeps st) (fun b hb => by
      rw [(hmem b).mp hb]
      exact ⟨oL, es, ep, hLg, hLd⟩)) (fun fl s' hl => ?_) fun _ _ y => y
  obtain ⟨g', L', m', news', T', F', N', k⟩ := hl
  have nL₀ : h₀.get? L = none := kts_self F
  obtain ⟨sl, hs⟩ := T'.up hLg
  refine k ⟨hNs sl _ (F'.keep _ _ hs), fun b o e => F'.keep b o (T'.other b o (st b o e) (fun q => by
    rw [(hmem b).mp q, nL₀] at e
    cases e)), F.above⟩ fun p hp => ⟨(N' p hp).1, fun q => ?_, ?_⟩
  · have := (N' p hp).2.2; rw [q, hs] at this; cases this
  · cases q : h₀.get? p.1 with
    | none => rfl
    | some o =>
      obtain ⟨sl', hs'⟩ := T'.up (st _ _ q)
      have := (N' p hp).2.2
      rw [hs'] at this
      cases this

section
variable {prog : Program} {w : World} {A A₀ : Around} {E : Value → Shared → Prop} {s s' : Shared} {h₀ h : Heap} {env : Env} {outer : List Env} {L a e t : Addr} {m : Str → Option Value} {cn : Str} {cs : Scope} {ccd cls c : Value} {cl : List (Str × Addr)}
  {vs : List Value} {b₀ : Stmt} {suite : List Stmt} {pos np : Pos} {rest : List ExceptHandler} {Q : Flow → Shared → Prop} {news : List (Addr × Obj)} {K : Frag}
  {p : Program} {loose : List Str} {mg mb : Str → Option Value} {x : Str}
/-- a raised thing reaches a try's handlers, in a frame that may hold cells -/
theorem land_X (hA : A.frames = some (env :: outer)) (hf : env.frame = some L) (F : Fr h₀ L h m) (hsm : h.UpToSlots s'.heap) (R : RaisedK h₀ (env :: outer) e cls t vs news s'.heap) {hs : List ExceptHandler}
    (k : ∀ h₅, Fr h₀ L h₅ m → RaisedK h₀ (env :: outer) e cls t vs news h₅ → wpAny (model prog w) A (handleBy (.ref e) env hs) Q E { s' with heap := h₅ }) :
    wpAny (model prog w) A (noteFrame (.ref e) env)
      (fun _ s₂ => wpAny (model prog w) A (setFlight (.ref e) none) (fun _ s₃ => wpAny (model prog w) A (handleBy (.ref e) env hs) Q E s₃) E s₂) E s' := by
  obtain ⟨⟨B, hB, hl, hfl, hnew⟩, htup⟩ := R
  refine wpAny_looks_onW hA hf hfl fun h₄ hheld₄ hsm₄ => ?_
  refine wpAny_landsW hheld₄ fun h₅ hheld hsm₅' => ?_
  have hsm₅ := hsm₄.trans hsm₅'
  exact k h₅ (F.of_stays (flyingW_base hB hheld).1 (hsm.trans hsm₅)) ⟨⟨B, hB, hl, hheld, hnew⟩, htup.of_slots hsm₅⟩

theorem name_X {M : Model} {Q : Value → Shared → Prop} (hc : KtsName K x c) (F : Fr h₀ L s.heap m) (X : K.In h₀) (T : TopRead p loose mg mb h₀) (h : Q c s)
    (hk : cs.kind = .function) (hx : (envX cn cs L a ccd cl).kindOf x = some .globalImplicit) (hd : (x == ("__debug__" : Str)) = false) : wpAny M A (eval (.Name x np) (envX cn cs L a ccd cl)) Q E s := by
  rcases hc with e | ⟨e, hv, hn⟩
  · exact nameX_K F X T e h hk hx hd
  · exact nameX_B F X T e hv hn h hk hx hd

theorem looks_type {M : Model} {o : Obj} (ho : h.get? e = some o) (hc : o.cls = cls) : Looks M h (typeOf (.ref e)) cls := by
  subst hc
  exact (Looks.ld ho).andThen .now

theorem handler_no (F : Fr h₀ L s.heap m) (R : RaisedK h₀ (envX cn cs L a ccd cl :: outer) e cls t vs news s.heap) (X : K.In h₀) (T : TopRead p loose mg mb h₀) (hc : KtsName K x c) (hm : exmOne K cls c = some false)
    (k : wpAny (model prog w) A (handleBy (.ref e) (envX cn cs L a ccd cl) rest) Q E s) (hk : cs.kind = .function) (hx : (envX cn cs L a ccd cl).kindOf x = some .globalImplicit) (hd : (x == ("__debug__" : Str)) = false) :
    wpAny (model prog w) A (handleBy (.ref e) (envX cn cs L a ccd cl) (.ExceptHandler (some (.Name x np)) none (b₀ :: suite) pos :: rest)) Q E s := by
  obtain ⟨⟨B, hB, hl, hfl, hnew⟩, htup⟩ := R
  obtain ⟨ob, hob, hobc⟩ := hfl.there
  refine wpAny_handleBy_cons (codeAny_handlers_test (name_X hc F X T ?_ hk hx hd)) (by intro q; cases q)
  exact (exm_one (X.keeps F.keep) (looks_type hob hobc) hm).here k

theorem handler_yes (F : Fr h₀ L s.heap m) (R : RaisedK h₀ (envX cn cs L a ccd cl :: outer) e cls t vs news s.heap) (X : K.In h₀) (T : TopRead p loose mg mb h₀) (hc : KtsName K x c) (hm : exmOne K cls c = some true)
    (k : ∀ h₆, Fr h₀ L h₆ m → News h₀ L h₆ news → wpAny (model prog w) (A.mark (some (.ref e))) (execs (b₀ :: suite) (envX cn cs L a ccd cl)) Q (notedBy (model prog w) (A.mark (some (.ref e))) (envX cn cs L a ccd cl) (cameBackBy (model prog w) A (envX cn cs L a ccd cl) E)) { s with heap := h₆ }) (hk : cs.kind = .function) (hx : (envX cn cs L a ccd cl).kindOf x = some .globalImplicit) (hd : (x == ("__debug__" : Str)) = false) :
    wpAny (model prog w) A (handleBy (.ref e) (envX cn cs L a ccd cl) (.ExceptHandler (some (.Name x np)) none (b₀ :: suite) pos :: rest)) Q E s := by
  obtain ⟨⟨B, hB, hl, hfl, hnew⟩, htup⟩ := R
  have hL : B.get? L = none := by
    obtain ⟨_, ⟨L', _, hf, hn', _⟩, _⟩ := hfl.2.2.1
    obtain rfl : L = L' := Option.some.inj hf
    exact hn'
  obtain ⟨ob, hob, hobc⟩ := hfl.there
  refine wpAny_handleBy_cons (codeAny_handlers_test (name_X hc F X T ?_ hk hx hd)) (by intro q; cases q)
  refine (exm_one (X.keeps F.keep) (looks_type hob hobc) hm).here ?_
  refine codeAny_handlers_suite ?_
  refine lands_againW hfl fun h₆ hfl₆ hsm₆ => ?_
  exact k h₆ (F.of_stays (flyingW_base hB hfl₆).1 hsm₆) fun q hq => ⟨hfl₆.1 _ _ (hl q hq).1, (fun z => by have := (hl q hq).1; rw [z, hL] at this; cases this), (hl q hq).2⟩
end
end Mine


namespace Mine
section
variable {M : Model} {A : Around} {E : Value → Shared → Prop} {s : Shared} {h₀ : Heap} {L a : Addr} {m : Str → Option Value} {cn : Str} {cs : Scope} {ccd : Value} {cl : List (Str × Addr)} {x : Str} {v : Value} {Q : Unit → Shared → Prop} {o1 o2 o3 o4 : Obj} {v₀ : Option Value}
/-- four cells behind a frame: one of them set -/
theorem cell_1 (F : Fr h₀ L s.heap m) (N : News h₀ L s.heap [(L + 1 + 1 + 1 + 1, o4), (L + 1 + 1 + 1, o3), (L + 1 + 1, o2), (L + 1, o1)]) (hd : o1.data = .cell v₀) (hc : cl.lookup x = some (L + 1))
    (h : ∀ h' o', Fr h₀ L h' m → News h₀ L h' [(L + 1 + 1 + 1 + 1, o4), (L + 1 + 1 + 1, o3), (L + 1 + 1, o2), (L + 1, o')] → o'.data = .cell (some v) → Q () { s with heap := h' })
    (hk : cs.kind = .function) (hx : (envX cn cs L a ccd cl).kindOf x = some .cell) : wpAny M A (storeName (envX cn cs L a ccd cl) x v) Q E s := by
  refine storeX_C F N hc (.tail ?_ (.tail ?_ (.tail ?_ (.head fun _ hp => nomatch hp)))) hd h hk hx
  all_goals (intro e; have e' : (_ : Nat) = _ := e; omega)
theorem cell_2 (F : Fr h₀ L s.heap m) (N : News h₀ L s.heap [(L + 1 + 1 + 1 + 1, o4), (L + 1 + 1 + 1, o3), (L + 1 + 1, o2), (L + 1, o1)]) (hd : o2.data = .cell v₀) (hc : cl.lookup x = some (L + 1 + 1))
    (h : ∀ h' o', Fr h₀ L h' m → News h₀ L h' [(L + 1 + 1 + 1 + 1, o4), (L + 1 + 1 + 1, o3), (L + 1 + 1, o'), (L + 1, o1)] → o'.data = .cell (some v) → Q () { s with heap := h' })
    (hk : cs.kind = .function) (hx : (envX cn cs L a ccd cl).kindOf x = some .cell) : wpAny M A (storeName (envX cn cs L a ccd cl) x v) Q E s := by
  refine storeX_C F N hc (.tail ?_ (.tail ?_ (.head ?_))) hd h hk hx
  all_goals first
    | (intro e; have e' : (_ : Nat) = _ := e; omega)
    | (intro p hp e; rw [List.mem_singleton.mp hp] at e; have e' : (_ : Nat) = _ := e; omega)
theorem upd_pre {c : Addr} {o : Obj} {news : List (Addr × Obj)} {g : Obj → List (Addr × Obj)} (U : UpdF c o news g) : ∀ (pre : List (Addr × Obj)), (∀ p ∈ pre, p.1 ≠ c) → UpdF c o (pre ++ news) (fun o' => pre ++ g o')
  | [], _ => U
  | p :: r, h => .tail (h p (.head _)) (upd_pre U r fun q hq => h q (.tail _ hq))
/-- four cells behind other things: the third set -/
theorem cell_3p {pre : List (Addr × Obj)} (F : Fr h₀ L s.heap m) (N : News h₀ L s.heap (pre ++ [(L + 1 + 1 + 1 + 1, o4), (L + 1 + 1 + 1, o3), (L + 1 + 1, o2), (L + 1, o1)])) (hpre : ∀ p ∈ pre, ∀ u, p.2.data ≠ .cell u) (hd : o3.data = .cell v₀) (hc : cl.lookup x = some (L + 1 + 1 + 1))
    (h : ∀ h' o', Fr h₀ L h' m → News h₀ L h' (pre ++ [(L + 1 + 1 + 1 + 1, o4), (L + 1 + 1 + 1, o'), (L + 1 + 1, o2), (L + 1, o1)]) → o'.data = .cell (some v) → Q () { s with heap := h' })
    (hk : cs.kind = .function) (hx : (envX cn cs L a ccd cl).kindOf x = some .cell) : wpAny M A (storeName (envX cn cs L a ccd cl) x v) Q E s := by
  have hp : ∀ p ∈ pre, p.1 ≠ L + 1 + 1 + 1 := by
    intro p hp e
    have g1 := (N p (List.mem_append_left _ hp)).1
    have g2 := (N (L + 1 + 1 + 1, o3) (List.mem_append_right _ (.tail _ (.head _)))).1
    rw [e] at g1
    rw [show s.heap.get? (L + 1 + 1 + 1) = some o3 from g2] at g1
    cases g1
    exact hpre p hp _ hd
  refine storeX_C F N hc (upd_pre (.tail ?_ (.head ?_)) pre hp) hd h hk hx
  all_goals first
    | (intro e; have e' : (_ : Nat) = _ := e; omega)
    | (intro p hp e; rcases List.mem_cons.mp hp with rfl | hp
       · have e' : (_ : Nat) = _ := e; omega
       · rw [List.mem_singleton.mp hp] at e; have e' : (_ : Nat) = _ := e; omega)
/-- four cells behind other things: the fourth set -/
theorem cell_4p {pre : List (Addr × Obj)} (F : Fr h₀ L s.heap m) (N : News h₀ L s.heap (pre ++ [(L + 1 + 1 + 1 + 1, o4), (L + 1 + 1 + 1, o3), (L + 1 + 1, o2), (L + 1, o1)])) (hpre : ∀ p ∈ pre, ∀ u, p.2.data ≠ .cell u) (hd : o4.data = .cell v₀) (hc : cl.lookup x = some (L + 1 + 1 + 1 + 1))
    (h : ∀ h' o', Fr h₀ L h' m → News h₀ L h' (pre ++ [(L + 1 + 1 + 1 + 1, o'), (L + 1 + 1 + 1, o3), (L + 1 + 1, o2), (L + 1, o1)]) → o'.data = .cell (some v) → Q () { s with heap := h' })
    (hk : cs.kind = .function) (hx : (envX cn cs L a ccd cl).kindOf x = some .cell) : wpAny M A (storeName (envX cn cs L a ccd cl) x v) Q E s := by
  have hp : ∀ p ∈ pre, p.1 ≠ L + 1 + 1 + 1 + 1 := by
    intro p hp e
    have g1 := (N p (List.mem_append_left _ hp)).1
    have g2 := (N (L + 1 + 1 + 1 + 1, o4) (List.mem_append_right _ (.head _))).1
    rw [e] at g1
    rw [show s.heap.get? (L + 1 + 1 + 1 + 1) = some o4 from g2] at g1
    cases g1
    exact hpre p hp _ hd
  refine storeX_C F N hc (upd_pre (.head ?_) pre hp) hd h hk hx
  intro p hp e
  rcases List.mem_cons.mp hp with rfl | hp
  · have e' : (_ : Nat) = _ := e; omega
  rcases List.mem_cons.mp hp with rfl | hp
  · have e' : (_ : Nat) = _ := e; omega
  · rw [List.mem_singleton.mp hp] at e; have e' : (_ : Nat) = _ := e; omega
end
end Mine


namespace Mine
section
variable {prog : Program} {w : World} {A : Around} {h₀ : Heap} {L : Addr} {m : Str → Option Value} {env : Env} {ct elt : Expr} {x : Str} {scope : Scope} {cl : List (Str × Addr)} {s : Shared} {S : List (Addr × Obj) → Prop} {P : Nat → Value → Prop} {Fin : List Value → List (Addr × Obj) → Prop} {news : List (Addr × Obj)}
/-- a comprehension with a test, by what holds of the items made so far -/
theorem rest_T {n : Nat} (J : Nat → List Value → Prop) (h0 : J 0 [])
    (turn : ∀ i v I oI C oC D m₂ ys h tk (E' : Value → Shared → Prop), i < n → P i v → J i ys → LCg.NsObj oC m₂ → m₂ x = some v → Fr h₀ L h m → News h₀ L h ((I, oI) :: (C, oC) :: (D, LCg.lst ys) :: news) → LCg.Off3 I C D news → ((@Ne Nat I C) ∧ (@Ne Nat I D) ∧ (@Ne Nat C D)) →
      wpAny (model prog w) A (isTrue ct (compEnvC scope cl C env) (eval ct (compEnvC scope cl C env))) (fun b s' => if b = true then wpAny (model prog w) A (eval elt (compEnvC scope cl C env)) (LCg.CompEnd h₀ L m { s with heap := h, toks := tk } I oI C oC D (LCg.lst ys) S (fun y news' => news' = news ∧ J (i + 1) (ys ++ [y]))) E' s'
        else LCg.CompEnd h₀ L m { s with heap := h, toks := tk } I oI C oC D (LCg.lst ys) S (fun _ news' => news' = news ∧ J (i + 1) ys) Value.none s') E' { s with heap := h, toks := tk })
    (fin : ∀ ys, J n ys → Fin ys news) : LCt.CompRestT prog w A h₀ L m env ct elt x scope cl s S P Fin n 0 [] news := by
  have key : ∀ (j i : Nat) (ys : List Value), i + j = n → J i ys → LCt.CompRestT prog w A h₀ L m env ct elt x scope cl s S P Fin j i ys news := by
    intro j
    induction j with
    | zero =>
      intro i ys hi hy
      have e : i = n := by omega
      subst e
      exact LCt.CompRestT.zero (fin ys hy)
    | succ j ih =>
      intro i ys hi hy
      refine LCt.CompRestT.succ ?_
      intro v I oI C oC D m₂ h tk E' hv hC hx F N off ne
      refine wpAny_mono (turn i v I oI C oC D m₂ ys h tk E' (by omega) hv hy hC hx F N off ne) (fun b s₂ hq => ?_) fun _ _ e => e
      cases b with
      | true =>
        simp only [if_true] at hq ⊢
        refine wpAny_mono hq (fun y s₃ hr => ?_) fun _ _ e => e
        obtain ⟨h', tk', nw, e, F', N', off', hS, hn, hj⟩ := hr
        rw [hn] at N' off' hS
        exact ⟨h', tk', news, e, F', N', off', hS, ih (i + 1) _ (by omega) hj⟩
      | false =>
        simp only [Bool.false_eq_true, if_false] at hq ⊢
        obtain ⟨h', tk', nw, e, F', N', off', hS, hn, hj⟩ := hq
        rw [hn] at N' off' hS
        exact ⟨h', tk', news, e, F', N', off', hS, ih (i + 1) _ (by omega) hj⟩
  exact key n 0 [] (by omega) h0
/-- a comprehension without a test, likewise -/
theorem rest_U {n : Nat} (J : Nat → List Value → Prop) (h0 : J 0 [])
    (turn : ∀ i v I oI C oC D m₂ ys h tk (E' : Value → Shared → Prop), i < n → P i v → J i ys → LCg.NsObj oC m₂ → m₂ x = some v → Fr h₀ L h m → News h₀ L h ((I, oI) :: (C, oC) :: (D, LCg.lst ys) :: news) → LCg.Off3 I C D news → ((@Ne Nat I C) ∧ (@Ne Nat I D) ∧ (@Ne Nat C D)) →
      wpAny (model prog w) A (eval elt (compEnvC scope cl C env)) (LCg.CompEnd h₀ L m { s with heap := h, toks := tk } I oI C oC D (LCg.lst ys) S (fun y news' => news' = news ∧ J (i + 1) (ys ++ [y]))) E' { s with heap := h, toks := tk })
    (fin : ∀ ys, J n ys → Fin ys news) : LCg.CompRest prog w A h₀ L m env elt x scope cl s S P Fin n 0 [] news := by
  have key : ∀ (j i : Nat) (ys : List Value), i + j = n → J i ys → LCg.CompRest prog w A h₀ L m env elt x scope cl s S P Fin j i ys news := by
    intro j
    induction j with
    | zero =>
      intro i ys hi hy
      have e : i = n := by omega
      subst e
      exact LCg.CompRest.zero (fin ys hy)
    | succ j ih =>
      intro i ys hi hy
      refine LCg.CompRest.succ ?_
      intro v I oI C oC D m₂ h tk E' hv hC hx F N off ne
      refine wpAny_mono (turn i v I oI C oC D m₂ ys h tk E' (by omega) hv hy hC hx F N off ne) (fun y s₃ hr => ?_) fun _ _ e => e
      obtain ⟨h', tk', nw, e, F', N', off', hS, hn, hj⟩ := hr
      rw [hn] at N' off' hS
      exact ⟨h', tk', news, e, F', N', off', hS, ih (i + 1) _ (by omega) hj⟩
  exact key n 0 [] (by omega) h0
/-- each item made so far is as told -/
def AllAt (P : Nat → Value → Prop) (i : Nat) (ys : List Value) : Prop := ys.length = i ∧ ∀ j, j < i → ∃ v, ys[j]? = some v ∧ P j v
theorem AllAt.nil (P : Nat → Value → Prop) : AllAt P 0 [] := ⟨rfl, fun j hj => absurd hj (Nat.not_lt_zero _)⟩
theorem AllAt.snoc {P : Nat → Value → Prop} {ys : List Value} {i : Nat} {y : Value} (h : AllAt P i ys) (hy : P i y) : AllAt P (i + 1) (ys ++ [y]) := by
  refine ⟨by rw [List.length_append, h.1]; rfl, fun j hj => ?_⟩
  by_cases e : j < i
  · obtain ⟨v, hv, hp⟩ := h.2 j e
    exact ⟨v, by rw [List.getElem?_append_left (by rw [h.1]; exact e)]; exact hv, hp⟩
  · have e2 : j = i := by omega
    subst e2
    refine ⟨y, ?_, hy⟩
    rw [List.getElem?_append_right (by rw [h.1]; exact Nat.le_refl _), h.1, Nat.sub_self]; rfl
/-- a turn's end of a comprehension: all as it was -/
theorem comp_end {I C D : Addr} {oI oC oD : Obj} {s₁ : Shared} {h' : Heap} {tk : Nat} {R : Value → Prop} {y : Value} (F : Fr h₀ L h' m) (N : News h₀ L h' ((I, oI) :: (C, oC) :: (D, oD) :: news)) (off : LCg.Off3 I C D news) (hS : S news) (r : R y) :
    LCg.CompEnd h₀ L m s₁ I oI C oC D oD S (fun y news' => news' = news ∧ R y) y { s₁ with heap := h', toks := tk } := ⟨h', tk, news, rfl, F, N, off, hS, rfl, r⟩
end
end Mine


namespace Mine
local macro_rules | `(tactic| k_steps) => `(tactic| repeat' ((fail_if_success (with_reducible show wpAny _ _ (pyIter _) _ _ _)); first | (k_unfold; (try dsimp only)) | (k_end; wrow_close) | walk1 | (dsimp only; walk1) | (leave1; walk_say "STEP leave1"; try dsimp only) | fail "no step"))
set_option maxHeartbeats 8000000 in
theorem q_incl {w : World} {A A₀ : Around} {s : Shared} {L : Addr} {h₀ base : Heap} {m mg mb : Str → Option Value} {mean : ExcName → Option Value}
    {env : Env} {outer : List Env} {R : Result → Shared → Prop} {args : Args} {l : Addr} {vs : List Value} {ns : List Int} {n : Int} {tn tm : Tok}
    (B : Below A₀ base outer h₀) (F : Fr h₀ L s.heap m) (X₀ : (hd.heap_39 w.params).In h₀) (T : Top hd.view_39 (looseW hd.view_39 [Str.ofString "quantiles"]) mean mg mb h₀)
    (hA : A.frames = some (env :: outer)) (hfr : env.frame = some L) (hke : env.scope.kind = .function) (hroom : A.depth < 900) (hh : A.handled = none)
    (hl : s.heap.IsList l vs.toArray) (hi : IntsAre vs ns) (h2 : 2 ≤ ns.length) (h64 : ns.length < 64) (hn : 1 ≤ n) (hn2 : n ≤ 64) (hb : ∀ x ∈ ns, x.natAbs < 2 ^ 1000)
    (hbind : ∀ oc od fd osl, (hd.heap_39 w.params).lookup 35 = some ⟨oc, od, .func fd, osl⟩ → BindsTo s fd args [(Str.ofString "data", .ref l), (Str.ofString "n", .int n tn), (Str.ofString "method", .str (Str.ofString "inclusive") tm)])
    (k : ∀ h' tk r e vals ds, s.heap.StaysIn h' → h'.get? r = some (W.listOf vals e) → s.heap.get? r = none → ds.Perm ns → ds.Pairwise (· ≤ ·) → Cuts (fun k => fq (numI ds n (1 + (k : Int))) n) (n - 1).toNat vals → R (.ok (.ret (.ref r))) { s with heap := h', toks := tk })
    : codeAny (model PySem.Challenge.rw_dn0167_03.row.prog w) A (.call (.ref 35) args) R s := by
  have hfill : (fun (_ : Params → Frag) (_ : OpenLaw) => True) hd.heap_39 PySem.Challenge.rw_dn0167_03 := by (k_fill; trivial)
  clear hfill
  w_top off
  refine' code_defPX (binds := [(Str.ofString "data", .ref l), (Str.ofString "n", .int n tn), (Str.ofString "method", .str (Str.ofString "inclusive") tm)]) B F X₀ T hA hfr hke ?k6 ?k7 ?k8 ?k9 ?kB ?_ ?c2 ?c3 ?c4 ?c5
  (case k6 => k_is)
  (case k7 => k_is)
  (case k8 => exact Nat.lt_trans hroom (by decide))
  (case k9 => exact hbind _ _ _ _ (by k_is))
  (case c5 => decide)
  (case kB => exact locs rfl)
  (case c2 => exact rfl)
  (case c3 => exact rfl)
  (case c4 => exact rfl)
  intro L' h' F' N' B' X' T'
  (try dsimp only)
  clear B F X₀ T hA
  rcases A with ⟨ah, ad, af, ag, au⟩
  have hh' : ah = none := hh
  subst hh'
  clear hh
  show wpAny _ _ _ _ _ _
  k_fold
  k_steps
  rename Fr _ _ _ _ => F1
  rename News _ _ _ _ => N1
  rename IsRange _ _ _ _ _ _ _ _ => rg
  rename_i tk1 tk2 D1 v1 n1 c1 h1 i1 e1 p1 o1 b1 p2 l0 s1 h2' tk3 h3 tk4 tk5 tk6 h4 l1 h5 l2 h6 F0 N0 tk7 h7 t1 u1 v2 kk
  have hbn : ∀ x ∈ n1, x.natAbs < 2 ^ 1000 := fun x hx => hb x (p1.mem_iff.mp hx)
  with_unfolding_all refine iter_rangeV (n := (n - 1).toNat) [Str.ofString "j", Str.ofString "delta", Str.ofString "interpolated"] (fun i nx => (∃ c vals, nx = [(l1, W.listOf vals c), (D1, W.listOf v1.toArray c1)] ∧ Cuts (fun k => fq (numI n1 n (1 + (k : Int))) n) i vals)) ?hh rg ?hs ?hn F1 N1 ?hj ?turn ?done
  case hh => rfl
  case hs => exact small_one (by decide) (by decide) (by omega) (by omega)
  case hn => exact rangeSize_nat _ _
  case hj => exact ⟨0, #[], rfl, Cuts.zero _⟩
  case turn =>
    rintro i t u nx h tk own hin hoff ⟨c, vals, rfl, hvs⟩ F2 N2
    clear F1 N1 F0 N0 kk rg
    have F3 : Fr s.heap L' h _ := F2
    have N3 : News s.heap L' h ((l1, W.listOf vals c) :: (D1, W.listOf v1.toArray c1) :: own) := N2
    clear F2 N2
    have hoff' : OwnOff own [l1, D1] := hoff
    clear hoff
    obtain ⟨hj0, hj1, hd0, hd1⟩ := divs_incl (I := 1 + (i : Int)) (M := (n1.length : Int) - 1) (n := n) (by omega) (by omega) (by omega)
    have hsz9 : vals.size ≤ 100 := by rw [hvs.1]; omega
    have hlt1 : @LT.lt Nat _ l1 h.objs.size := Heap.lt_size (N3 _ (.head _)).1
    have hlt2 : @LT.lt Nat _ D1 h.objs.size := Heap.lt_size (N3 _ (.tail _ (.head _))).1
    show wpAny _ _ _ _ _ _
    k_fold
    k_steps
    · rename Float64.isInf _ = true => hinf
      refine absurd hinf (PySem.Flt.quot_fits (by omega) (num_fits ?_ ?_ (by omega) (by omega)))
      · exact getD_bound (P := fun x => x.natAbs < 2 ^ 1000) (Nat.two_pow_pos _) hbn _
      · exact getD_bound (P := fun x => x.natAbs < 2 ^ 1000) (Nat.two_pow_pos _) hbn _
    · rename Fr _ _ _ _ => F9
      rename News _ _ _ _ => N9
      refine ⟨_, _, _, [(l1, _), (D1, _)], rfl, F9, fun p hp => N9 p (.tail _ hp), hoff', ⟨_, _, rfl, Cuts.push hvs (Nat.succ_ne_zero _) rfl⟩, ?_⟩
      intro z h1 h2
      have q1 : z ≠ Str.ofString "interpolated" := by rintro rfl; exact absurd h2 (by decide)
      have q2 : z ≠ Str.ofString "delta" := by rintro rfl; exact absurd h2 (by decide)
      have q3 : z ≠ Str.ofString "j" := by rintro rfl; exact absurd h2 (by decide)
      simp only [if_neg q1, if_neg q2, if_neg q3, if_neg h1, h2, Bool.false_eq_true, if_false]
  case done =>
    rintro u nx h tk ⟨c, vals, rfl, hvs⟩ F2 N2
    clear F1 N1 F0 N0 kk rg
    have F3 : Fr s.heap L' h _ := F2
    have N3 : News s.heap L' h [(l1, W.listOf vals c), (D1, W.listOf v1.toArray c1)] := N2
    clear F2 N2
    dsimp only
    k_steps
    dsimp only
    exact k _ _ _ _ _ n1 F3.keep (N3 _ (.head _)).1 (N3 _ (.head _)).2.2 p1 o1 hvs
end Mine


namespace Mine
local macro_rules | `(tactic| k_steps) => `(tactic| repeat' ((fail_if_success (with_reducible show wpAny _ _ (pyIter _) _ _ _)); first | (k_unfold; (try dsimp only)) | (k_end; wrow_close) | walk1 | (dsimp only; walk1) | (leave1; walk_say "STEP leave1"; try dsimp only) | fail "no step"))
set_option maxHeartbeats 8000000 in
theorem q_excl {w : World} {A A₀ : Around} {s : Shared} {L : Addr} {h₀ base : Heap} {m mg mb : Str → Option Value} {mean : ExcName → Option Value}
    {env : Env} {outer : List Env} {R : Result → Shared → Prop} {args : Args} {l : Addr} {vs : List Value} {ns : List Int} {n : Int} {tn tm : Tok}
    (B : Below A₀ base outer h₀) (F : Fr h₀ L s.heap m) (X₀ : (hd.heap_39 w.params).In h₀) (T : Top hd.view_39 (looseW hd.view_39 [Str.ofString "quantiles"]) mean mg mb h₀)
    (hA : A.frames = some (env :: outer)) (hfr : env.frame = some L) (hke : env.scope.kind = .function) (hroom : A.depth < 900) (hh : A.handled = none)
    (hl : s.heap.IsList l vs.toArray) (hi : IntsAre vs ns) (h2 : 2 ≤ ns.length) (h64 : ns.length < 64) (hn : 1 ≤ n) (hn2 : n ≤ 64) (hb : ∀ x ∈ ns, x.natAbs < 2 ^ 1000)
    (hbind : ∀ oc od fd osl, (hd.heap_39 w.params).lookup 35 = some ⟨oc, od, .func fd, osl⟩ → BindsTo s fd args [(Str.ofString "data", .ref l), (Str.ofString "n", .int n tn), (Str.ofString "method", .str (Str.ofString "exclusive") tm)])
    (k : ∀ h' tk r e vals ds, s.heap.StaysIn h' → h'.get? r = some (W.listOf vals e) → s.heap.get? r = none → ds.Perm ns → ds.Pairwise (· ≤ ·) → Cuts (fun k => fq (numE ds n (1 + (k : Int))) n) (n - 1).toNat vals → R (.ok (.ret (.ref r))) { s with heap := h', toks := tk })
    : codeAny (model PySem.Challenge.rw_dn0167_03.row.prog w) A (.call (.ref 35) args) R s := by
  have hfill : (fun (_ : Params → Frag) (_ : OpenLaw) => True) hd.heap_39 PySem.Challenge.rw_dn0167_03 := by (k_fill; trivial)
  clear hfill
  w_top off
  refine' code_defPX (binds := [(Str.ofString "data", .ref l), (Str.ofString "n", .int n tn), (Str.ofString "method", .str (Str.ofString "exclusive") tm)]) B F X₀ T hA hfr hke ?k6 ?k7 ?k8 ?k9 ?kB ?_ ?c2 ?c3 ?c4 ?c5
  (case k6 => k_is)
  (case k7 => k_is)
  (case k8 => exact Nat.lt_trans hroom (by decide))
  (case k9 => exact hbind _ _ _ _ (by k_is))
  (case c5 => decide)
  (case kB => exact locs rfl)
  (case c2 => exact rfl)
  (case c3 => exact rfl)
  (case c4 => exact rfl)
  intro L' h' F' N' B' X' T'
  (try dsimp only)
  clear B F X₀ T hA
  rcases A with ⟨ah, ad, af, ag, au⟩
  have hh' : ah = none := hh
  subst hh'
  clear hh
  show wpAny _ _ _ _ _ _
  k_fold
  k_steps
  rename Fr _ _ _ _ => F1
  rename News _ _ _ _ => N1
  rename IsRange _ _ _ _ _ _ _ _ => rg
  rename_i tk1 tk2 D1 v1 n1 c1 h1 i1 e1 p1 o1 b1 p2 l0 s1 h2' tk3 h3 tk4 tk5 tk6 tk8 h4 l1 h5 l2 h6 F0 N0 tk7 h7 t1 u1 v2 kk
  have hbn : ∀ x ∈ n1, x.natAbs < 2 ^ 1000 := fun x hx => hb x (p1.mem_iff.mp hx)
  with_unfolding_all refine iter_rangeV (n := (n - 1).toNat) [Str.ofString "j", Str.ofString "delta", Str.ofString "interpolated"] (fun i nx => (∃ c vals, nx = [(l1, W.listOf vals c), (D1, W.listOf v1.toArray c1)] ∧ Cuts (fun k => fq (numE n1 n (1 + (k : Int))) n) i vals)) ?hh rg ?hs ?hn F1 N1 ?hj ?turn ?done
  case hh => rfl
  case hs => exact small_one (by decide) (by decide) (by omega) (by omega)
  case hn => exact rangeSize_nat _ _
  case hj => exact ⟨0, #[], rfl, Cuts.zero _⟩
  case turn =>
    rintro i t u nx h tk own hin hoff ⟨c, vals, rfl, hvs⟩ F2 N2
    clear F1 N1 F0 N0 kk rg
    have F3 : Fr s.heap L' h _ := F2
    have N3 : News s.heap L' h ((l1, W.listOf vals c) :: (D1, W.listOf v1.toArray c1) :: own) := N2
    clear F2 N2
    have hoff' : OwnOff own [l1, D1] := hoff
    clear hoff
    obtain ⟨hj0, hd0, hd1, hd2, hd3, hd4, hd5⟩ := divs_excl (I := 1 + (i : Int)) (ld := (n1.length : Int)) (n := n) (by omega) (by omega) (by omega) (by omega) (by omega)
    have hsz9 : vals.size ≤ 100 := by rw [hvs.1]; omega
    have hlt1 : @LT.lt Nat _ l1 h.objs.size := Heap.lt_size (N3 _ (.head _)).1
    have hlt2 : @LT.lt Nat _ D1 h.objs.size := Heap.lt_size (N3 _ (.tail _ (.head _))).1
    show wpAny _ _ _ _ _ _
    k_fold
    k_steps
    all_goals first
      | (rename Float64.isInf _ = true => hinf
         refine absurd hinf (PySem.Flt.quot_fits (by omega) (num_fits ?_ ?_ (by omega) (by omega)))
         · exact getD_bound (P := fun x => x.natAbs < 2 ^ 1000) (Nat.two_pow_pos _) hbn _
         · exact getD_bound (P := fun x => x.natAbs < 2 ^ 1000) (Nat.two_pow_pos _) hbn _)
      | (rename Fr _ _ _ _ => F9
         rename News _ _ _ _ => N9
         refine ⟨_, _, _, [(l1, _), (D1, _)], rfl, F9, N9, hoff', ⟨_, _, rfl, Cuts.push hvs (Nat.succ_ne_zero _) ?_⟩, ?_⟩
         · show _ = fq (numE n1 n (1 + (i : Int))) n
           first
             | (have hj9 : jE (n1.length : Int) n (1 + (i : Int)) = 1 := by
                  unfold jE; rw [if_pos (by omega)]
                unfold fq numE; rw [hj9])
             | (have hj9 : jE (n1.length : Int) n (1 + (i : Int)) = (n1.length : Int) - 1 := by
                  unfold jE; rw [if_neg (by omega), if_pos (by omega)]
                unfold fq numE; rw [hj9])
             | (have hj9 : jE (n1.length : Int) n (1 + (i : Int)) = ((1 + (i : Int)) * ((n1.length : Int) + 1)).fdiv n := by
                  unfold jE; rw [if_neg (by omega), if_neg (by omega)]
                unfold fq numE; rw [hj9])
         · intro z h1 h2
           have q1 : z ≠ Str.ofString "interpolated" := by rintro rfl; exact absurd h2 (by decide)
           have q2 : z ≠ Str.ofString "delta" := by rintro rfl; exact absurd h2 (by decide)
           have q3 : z ≠ Str.ofString "j" := by rintro rfl; exact absurd h2 (by decide)
           simp only [if_neg q1, if_neg q2, if_neg q3, if_neg h1, h2, Bool.false_eq_true, if_false])
  case done =>
    rintro u nx h tk ⟨c, vals, rfl, hvs⟩ F2 N2
    clear F1 N1 F0 N0 kk rg
    have F3 : Fr s.heap L' h _ := F2
    have N3 : News s.heap L' h [(l1, W.listOf vals c), (D1, W.listOf v1.toArray c1)] := N2
    clear F2 N2
    dsimp only
    k_steps
    dsimp only
    exact k _ _ _ _ _ n1 F3.keep (N3 _ (.head _)).1 (N3 _ (.head _)).2.2 p1 o1 hvs
end Mine


namespace Mine
local macro_rules | `(tactic| k_steps) => `(tactic| repeat' ((fail_if_success (with_reducible show wpAny _ _ (pyIter _) _ _ _)); first | (k_unfold; (try dsimp only)) | (k_end; wrow_close) | walk1 | (dsimp only; walk1) | (leave1; walk_say "STEP leave1"; try dsimp only) | fail "no step"))
set_option maxHeartbeats 8000000 in
theorem q_one {w : World} {A A₀ : Around} {s : Shared} {L : Addr} {h₀ base : Heap} {m mg mb : Str → Option Value} {mean : ExcName → Option Value}
    {env : Env} {outer : List Env} {R : Result → Shared → Prop} {args : Args} {l : Addr} {vs : List Value} {ns : List Int} {n : Int} {tn : Tok} {mv : Value}
    (B : Below A₀ base outer h₀) (F : Fr h₀ L s.heap m) (X₀ : (hd.heap_39 w.params).In h₀) (T : Top hd.view_39 (looseW hd.view_39 [Str.ofString "quantiles"]) mean mg mb h₀)
    (hA : A.frames = some (env :: outer)) (hfr : env.frame = some L) (hke : env.scope.kind = .function) (hroom : A.depth < 900) (hh : A.handled = none)
    (hl : s.heap.IsList l vs.toArray) (hi : IntsAre vs ns) (h2 : ns.length = 1) (hn : 1 ≤ n) (hn2 : n ≤ 64)
    (hbind : ∀ oc od fd osl, (hd.heap_39 w.params).lookup 35 = some ⟨oc, od, .func fd, osl⟩ → BindsTo s fd args [(Str.ofString "data", .ref l), (Str.ofString "n", .int n tn), (Str.ofString "method", mv)])
    (k : ∀ h' tk r e vals, s.heap.StaysIn h' → h'.get? r = some (W.listOf (vals : List Value).toArray e) → s.heap.get? r = none → IntsAre vals (List.replicate (n - 1).toNat (ns.getD 0 0)) → R (.ok (.ret (.ref r))) { s with heap := h', toks := tk })
    : codeAny (model PySem.Challenge.rw_dn0167_03.row.prog w) A (.call (.ref 35) args) R s := by
  have hfill : (fun (_ : Params → Frag) (_ : OpenLaw) => True) hd.heap_39 PySem.Challenge.rw_dn0167_03 := by (k_fill; trivial)
  clear hfill
  w_top off
  refine' code_defPX (binds := [(Str.ofString "data", .ref l), (Str.ofString "n", .int n tn), (Str.ofString "method", mv)]) B F X₀ T hA hfr hke ?k6 ?k7 ?k8 ?k9 ?kB ?_ ?c2 ?c3 ?c4 ?c5
  (case k6 => k_is)
  (case k7 => k_is)
  (case k8 => exact Nat.lt_trans hroom (by decide))
  (case k9 => exact hbind _ _ _ _ (by k_is))
  (case c5 => decide)
  (case kB => exact locs rfl)
  (case c2 => exact rfl)
  (case c3 => exact rfl)
  (case c4 => exact rfl)
  intro L' h' F' N' B' X' T'
  (try dsimp only)
  clear B F X₀ T hA
  rcases A with ⟨ah, ad, af, ag, au⟩
  have hh' : ah = none := hh
  subst hh'
  clear hh
  show wpAny _ _ _ _ _ _
  k_fold
  k_steps
  · rename Fr _ _ _ _ => F9
    rename News _ _ _ _ => N9
    rename IntsAre _ _ => i9
    rename List.Perm _ _ => p9
    dsimp only
    refine k _ _ _ _ _ F9.keep (N9 _ (.head _)).1 (N9 _ (.head _)).2.2 ?_
    match ns, h2, p9 with
    | [d], _, p9 =>
      rw [List.perm_singleton.mp p9, List.flatten_replicate_singleton] at i9
      exact i9
  · exfalso
    omega
end Mine


namespace Mine
local macro_rules | `(tactic| k_steps) => `(tactic| repeat' ((fail_if_success (with_reducible show wpAny _ _ (pyIter _) _ _ _)); (fail_if_success (with_reducible show wpAny _ _ (call (Value.ref _) _ _) _ _ _)); first | (k_unfold; (try dsimp only)) | (k_end; wrow_close) | walk1 | (dsimp only; walk1) | (leave1; walk_say "STEP leave1"; try dsimp only) | fail "no step"))
set_option maxHeartbeats 8000000 in
theorem told_incl {w : World} {A A₀ : Around} {s : Shared} {L : Addr} {h₀ base : Heap} {m mg mb : Str → Option Value} {mean : ExcName → Option Value}
    {env : Env} {outer : List Env} {R : Result → Shared → Prop} {l : Addr} {vs : List Value} {ns : List Int} {n kd : Int} {tn tk : Tok}
    (B : Below A₀ base outer h₀) (F : Fr h₀ L s.heap m) (X₀ : (hd.heap_39 w.params).In h₀) (T : Top hd.view_39 (looseW hd.view_39 [Str.ofString "quantiles"]) mean mg mb h₀)
    (hA : A.frames = some (env :: outer)) (hfr : env.frame = some L) (hke : env.scope.kind = .function) (hroom : A.depth + 1 < 900) (hh : A.handled = none)
    (hl : s.heap.IsList l vs.toArray) (hi : IntsAre vs ns) (h2 : 2 ≤ ns.length) (h64 : ns.length < 64) (hn : 1 ≤ n) (hn2 : n ≤ 64) (hb : ∀ x ∈ ns, x.natAbs < 2 ^ 1000) (hk : kd = 0)
    (k : ∀ h' tk r e vals ds, s.heap.StaysIn h' → h'.get? r = some (W.listOf vals e) → s.heap.get? r = none → ds.Perm ns → ds.Pairwise (· ≤ ·) → Cuts (fun k => fq (numI ds n (1 + (k : Int))) n) (n - 1).toNat vals → R (.ok (.ret (.ref r))) { s with heap := h', toks := tk })
    : codeAny (model PySem.Challenge.rw_dn0167_03.row.prog w) A (.call (.ref 49) ⟨[.ref l, .int n tn, .int kd tk], []⟩) R s := by
  have hfill : (fun (_ : Params → Frag) (_ : OpenLaw) => True) hd.heap_39 PySem.Challenge.rw_dn0167_03 := by (k_fill; trivial)
  clear hfill
  w_top off
  refine' code_defPX (binds := [(Str.ofString "data", .ref l), (Str.ofString "n", .int n tn), (Str.ofString "kind", .int kd tk)]) B F X₀ T hA hfr hke ?k6 ?k7 ?k8 ?k9 ?kB ?_ ?c2 ?c3 ?c4 ?c5
  (case k6 => k_is)
  (case k7 => k_is)
  (case k8 => exact (by have hrl : (900 : Nat) < recursionLimit := by decide
                        omega))
  (case k9 => first | exact BindsTo.of_eq rfl | exact binds_K (by k_in) rfl (by k_is) rfl rfl rfl | fail "k_enter: no rule for these arguments")
  (case c5 => decide)
  (case kB => exact locs rfl)
  (case c2 => exact rfl)
  (case c3 => exact rfl)
  (case c4 => exact rfl)
  intro L' h' F' N' B' X' T'
  (try dsimp only)
  clear B F X₀ T hA
  rcases A with ⟨ah, ad, af, ag, au⟩
  have hh' : ah = none := hh
  subst hh'
  clear hh
  show wpAny _ _ _ _ _ _
  k_fold
  k_steps
  all_goals first | (exfalso; omega) | (
    rename Fr _ _ _ _ => F9
    have hl9 := hl.at fun o e => F9.keep _ _ e
    have X9 := X'.keeps F9.keep
    refine wpAny_call ?_
    first | (have hn4 := hk (by omega); subst hn4) | skip
    with_unfolding_all refine' q_incl B' F9 X' T' (Around.frames_deeper B'.stack) rfl rfl ?hr rfl hl9 hi h2 h64 hn hn2 hb ?hb ?hk
    case hb => (first | exact hbind_of (by k_is) (BindsTo.of_eq rfl) | exact hbind_of (by k_is) (binds_K (by k_in) rfl (by k_is) rfl rfl rfl) | (refine hbind_of (by k_is) (kp_binds X9 ?_); exact fun _ => rfl) | fail "no binding")
    case hr => (show _ + 1 < 900; omega)
    case hk =>
      intro h4 tk4 r4 e4 v4 d4 s4 g4 f4 p4 o4 c4
      exact k _ _ _ _ _ _ (fun b o e => s4 b o (F9.keep b o e)) g4 (none_of F9.keep f4) p4 o4 c4)
set_option maxHeartbeats 8000000 in
theorem told_excl {w : World} {A A₀ : Around} {s : Shared} {L : Addr} {h₀ base : Heap} {m mg mb : Str → Option Value} {mean : ExcName → Option Value}
    {env : Env} {outer : List Env} {R : Result → Shared → Prop} {l : Addr} {vs : List Value} {ns : List Int} {n kd : Int} {tn tk : Tok}
    (B : Below A₀ base outer h₀) (F : Fr h₀ L s.heap m) (X₀ : (hd.heap_39 w.params).In h₀) (T : Top hd.view_39 (looseW hd.view_39 [Str.ofString "quantiles"]) mean mg mb h₀)
    (hA : A.frames = some (env :: outer)) (hfr : env.frame = some L) (hke : env.scope.kind = .function) (hroom : A.depth + 1 < 900) (hh : A.handled = none)
    (hl : s.heap.IsList l vs.toArray) (hi : IntsAre vs ns) (h2 : 2 ≤ ns.length) (h64 : ns.length < 64) (hn : 1 ≤ n) (hn2 : n ≤ 64) (hb : ∀ x ∈ ns, x.natAbs < 2 ^ 1000) (hk1 : 1 ≤ kd) (hk3 : kd ≤ 3) (hk : kd = 3 → n = 4)
    (k : ∀ h' tk r e vals ds, s.heap.StaysIn h' → h'.get? r = some (W.listOf vals e) → s.heap.get? r = none → ds.Perm ns → ds.Pairwise (· ≤ ·) → Cuts (fun k => fq (numE ds n (1 + (k : Int))) n) (n - 1).toNat vals → R (.ok (.ret (.ref r))) { s with heap := h', toks := tk })
    : codeAny (model PySem.Challenge.rw_dn0167_03.row.prog w) A (.call (.ref 49) ⟨[.ref l, .int n tn, .int kd tk], []⟩) R s := by
  have hfill : (fun (_ : Params → Frag) (_ : OpenLaw) => True) hd.heap_39 PySem.Challenge.rw_dn0167_03 := by (k_fill; trivial)
  clear hfill
  w_top off
  refine' code_defPX (binds := [(Str.ofString "data", .ref l), (Str.ofString "n", .int n tn), (Str.ofString "kind", .int kd tk)]) B F X₀ T hA hfr hke ?k6 ?k7 ?k8 ?k9 ?kB ?_ ?c2 ?c3 ?c4 ?c5
  (case k6 => k_is)
  (case k7 => k_is)
  (case k8 => exact (by have hrl : (900 : Nat) < recursionLimit := by decide
                        omega))
  (case k9 => first | exact BindsTo.of_eq rfl | exact binds_K (by k_in) rfl (by k_is) rfl rfl rfl | fail "k_enter: no rule for these arguments")
  (case c5 => decide)
  (case kB => exact locs rfl)
  (case c2 => exact rfl)
  (case c3 => exact rfl)
  (case c4 => exact rfl)
  intro L' h' F' N' B' X' T'
  (try dsimp only)
  clear B F X₀ T hA
  rcases A with ⟨ah, ad, af, ag, au⟩
  have hh' : ah = none := hh
  subst hh'
  clear hh
  show wpAny _ _ _ _ _ _
  k_fold
  k_steps
  all_goals first | (exfalso; omega) | (
    rename Fr _ _ _ _ => F9
    have hl9 := hl.at fun o e => F9.keep _ _ e
    have X9 := X'.keeps F9.keep
    refine wpAny_call ?_
    first | (have hn4 := hk (by omega); subst hn4) | skip
    with_unfolding_all refine' q_excl B' F9 X' T' (Around.frames_deeper B'.stack) rfl rfl ?hr rfl hl9 hi h2 h64 hn hn2 hb ?hb ?hk
    case hb => (first | exact hbind_of (by k_is) (BindsTo.of_eq rfl) | exact hbind_of (by k_is) (binds_K (by k_in) rfl (by k_is) rfl rfl rfl) | (refine hbind_of (by k_is) (kp_binds X9 ?_); exact fun _ => rfl) | fail "no binding")
    case hr => (show _ + 1 < 900; omega)
    case hk =>
      intro h4 tk4 r4 e4 v4 d4 s4 g4 f4 p4 o4 c4
      exact k _ _ _ _ _ _ (fun b o e => s4 b o (F9.keep b o e)) g4 (none_of F9.keep f4) p4 o4 c4)
set_option maxHeartbeats 8000000 in
theorem told_one {w : World} {A A₀ : Around} {s : Shared} {L : Addr} {h₀ base : Heap} {m mg mb : Str → Option Value} {mean : ExcName → Option Value}
    {env : Env} {outer : List Env} {R : Result → Shared → Prop} {l : Addr} {vs : List Value} {ns : List Int} {n kd : Int} {tn tk : Tok}
    (B : Below A₀ base outer h₀) (F : Fr h₀ L s.heap m) (X₀ : (hd.heap_39 w.params).In h₀) (T : Top hd.view_39 (looseW hd.view_39 [Str.ofString "quantiles"]) mean mg mb h₀)
    (hA : A.frames = some (env :: outer)) (hfr : env.frame = some L) (hke : env.scope.kind = .function) (hroom : A.depth + 1 < 900) (hh : A.handled = none)
    (hl : s.heap.IsList l vs.toArray) (hi : IntsAre vs ns) (h2 : ns.length = 1) (hn : 1 ≤ n) (hn2 : n ≤ 64) (hk0 : 0 ≤ kd) (hk3 : kd ≤ 3) (hk : kd = 3 → n = 4)
    (k : ∀ h' tk r e vals, s.heap.StaysIn h' → h'.get? r = some (W.listOf (vals : List Value).toArray e) → s.heap.get? r = none → IntsAre vals (List.replicate (n - 1).toNat (ns.getD 0 0)) → R (.ok (.ret (.ref r))) { s with heap := h', toks := tk })
    : codeAny (model PySem.Challenge.rw_dn0167_03.row.prog w) A (.call (.ref 49) ⟨[.ref l, .int n tn, .int kd tk], []⟩) R s := by
  have hfill : (fun (_ : Params → Frag) (_ : OpenLaw) => True) hd.heap_39 PySem.Challenge.rw_dn0167_03 := by (k_fill; trivial)
  clear hfill
  w_top off
  refine' code_defPX (binds := [(Str.ofString "data", .ref l), (Str.ofString "n", .int n tn), (Str.ofString "kind", .int kd tk)]) B F X₀ T hA hfr hke ?k6 ?k7 ?k8 ?k9 ?kB ?_ ?c2 ?c3 ?c4 ?c5
  (case k6 => k_is)
  (case k7 => k_is)
  (case k8 => exact (by have hrl : (900 : Nat) < recursionLimit := by decide
                        omega))
  (case k9 => first | exact BindsTo.of_eq rfl | exact binds_K (by k_in) rfl (by k_is) rfl rfl rfl | fail "k_enter: no rule for these arguments")
  (case c5 => decide)
  (case kB => exact locs rfl)
  (case c2 => exact rfl)
  (case c3 => exact rfl)
  (case c4 => exact rfl)
  intro L' h' F' N' B' X' T'
  (try dsimp only)
  clear B F X₀ T hA
  rcases A with ⟨ah, ad, af, ag, au⟩
  have hh' : ah = none := hh
  subst hh'
  clear hh
  show wpAny _ _ _ _ _ _
  k_fold
  k_steps
  all_goals first | (exfalso; omega) | (
    rename Fr _ _ _ _ => F9
    have hl9 := hl.at fun o e => F9.keep _ _ e
    have X9 := X'.keeps F9.keep
    refine wpAny_call ?_
    first | (have hn4 := hk (by omega); subst hn4) | skip
    with_unfolding_all refine' q_one B' F9 X' T' (Around.frames_deeper B'.stack) rfl rfl ?hr rfl hl9 hi h2 hn hn2 ?hb ?hk
    case hb => (first | exact hbind_of (by k_is) (BindsTo.of_eq rfl) | exact hbind_of (by k_is) (binds_K (by k_in) rfl (by k_is) rfl rfl rfl) | (refine hbind_of (by k_is) (kp_binds X9 ?_); exact fun _ => rfl) | fail "no binding")
    case hr => (show _ + 1 < 900; omega)
    case hk =>
      intro h4 tk4 r4 e4 v4 s4 g4 f4 i4
      exact k _ _ _ _ _ (fun b o e => s4 b o (F9.keep b o e)) g4 (none_of F9.keep f4) i4)
end Mine


namespace Mine
local macro_rules | `(tactic| k_steps) => `(tactic| repeat' ((fail_if_success (with_reducible show wpAny _ _ (pyIter _) _ _ _)); first | (k_unfold; (try dsimp only)) | (k_end; wrow_close) | walk1 | (dsimp only; walk1) | (leave1; walk_say "STEP leave1"; try dsimp only) | fail "no step"))
set_option maxHeartbeats 8000000 in
theorem refused_ok {w : World} {s : Shared} {L : Addr} {h₀ base : Heap} {m mg mb : Str → Option Value} {mean : ExcName → Option Value} {news : List (Addr × Obj)}
    {env : Env} {R : Result → Shared → Prop} {n e : Int} {tn te : Tok}
    (B : Below callerA base [] h₀) (F : Fr h₀ L s.heap m) (N : News h₀ L s.heap news) (X₀ : (hd.heap_39 w.params).In h₀) (T : Top hd.view_39 (looseW hd.view_39 [Str.ofString "quantiles"]) mean mg mb h₀)
    (XB : (hd.heap_39 w.params).In base) (TB : Top hd.view_39 (looseW hd.view_39 [Str.ofString "quantiles"]) mean mg mb base)
    (hfr : env.frame = some L) (hke : env.scope.kind = .function) (he0 : 0 ≤ e) (he3 : e ≤ 3)
    (k : ∀ h' tk, Fr h₀ L h' m → News h₀ L h' news → R (.ok (.ret (.bool true))) { s with heap := h', toks := tk })
    : codeAny (model PySem.Challenge.rw_dn0167_03.row.prog w) (callerA.deeper env) (.call (.ref 56) ⟨[.int n tn, .int e te], []⟩) R s := by
  have hfill : (fun (_ : Params → Frag) (_ : OpenLaw) => True) hd.heap_39 PySem.Challenge.rw_dn0167_03 := by (k_fill; trivial)
  clear hfill
  w_top off
  refine' code_defSX (binds := [(Str.ofString "n", .int n tn), (Str.ofString "kind", .int e te)]) B F X₀ N T ?kA hfr hke ?k6 ?k7 ?k8 ?k9 ?kB ?_ ?c2 ?c3 ?c4 ?c5
  (case kA => exact rfl)
  (case k6 => k_is)
  (case k7 => k_is)
  (case k8 => k_room)
  (case k9 => first | exact BindsTo.of_eq rfl | exact binds_K (by k_in) rfl (by k_is) rfl rfl rfl | fail "k_enter: no rule for these arguments")
  (case c5 => decide)
  (case kB => exact locs rfl)
  (case c2 => exact rfl)
  (case c3 => exact rfl)
  (case c4 => exact rfl)
  intro g' L' h' FG' F' N' B' X' T' D'
  (try dsimp only)
  clear B F X₀ T N
  show wpAny _ _ _ _ _ _
  k_fold
  k_steps
  all_goals first
    | (rename List.Perm _ _ => p9
       have l9 := p9.length_eq
       simp only [List.length_nil] at l9
       omega)
    | (rename KtsTurn _ _ _ => T9
       rename Fr _ _ _ _ => F9
       rename News _ _ _ _ => N9
       show LeaveS0 _ _ _ _ _ _ _ _
       exact ⟨_, _, _, _, T9, F9, (fun p hp => N9 p (.tail _ hp)), fun Fk Nk => k _ _ Fk Nk⟩)
    | (rename KtsTurn _ _ _ => T9
       rename Fr _ _ _ _ => F9
       rename News _ _ _ _ => N9
       show LeaveS0 _ _ _ _ _ _ _ _
       exact ⟨_, _, _, _, T9, F9, (fun p hp => N9 p (.tail _ (.tail _ hp))), fun Fk Nk => k _ _ Fk Nk⟩)
end Mine


namespace Mine
local macro_rules | `(tactic| k_steps) => `(tactic| repeat' ((fail_if_success (with_reducible show wpAny _ _ (pyIter _) _ _ _)); first | (k_unfold; (try dsimp only)) | (k_end; wrow_close) | walk1 | (dsimp only; walk1) | (leave1; walk_say "STEP leave1"; try dsimp only) | fail "no step"))
theorem midway_repr : reprText (Str.ofString "midway") = Str.ofString "'midway'" := by decide +kernel
set_option maxHeartbeats 8000000 in
theorem told_raise0 {w : World} {s : Shared} {L : Addr} {h₀ : Heap} {m mg mb : Str → Option Value} {mean : ExcName → Option Value} {news : List (Addr × Obj)}
    {env : Env} {R : Result → Shared → Prop} {l : Addr} {ev : Nat} {vs : List Value} {ns : List Int} {n kd : Int} {tn te : Tok}
    (B : Below callerA h₀ [] h₀) (F : Fr h₀ L s.heap m) (N : News h₀ L s.heap ((l, W.listOf vs.toArray ev) :: news)) (X₀ : (hd.heap_39 w.params).In h₀) (T : Top hd.view_39 (looseW hd.view_39 [Str.ofString "quantiles"]) mean mg mb h₀)
    (hfr : env.frame = some L) (hke : env.scope.kind = .function) (hi : IntsAre vs ns) (hn : n < 1 ∨ ns.length = 0) (h64 : ns.length < 64) (he0 : 0 ≤ kd) (he3 : kd ≤ 3) (hk3 : kd = 3 → n = 4)
    (k : ∀ h' tk e t av g nw, (∀ p ∈ (l, W.listOf vs.toArray ev) :: news, p ∈ nw) → Fr h₀ L g m → g.UpToSlots h' → RaisedK h₀ [env] e (.ref 24) t av nw h' → R (.error (.ref e)) { s with heap := h', toks := tk })
    : codeAny (model PySem.Challenge.rw_dn0167_03.row.prog w) (callerA.deeper env) (.call (.ref 49) ⟨[.ref l, .int n tn, .int kd te], []⟩) R s := by
  have hfill : (fun (_ : Params → Frag) (_ : OpenLaw) => True) hd.heap_39 PySem.Challenge.rw_dn0167_03 := by (k_fill; trivial)
  clear hfill
  w_top off
  refine' PySem.W.code_def (env := env) (outer := []) (binds := [(Str.ofString "data", .ref l), (Str.ofString "n", .int n tn), (Str.ofString "kind", .int kd te)]) B F X₀ N T ?kA hfr hke ?k6 ?k7 ?k8 ?k9 ?kB ?_ ?c2 ?c3 ?c4 ?c5
  (case kA => exact rfl)
  (case k6 => k_is)
  (case k7 => k_is)
  (case k8 => k_room)
  (case k9 => first | exact BindsTo.of_eq rfl | exact binds_K (by k_in) rfl (by k_is) rfl rfl rfl | fail "k_enter: no rule for these arguments")
  (case c5 => decide)
  (case kB => exact locs rfl)
  (case c2 => exact rfl)
  (case c3 => exact rfl)
  (case c4 => exact rfl)
  intro g' L' h' FG' F' N' B' X' T'
  (try dsimp only)
  clear F N
  show wpAny _ _ _ _ _ _
  k_fold
  k_steps
  all_goals first
    | (rename RaisedK _ _ _ _ _ _ _ _ => R9
       rename Heap.UpToSlots _ _ => U9
       first
         | exact k _ _ _ _ _ _ _ (fun p hp => hp) FG' U9 R9
         | exact k _ _ _ _ _ _ _ (fun p hp => .tail _ hp) FG' U9 R9)
    | (exfalso; rename List.Perm _ _ => p9; have l9 := p9.length_eq; omega)
    | (exfalso; omega)
set_option maxHeartbeats 8000000 in
theorem told_raiseV {w : World} {s : Shared} {L : Addr} {h₀ : Heap} {m mg mb : Str → Option Value} {mean : ExcName → Option Value} {news : List (Addr × Obj)}
    {env : Env} {R : Result → Shared → Prop} {l : Addr} {ev : Nat} {vs : List Value} {ns : List Int} {n kd : Int} {tn te : Tok}
    (B : Below callerA h₀ [] h₀) (F : Fr h₀ L s.heap m) (N : News h₀ L s.heap ((l, W.listOf vs.toArray ev) :: news)) (X₀ : (hd.heap_39 w.params).In h₀) (T : Top hd.view_39 (looseW hd.view_39 [Str.ofString "quantiles"]) mean mg mb h₀)
    (hfr : env.frame = some L) (hke : env.scope.kind = .function) (hi : IntsAre vs ns) (hn : 1 ≤ n) (hn2 : n ≤ 64) (h2 : 2 ≤ ns.length) (h64 : ns.length < 64) (hk : kd = 4)
    (k : ∀ h' tk e t av g nw, (∀ p ∈ (l, W.listOf vs.toArray ev) :: news, p ∈ nw) → Fr h₀ L g m → g.UpToSlots h' → RaisedK h₀ [env] e (.type "ValueError") t av nw h' → R (.error (.ref e)) { s with heap := h', toks := tk })
    : codeAny (model PySem.Challenge.rw_dn0167_03.row.prog w) (callerA.deeper env) (.call (.ref 49) ⟨[.ref l, .int n tn, .int kd te], []⟩) R s := by
  have hfill : (fun (_ : Params → Frag) (_ : OpenLaw) => True) hd.heap_39 PySem.Challenge.rw_dn0167_03 := by (k_fill; trivial)
  clear hfill
  w_top off
  refine' PySem.W.code_def (env := env) (outer := []) (binds := [(Str.ofString "data", .ref l), (Str.ofString "n", .int n tn), (Str.ofString "kind", .int kd te)]) B F X₀ N T ?kA hfr hke ?k6 ?k7 ?k8 ?k9 ?kB ?_ ?c2 ?c3 ?c4 ?c5
  (case kA => exact rfl)
  (case k6 => k_is)
  (case k7 => k_is)
  (case k8 => k_room)
  (case k9 => first | exact BindsTo.of_eq rfl | exact binds_K (by k_in) rfl (by k_is) rfl rfl rfl | fail "k_enter: no rule for these arguments")
  (case c5 => decide)
  (case kB => exact locs rfl)
  (case c2 => exact rfl)
  (case c3 => exact rfl)
  (case c4 => exact rfl)
  intro g' L' h' FG' F' N' B' X' T'
  (try dsimp only)
  clear F N
  show wpAny _ _ _ _ _ _
  k_fold
  k_steps
  all_goals try (with_reducible show wpAny _ _ (pyReprObj _) _ _ _; refine pyReprObj_str ?_ (by decide +kernel); rw [midway_repr]; k_steps)
  all_goals first
    | (rename RaisedK _ _ _ _ _ _ _ _ => R9
       rename Heap.UpToSlots _ _ => U9
       first
         | exact k _ _ _ _ _ _ _ (fun p hp => hp) FG' U9 R9
         | exact k _ _ _ _ _ _ _ (fun p hp => .tail _ hp) FG' U9 R9)
    | (exfalso; rename List.Perm _ _ => p9; have l9 := p9.length_eq; omega)
    | (exfalso; omega)
end Mine


namespace Mine
local macro_rules | `(tactic| k_steps) => `(tactic| repeat' ((fail_if_success (with_reducible show wpAny _ _ (pyIter _) _ _ _)); first | (k_unfold; (try dsimp only)) | (k_end; wrow_close) | walk1 | (dsimp only; walk1) | (leave1; walk_say "STEP leave1"; try dsimp only) | fail "no step"))
theorem way_val {ns zs : List Int} {N i e : Nat} (hN1 : 1 ≤ N) (hen : e < N) (hl : zs.length = i * N + e + 1) (hz : ∀ j, j < zs.length → zs.getD j 0 = interp (fun q => ns.getD q 0) N j) :
    zs.getD (-1 + (zs.length : Int)).toNat 0 + ns.getD (1 + (i : Int)).toNat 0 - ns.getD (1 + (i : Int) - 1).toNat 0 = interp (fun q => ns.getD q 0) N zs.length := by
  have e1 : (-1 + (zs.length : Int)).toNat = i * N + e := by omega
  have e2 : (1 + (i : Int)).toNat = i + 1 := by omega
  have e3 : (1 + (i : Int) - 1).toNat = i := by omega
  rw [e1, e2, e3, hz _ (by omega), hl]
  have h4 := interp_step (fun q => ns.getD q 0) (D := N) (by omega) (i * N + e)
  have h5 : (i * N + e) / N = i := by
    rw [Nat.mul_comm, Nat.mul_add_div (by omega), Nat.div_eq_of_lt hen, Nat.add_zero]
  rw [h5] at h4
  omega
theorem getD_snoc {zs : List Int} {v : Int} {G : Nat → Int} (hz : ∀ j, j < zs.length → zs.getD j 0 = G j) (hv : v = G zs.length) : ∀ j, j < (zs ++ [v]).length → (zs ++ [v]).getD j 0 = G j := by
  intro j hj
  rw [List.length_append, List.length_singleton] at hj
  by_cases h : j < zs.length
  · rw [← hz j h]
    simp only [List.getD_eq_getElem?_getD]
    rw [List.getElem?_append_left h]
  · have : j = zs.length := by omega
    subst this
    simp only [List.getD_eq_getElem?_getD]
    rw [List.getElem?_append_right (Nat.le_refl _)]
    simp [hv]
set_option maxHeartbeats 8000000 in
theorem way_ok {w : World} {A A₀ : Around} {s : Shared} {L : Addr} {h₀ base : Heap} {m mg mb : Str → Option Value} {mean : ExcName → Option Value}
    {env : Env} {outer : List Env} {R : Result → Shared → Prop} {l : Addr} {vs : List Value} {ns : List Int} {n : Int} {N : Nat} {tn : Tok}
    (B : Below A₀ base outer h₀) (F : Fr h₀ L s.heap m) (X₀ : (hd.heap_39 w.params).In h₀) (T : Top hd.view_39 (looseW hd.view_39 [Str.ofString "quantiles"]) mean mg mb h₀)
    (hA : A.frames = some (env :: outer)) (hfr : env.frame = some L) (hke : env.scope.kind = .function) (hroom : A.depth + 0 < 900) (hh : A.handled = none)
    (hl : s.heap.IsList l vs.toArray) (hi : IntsAre vs ns) (h1 : 2 ≤ ns.length) (h64 : ns.length < 80) (hN : n = (N : Int)) (hN1 : 1 ≤ N) (hN2 : N ≤ 64)
    (k : ∀ h' tk r c (us : List Value) (zs : List Int), s.heap.StaysIn h' → h'.get? r = some (W.listOf us.toArray c) → s.heap.get? r = none → IntsAre us zs → zs.length = (ns.length - 1) * N + 1 → (∀ j, j < zs.length → zs.getD j 0 = interp (fun q => ns.getD q 0) N j) → R (.ok (.ret (.ref r))) { s with heap := h', toks := tk })
    : codeAny (model PySem.Challenge.rw_dn0167_03.row.prog w) A (.call (.ref 42) ⟨[.ref l, .int n tn], []⟩) R s := by
  have hfill : (fun (_ : Params → Frag) (_ : OpenLaw) => True) hd.heap_39 PySem.Challenge.rw_dn0167_03 := by (k_fill; trivial)
  clear hfill
  w_top off
  refine' code_defPX (binds := [(Str.ofString "items", .ref l), (Str.ofString "n", .int n tn)]) B F X₀ T hA hfr hke ?k6 ?k7 ?k8 ?k9 ?kB ?_ ?c2 ?c3 ?c4 ?c5
  (case k6 => k_is)
  (case k7 => k_is)
  (case k8 => exact Nat.lt_of_le_of_lt (Nat.le_add_right _ _) (Nat.lt_trans hroom (by decide)))
  (case k9 => first | exact BindsTo.of_eq rfl | exact binds_K (by k_in) rfl (by k_is) rfl rfl rfl | fail "k_enter: no rule for these arguments")
  (case c5 => decide)
  (case kB => exact locs rfl)
  (case c2 => exact rfl)
  (case c3 => exact rfl)
  (case c4 => exact rfl)
  intro L' h' F' N' B' X' T'
  (try dsimp only)
  clear B F X₀ T hA
  rcases A with ⟨ah, ad, af, ag, au⟩
  have hh' : ah = none := hh
  subst hh'
  clear hh
  show wpAny _ _ _ _ _ _
  k_fold
  k_steps
  rename Fr _ _ _ _ => F1
  rename News _ _ _ _ => N1
  rename IsRange _ _ _ _ _ _ _ _ => rg
  rename_i tk1 t1 lW hh1 l1 hh2 F0 N0 hh3 tk3 u1 u2 u3 kk
  subst hN
  with_unfolding_all refine iter_rangeV (n := ns.length - 1) [Str.ofString "step"] (fun i nx => ∃ (c : Nat) (wv : List Value) (zs : List Int), nx = [(lW, W.listOf wv.toArray c)] ∧ IntsAre wv zs ∧ zs.length = i * N + 1 ∧ ∀ j, j < zs.length → zs.getD j 0 = interp (fun q => ns.getD q 0) N j) ?hh rg ?hs ?hn F1 N1 ?hj ?turn ?done
  case hh => rfl
  case hs => exact small_one (by decide) (by decide) (by omega) (by omega)
  case hn => rw [rangeSize_nat]; omega
  case hj =>
    refine ⟨0, [_], [_], rfl, .cons _ _ .nil, by simp, ?_⟩
    intro j hj
    have hj0 : j = 0 := by simpa using hj
    subst hj0
    show ns.getD 0 0 * (N : Int) = _
    unfold interp
    rw [Nat.zero_div, Nat.zero_mod]
    simp
  case turn =>
    rintro i t u nx h tk own hin hoff ⟨c, wv, zs, rfl, hwz, hzl, hzv⟩ F2 N2
    clear F1 N1 F0 N0 kk rg
    have F3 : Fr s.heap L' h _ := F2
    have N3 : News s.heap L' h ((lW, W.listOf wv.toArray c) :: own) := N2
    clear F2 N2
    have hoff' : OwnOff own [lW] := hoff
    clear hoff
    have hzb : zs.length ≤ 6000 := by
      have : i * N ≤ 80 * 64 := Nat.mul_le_mul (by omega) (by omega)
      omega
    show wpAny _ _ _ _ _ _
    k_fold
    k_steps
    rename Fr _ _ _ _ => F5
    rename News _ _ _ _ => N5
    rename IsRange _ _ _ _ _ _ _ _ => rg2
    rename_i F50 N50 hh4 tk4 v1 v2 v3 kk2
    with_unfolding_all refine iter_rangeV (n := N) [] (fun e nx' => ∃ (c : Nat) (wv : List Value) (zs : List Int), nx' = (lW, W.listOf wv.toArray c) :: own ∧ IntsAre wv zs ∧ zs.length = i * N + e + 1 ∧ ∀ j, j < zs.length → zs.getD j 0 = interp (fun q => ns.getD q 0) N j) ?hh2 rg2 ?hs2 ?hn2 F5 N5 ?hj2 ?turn2 ?done2
    case hh2 => rfl
    case hs2 => exact small_one (by decide) (by decide) (by omega) (by omega)
    case hn2 => rw [rangeSize_nat]; omega
    case hj2 => exact ⟨c, wv, zs, rfl, hwz, hzl, hzv⟩
    case turn2 =>
      clear hwz hzl hzv hzb
      rintro e te u' nx' h6 tk6 own2 hen hoff2 ⟨c2, wv2, zs2, rfl, hwz2, hzl2, hzv2⟩ F6 N6
      clear F5 N5 rg2 kk2 F50 N50
      have F7 : Fr s.heap L' h6 _ := F6
      have N7 : News s.heap L' h6 ((lW, W.listOf wv2.toArray c2) :: (own ++ own2)) := N6
      clear F6 N6
      have hzb : zs2.length ≤ 6000 := by
        have : i * N ≤ 80 * 64 := Nat.mul_le_mul (by omega) (by omega)
        omega
      have hlt1 : @LT.lt Nat _ lW h6.objs.size := Heap.lt_size (N7 _ (.head _)).1
      show wpAny _ _ _ _ _ _
      k_fold
      k_steps
      have hoff9 : ∀ p ∈ own ++ own2, p.1 ≠ lW := by
        intro p hp
        rcases List.mem_append.mp hp with hp | hp
        · exact hoff' p hp lW (.head _)
        · exact hoff2 p hp lW (.head _)
      refine append_K F7 N7 (.head hoff9) ?_ (by rw [sizeLine_eq]; simp; rw [hwz2.length]; omega)
      intro h9 F9 N9
      clear F7 N7
      show wpAny _ _ _ _ _ _
      k_steps
      rename Fr _ _ _ _ => F10
      rename News _ _ _ _ => N10
      have N11 := N10
      rw [List.push_toArray] at N11
      refine ⟨_, _, _, (lW, _) :: own, rfl, F10, N11, hoff2, ⟨_, _, _, rfl, IntsAre.append hwz2 (.cons _ _ .nil), by simp; omega, getD_snoc hzv2 (way_val hN1 hen hzl2 hzv2)⟩, ?_⟩
      · intro z h1 h2
        simp only [if_neg h1, List.contains_nil, Bool.false_eq_true, if_false]
    case done2 =>
      rintro u' nx' h6 tk6 ⟨c2, wv2, zs2, rfl, hwz2, hzl2, hzv2⟩ F6 N6
      clear F5 N5 rg2 kk2 F50 N50
      have F7 : Fr s.heap L' h6 _ := F6
      have N7 : News s.heap L' h6 ((lW, W.listOf wv2.toArray c2) :: own) := N6
      clear F6 N6
      dsimp only
      show wpAny _ _ _ _ _ _
      k_steps
      refine ⟨_, _, _, [(lW, W.listOf wv2.toArray c2)], rfl, F7, N7, hoff', ⟨_, _, _, rfl, hwz2, ?_, hzv2⟩, ?_⟩
      · rw [hzl2, Nat.succ_mul]
      · intro z h1 h2
        have q1 : z ≠ Str.ofString "step" := by rintro rfl; exact absurd h2 (by decide)
        simp only [if_neg q1, if_neg h1, h2, List.contains_nil, Bool.false_eq_true, if_false]
  case done =>
    rintro u nx h tk ⟨c, wv, zs, rfl, hwz, hzl, hzv⟩ F2 N2
    clear F1 N1 F0 N0 kk rg
    have F3 : Fr s.heap L' h _ := F2
    have N3 : News s.heap L' h [(lW, W.listOf wv.toArray c)] := N2
    clear F2 N2
    dsimp only
    k_steps
    dsimp only
    exact k _ _ _ _ _ _ F3.keep (N3 _ (.head _)).1 (N3 _ (.head _)).2.2 hwz hzl hzv
end Mine


namespace Mine
def SegL (h₀ : Heap) (L : Addr) (s : Shared) (P : (Str → Option Value) → List (Addr × Obj) → Prop) (s' : Shared) : Prop :=
  ∃ h tk m cells, s' = { s with heap := h, toks := tk } ∧ Fr h₀ L h m ∧ News h₀ L h cells ∧ P m cells
theorem SegL.mk {h₀ h : Heap} {L : Addr} {s : Shared} {P : (Str → Option Value) → List (Addr × Obj) → Prop} {tk : Nat} {m : Str → Option Value} {cells : List (Addr × Obj)} (F : Fr h₀ L h m) (N : News h₀ L h cells) (hP : P m cells) : SegL h₀ L s P { s with heap := h, toks := tk } := ⟨h, tk, m, cells, rfl, F, N, hP⟩
def P2 (l : Addr) (ca : Addr) (o2 o3 o4 : Obj) (m : Str → Option Value) (cells : List (Addr × Obj)) : Prop :=
  ∃ kd t1 n t2 o1, m (Str.ofString "kind") = some (.int kd t1) ∧ m (Str.ofString "script") = some (.ref l) ∧ cells = [(ca + 1 + 1 + 1 + 1, o4), (ca + 1 + 1 + 1, o3), (ca + 1 + 1, o2), (ca + 1, o1)] ∧ o1.data = .cell (some (.int n t2)) ∧ 0 ≤ kd ∧ kd ≤ 4 ∧ -2 ≤ n ∧ n ≤ 40 ∧ (kd = 3 → n = 4)
def P3 (l : Addr) (cs : List (Addr × Obj)) (n : Int) (len : Nat) (m : Str → Option Value) (cells : List (Addr × Obj)) : Prop :=
  ∃ kd t1, m (Str.ofString "kind") = some (.int kd t1) ∧ m (Str.ofString "script") = some (.ref l) ∧ cells = cs ∧ 0 ≤ kd ∧ kd ≤ 4 ∧ (kd = 3 → n = 4) ∧ (kd = 4 → 2 ≤ len ∧ 1 ≤ n)
/-- the odd part, on the way -/
def OddOf (n od : Int) : Prop := 1 ≤ od ∧ od ≤ 40 ∧ (1 ≤ n → ∃ k : Nat, k ≤ 6 ∧ n = od * ((2 ^ k : Nat) : Int)) ∧ od.fmod 2 ≠ 0
def OddW (n od : Int) : Prop := 1 ≤ od ∧ od ≤ 40 ∧ ∃ k : Nat, (if 1 > n then 1 else n) = od * ((2 ^ k : Nat) : Int)
def OddJ (l : Addr) (kd : Int) (t1 : Tok) (ca : Addr) (o4 o3 oN : Obj) (n : Int) (k : Nat) (m : Str → Option Value) (c : List (Addr × Obj)) : Prop :=
  m (Str.ofString "kind") = some (.int kd t1) ∧ m (Str.ofString "script") = some (.ref l) ∧ ∃ oD od t3, oD.data = .cell (some (.int od t3)) ∧ OddW n od ∧ k = od.toNat ∧ c = [(ca + 1 + 1 + 1 + 1, o4), (ca + 1 + 1 + 1, o3), (ca + 1 + 1, oD), (ca + 1, oN)]
def dtOf (od : Int) (ns : List Int) : List Int := ns.map fun x => ((x + 1000001).fmod 2000003 - 1000001) * od
def DataP (kd : Int) (t1 : Tok) (od : Int) (ns : List Int) (cs : List (Addr × Obj)) (m : Str → Option Value) (c : List (Addr × Obj)) : Prop :=
  m (Str.ofString "kind") = some (.int kd t1) ∧ ∃ (D G : Addr) (vs : List Value) (e f : Nat), m (Str.ofString "data") = some (.ref D) ∧ m (Str.ofString "given") = some (.ref G) ∧ IntsAre vs (dtOf od ns) ∧ c = (G, W.listOf vs.toArray e) :: (D, W.listOf vs.toArray f) :: cs
theorem dtOf_snoc {od : Int} {ns : List Int} {i : Nat} {k : Int} (h : ns[i]? = some k) : dtOf od (ns.take (i + 1)) = dtOf od (ns.take i) ++ [((k + 1000001).fmod 2000003 - 1000001) * od] := by
  unfold dtOf
  rw [List.take_add_one, h, List.map_append]
  rfl
def CutP (kd n : Int) (ds : List Int) (vals : List Value) (srt : List Int) : Prop :=
  srt.Perm ds ∧ srt.Pairwise (· ≤ ·) ∧ ((kd = 0 ∧ Cuts (fun k => fq (numI srt n (1 + (k : Int))) n) (n - 1).toNat vals.toArray) ∨ (1 ≤ kd ∧ kd ≤ 3 ∧ Cuts (fun k => fq (numE srt n (1 + (k : Int))) n) (n - 1).toNat vals.toArray))
/-- behind the try: told is told -/
def TryP (kd : Int) (t1 : Tok) (n : Int) (ds : List Int) (D G : Addr) (cs : List (Addr × Obj)) (m : Str → Option Value) (c : List (Addr × Obj)) : Prop :=
  m (Str.ofString "kind") = some (.int kd t1) ∧ m (Str.ofString "data") = some (.ref D) ∧ m (Str.ofString "given") = some (.ref G) ∧ ∃ (T : Addr) (e : Nat) (vals : List Value), m (Str.ofString "told") = some (.ref T) ∧ c = (T, W.listOf vals.toArray e) :: cs ∧ 1 ≤ n ∧ kd ≠ 4 ∧
    ((ds.length = 1 ∧ IntsAre vals (List.replicate (n - 1).toNat (ds.getD 0 0))) ∨ (2 ≤ ds.length ∧ ∃ srt : List Int, CutP kd n ds vals srt))
theorem dt_bound {n od : Int} {ns : List Int} (h : OddOf n od) {x : Int} (hx : x ∈ dtOf od ns) : x.natAbs < 2 ^ 27 := by
  unfold dtOf at hx
  obtain ⟨y, _, rfl⟩ := List.mem_map.mp hx
  have h1 := Int.fmod_nonneg_of_pos (y + 1000001) (show (0 : Int) < 2000003 by decide)
  have h2 := Int.fmod_lt_of_pos (y + 1000001) (show (0 : Int) < 2000003 by decide)
  generalize (y + 1000001).fmod 2000003 = r at h1 h2
  rw [Int.natAbs_mul]
  have h3 : (r - 1000001).natAbs ≤ 1000001 := by omega
  have h4 : od.natAbs ≤ 40 := by have := h.1; have := h.2.1; omega
  exact Nat.lt_of_le_of_lt (Nat.mul_le_mul h3 h4) (by decide)
def P1 (l : Addr) (cs : List (Addr × Obj)) (m : Str → Option Value) (cells : List (Addr × Obj)) : Prop :=
  ∃ kd t1, m (Str.ofString "kind") = some (.int kd t1) ∧ m (Str.ofString "script") = some (.ref l) ∧ cells = cs ∧ 0 ≤ kd ∧ kd ≤ 4
theorem fr_known1 {h₀ h : Heap} {L : Addr} {m : Str → Option Value} {a : Str} {x : Value} (F : Fr h₀ L h m) (e : m a = some x) : ∃ m0 : Str → Option Value, Fr h₀ L h (fun y => if y = a then some x else m0 y) := by
  refine ⟨m, ?_⟩
  have : (fun y => if y = a then some x else m y) = m := by
    funext w
    by_cases e1 : w = a
    · rw [if_pos e1, e1, e]
    · rw [if_neg e1]
  rw [this]; exact F
theorem oddW_start {n : Int} (h : n ≤ 40) : OddW n (if 1 > n then 1 else n) := by
  refine ⟨by split <;> omega, by split <;> omega, 0, by simp⟩
theorem oddW_half {n od : Int} (h : OddW n od) (he : od.fmod 2 = 0) : OddW n (od.fdiv 2) ∧ (od.fdiv 2).toNat < od.toNat := by
  obtain ⟨h1, h2, k, hk⟩ := h
  rw [Int.fmod_eq_emod_of_nonneg _ (by decide)] at he
  rw [Int.fdiv_eq_ediv_of_nonneg _ (by decide)]
  refine ⟨⟨by omega, by omega, k + 1, ?_⟩, by omega⟩
  rw [hk, Nat.pow_succ, Int.natCast_mul]
  have : od = (od / 2) * 2 := by omega
  conv => lhs; rw [this]
  rw [Int.mul_assoc, Int.mul_comm 2]
  rfl
theorem oddW_done {n od : Int} (hn : n ≤ 40) (h : OddW n od) (he : od.fmod 2 ≠ 0) : OddOf n od := by
  obtain ⟨h1, h2, k, hk⟩ := h
  refine ⟨h1, h2, fun h3 => ⟨k, ?_, ?_⟩, he⟩
  · rw [if_neg (by omega)] at hk
    refine Classical.byContradiction fun hc => ?_
    have h4 : (2 : Nat) ^ 7 ≤ 2 ^ k := Nat.pow_le_pow_right (by decide) (by omega)
    have h5 : (128 : Int) ≤ ((2 ^ k : Nat) : Int) := by omega
    have h6 : 1 * 128 ≤ od * ((2 ^ k : Nat) : Int) := Int.mul_le_mul h1 h5 (by decide) (by omega)
    omega
  · rw [if_neg (by omega)] at hk; exact hk
theorem n_lo (x : Int) : -2 ≤ x.fmod 43 - 2 := by
  have := Int.fmod_nonneg_of_pos x (show (0 : Int) < 43 by decide)
  omega
theorem n_hi (x : Int) : x.fmod 43 - 2 ≤ 40 := by
  have := Int.fmod_lt_of_pos x (show (0 : Int) < 43 by decide)
  omega
theorem fr2 {m : Str → Option Value} {a b : Str} {x y : Value} (h1 : m a = some x) (h2 : m b = some y) : m = fun w => if w = a then some x else if w = b then some y else m w := by
  funext w
  by_cases e1 : w = a
  · rw [if_pos e1, e1, h1]
  · rw [if_neg e1]
    by_cases e2 : w = b
    · rw [if_pos e2, e2, h2]
    · rw [if_neg e2]
theorem newsTl {h₀ h : Heap} {L : Addr} {p : Addr × Obj} {r : List (Addr × Obj)} (N : News h₀ L h (p :: r)) : News h₀ L h r := fun q hq => N q (.tail _ hq)
theorem fr3 {m : Str → Option Value} {a b c : Str} {x y z : Value} (h1 : m a = some x) (h2 : m b = some y) (h3 : m c = some z) : m = fun w => if w = a then some x else if w = b then some y else if w = c then some z else m w := by
  funext w
  by_cases e1 : w = a
  · rw [if_pos e1, e1, h1]
  · rw [if_neg e1]
    by_cases e2 : w = b
    · rw [if_pos e2, e2, h2]
    · rw [if_neg e2]
      by_cases e3 : w = c
      · rw [if_pos e3, e3, h3]
      · rw [if_neg e3]
theorem newsOut1 {h₀ h : Heap} {L : Addr} {p q : Addr × Obj} {r : List (Addr × Obj)} (N : News h₀ L h (p :: q :: r)) : News h₀ L h (p :: r) := fun x hx => N x (by
  rcases List.mem_cons.mp hx with rfl | hx
  · exact .head _
  · exact .tail _ (.tail _ hx))
theorem newsSub {h₀ h : Heap} {L : Addr} {a b : List (Addr × Obj)} (hs : ∀ p ∈ a, p ∈ b) (N : News h₀ L h b) : News h₀ L h a := fun p hp => N p (hs p hp)
theorem newsOut2 {h₀ h : Heap} {L : Addr} {p q u : Addr × Obj} {r : List (Addr × Obj)} (N : News h₀ L h (p :: q :: u :: r)) : News h₀ L h (p :: q :: r) := fun x hx => N x (by
  rcases List.mem_cons.mp hx with rfl | hx
  · exact .head _
  · rcases List.mem_cons.mp hx with rfl | hx
    · exact .tail _ (.head _)
    · exact .tail _ (.tail _ (.tail _ hx)))
theorem srt_eq {kd n : Int} {ds a b : List Int} {vals : List Value} (h1 : a.Perm ds) (h2 : a.Pairwise (· ≤ ·)) (h : CutP kd n ds vals b) : a = b :=
  List.Perm.eq_of_pairwise (fun _ _ _ _ h3 h4 => Int.le_antisymm h3 h4) h2 h.2.1 (h1.trans h.1.symm)
/-- the items of the way -/
def itemsOf (kd : Int) (srt : List Int) : List Int := if kd > 0 then [2 * srt.getD 0 0 - srt.getD 1 0] ++ srt ++ [2 * srt.getD (srt.length - 1) 0 - srt.getD (srt.length - 2) 0] else srt
theorem fr1 {m : Str → Option Value} {a : Str} {x : Value} (h1 : m a = some x) : m = fun w => if w = a then some x else m w := by
  funext w
  by_cases e1 : w = a
  · rw [if_pos e1, e1, h1]
  · rw [if_neg e1]
/-- the steps of the way -/
def WayP (itm zs : List Int) (N : Nat) : Prop := zs.length = (itm.length - 1) * N + 1 ∧ ∀ j, j < zs.length → zs.getD j 0 = interp (fun q => itm.getD q 0) N j
theorem fr4 {m : Str → Option Value} {a b c d : Str} {x y z u : Value} (h1 : m a = some x) (h2 : m b = some y) (h3 : m c = some z) (h4 : m d = some u) : m = fun w => if w = a then some x else if w = b then some y else if w = c then some z else if w = d then some u else m w := by
  funext w
  by_cases e1 : w = a
  · rw [if_pos e1, e1, h1]
  · rw [if_neg e1]
    exact congrFun (fr3 h2 h3 h4) w
end Mine


namespace Mine
theorem interp_scale (A C : Nat → Int) (od : Int) (h : ∀ q, A q = C q * od) (D p : Nat) : interp A D p = interp C D p * od := by
  unfold interp
  rw [h, h]
  generalize C (p / D) = a
  generalize C (p / D + 1) = b
  generalize (D : Int) - ((p % D : Nat) : Int) = u
  generalize ((p % D : Nat) : Int) = v
  rw [Int.add_mul]
  congr 1
  · rw [Int.mul_assoc, Int.mul_comm od, ← Int.mul_assoc]
  · rw [Int.mul_assoc, Int.mul_comm od, ← Int.mul_assoc]
theorem interp_congr (A C : Nat → Int) (G : Nat) (h : ∀ q, q ≤ G → A q = C q) {D p : Nat} (hD : 0 < D) (hp : p < G * D) : interp A D p = interp C D p := by
  have h1 : p / D < G := (Nat.div_lt_iff_lt_mul hD).mpr hp
  unfold interp
  rw [h _ (by omega), h _ (by omega)]
/-- a whole multiple of od, not too far off -/
def Mult (od : Int) (M : Nat) (x : Int) : Prop := ∃ c : Int, x = c * od ∧ c.natAbs ≤ M
theorem mult_zero (od : Int) (M : Nat) : Mult od M 0 := ⟨0, by simp, by simp⟩
theorem mult_up {od : Int} {M M' : Nat} {x : Int} (h : Mult od M x) (hM : M ≤ M') : Mult od M' x := let ⟨c, e, b⟩ := h; ⟨c, e, Nat.le_trans b hM⟩
theorem mult_wide {od a b : Int} {M : Nat} (ha : Mult od M a) (hb : Mult od M b) : Mult od (3 * M) (2 * a - b) := by
  obtain ⟨c, rfl, hc⟩ := ha
  obtain ⟨d, rfl, hd⟩ := hb
  exact ⟨2 * c - d, by rw [Int.sub_mul, Int.mul_assoc], by omega⟩
theorem dt_mult {od : Int} {ns : List Int} {x : Int} (hx : x ∈ dtOf od ns) : Mult od 1000001 x := by
  unfold dtOf at hx
  obtain ⟨y, _, rfl⟩ := List.mem_map.mp hx
  have h1 := Int.fmod_nonneg_of_pos (y + 1000001) (show (0 : Int) < 2000003 by decide)
  have h2 := Int.fmod_lt_of_pos (y + 1000001) (show (0 : Int) < 2000003 by decide)
  exact ⟨_, rfl, by omega⟩
theorem getD_P {ds : List Int} {P : Int → Prop} (h0 : P 0) (h : ∀ x ∈ ds, P x) (j : Nat) : P (ds.getD j 0) := getD_bound h0 h j
theorem items_mult {od kd : Int} {ns srt : List Int} (hp : ∀ x ∈ srt, x ∈ dtOf od ns) (q : Nat) : Mult od 3000003 ((itemsOf kd srt).getD q 0) := by
  have hs : ∀ x ∈ srt, Mult od 1000001 x := fun x hx => dt_mult (hp x hx)
  refine getD_P (P := Mult od 3000003) (mult_zero _ _) ?_ q
  intro x hx
  unfold itemsOf at hx
  split at hx
  · simp only [List.mem_append, List.mem_singleton, List.mem_cons, List.not_mem_nil, or_false] at hx
    rcases hx with (rfl | hx) | rfl
    · exact mult_wide (getD_P (mult_zero _ _) hs _) (getD_P (mult_zero _ _) hs _)
    · exact mult_up (hs x hx) (by decide)
    · exact mult_wide (getD_P (mult_zero _ _) hs _) (getD_P (mult_zero _ _) hs _)
  · exact mult_up (hs x hx) (by decide)
/-- the place of a cut on the way -/
def cutZ (itm : List Int) (N j : Nat) : Int := interp (fun q => itm.getD q 0) N ((j + 1) * (itm.length - 1))
theorem wide_getD {kd : Int} {srt : List Int} (h2 : 2 ≤ srt.length) (hk : kd > 0) (q : Nat) (hq : q ≤ srt.length + 1) : wideA srt q = (itemsOf kd srt).getD q 0 := by
  unfold itemsOf wideA
  rw [if_pos hk]
  cases q with
  | zero => rfl
  | succ q =>
    rw [if_neg (by omega), List.append_assoc, List.singleton_append, List.getD_cons_succ, Nat.succ_sub_one]
    simp only [List.getD_eq_getElem?_getD]
    by_cases h : q < srt.length
    · rw [if_pos (by omega), List.getElem?_append_left h]
    · have e : q = srt.length := by omega
      subst e
      rw [if_neg (by omega), List.getElem?_append_right (Nat.le_refl _)]
      simp
theorem cut_num {kd n : Int} {srt : List Int} {N j : Nat} (hN : n = (N : Int)) (h2 : 2 ≤ srt.length) (hj : j + 1 < N) :
    (kd = 0 → numI srt n (1 + (j : Int)) = cutZ (itemsOf kd srt) N j) ∧ (1 ≤ kd → numE srt n (1 + (j : Int)) = cutZ (itemsOf kd srt) N j) := by
  subst hN
  constructor
  · rintro rfl
    rw [numI_interp (by omega)]
    rfl
  · intro hk
    rw [numE_interp h2 hj]
    unfold cutZ
    have hl : (itemsOf kd srt).length - 1 = srt.length + 1 := by
      unfold itemsOf; rw [if_pos (by omega)]; simp
    rw [hl]
    refine interp_congr _ _ (srt.length + 1) (fun q hq => wide_getD h2 (by omega) q hq) (by omega) ?_
    rw [Nat.mul_comm (srt.length + 1)]
    exact Nat.mul_lt_mul_of_pos_right hj (by omega)
/-- what was told, as exact numbers -/
theorem cuts_exact {kd n od : Int} {ds srt ns : List Int} {vals : List Value} {N : Nat} (hod : OddOf n od) (hds : dtOf od ns = ds) (hn : 1 ≤ n) (hn4 : n ≤ 40) (hN : n = (N : Int)) (htwo : 2 ≤ ds.length) (hcp : CutP kd n ds vals srt) :
    vals.toArray.size = N - 1 ∧ ∃ e : Nat, e ≤ 6 ∧ ∀ j, j < N - 1 → ∃ x t, vals.toArray[j]? = some (.float x t) ∧ FinQ (Float64.mul x (Float64.ofInt n)) (cutZ (itemsOf kd srt) N j * ((2 ^ e : Nat) : Int)) e := by
  obtain ⟨hp, _, hc⟩ := hcp
  have hsl : srt.length = ds.length := hp.length_eq
  have hNn : (n - 1).toNat = N - 1 := by omega
  obtain ⟨e, he, hne⟩ := hod.2.2.1 hn
  have hmem : ∀ x ∈ srt, x ∈ dtOf od ns := fun x hx => hds ▸ hp.mem_iff.mp hx
  have key : ∀ (j : Nat) (z : Int), j + 1 < N → z = cutZ (itemsOf kd srt) N j → FinQ (Float64.mul (fq z n) (Float64.ofInt n)) (cutZ (itemsOf kd srt) N j * ((2 ^ e : Nat) : Int)) e := by
    intro j z hj hz
    obtain ⟨C, hC⟩ := Classical.axiomOfChoice (fun q => items_mult (kd := kd) hmem q)
    have h1 : cutZ (itemsOf kd srt) N j = interp C N ((j + 1) * ((itemsOf kd srt).length - 1)) * od := interp_scale _ C od (fun q => (hC q).1) _ _
    have h2 := interp_bound C (D := N) (M := 3000003) (by omega) (fun q => (hC q).2) ((j + 1) * ((itemsOf kd srt).length - 1))
    generalize interp C N ((j + 1) * ((itemsOf kd srt).length - 1)) = q at h1 h2
    have hq : q.natAbs ≤ 3000003 * 40 := Nat.le_trans h2 (Nat.mul_le_mul_left _ (by omega))
    have hx : FinQ (fq z n) q e := fq_exact (by omega) (by omega) (by omega) (by
      rw [hz, h1, hne, Int.mul_assoc])
    have hy := mulInt_exact hx (by omega) (show 0 < n by omega) (by omega) (by
      rw [Int.natAbs_mul]
      exact Nat.lt_of_le_of_lt (Nat.mul_le_mul hq (show n.natAbs ≤ 40 by omega)) (by decide))
    have e1 : q * n = cutZ (itemsOf kd srt) N j * ((2 ^ e : Nat) : Int) := by
      rw [h1, hne, Int.mul_assoc]
    rw [e1] at hy
    exact hy
  rcases hc with ⟨hk, hc⟩ | ⟨hk1, hk3, hc⟩
  · refine ⟨by rw [hc.1, hNn], e, he, fun j hj => ?_⟩
    obtain ⟨t, _, ht⟩ := hc.2 j (by omega)
    exact ⟨_, t, ht, key j _ (by omega) ((cut_num hN (by omega) (by omega)).1 hk)⟩
  · refine ⟨by rw [hc.1, hNn], e, he, fun j hj => ?_⟩
    obtain ⟨t, _, ht⟩ := hc.2 j (by omega)
    exact ⟨_, t, ht, key j _ (by omega) ((cut_num hN (by omega) (by omega)).2 hk1)⟩
theorem way_place {itm zs : List Int} {N i : Nat} (h : WayP itm zs N) (hl : 2 ≤ itm.length) (hi : i + 1 < N) : 0 ≤ (1 + (i : Int)) * ((itm.length : Int) - 1) ∧ (1 + (i : Int)) * ((itm.length : Int) - 1) < (zs.length : Int) ∧ zs.getD ((1 + (i : Int)) * ((itm.length : Int) - 1)).toNat 0 = cutZ itm N i := by
  have e : (1 + (i : Int)) * ((itm.length : Int) - 1) = (((i + 1) * (itm.length - 1) : Nat) : Int) := by
    rw [Int.natCast_mul]; congr 1 <;> omega
  have hlt : (i + 1) * (itm.length - 1) < zs.length := by
    rw [h.1, Nat.mul_comm (itm.length - 1)]
    have : (i + 1) * (itm.length - 1) ≤ N * (itm.length - 1) := Nat.mul_le_mul_right _ (by omega)
    omega
  rw [e]
  refine ⟨by omega, by omega, ?_⟩
  rw [Int.toNat_natCast, h.2 _ hlt]
  rfl
theorem ints_at {vs : List Value} {zs : List Int} (h : IntsAre vs zs) : ∀ {j : Nat}, j < zs.length → ∃ t, vs[j]? = some (.int (zs.getD j 0) t) := by
  induction h with
  | nil => intro j hj; exact absurd hj (Nat.not_lt_zero _)
  | cons a t _ ih =>
    intro j hj
    cases j with
    | zero => exact ⟨t, rfl⟩
    | succ j => exact ih (Nat.lt_of_succ_lt_succ hj)
open PySem.SeqAt in
theorem eqAt_fi {A : Around} {s : Shared} {x : UInt64} {t t' : Tok} {j : Int} {e : Nat} (he : e ≤ 1074) (hx : FinQ x (j * ((2 ^ e : Nat) : Int)) e) : EqAt A s (.float x t) (.int j t') true := by
  intro prog w E Q hq
  unfold eqBool
  refine wpAny_holding ?_
  refine wpAny_ite_split (fun _ => wpAny_bind (wpAny_rule (wpAny_pure hq))) (fun _ => ?_)
  refine wpAny_bind (eq_fi (wpAny_truthy_bool ?_))
  rw [cmpInt_exact hx he]; simpa using hq
end Mine


section
open Mine
local macro_rules | `(tactic| k_steps) => `(tactic| repeat' ((fail_if_success (with_reducible show wpAny _ _ (pyIter _) _ _ _)); (fail_if_success (with_reducible show wpAny _ _ (call (Value.ref _) _ _) _ _ _)); (fail_if_success (with_reducible show wpAny _ _ (eval (Expr.ListComp _ _ _ _) _) _ _ _)); (fail_if_success (with_reducible show LCt.CompSrcT _ _ _ _ _ _ _ _ _ _ _ _ _ _ _)); (fail_if_success (with_reducible show LCg.CompSrc _ _ _ _ _ _ _ _ _ _ _ _ _ _)); (fail_if_success (with_reducible show wpAny _ _ (storeName _ (Str.ofString "n") _) _ _ _)); (fail_if_success (with_reducible show wpAny _ _ (storeName _ (Str.ofString "odd") _) _ _ _)); (fail_if_success (with_reducible show wpAny _ _ (exec (Stmt.While _ _ _ _) _) _ _ _)); first | (k_unfold; (try dsimp only)) | (k_end; wrow_close) | walk1 | (dsimp only; walk1) | (leave1; walk_say "STEP leave1"; try dsimp only) | fail "no step"))
set_option maxHeartbeats 8000000 in
theorem PySem.Challenge.cw_dn0167_03_holds : PySem.Challenge.rw_dn0167_03.Holds := by
  refine hd ?_
  k_go0
  rename List Int => ns
  rename Shared => s1
  rename_i lAd vsV was hL ra w1 r0 hI hrw h63 htriv K0 hD hp1 tk1 F0 o4 o3 o2 o1 c4 c3 c2 c1 N0 X0
  obtain ⟨m0, F1⟩ := fr_known1 (a := Str.ofString "script") (x := .ref lAd) F0 (by kernel_rfl!)
  clear F0 X0 hD
  have c4' : o4.data = .cell none := c4
  have c3' : o3.data = .cell none := c3
  have c2' : o2.data = .cell none := c2
  have c1' : o1.data = .cell none := c1
  clear c1 c2 c3 c4
  rename_i wW _ _ _ _ _ _ _ _ _ _ _ KX _ _ _ TT _ _ _ _ _ _ _ _ _ _ _ _ _ _ _ _
  show wpAny _ _ _ _ _ _
  refine execs_cut (SegL s1.heap s1.heap.objs.size s1 (P1 lAd [(s1.heap.objs.size + 1 + 1 + 1 + 1, o4), (s1.heap.objs.size + 1 + 1 + 1, o3), (s1.heap.objs.size + 1 + 1, o2), (s1.heap.objs.size + 1, o1)])) 1 ?sg1 ?rs1
  case sg1 =>
    --SG 1
    show wpAny _ _ _ _ _ _
    dsimp only [List.take]
    k_fold
    k_steps
    rename Fr _ _ _ _ => F9
    rename News _ _ _ _ => N9
    have h1 := Int.fmod_nonneg_of_pos ((ns ++ [0]).getD (Int.toNat 0) 0) (show (0 : Int) < 5 by decide)
    have h2 := Int.fmod_lt_of_pos ((ns ++ [0]).getD (Int.toNat 0) 0) (show (0 : Int) < 5 by decide)
    exact SegL.mk F9 (newsTl (newsTl N9)) ⟨_, _, if_pos rfl, (if_neg (by decide)).trans (if_pos rfl), rfl, h1, by omega⟩
    --END 1
  case rs1 =>
  rintro s' ⟨h2, tk2, m2, cells2, rfl, F2, N2, kd, t1, hm1, hm2, rfl, hk0, hk4⟩
  rw [fr2 hm1 hm2] at F2
  clear hm1 hm2 F1 N0
  show wpAny _ _ _ _ _ _
  dsimp only [List.drop]
  refine execs_cut (SegL s1.heap s1.heap.objs.size s1 (P2 lAd s1.heap.objs.size o2 o3 o4)) 1 ?sg2 ?rs2
  case sg2 =>
    --SG 2
    show wpAny _ _ _ _ _ _
    dsimp only [List.take]
    k_fold
    k_steps
    · with_unfolding_all refine cell_1 F2 N2 c1' (by kernel_rfl!) ?_ rfl (by kernel_rfl!)
      intro h3 o1' F3 N3 d1
      show wpAny _ _ _ _ _ _
      k_steps
      exact SegL.mk F3 N3 ⟨_, _, _, _, _, if_pos rfl, (if_neg (by decide)).trans (if_pos rfl), rfl, d1, hk0, hk4, by decide, by decide, fun _ => rfl⟩
    · rename Fr _ _ _ _ => F9
      rename News _ _ _ _ => N9
      with_unfolding_all refine cell_1 F9 (newsTl (newsTl N9)) c1' (by kernel_rfl!) ?_ rfl (by kernel_rfl!)
      intro h3 o1' F3 N3 d1
      show wpAny _ _ _ _ _ _
      rename kd ≠ 3 => hk3
      refine wpAny_execs_nil ?_
      exact SegL.mk F3 N3 ⟨_, _, _, _, _, if_pos rfl, (if_neg (by decide)).trans (if_pos rfl), rfl, d1, hk0, hk4, n_lo _, n_hi _, fun h => absurd h hk3⟩
    --END 2
  case rs2 =>
  clear F2 N2 hk0 hk4 h2 m2 kd t1 tk2
  rintro s' ⟨h2, tk2, m2, cells2, rfl, F2, N2, kd, t1, n, t2, oN, hm1, hm2, rfl, cN, hk0, hk4, hn0, hn4, hk3⟩
  rw [fr2 hm1 hm2] at F2
  clear hm1 hm2
  show wpAny _ _ _ _ _ _
  dsimp only [List.drop]
  refine execs_cut (SegL s1.heap s1.heap.objs.size s1 (P3 lAd [(s1.heap.objs.size + 1 + 1 + 1 + 1, o4), (s1.heap.objs.size + 1 + 1 + 1, o3), (s1.heap.objs.size + 1 + 1, o2), (s1.heap.objs.size + 1, oN)] n ns.length)) 1 ?sg3 ?rs3
  case sg3 =>
    --SG 3
    show wpAny _ _ _ _ _ _
    dsimp only [List.take]
    k_fold
    k_steps
    all_goals (
      rename Fr _ _ _ _ => F9
      rename News _ _ _ _ => N9
      exact SegL.mk F9 N9 ⟨_, _, if_pos rfl, by first | exact (if_neg (by decide)).trans (if_pos rfl) | exact (if_neg (by decide)).trans ((if_neg (by decide)).trans (if_pos rfl)), rfl, by omega, by omega, fun h => by omega, fun h => by omega⟩)
    --END 3
  case rs3 =>
  clear hk3 F2 N2 hk0 hk4 h2 m2 kd t1 tk2
  rintro s' ⟨h2, tk2, m2, cells2, rfl, F2, N2, kd, t1, hm1, hm2, rfl, hk0, hk4, hk3, hk5⟩
  rw [fr2 hm1 hm2] at F2
  clear hm1 hm2
  show wpAny _ _ _ _ _ _
  dsimp only [List.drop]
  refine execs_cut (SegL s1.heap s1.heap.objs.size s1 (fun m c => m (Str.ofString "kind") = some (.int kd t1) ∧ m (Str.ofString "script") = some (.ref lAd) ∧ c = [(s1.heap.objs.size + 1 + 1 + 1 + 1, o4), (s1.heap.objs.size + 1 + 1 + 1, o3), (s1.heap.objs.size + 1 + 1, o2), (s1.heap.objs.size + 1, oN)])) 1 ?sg4 ?rs4
  case sg4 =>
    --SG 4
    show wpAny _ _ _ _ _ _
    dsimp only [List.take]
    k_fold
    k_steps
    refine LCt.ListComp_T (F₀ := F2) (by with_unfolding_all rfl) (by decide) (by rfl) (by decide) (by rfl) ?_
    k_steps
    rename Fr _ _ _ _ => F3
    rename News _ _ _ _ => N3
    rename IsRange _ _ _ _ _ _ _ _ => rg
    refine LCt.CompSrcT.range (by rfl) F3 N3 rg (by decide) (by rfl) (by rw [PySem.sizeLine_eq]; decide) ?_
    intro g'
    refine rest_T (fun _ ys => ys = []) rfl ?tn4 ?fn4
    case tn4 =>
      rintro i v I oI C oC D m₂ ys h tk E' hi ⟨te, rfl⟩ rfl hC hx F4 N4 off ne
      have hi4 : i < 4 := hi
      show wpAny _ _ _ _ _ _
      k_steps
      refine wpAny_call ?_
      with_unfolding_all refine refused_ok (base := s1.heap) K0 F4 N4 KX TT KX TT rfl rfl (by omega) (by omega) ?_
      intro h5 tk5 F5 N5
      show wpAny _ _ _ _ _ _
      k_steps
      exact comp_end (R := fun _ => _) F5 N5 off trivial rfl
    case fn4 =>
      rintro ys rfl
      k_steps
      rename Fr _ _ _ _ => F9
      rename News _ _ _ _ => N9
      exact SegL.mk F9 (newsTl (newsTl N9)) ⟨if_pos rfl, (if_neg (by decide)).trans (if_pos rfl), rfl⟩
    --END 4
  case rs4 =>
  clear F2 N2 h2 m2 tk2
  rintro s' ⟨h2, tk2, m2, cells2, rfl, F2, N2, hm1, hm2, rfl⟩
  rw [fr2 hm1 hm2] at F2
  clear hm1 hm2
  show wpAny _ _ _ _ _ _
  dsimp only [List.drop]
  refine execs_cut (SegL s1.heap s1.heap.objs.size s1 (fun m c => m (Str.ofString "kind") = some (.int kd t1) ∧ m (Str.ofString "script") = some (.ref lAd) ∧ ∃ oD, (∃ od t3, oD.data = .cell (some (.int od t3)) ∧ OddOf n od) ∧ c = [(s1.heap.objs.size + 1 + 1 + 1 + 1, o4), (s1.heap.objs.size + 1 + 1 + 1, o3), (s1.heap.objs.size + 1 + 1, oD), (s1.heap.objs.size + 1, oN)])) 2 ?sg5 ?rs5
  case sg5 =>
    --SG 5
    show wpAny _ _ _ _ _ _
    dsimp only [List.take]
    k_fold
    k_steps
    rename Fr _ _ _ _ => F3
    rename News _ _ _ _ => N3
    with_unfolding_all refine cell_2 F3 N3 c2' (by kernel_rfl!) ?_ rfl (by kernel_rfl!)
    intro h4 oD F4 N4 cD
    clear F3 N3
    show wpAny _ _ _ _ _ _
    k_steps
    with_unfolding_all refine While_inv (n₀ := (if 1 > n then 1 else n).toNat) (OddJ lAd kd t1 s1.heap.objs.size o4 o3 oN n) F4 N4 ?hj5 ?tn5 ?hE5
    case hE5 => passes_own
    case hj5 => exact ⟨if_pos rfl, (if_neg (by decide)).trans (if_pos rfl), oD, _, _, cD, oddW_start hn4, rfl, rfl⟩
    case tn5 =>
      rintro k5 m5 c5 h5 tk5 F5 N5 ⟨hm1, hm2, oD5, od, t3, cD5, hod, rfl, rfl⟩
      rw [fr2 hm1 hm2] at F5
      clear hm1 hm2 F4 N4 cD
      show wpAny _ _ _ _ _ _
      k_steps
      · rename News _ _ _ _ => N9
        with_unfolding_all refine cell_2 F5 N9 cD5 (by kernel_rfl!) ?_ rfl (by kernel_rfl!)
        intro h6 oD6 F6 N6 cD6
        clear F5 N9
        show wpAny _ _ _ _ _ _
        k_steps
        rename od.fmod 2 = 0 => he5
        have h7 := oddW_half hod he5
        exact WhileStep.intro F6 N6 h7.2 ⟨if_pos rfl, (if_neg (by decide)).trans (if_pos rfl), oD6, _, _, cD6, h7.1, rfl, rfl⟩
      · rename od.fmod 2 ≠ 0 => he5
        rename News _ _ _ _ => N9
        exact SegL.mk F5 N9 ⟨if_pos rfl, (if_neg (by decide)).trans (if_pos rfl), oD5, ⟨_, _, cD5, oddW_done hn4 hod he5⟩, rfl⟩
    --END 5
  case rs5 =>
  clear F2 N2 h2 m2 tk2
  rintro s' ⟨h2, tk2, m2, cells2, rfl, F2, N2, hm1, hm2, oD, ⟨od, t3, cD, hod⟩, rfl⟩
  rw [fr2 hm1 hm2] at F2
  clear hm1 hm2
  show wpAny _ _ _ _ _ _
  dsimp only [List.drop]
  refine execs_cut (SegL s1.heap s1.heap.objs.size s1 (DataP kd t1 od ns [(s1.heap.objs.size + 1 + 1 + 1 + 1, o4), (s1.heap.objs.size + 1 + 1 + 1, o3), (s1.heap.objs.size + 1 + 1, oD), (s1.heap.objs.size + 1, oN)])) 2 ?sg6 ?rs6
  case sg6 =>
    --SG 6
    show wpAny _ _ _ _ _ _
    dsimp only [List.take]
    k_fold
    k_steps
    rename Fr _ _ _ _ => F3
    rename News _ _ _ _ => N3
    refine LCg.CompSrc.base (by rfl) F3 N3 hL (by rw [PySem.sizeLine_eq, List.size_toArray, hI.length]; omega) ?_
    intro g'
    refine rest_U (fun i ys => IntsAre ys (dtOf od (ns.take i))) .nil ?tn6 ?fn6
    case tn6 =>
      rintro i v I oI C oC D m₂ ys h tk E' hi hv hJ hC hx F4 N4 off ne
      obtain ⟨k6, t6, rfl, hk6⟩ := IntsAre.at hI i v (by simpa using hv)
      clear F3 N3
      show wpAny _ _ _ _ _ _
      k_steps
      dsimp only
      exact comp_end (R := fun y => IntsAre (ys ++ [y]) (dtOf od (ns.take (i + 1)))) F4 N4 off (.inl hL) (by rw [dtOf_snoc hk6]; exact IntsAre.append hJ (.cons _ _ .nil))
    case fn6 =>
      intro ys hJ
      have hJ2 : IntsAre ys (dtOf od ns) := by
        have hl : vsV.toArray.size = ns.length := by rw [List.size_toArray, hI.length]
        rw [hl, List.take_length] at hJ
        exact hJ
      clear hJ F3 N3
      have hyl : ys.length ≤ 63 := by rw [hJ2.length, dtOf, List.length_map]; omega
      k_steps
      rename Fr _ _ _ _ => F3
      rename News _ _ _ _ => N3
      exact SegL.mk F3 N3 ⟨(if_neg (by decide)).trans ((if_neg (by decide)).trans (if_pos rfl)), _, _, ys, _, _, (if_neg (by decide)).trans (if_pos rfl), if_pos rfl, hJ2, rfl⟩
    --END 6
  case rs6 =>
  clear F2 N2 h2 m2 tk2
  rintro s' ⟨h2, tk2, m2, cells2, rfl, F2, N2, hm1, aD, aG, vd, eG, eD, hm2, hm3, hvd, rfl⟩
  rw [fr3 hm1 hm2 hm3] at F2
  clear hm1 hm2 hm3
  have hdl : (dtOf od ns).length = ns.length := by rw [dtOf, List.length_map]
  show wpAny _ _ _ _ _ _
  dsimp only [List.drop]
  generalize hds : dtOf od ns = ds at hvd hdl
  refine execs_cut (SegL s1.heap s1.heap.objs.size s1 (TryP kd t1 n ds aD aG [(aG, W.listOf vd.toArray eG), (aD, W.listOf vd.toArray eD), (s1.heap.objs.size + 1 + 1 + 1 + 1, o4), (s1.heap.objs.size + 1 + 1 + 1, o3), (s1.heap.objs.size + 1 + 1, oD), (s1.heap.objs.size + 1, oN)])) 1 ?sg7 ?rs7
  case sg7 =>
    show wpAny _ _ _ _ _ _
    dsimp only [List.take]
    k_fold
    k_steps
    refine wpAny_Try_except ?_
    show wpAny _ _ _ _ _ _
    k_steps
    rename Fr _ _ _ _ => F3
    rename News _ _ _ _ => N3
    by_cases hB : n < 1 ∨ ds.length = 0
    · --SG 7
      refine wpAny_call ?_
      with_unfolding_all refine told_raise0 K0 F3 N3 KX TT rfl rfl hvd hB (by omega) hk0 (by omega) hk3 ?_
      intro h8 tk8 e8 t8 av8 g8 nw8 hs8 F8 U8 R8
      clear F3 N3
      show wpAny _ _ _ _ _ _
      with_unfolding_all refine land_X (outer := []) rfl rfl F8 U8 R8 ?_
      intro h9 F9 R10
      clear R8 U8 F8
      with_unfolding_all refine handler_yes F9 R10 KX (topRead_of TT) (.inl (by k_is)) (by kts_exm) ?_ rfl rfl rfl
      intro h10 F10 N10
      have N11 := fun p hp => N10 p (hs8 p hp)
      clear F9 R10 N10
      have N12 : News s1.heap s1.heap.objs.size h10 [(aG, W.listOf vd.toArray eG), (aD, W.listOf vd.toArray eD), (s1.heap.objs.size + 1 + 1 + 1 + 1, o4), (s1.heap.objs.size + 1 + 1 + 1, o3), (s1.heap.objs.size + 1 + 1, oD), (s1.heap.objs.size + 1, oN)] := N11
      clear N11
      show wpAny _ _ _ _ _ _
      k_steps
      --END 7
    by_cases hC : kd = 4
    · --SG 8
      refine wpAny_call ?_
      with_unfolding_all refine told_raiseV K0 F3 N3 KX TT rfl rfl hvd (by omega) (by omega) (by have := hk5 hC; omega) (by omega) hC ?_
      intro h8 tk8 e8 t8 av8 g8 nw8 hs8 F8 U8 R8
      clear F3 N3
      show wpAny _ _ _ _ _ _
      with_unfolding_all refine land_X (outer := []) rfl rfl F8 U8 R8 ?_
      intro h9 F9 R10
      clear R8 U8 F8
      with_unfolding_all refine handler_no F9 R10 KX (topRead_of TT) (.inl (by k_is)) (by kts_exm) ?_ rfl rfl rfl
      with_unfolding_all refine handler_yes F9 R10 KX (topRead_of TT) (by kts_nm) (by kts_exm) ?_ rfl rfl rfl
      intro h10 F10 N10
      have N11 := fun p hp => N10 p (hs8 p hp)
      clear F9 R10 N10
      have N12 : News s1.heap s1.heap.objs.size h10 [(aG, W.listOf vd.toArray eG), (aD, W.listOf vd.toArray eD), (s1.heap.objs.size + 1 + 1 + 1 + 1, o4), (s1.heap.objs.size + 1 + 1 + 1, o3), (s1.heap.objs.size + 1 + 1, oD), (s1.heap.objs.size + 1, oN)] := N11
      clear N11
      show wpAny _ _ _ _ _ _
      k_steps
      --END 8
    --SG 9
    have hlg := N3 _ (.head _)
    by_cases hone : ds.length = 1
    · refine wpAny_call ?_
      with_unfolding_all refine told_one K0 F3 KX TT rfl rfl rfl (by show (callerA.depth + 1) + 1 < 900; decide) rfl ⟨_, hlg.1, rfl, _, rfl⟩ hvd hone (by omega) (by omega) hk0 (by omega) hk3 ?_
      intro h8 tk8 r8 e8 vals8 st8 g8 f8 i8
      have F8 := back_fr F3 st8
      have N8 := back_new F3 N3 st8 g8 f8
      clear F3 N3
      show wpAny _ _ _ _ _ _
      k_steps
      rename Fr _ _ _ _ => F9
      rename News _ _ _ _ => N9
      exact SegL.mk F9 N9 ⟨(if_neg (by decide)).trans (if_pos rfl), (if_neg (by decide)).trans ((if_neg (by decide)).trans (if_pos rfl)), (if_neg (by decide)).trans ((if_neg (by decide)).trans ((if_neg (by decide)).trans (if_pos rfl))), r8, _, _, if_pos rfl, rfl, by omega, hC, .inl ⟨hone, i8⟩⟩
    have hbd : ∀ x ∈ ds, x.natAbs < 2 ^ 1000 := fun x hx => Nat.lt_trans (dt_bound hod (hds ▸ hx)) (by decide +kernel)
    by_cases hk00 : kd = 0
    · refine wpAny_call ?_
      with_unfolding_all refine told_incl K0 F3 KX TT rfl rfl rfl (by show (callerA.depth + 1) + 1 < 900; decide) rfl ⟨_, hlg.1, rfl, _, rfl⟩ hvd (by omega) (by omega) (by omega) (by omega) hbd hk00 ?_
      intro h8 tk8 r8 e8 vals8 srt8 st8 g8 f8 p8 w8 c8
      obtain ⟨vals8, rfl⟩ : ∃ vl : List Value, vals8 = vl.toArray := ⟨vals8.toList, by simp⟩
      have F8 := back_fr F3 st8
      have N8 := back_new F3 N3 st8 g8 f8
      clear F3 N3
      show wpAny _ _ _ _ _ _
      k_steps
      rename Fr _ _ _ _ => F9
      rename News _ _ _ _ => N9
      exact SegL.mk F9 N9 ⟨(if_neg (by decide)).trans (if_pos rfl), (if_neg (by decide)).trans ((if_neg (by decide)).trans (if_pos rfl)), (if_neg (by decide)).trans ((if_neg (by decide)).trans ((if_neg (by decide)).trans (if_pos rfl))), r8, _, _, if_pos rfl, rfl, by omega, hC, .inr ⟨by omega, srt8, p8, w8, .inl ⟨hk00, c8⟩⟩⟩
    · refine wpAny_call ?_
      with_unfolding_all refine told_excl K0 F3 KX TT rfl rfl rfl (by show (callerA.depth + 1) + 1 < 900; decide) rfl ⟨_, hlg.1, rfl, _, rfl⟩ hvd (by omega) (by omega) (by omega) (by omega) hbd (by omega) (by omega) hk3 ?_
      intro h8 tk8 r8 e8 vals8 srt8 st8 g8 f8 p8 w8 c8
      obtain ⟨vals8, rfl⟩ : ∃ vl : List Value, vals8 = vl.toArray := ⟨vals8.toList, by simp⟩
      have F8 := back_fr F3 st8
      have N8 := back_new F3 N3 st8 g8 f8
      clear F3 N3
      show wpAny _ _ _ _ _ _
      k_steps
      rename Fr _ _ _ _ => F9
      rename News _ _ _ _ => N9
      exact SegL.mk F9 N9 ⟨(if_neg (by decide)).trans (if_pos rfl), (if_neg (by decide)).trans ((if_neg (by decide)).trans (if_pos rfl)), (if_neg (by decide)).trans ((if_neg (by decide)).trans ((if_neg (by decide)).trans (if_pos rfl))), r8, _, _, if_pos rfl, rfl, by omega, hC, .inr ⟨by omega, srt8, p8, w8, .inr ⟨by omega, by omega, c8⟩⟩⟩
    --END 9
  case rs7 =>
  clear F2 N2 h2 m2 tk2
  rintro s' ⟨h2, tk2, m2, cells2, rfl, F2, N2, hm1, hm2, hm3, aT, eT, vT, hm4, rfl, hn1, hk44, hT⟩
  rw [fr4 hm1 hm2 hm3 hm4] at F2
  clear hm1 hm2 hm3 hm4
  show wpAny _ _ _ _ _ _
  dsimp only [List.drop]
  refine execs_cut (SegL s1.heap s1.heap.objs.size s1 (fun m c => m (Str.ofString "kind") = some (.int kd t1) ∧ m (Str.ofString "data") = some (.ref aD) ∧ m (Str.ofString "told") = some (.ref aT) ∧ c = [(aT, W.listOf vT.toArray eT), (aD, W.listOf vd.toArray eD), (s1.heap.objs.size + 1 + 1 + 1 + 1, o4), (s1.heap.objs.size + 1 + 1 + 1, o3), (s1.heap.objs.size + 1 + 1, oD), (s1.heap.objs.size + 1, oN)])) 1 ?sg10 ?rs10
  case sg10 =>
    --SG 10
    show wpAny _ _ _ _ _ _
    dsimp only [List.take]
    k_fold
    k_steps
    exact SegL.mk F2 (newsOut1 N2) ⟨if_pos rfl, (if_neg (by decide)).trans (if_pos rfl), (if_neg (by decide)).trans ((if_neg (by decide)).trans ((if_neg (by decide)).trans (if_pos rfl))), rfl⟩
    --END 10
  case rs10 =>
  clear F2 N2 h2 m2 tk2
  rintro s' ⟨h2, tk2, m2, cells2, rfl, F2, N2, hm1, hm2, hm3, rfl⟩
  rw [fr3 hm1 hm2 hm3] at F2
  clear hm1 hm2 hm3
  show wpAny _ _ _ _ _ _
  dsimp only [List.drop]
  rcases hT with ⟨hone, iT⟩ | ⟨htwo, srt, hcp⟩
  · --SG 11
    show wpAny _ _ _ _ _ _
    k_fold
    k_steps
    all_goals obtain ⟨d1, rfl⟩ := List.length_eq_one_iff.mp hone
    all_goals try (exfalso; simp at *; done)
    all_goals try (exfalso; rename (List.replicate _ _ ≠ List.flatten _) => hne; exact hne (by rw [List.flatten_replicate_singleton]; rfl))
    rename Fr _ _ _ _ => F3
    rename News _ _ _ _ => N3
    refine LCt.ListComp_T (F₀ := F3) (by with_unfolding_all rfl) (by decide) (by rfl) (by decide) (by rfl) ?_
    k_steps
    refine LCt.CompSrcT.ledger (by rfl) F3 N3 (.tail _ (.head _)) (by rw [PySem.sizeLine_eq, List.size_toArray, iT.length, List.length_replicate]; omega) ?_
    intro g'
    refine rest_T (fun _ ys => ys = []) rfl ?tn11 ?fn11
    case tn11 =>
      rintro i v I oI C oC D m₂ ys h tk E' hi hv rfl hC hx F4 N4 off ne
      obtain ⟨k6, t6, rfl, hk6⟩ := IntsAre.at iT i v (by simpa using hv)
      clear F3 N3 F2
      show wpAny _ _ _ _ _ _
      k_steps
      exact comp_end (R := fun _ => _) F4 N4 off (.inr ⟨_, .tail _ (.head _), rfl, _, rfl⟩) (by first | rfl | trivial)
    case fn11 =>
      rintro ys rfl
      clear F3 N3 F2
      k_steps
    --END 11
  refine execs_cut (SegL s1.heap s1.heap.objs.size s1 (fun m c => m (Str.ofString "kind") = some (.int kd t1) ∧ m (Str.ofString "told") = some (.ref aT) ∧ ∃ (aI : Addr) (vI : List Value) (eI : Nat) (o3' : Obj), IntsAre vI srt ∧ o3'.data = .cell (some (.ref aI)) ∧ c = [(aI, W.listOf vI.toArray eI), (aT, W.listOf vT.toArray eT), (s1.heap.objs.size + 1 + 1 + 1 + 1, o4), (s1.heap.objs.size + 1 + 1 + 1, o3'), (s1.heap.objs.size + 1 + 1, oD), (s1.heap.objs.size + 1, oN)])) 2 ?sg12 ?rs12
  case sg12 =>
    --SG 12
    show wpAny _ _ _ _ _ _
    dsimp only [List.take]
    k_fold
    repeat' ((fail_if_success (with_reducible show wpAny _ _ (binaryOp Operator.Mult (Value.ref _) _) _ _ _)); (fail_if_success (with_reducible show wpAny _ _ (storeName _ (Str.ofString "items") _) _ _ _)); first | (k_unfold; (try dsimp only)) | (k_end; wrow_close) | walk1 | (dsimp only; walk1) | (leave1; walk_say "STEP leave1"; try dsimp only))
    all_goals try (exfalso; omega)
    rename Fr _ _ _ _ => F3
    rename News _ _ _ _ => N3
    rename IntsAre _ _ => i3
    rename List.Pairwise _ _ => o3w
    rename List.Perm _ _ => p3w
    rename_i aI vI nI eI hI3 _ _ _ _ _
    have hsrt : nI = srt := srt_eq p3w o3w hcp
    subst hsrt
    with_unfolding_all refine cell_3p (pre := [(aI, W.listOf vI.toArray eI), (aT, W.listOf vT.toArray eT)]) F3 (newsOut2 N3) (fun p hp u => by rcases List.mem_cons.mp hp with rfl | hp <;> first | exact (fun e => by cases e) | (rw [List.mem_singleton.mp hp]; exact (fun e => by cases e))) c3' (by kernel_rfl!) ?_ rfl (by kernel_rfl!)
    intro h4 oI F4 N4 cI
    clear F3 N3
    show wpAny _ _ _ _ _ _
    k_steps
    exact SegL.mk F4 N4 ⟨if_pos rfl, (if_neg (by decide)).trans ((if_neg (by decide)).trans (if_pos rfl)), aI, vI, eI, oI, i3, cI, rfl⟩
    --END 12
  case rs12 =>
  clear F2 N2 h2 m2 tk2
  rintro s' ⟨h2, tk2, m2, cells2, rfl, F2, N2, hm1, hm2, aI, vI, eI, oI, iI, cI, rfl⟩
  rw [fr2 hm1 hm2] at F2
  clear hm1 hm2
  have hsl : srt.length = ds.length := hcp.1.length_eq
  show wpAny _ _ _ _ _ _
  dsimp only [List.drop]
  refine execs_cut (SegL s1.heap s1.heap.objs.size s1 (fun m c => m (Str.ofString "told") = some (.ref aT) ∧ ∃ (aJ : Addr) (vJ : List Value) (eJ : Nat) (oJ : Obj), IntsAre vJ (itemsOf kd srt) ∧ oJ.data = .cell (some (.ref aJ)) ∧ c = [(aJ, W.listOf vJ.toArray eJ), (aT, W.listOf vT.toArray eT), (s1.heap.objs.size + 1 + 1 + 1 + 1, o4), (s1.heap.objs.size + 1 + 1 + 1, oJ), (s1.heap.objs.size + 1 + 1, oD), (s1.heap.objs.size + 1, oN)])) 1 ?sg13 ?rs13
  case sg13 =>
    --SG 13
    show wpAny _ _ _ _ _ _
    dsimp only [List.take]
    k_fold
    repeat' ((fail_if_success (with_reducible show wpAny _ _ (storeName _ (Str.ofString "items") _) _ _ _)); first | (k_unfold; (try dsimp only)) | (k_end; wrow_close) | walk1 | (dsimp only; walk1) | (leave1; walk_say "STEP leave1"; try dsimp only))
    · rename Fr _ _ _ _ => F3
      rename News _ _ _ _ => N3
      rename IntsAre _ _ => i3
      rename_i aJ vJ hJ3 _
      have i4 : IntsAre vJ (itemsOf kd srt) := by
        unfold itemsOf
        rw [if_pos (by assumption)]
        have e1 : (-1 + (srt.length : Int)).toNat = srt.length - 1 := by omega
        have e2 : (-2 + (srt.length : Int)).toNat = srt.length - 2 := by omega
        rw [e1, e2] at i3
        exact i3
      with_unfolding_all refine cell_3p (pre := [(aJ, W.listOf vJ.toArray 0), (aT, W.listOf vT.toArray eT)]) F3 (newsSub (by lcg_sub) N3) (fun p hp u => by rcases List.mem_cons.mp hp with rfl | hp <;> first | exact (fun e => by cases e) | (rw [List.mem_singleton.mp hp]; exact (fun e => by cases e))) cI (by kernel_rfl!) ?_ rfl (by kernel_rfl!)
      intro h4 oJ F4 N4 cJ
      clear F3 N3
      show wpAny _ _ _ _ _ _
      k_steps
      exact SegL.mk F4 N4 ⟨(if_neg (by decide)).trans (if_pos rfl), aJ, vJ, _, oJ, i4, cJ, rfl⟩
    · refine SegL.mk F2 N2 ⟨(if_neg (by decide)).trans (if_pos rfl), aI, vI, _, oI, ?_, cI, rfl⟩
      unfold itemsOf
      rw [if_neg (by assumption)]
      exact iI
    --END 13
  case rs13 =>
  clear F2 N2 h2 m2 tk2 iI cI
  rintro s' ⟨h2, tk2, m2, cells2, rfl, F2, N2, hm1, aJ, vJ, eJ, oJ, iJ, cJ, rfl⟩
  rw [fr1 hm1] at F2
  clear hm1
  have hit : 2 ≤ (itemsOf kd srt).length ∧ (itemsOf kd srt).length < 80 := by
    unfold itemsOf; split <;> (try simp only [List.length_append, List.length_cons, List.length_nil]) <;> omega
  generalize hitm : itemsOf kd srt = itm at iJ hit
  obtain ⟨N0, hN0⟩ : ∃ N0 : Nat, n = (N0 : Int) := ⟨n.toNat, by omega⟩
  show wpAny _ _ _ _ _ _
  dsimp only [List.drop]
  refine execs_cut (SegL s1.heap s1.heap.objs.size s1 (fun m c => m (Str.ofString "told") = some (.ref aT) ∧ ∃ (aW : Addr) (vW : List Value) (eW : Nat) (oW : Obj) (zs : List Int), IntsAre vW zs ∧ WayP itm zs N0 ∧ oW.data = .cell (some (.ref aW)) ∧ c = [(aW, W.listOf vW.toArray eW), (aJ, W.listOf vJ.toArray eJ), (aT, W.listOf vT.toArray eT), (s1.heap.objs.size + 1 + 1 + 1 + 1, oW), (s1.heap.objs.size + 1 + 1 + 1, oJ), (s1.heap.objs.size + 1 + 1, oD), (s1.heap.objs.size + 1, oN)])) 1 ?sg14 ?rs14
  case sg14 =>
    --SG 14
    show wpAny _ _ _ _ _ _
    dsimp only [List.take]
    k_fold
    k_steps
    rename Fr _ _ _ _ => F3
    rename News _ _ _ _ => N3
    refine wpAny_call ?_
    have hlj := N3 _ (.head _)
    with_unfolding_all refine way_ok K0 F3 KX TT rfl rfl rfl (by show (callerA.depth + 1) + 0 < 900; decide) rfl ⟨_, hlj.1, rfl, _, rfl⟩ iJ hit.1 hit.2 hN0 (by omega) (by omega) ?_
    intro h8 tk8 r8 c8 us8 zs8 st8 g8 f8 i8 l8 z8
    have F8 := back_fr F3 st8
    have N8 := back_new F3 N3 st8 g8 f8
    clear F3 N3
    show wpAny _ _ _ _ _ _
    with_unfolding_all refine cell_4p (pre := [(r8, W.listOf us8.toArray c8), (aJ, W.listOf vJ.toArray eJ), (aT, W.listOf vT.toArray eT)]) F8 N8 (fun p hp u => by
      rcases List.mem_cons.mp hp with rfl | hp
      · exact (fun e => by cases e)
      rcases List.mem_cons.mp hp with rfl | hp
      · exact (fun e => by cases e)
      · rw [List.mem_singleton.mp hp]; exact (fun e => by cases e)) c4' (by kernel_rfl!) ?_ rfl (by kernel_rfl!)
    intro h9 oW F9 N9 cW
    clear F8 N8
    show wpAny _ _ _ _ _ _
    k_steps
    exact SegL.mk F9 N9 ⟨if_pos rfl, r8, us8, _, oW, zs8, i8, ⟨l8, z8⟩, cW, rfl⟩
    --END 14
  case rs14 =>
  clear F2 N2 h2 m2 tk2
  rintro s' ⟨h2, tk2, m2, cells2, rfl, F2, N2, hm1, aW, vW, eW, oW, zs, iW, hway, cW, rfl⟩
  rw [fr1 hm1] at F2
  clear hm1
  show wpAny _ _ _ _ _ _
  dsimp only [List.drop]
  refine execs_cut (SegL s1.heap s1.heap.objs.size s1 (fun m c => m (Str.ofString "told") = some (.ref aT) ∧ c = [(aW, W.listOf vW.toArray eW), (aJ, W.listOf vJ.toArray eJ), (aT, W.listOf vT.toArray eT), (s1.heap.objs.size + 1 + 1 + 1 + 1, oW), (s1.heap.objs.size + 1 + 1 + 1, oJ), (s1.heap.objs.size + 1 + 1, oD), (s1.heap.objs.size + 1, oN)])) 1 ?sg15 ?rs15
  case sg15 =>
    --SG 15
    obtain ⟨fT, hfT⟩ : ∃ f, Cuts f (n - 1).toNat vT.toArray := hcp.2.2.elim (fun h => ⟨_, h.2⟩) fun h => ⟨_, h.2.2⟩
    show wpAny _ _ _ _ _ _
    dsimp only [List.take]
    k_fold
    k_steps
    refine LCt.ListComp_T (F₀ := F2) (by with_unfolding_all rfl) (by decide) (by rfl) (by decide) (by rfl) ?_
    k_steps
    rename Fr _ _ _ _ => F3
    rename News _ _ _ _ => N3
    refine LCt.CompSrcT.ledger (by rfl) F3 N3 (.tail _ (.tail _ (.head _))) (by rw [PySem.sizeLine_eq, hfT.1]; omega) ?_
    intro g'
    refine rest_T (fun _ ys => ys = []) rfl ?tn15 ?fn15
    case tn15 =>
      rintro i v I oI C oC D m₂ ys h tk E' hi hv rfl hC hx F4 N4 off ne
      obtain ⟨t6, _, hv6⟩ := hfT.2 i (by rw [← hfT.1]; exact hi)
      have hv7 : v = .float (fT i) t6 := Option.some.inj (hv.symm.trans hv6)
      subst hv7
      clear F3 N3
      show wpAny _ _ _ _ _ _
      k_steps
      exact comp_end (R := fun _ => _) F4 N4 off (.inr ⟨_, .tail _ (.tail _ (.head _)), rfl, _, rfl⟩) (by first | rfl | trivial)
    case fn15 =>
      rintro ys rfl
      clear F3 N3
      k_steps
      rename Fr _ _ _ _ => F9
      rename News _ _ _ _ => N9
      exact SegL.mk F9 (newsTl (newsTl N9)) ⟨if_pos rfl, rfl⟩
    --END 15
  case rs15 =>
  clear F2 N2 h2 m2 tk2
  rintro s' ⟨h2, tk2, m2, cells2, rfl, F2, N2, hm1, rfl⟩
  rw [fr1 hm1] at F2
  clear hm1
  show wpAny _ _ _ _ _ _
  dsimp only [List.drop]
  --SG 16
  obtain ⟨hsz, e0, he0, hcx⟩ := cuts_exact hod hds hn1 hn4 hN0 htwo hcp
  rw [hitm] at hcx
  k_fold
  k_steps
  refine LCg.ListComp_U (F₀ := F2) (by with_unfolding_all rfl) (by decide) (by rfl) (by decide) (by rfl) ?_
  k_steps
  rename Fr _ _ _ _ => F3
  rename News _ _ _ _ => N3
  refine LCg.CompSrc.ledger (by rfl) F3 N3 (.tail _ (.tail _ (.head _))) (by rw [PySem.sizeLine_eq, hsz]; omega) ?_
  intro g'
  refine rest_U (AllAt (fun j v => ∃ x t, v = .float x t ∧ FinQ x (cutZ itm N0 j * ((2 ^ e0 : Nat) : Int)) e0)) (AllAt.nil _) ?tn16 ?fn16
  case tn16 =>
    rintro i v I oI C oC D m₂ ys h tk E' hi hv hJ hC hx F4 N4 off ne
    obtain ⟨x6, t6, hv6, hx6⟩ := hcx i (by rw [← hsz]; exact hi)
    have hv7 : v = .float x6 t6 := Option.some.inj (hv.symm.trans hv6)
    subst hv7
    clear F3 N3
    show wpAny _ _ _ _ _ _
    k_steps
    exact comp_end (R := fun y => AllAt _ (i + 1) (ys ++ [y])) F4 N4 off (.inr ⟨_, .tail _ (.tail _ (.head _)), rfl, _, rfl⟩) (AllAt.snoc hJ ⟨_, _, rfl, hx6⟩)
  case fn16 =>
    intro ys hys
    clear F3 N3
    k_steps
    rename Fr _ _ _ _ => F3
    rename News _ _ _ _ => N3
    rename_i aA hA tkA _
    refine LCg.ListComp_U (F₀ := F3) (by with_unfolding_all rfl) (by decide) (by rfl) (by decide) (by rfl) ?_
    k_steps
    rename Fr _ _ _ _ => F3
    rename News _ _ _ _ => N3
    rename IsRange _ _ _ _ _ _ _ _ => rg
    refine LCg.CompSrc.range (n := N0 - 1) (by rfl) F3 N3 rg (small_one (by decide) (by decide) (by omega) (by omega)) (by rw [rangeSize_nat]; omega) (by rw [PySem.sizeLine_eq]; omega) ?_
    intro g''
    refine rest_U (AllAt (fun j v => ∃ t, v = .int (cutZ itm N0 j) t)) (AllAt.nil _) ?tn17 ?fn17
    case tn17 =>
      rintro i v I oI C oC D m₂ zz h tk E' hi ⟨te, rfl⟩ hJ hC hx F4 N4 off ne
      obtain ⟨hp0, hp1, hp2⟩ := way_place hway hit.1 (show i + 1 < N0 by omega)
      have hzl : zs.length ≤ 4000 := by
        rw [hway.1]
        have : (itm.length - 1) * N0 ≤ 79 * 40 := Nat.mul_le_mul (by omega) (by omega)
        omega
      clear F3 N3 rg
      show wpAny _ _ _ _ _ _
      repeat' ((fail_if_success (with_reducible show wpAny _ _ (subscriptTail _ _ (Value.ref _) (Value.int _ _)) _ _ _)); first | (k_unfold; (try dsimp only)) | (k_end; wrow_close) | walk1 | (dsimp only; walk1) | (leave1; walk_say "STEP leave1"; try dsimp only))
      rename Fr _ _ _ _ => F5
      rename News _ _ _ _ => N5
      have hw5 := N5 (aW, W.listOf vW.toArray eW) (by k_mem)
      obtain ⟨t5, ht5⟩ : ∃ t5, vW.toArray[((1 + (i : Int)) * ((itm.length : Int) - 1)).toNat]? = some (.int (cutZ itm N0 i) t5) := by
        obtain ⟨t5, h5⟩ := ints_at iW (j := ((1 + (i : Int)) * ((itm.length : Int) - 1)).toNat) (by omega)
        rw [hp2] at h5
        exact ⟨t5, by simpa using h5⟩
      refine item_at ⟨_, hw5.1, rfl, _, rfl⟩ hp0 (by omega) ht5 ?_ (by with_unfolding_all rfl)
      exact comp_end (R := fun y => AllAt _ (i + 1) (zz ++ [y])) F5 N5 off trivial (AllAt.snoc hJ ⟨_, rfl⟩)
    case fn17 =>
      intro zz hzz
      clear F3 N3 rg
      repeat' ((fail_if_success (with_reducible show wpAny _ _ (compareOp CmpOp.Eq (Value.ref _) (Value.ref _)) _ _ _)); first | (k_unfold; (try dsimp only)) | (k_end; wrow_close) | walk1 | (dsimp only; walk1) | (leave1; walk_say "STEP leave1"; try dsimp only))
      rename Fr _ _ _ _ => F3
      rename News _ _ _ _ => N3
      rename_i aB hB tkB _
      have hl1 := N3 (aA, LCg.lst ys) (by k_mem)
      have hl2 := N3 (aB, LCg.lst zz) (by k_mem)
      refine lists_eq (xs := ys.toArray) (ys := zz.toArray) ⟨_, hl1.1, rfl, _, rfl⟩ ⟨_, hl2.1, rfl, _, rfl⟩ (by rw [List.size_toArray, List.size_toArray, hys.1, hzz.1, hsz]) (by rw [units_deeper, units_caller, cLine_is]; decide) ?_ ?_
      · intro j h1 h2
        obtain ⟨v1, g1, x1, t1', rfl, f1⟩ := hys.2 j (by rw [List.size_toArray, hys.1] at h1; exact h1)
        obtain ⟨v2, g2, t2', rfl⟩ := hzz.2 j (by rw [List.size_toArray, hzz.1] at h2; exact h2)
        have e1 : ys.toArray[j] = .float x1 t1' := by
          rw [List.getElem_toArray]; exact (List.getElem?_eq_some_iff.mp g1).2
        have e2 : zz.toArray[j] = .int (cutZ itm N0 j) t2' := by
          rw [List.getElem_toArray]; exact (List.getElem?_eq_some_iff.mp g2).2
        rw [e1, e2]
        exact eqAt_fi (by omega) f1
      · k_steps
  --END 16
end

