import PyProof.Rows.All
import Wide.All
import OpenK.AllK
import Wide.FinOn
import Lean
import PySem.Challenge.RW_dn0167_02
open PySem PySem.W PyProof.Rows PySem.Calls
set_option Elab.async false
set_option maxRecDepth 100000
set_option linter.unusedVariables false

namespace Mine

/-- a def called, all that stood kept: the callee's ground is the heap at the call -/
theorem code_defP {prog : Program} {w : World} {A A₀ : Around} {s : Shared} {K : Frag} {L : Addr} {h₀ base : Heap} {m mg mb : Str → Option Value} {p : Program} {loose : List Str} {mean : ExcName → Option Value}
    {name qual : Str} {params : Arguments} {body : List Stmt} {scope : Scope} {an : Str} {as : Scope} {aa : Addr} {acd : Value} {outer : List Env} {R : Result → Shared → Prop} {dV kV doc pm cdv ct oc : Value} {ann od : Option Addr} {osl : Array (Option Value)} {f : Addr} {args : Args} {binds : List (Str × Value)}
    (B : Below A₀ base outer h₀) (F : Fr h₀ L s.heap m) (X₀ : K.In h₀) (T : Top p loose mean mg mb h₀) (hA : A = A₀.deeper (envOf an as L aa acd)) (hke : as.kind = .function)
    (ho : K.lookup f = some ⟨oc, od, .func (fnOf name qual params body scope dV kV doc pm ann cdv ct), osl⟩) (hcd : codeIn K cdv qual = true) (hroom : A.depth < recursionLimit)
    (hbind : BindsTo s (fnOf name qual params body scope dV kV doc pm ann cdv ct) args binds) (hloc : ∀ y ∈ binds, scope.names.lookup y.1 = some .local)
    (h : ∀ L' h₁, Fr s.heap L' h₁ (fun y => binds.reverse.lookup y) → News s.heap L' h₁ [] → Below A base (envOf an as L aa acd :: outer) s.heap → K.In s.heap → Top p loose mean mg mb s.heap →
      wpAny (model prog w) (A.deeper (envOf qual scope L' f cdv)) (execs body (envOf qual scope L' f cdv))
        (fun fl s' => R (.ok (.ret (match fl with | .ret v => v | _ => .none))) s')
        (fun e s' => wpAny (model prog w) (A.deeper (envOf qual scope L' f cdv)) (leaving (envOf qual scope L' f cdv) e) (fun _ s'' => R (.error e) s'') (fun e' s'' => R (.error e') s'') s')
        { s with heap := h₁, toks := s.toks + binds.length })
    (hco : scope.isCoroutine = false) (hgen : scope.isGenerator = false) (hk : scope.kind = .function)
    (hcell : ∀ x ∈ scope.names, x.2 ≠ .cell) : codeAny (model prog w) A (.call (.ref f) args) R s := by
  have X := X₀.keeps F.keep
  have TT := T.keeps F.keep
  refine codeAny_call_def (fd := fnOf name qual params body scope dV kV doc pm ann cdv ct) (body := body) (binds := binds) hroom (X _ _ ho) rfl TT.nolimit (codeRec_of X hcd) rfl hbind hcell hloc (fun h₁ hns hk₁ => ?_) hco hgen hk
  refine h s.heap.objs.size h₁ ⟨hns, hk₁, Nat.le_refl _⟩ News.nil ?_ X TT
  subst hA
  exact B.push F hke

section
variable {prog : Program} {w : World} {A : Around} {E : Value → Shared → Prop} {s : Shared} {env : Env} {h₀ : Heap} {x : Str} {body : List Stmt} {Q : Flow → Shared → Prop}

/-- a turn's end: what the loop holds between turns, the loop's own things as they were -/
def GEnd (h₀ : Heap) (L : Addr) (J : (Str → Option Value) → List (Addr × Obj) → Prop) (own : List (Addr × Obj)) (s₁ s₂ : Shared) : Prop :=
  ∃ h' tk m' nx, s₂ = { s₁ with heap := h', toks := tk } ∧ Fr h₀ L h' m' ∧ News h₀ L h' (nx ++ own) ∧ OwnOff own (nx.map (·.1)) ∧ J m' nx
def GPost (h₀ : Heap) (L : Addr) (J : (Str → Option Value) → List (Addr × Obj) → Prop) (own : List (Addr × Obj)) (s₁ : Shared) (Q : Flow → Shared → Prop) (f : Flow) (s₂ : Shared) : Prop :=
  match f with
  | .ret v => Q (.ret v) s₂
  | .brk => Q .next s₂
  | _ => GEnd h₀ L J own s₁ s₂

theorem loop_G {I : Addr} {fp wr : List Addr} {n : Nat} {P : Nat → Value → Prop} {St : Nat → Heap → Prop} {m₀ : Str → Option Value} {news : List (Addr × Obj)} (J : Nat → (Str → Option Value) → List (Addr × Obj) → Prop)
    (W : Walks prog w A I fp wr n P St) (hfw : ∀ b ∈ fp, b ∈ wr ∨ ∃ o, h₀.get? b = some o) (hin : ∀ h i, St i h → ∀ b ∈ wr, ∃ o, h.get? b = some o) (hLf : env.locals ∉ fp) (hwr : ∀ b ∈ wr, h₀.get? b = none) (hnw : ∀ p ∈ news, p.1 ∉ wr) (hst : St 0 s.heap) (F : Fr h₀ env.locals s.heap m₀) (N : News h₀ env.locals s.heap news) (hj : J 0 m₀ news)
    (turn : ∀ i v m₁ nx h tk own, i < n → P i v → OwnOff own (nx.map (·.1)) → J i m₁ nx → Fr h₀ env.locals h (fun y => if y = x then some v else m₁ y) → News h₀ env.locals h (nx ++ own) →
      wpAny (model prog w) A (execs body env) (GPost h₀ env.locals (J (i + 1)) own { s with heap := h, toks := tk } Q) E { s with heap := h, toks := tk })
    (done : ∀ m₁ nx h tk, J n m₁ nx → Fr h₀ env.locals h m₁ → News h₀ env.locals h nx → Q .next { s with heap := h, toks := tk }) :
    LoopAtV prog w A h₀ env x body Q E (.ref I) s := by
  refine ⟨I, fp, wr, n, P, St, m₀, news, J, rfl, W, hLf, hwr, hnw, hst, F, N, hj, ?_, ?_⟩
  · rintro i v m₁ news₁ s₁ own ⟨hh', tk', rfl⟩ hi hP hJ hoff hown hown2 hown3 hSt F₁ N₁
    have hsep : OwnOff own (news₁.map (·.1)) := by
      intro p hp b hb e
      obtain ⟨q, hq, rfl⟩ := List.mem_map.mp hb
      rcases hfw _ (hown p hp) with h1 | ⟨o, h1⟩
      · exact hoff q hq (e ▸ h1)
      · have h3 := (N₁ q (List.mem_append_right _ hq)).2.2
        rw [← e, h1] at h3; cases h3
    have N₂ : News h₀ env.locals hh' (news₁ ++ own) := fun p hp => N₁ p ((List.mem_append.mp hp).elim (fun h => List.mem_append.mpr (.inr h)) fun h => List.mem_append.mpr (.inl h))
    refine wpAny_mono (turn i v m₁ news₁ hh' tk' own hi hP hsep hJ F₁ N₂) (fun f s₂ p => ?_) fun _ _ e => e
    have fin : GEnd h₀ env.locals (J (i + 1)) own { s with heap := hh', toks := tk' } s₂ → LoopStepU h₀ env.locals wr own (J (i + 1)) { s with heap := hh', toks := tk' } .next s₂ := by
      rintro ⟨h', tk, m', nx, e, F', N', ho, hm⟩
      refine ⟨rfl, h', tk, m', nx, e, F', fun p hp => N' p ((List.mem_append.mp hp).elim (fun h => List.mem_append.mpr (.inr h)) fun h => List.mem_append.mpr (.inl h)), fun p hp hq => ?_, hm⟩
      obtain ⟨o, hoo⟩ := hin _ _ hSt _ hq
      exact ho _ (hown3 _ (W.sub _ hq) (hwr _ hq) o hoo) p.1 (List.mem_map.mpr ⟨p, hp, rfl⟩) rfl
    cases f with
    | ret v => exact .ret p
    | brk => exact .brk p
    | next => exact .next (fin p)
    | cont => exact .cont (fin p)
  · rintro h' tk m' news' F' N' _ hJ
    exact done m' news' h' tk hJ F' N'

theorem iter_rangeG {r : Addr} {a₀ b₀ : Int} {t₀ u₀ v₀ : Tok} {n : Nat} {m₀ : Str → Option Value} {news : List (Addr × Obj)} (J : Nat → (Str → Option Value) → List (Addr × Obj) → Prop)
    (hh : A.handled = none) (hr : IsRange s.heap r a₀ b₀ 1 t₀ u₀ v₀) (hsmall : Builtin.Range.small a₀ b₀ 1 = true) (hn : Builtin.Range.rangeSize a₀ b₀ 1 = (n : Int)) (F : Fr h₀ env.locals s.heap m₀) (N : News h₀ env.locals s.heap news) (hj : J 0 m₀ news)
    (turn : ∀ i t m₁ nx h tk own, i < n → OwnOff own (nx.map (·.1)) → J i m₁ nx → Fr h₀ env.locals h (fun y => if y = x then some (.int (a₀ + (i : Int)) t) else m₁ y) → News h₀ env.locals h (nx ++ own) →
      wpAny (model prog w) A (execs body env) (GPost h₀ env.locals (J (i + 1)) own { s with heap := h, toks := tk } Q) E { s with heap := h, toks := tk })
    (done : ∀ m₁ nx h tk, J n m₁ nx → Fr h₀ env.locals h m₁ → News h₀ env.locals h nx → Q .next { s with heap := h, toks := tk }) :
    wpAny (model prog w) A (pyIter (.ref r)) (fun it s₂ => LoopAtV prog w A h₀ env x body Q E it s₂) E s := by
  refine wpAny_pyIter_range hr hsmall ?_
  have W : Walks prog w A s.heap.objs.size [s.heap.objs.size] [s.heap.objs.size] n (fun i v => i < n ∧ ∃ t, v = .int (a₀ + i * 1) t)
      (fun i h => IsRangeIter h s.heap.objs.size (a₀ + (i : Nat) * 1) ((n : Int) - (i : Nat)) 1) := (Walks.range hh _ a₀ 1 n).bound
  refine loop_G J W (fun b hb => .inl hb) ?_ ?_ ?_ ?_ (by show IsRangeIter _ _ _ _ _; rw [hn]; simpa using Heap.get?_push_size _ rfl) (F.push _) (fun p hp => ⟨Heap.get?_push_of_some _ (N p hp).1, (N p hp).2⟩) hj ?_ ?_
  · intro h i hst b hb
    rw [List.mem_singleton.mp hb]
    exact ⟨_, hst⟩
  · intro hm
    exact absurd F.ns.lt ((List.mem_singleton.mp hm) ▸ Nat.lt_irrefl _)
  · intro b hb
    rw [List.mem_singleton.mp hb]
    exact next_is_new F
  · intro p hp hI
    exact absurd (Heap.lt_size (N p hp).1) ((List.mem_singleton.mp hI) ▸ Nat.lt_irrefl _)
  · rintro i v m₁ nx h tk own hi ⟨_, t, rfl⟩ ho hJ F' N'
    rw [Int.mul_one] at F'
    exact turn i t m₁ nx h tk own hi ho hJ F' N'
  · exact done

/-- as iter_rangeG, where a turn changes of the frame's names those of vars alone, and what is held is told of the made things -/
theorem iter_rangeV {r : Addr} {a₀ b₀ : Int} {t₀ u₀ v₀ : Tok} {n : Nat} {m₀ : Str → Option Value} {news : List (Addr × Obj)} (vars : List Str) (J : Nat → List (Addr × Obj) → Prop)
    (hh : A.handled = none) (hr : IsRange s.heap r a₀ b₀ 1 t₀ u₀ v₀) (hsmall : Builtin.Range.small a₀ b₀ 1 = true) (hn : Builtin.Range.rangeSize a₀ b₀ 1 = (n : Int)) (F : Fr h₀ env.locals s.heap m₀) (N : News h₀ env.locals s.heap news) (hj : J 0 news)
    (turn : ∀ i t (u : Str → Option Value) nx h tk own, i < n → OwnOff own (nx.map (·.1)) → J i nx → Fr h₀ env.locals h (fun y => if y = x then some (.int (a₀ + (i : Int)) t) else if vars.contains y then u y else m₀ y) → News h₀ env.locals h (nx ++ own) →
      wpAny (model prog w) A (execs body env) (GPost h₀ env.locals (fun m' nx' => J (i + 1) nx' ∧ ∀ z, z ≠ x → vars.contains z = false → m' z = m₀ z) own { s with heap := h, toks := tk } Q) E { s with heap := h, toks := tk })
    (done : ∀ (u : Str → Option Value) nx h tk, J n nx → Fr h₀ env.locals h (fun y => if y = x then u y else if vars.contains y then u y else m₀ y) → News h₀ env.locals h nx → Q .next { s with heap := h, toks := tk }) :
    wpAny (model prog w) A (pyIter (.ref r)) (fun it s₂ => LoopAtV prog w A h₀ env x body Q E it s₂) E s := by
  refine iter_rangeG (fun i m nx => J i nx ∧ ∀ z, z ≠ x → vars.contains z = false → m z = m₀ z) hh hr hsmall hn F N ⟨hj, fun _ _ _ => rfl⟩ ?_ ?_
  · rintro i t m₁ nx h tk own hi ho ⟨hJ, hm⟩ F' N'
    have e : (fun y => if y = x then some (Value.int (a₀ + (i : Int)) t) else m₁ y) = fun y => if y = x then some (Value.int (a₀ + (i : Int)) t) else if vars.contains y then m₁ y else m₀ y := by
      funext y
      by_cases h1 : y = x
      · simp [h1]
      · simp only [if_neg h1]
        cases h2 : vars.contains y with
        | true => rw [if_pos rfl]
        | false => rw [if_neg (by simp)]; exact hm y h1 h2
    rw [e] at F'
    exact turn i t m₁ nx h tk own hi ho hJ F' N'
  · rintro m₁ nx h tk ⟨hJ, hm⟩ F' N'
    refine done m₁ nx h tk hJ ?_ N'
    have e : (fun y => if y = x then m₁ y else if vars.contains y then m₁ y else m₀ y) = m₁ := by
      funext y
      by_cases h1 : y = x
      · simp [h1]
      · simp only [if_neg h1]
        cases h2 : vars.contains y with
        | true => rw [if_pos rfl]
        | false => rw [if_neg (by simp)]; exact (hm y h1 h2).symm
    rw [e]; exact F'
end

/-- an item of a list at a place in it -/
theorem item_at {prog : Program} {w : World} {A : Around} {E : Value → Shared → Prop} {s : Shared} {value slice : PySem.Expr} {l : Addr} {vs : Array Value} {k : Int} {u : Tok} {v : Value} {Q : Value → Shared → Prop}
    (hl : s.heap.IsList l vs) (h0 : 0 ≤ k) (hhi : k < 2 ^ 63) (hx : vs[k.toNat]? = some v) (h : Q v s)
    (hs : subscripted slice false (.ref l) (.int k u) = operate [.ref l, .int k u] (getItem (.ref l) (.int k u))) :
    wpAny (model prog w) A (subscriptTail value slice (.ref l) (.int k u)) Q E s :=
  tail_any hl.typeIs slot_list_getitem.lookup (wpAny_getItem_list hl h0 hhi hx h) hs
/-- a list's length -/
theorem len_at {prog : Program} {w : World} {A : Around} {E : Value → Shared → Prop} {s : Shared} {l : Addr} {vs : Array Value} {n : Nat} {Q : Value → Shared → Prop}
    (hl : s.heap.IsList l vs) (hn : vs.size = n) (hfit : n < 2 ^ 62) (h : Q (.int (n : Int) (s.toks + 1)) { s with toks := s.toks + 1 + 1 }) :
    wpAny (model prog w) A (call (.builtin "len") [.ref l]) Q E s := by
  subst hn
  exact len_list hl (by omega) h

/-- the frame's names in a turn: the loop's own, one that is known, those that a turn changes, the rest -/
theorem map_known {x y0 : Str} {v0 w0 : Value} {m₁ m₀ : Str → Option Value} {vars : List Str} (h1 : m₁ y0 = some v0) (h2 : ∀ z, z ≠ x → z ≠ y0 → vars.contains z = false → m₁ z = m₀ z) :
    (fun y => if y = x then some w0 else m₁ y) = fun y => if y = x then some w0 else if y = y0 then some v0 else if vars.contains y then m₁ y else m₀ y := by
  funext y
  by_cases e1 : y = x
  · simp [e1]
  · simp only [if_neg e1]
    by_cases e2 : y = y0
    · subst e2; simp [h1]
    · simp only [if_neg e2]
      cases e3 : vars.contains y with
      | true => rw [if_pos rfl]
      | false => rw [if_neg (by simp)]; exact h2 y e1 e2 e3
theorem map_known' {x y0 : Str} {v0 : Value} {m₁ m₀ : Str → Option Value} {vars : List Str} (h1 : m₁ y0 = some v0) (h2 : ∀ z, z ≠ x → z ≠ y0 → vars.contains z = false → m₁ z = m₀ z) :
    m₁ = fun y => if y = y0 then some v0 else if y = x then m₁ y else if vars.contains y then m₁ y else m₀ y := by
  funext y
  by_cases e2 : y = y0
  · subst e2; simp [h1]
  · simp only [if_neg e2]
    by_cases e1 : y = x
    · simp [e1]
    · simp only [if_neg e1]
      cases e3 : vars.contains y with
      | true => rw [if_pos rfl]
      | false => rw [if_neg (by simp)]; exact h2 y e1 e2 e3

theorem iadd_raw {prog : Program} {w : World} {A : Around} {E : Value → Shared → Prop} {s : Shared} {l b : Addr} {xs ys : Array Value} {n n2 : Nat} {Q : Value → Shared → Prop}
    (hl : s.heap.get? l = some (W.listOf xs n)) (hb : s.heap.get? b = some (W.listOf ys n2)) (hsz : xs.size + ys.size < 100000)
    (h : Q (.ref l) { s with heap := s.heap.update l (Obj.mapSeq fun x => x ++ ys) }) : wpAny (model prog w) A (inplaceOp .Add (.ref l) (.ref b)) Q E s := by
  have ha : s.TypeIs (.ref l) "list" := ⟨_, hl, rfl⟩
  have hb' : s.TypeIs (.ref b) "list" := ⟨_, hb, rfl⟩
  have hlk := F.slot_list_iadd.lookup
  have hsq : isSeqSlot (some (.builtin "list.__iadd__")) = true := by decide +kernel
  unfold inplaceOp
  refine wpAny_holding ?_
  have hfi : fillsInplaceSlot (.type "list") "add" (Operator.Add == .Add) = pure false := by
    unfold fillsInplaceSlot
    show (typeLookup (.type "list") (dunderI "add") >>= fun fi => pure (fi.isSome && !isSeqSlot fi)) = pure false
    rw [hlk, pure_bind, hsq]; rfl
  have hsi : seqSlot? (.type "list") (dunderI "add") = pure (some (.builtin "list.__iadd__")) := PySem.seqSlot_of hlk hsq
  refine wpAny_bind (wpAny_typeOf ha (wpAny_bind (wpAny_of_eq hfi ?_)))
  show wpAny _ A (if false = true then _ else _) Q E s
  rw [if_neg Bool.false_ne_true]
  refine wpAny_bind (wpAny_binaryOp1_none (nm := "add") ha hb' noFill_list_add ?_)
  refine wpAny_bind (wpAny_of_eq hsi ?_)
  refine wpAny_bind (wpAny_rule ?_)
  refine call_meets F.slot_list_iadd ha F.entry_list_iadd (F.args_list_iadd_2 _ _) (AutoSeq1.list___iadd___list_list_0 l xs n b ys n2 ?_ ?_ ?_) ⟨hl, hb, h⟩
  · have : Builtin.List.listTooLong (xs.size + ys.size) = false := by
      unfold Builtin.List.listTooLong
      rw [sizeLine_eq]
      exact decide_eq_false (by omega)
    rw [this]; simp
  · rw [sizeLine_eq]; omega
  · rw [sizeLine_eq]; omega

theorem iadd_N {prog : Program} {w : World} {A : Around} {E : Value → Shared → Prop} {s : Shared} {h₀ : Heap} {L l b : Addr} {m : Str → Option Value} {rest : List (Addr × Obj)} {xs ys : Array Value} {n n2 : Nat} {Q : Value → Shared → Prop}
    (F : Fr h₀ L s.heap m) (N : News h₀ L s.heap ((l, W.listOf xs n) :: rest)) (hoff : ∀ p ∈ rest, p.1 ≠ l) (hb : s.heap.get? b = some (W.listOf ys n2)) (hsz : xs.size + ys.size < 100000)
    (h : ∀ h' n', Fr h₀ L h' m → News h₀ L h' ((l, W.listOf (xs ++ ys) n') :: rest) → Q (.ref l) { s with heap := h' }) : wpAny (model prog w) A (inplaceOp .Add (.ref l) (.ref b)) Q E s := by
  refine iadd_raw (N _ (.head _)).1 hb hsz ?_
  have := news_upd (pre := []) (post := rest) (f := Obj.mapSeq fun x => x ++ ys) (o' := W.listOf (xs ++ ys) (if (xs ++ ys).size == xs.size then n else n + 1)) F N (fun _ hp => nomatch hp) hoff rfl rfl
  exact h _ _ this.1 this.2

/-- behind a call that keeps all: the frame and the ledger stand -/
theorem back_fr {h₀ h h' : Heap} {L : Addr} {m : Str → Option Value} (F : Fr h₀ L h m) (hs : h.StaysIn h') : Fr h₀ L h' m := F.kept hs
theorem back_news {h₀ h h' : Heap} {L : Addr} {news : List (Addr × Obj)} (N : News h₀ L h news) (hs : h.StaysIn h') : News h₀ L h' news :=
  fun p hp => ⟨hs _ _ (N p hp).1, (N p hp).2⟩
theorem back_new {h₀ h h' : Heap} {L r : Addr} {o : Obj} {m : Str → Option Value} {news : List (Addr × Obj)} (F : Fr h₀ L h m) (N : News h₀ L h news) (hs : h.StaysIn h') (hr : h'.get? r = some o) (hf : h.get? r = none) :
    News h₀ L h' ((r, o) :: news) := by
  intro p hp
  rcases List.mem_cons.mp hp with rfl | hp
  · refine ⟨hr, ?_, ?_⟩
    · rintro rfl
      obtain ⟨oL, _, _, hL, _⟩ := F.ns
      rw [hL] at hf; cases hf
    · cases hq : h₀.get? r with
      | none => rfl
      | some o' => rw [F.keep _ _ hq] at hf; cases hf
  · exact back_news N hs p hp

section
variable {prog : Program} {w : World} {A : Around} {E : Value → Shared → Prop} {s : Shared} {h₀ : Heap} {L : Addr} {m : Str → Option Value} {news : List (Addr × Obj)}
/-- the items ahead of a place -/
theorem slice_upto {value slice : PySem.Expr} {l : Addr} {vs : List Value} {ku : Int} {t : Tok} {Q : Value → Shared → Prop} (k : Nat) (F : Fr h₀ L s.heap m) (N : News h₀ L s.heap news) (hl : s.heap.IsList l vs.toArray) (hk : ku = (k : Int)) (hsz : vs.length ≤ 100000)
    (h : ∀ h' D, Fr h₀ L h' m → News h₀ L h' ((D, W.listOf (vs.take k).toArray 0) :: news) → Q (.ref D) { s with heap := h' })
    (hs : subscripted slice false (.ref l) (.ref s.heap.objs.size) = operate [.ref s.heap.objs.size, .ref l] (getItem (.ref l) (.ref s.heap.objs.size)))
    (ht : ∀ r, letTemporaryGo value (.ref l) r = pure ()) :
    wpAny (model prog w) A (subscriptTail value slice (.ref l) (.ref s.heap.objs.size)) Q E { s with heap := s.heap.push { cls := .type "slice", data := .fields #[.none, .int ku t, .none] } } := by
  subst hk
  refine slice_list F N hl .none (.int _ _) (fun h' F' N' => h _ _ F' ?_) hs ht (by rw [sizeLine_eq]; simp; omega)
  rw [slicePick_upto' vs.toArray k] at N'
  simpa using N'
/-- the items from a place on -/
theorem slice_from {value slice : PySem.Expr} {l : Addr} {vs : List Value} {ku : Int} {t : Tok} {Q : Value → Shared → Prop} (k : Nat) (F : Fr h₀ L s.heap m) (N : News h₀ L s.heap news) (hl : s.heap.IsList l vs.toArray) (hk : ku = (k : Int)) (hsz : vs.length ≤ 100000)
    (h : ∀ h' D, Fr h₀ L h' m → News h₀ L h' ((D, W.listOf (vs.drop k).toArray 0) :: news) → Q (.ref D) { s with heap := h' })
    (hs : subscripted slice false (.ref l) (.ref s.heap.objs.size) = operate [.ref s.heap.objs.size, .ref l] (getItem (.ref l) (.ref s.heap.objs.size)))
    (ht : ∀ r, letTemporaryGo value (.ref l) r = pure ()) :
    wpAny (model prog w) A (subscriptTail value slice (.ref l) (.ref s.heap.objs.size)) Q E { s with heap := s.heap.push { cls := .type "slice", data := .fields #[.int ku t, .none, .none] } } := by
  subst hk
  refine slice_list F N hl (.int _ _) .none (fun h' F' N' => h _ _ F' ?_) hs ht (by rw [sizeLine_eq]; simp; omega)
  rw [slicePick_from' vs.toArray k] at N'
  simpa using N'
/-- the items but the first and the last -/
theorem slice_mid {value slice : PySem.Expr} {l : Addr} {vs : List Value} {t u : Tok} {Q : Value → Shared → Prop} (F : Fr h₀ L s.heap m) (N : News h₀ L s.heap news) (hl : s.heap.IsList l vs.toArray) (h2 : 2 ≤ vs.length) (hsz : vs.length ≤ 100000)
    (h : ∀ h' D, Fr h₀ L h' m → News h₀ L h' ((D, W.listOf ((vs.drop 1).take (vs.length - 2)).toArray 0) :: news) → Q (.ref D) { s with heap := h' })
    (hs : subscripted slice false (.ref l) (.ref s.heap.objs.size) = operate [.ref s.heap.objs.size, .ref l] (getItem (.ref l) (.ref s.heap.objs.size)))
    (ht : ∀ r, letTemporaryGo value (.ref l) r = pure ()) :
    wpAny (model prog w) A (subscriptTail value slice (.ref l) (.ref s.heap.objs.size)) Q E { s with heap := s.heap.push { cls := .type "slice", data := .fields #[.int 1 t, .int (-1) u, .none] } } := by
  refine slice_list F N hl (.int _ _) (.int _ _) (fun h' F' N' => h _ _ F' ?_) hs ht (by rw [sizeLine_eq]; simp; omega)
  have e1 : clipAt vs.toArray.size 1 = 1 := by
    have := clipAt_nat vs.toArray.size 1
    rw [show ((1 : Nat) : Int) = 1 from rfl] at this
    rw [this]; simp; omega
  have e2 : clipAt vs.toArray.size (-1) = vs.length - 1 := by
    have := clipAt_neg vs.toArray.size 1 (by decide)
    rw [show (-((1 : Nat) : Int)) = -1 from rfl] at this
    rw [this]; simp
  rw [slicePick_plain] at N'
  simp only [Option.elim, e1, e2] at N'
  rw [show vs.length - 1 - 1 = vs.length - 2 by omega] at N'
  simpa using N'
/-- two lists joined -/
theorem add_N {l b : Addr} {xs ys : List Value} {n n2 : Nat} {Q : Value → Shared → Prop} (F : Fr h₀ L s.heap m) (N : News h₀ L s.heap news) (hl : s.heap.get? l = some (W.listOf xs.toArray n)) (hb : s.heap.get? b = some (W.listOf ys.toArray n2)) (hsz : xs.length + ys.length ≤ 100000)
    (h : ∀ h' D, Fr h₀ L h' m → News h₀ L h' ((D, W.listOf (xs ++ ys).toArray 0) :: news) → Q (.ref D) { s with heap := h' }) : wpAny (model prog w) A (binaryOp .Add (.ref l) (.ref b)) Q E s := by
  refine P.add_list hl hb ?_ (by rw [sizeLine_eq]; simp; omega)
  have N1 := N.push F { cls := .type "list", data := .seq (xs.toArray ++ ys.toArray) }
  have e : xs.toArray ++ ys.toArray = (xs ++ ys).toArray := by simp
  rw [e] at N1 ⊢
  exact h _ _ (F.push _) N1
end
end Mine


namespace Mine

/-- the float of a whole number over another -/
def fq (a n : Int) : UInt64 := Float64.ofFrac (decide (a < 0) != decide (n < 0)) a.natAbs n.natAbs
/-- the made list holds these floats -/
def Cuts (f : Nat → UInt64) (k : Nat) (vals : Array Value) : Prop := vals.size = k ∧ ∀ j, j < k → ∃ t, t ≠ 0 ∧ vals[j]? = some (.float (f j) t)
theorem Cuts.zero (f : Nat → UInt64) : Cuts f 0 #[] := ⟨rfl, fun _ h => absurd h (Nat.not_lt_zero _)⟩
theorem Cuts.push {f : Nat → UInt64} {k : Nat} {vals : Array Value} {t : Tok} {x : UInt64} (h : Cuts f k vals) (ht : t ≠ 0) (hx : x = f k) : Cuts f (k + 1) (vals.push (.float x t)) := by
  subst hx
  refine ⟨by rw [Array.size_push, h.1], fun j hj => ?_⟩
  by_cases e : j = k
  · subst e
    refine ⟨t, ht, ?_⟩
    have e2 := h.1
    subst e2
    exact Array.getElem?_push_size
  · obtain ⟨t', ht', hx'⟩ := h.2 j (by omega)
    refine ⟨t', ht', ?_⟩
    rw [Array.getElem?_push_lt (by rw [h.1]; omega)] 
    rw [← hx']
    exact (Array.getElem?_eq_getElem (by rw [h.1]; omega)).symm

/-- the numerator of the i-th cut, inclusive -/
def numI (ds : List Int) (n i : Int) : Int :=
  ds.getD ((i * ((ds.length : Int) - 1)).fdiv n).toNat 0 * (n - (i * ((ds.length : Int) - 1)).fmod n) + ds.getD ((i * ((ds.length : Int) - 1)).fdiv n + 1).toNat 0 * (i * ((ds.length : Int) - 1)).fmod n

theorem num_fits {a b c d : Int} (ha : a.natAbs < 2 ^ 1000) (hc : c.natAbs < 2 ^ 1000) (hb : b.natAbs ≤ 2 ^ 20) (hd : d.natAbs ≤ 2 ^ 20) : (a * b + c * d).natAbs < 2 ^ 1023 := by
  have h1 : (a * b).natAbs < 2 ^ 1021 := by
    rw [Int.natAbs_mul]
    calc a.natAbs * b.natAbs ≤ a.natAbs * 2 ^ 20 := Nat.mul_le_mul_left _ hb
      _ < 2 ^ 1000 * 2 ^ 20 := Nat.mul_lt_mul_of_pos_right ha (Nat.two_pow_pos _)
      _ = 2 ^ 1020 := by rw [← Nat.pow_add]
      _ < 2 ^ 1021 := Nat.pow_lt_pow_right (by decide) (by decide)
  have h2 : (c * d).natAbs < 2 ^ 1021 := by
    rw [Int.natAbs_mul]
    calc c.natAbs * d.natAbs ≤ c.natAbs * 2 ^ 20 := Nat.mul_le_mul_left _ hd
      _ < 2 ^ 1000 * 2 ^ 20 := Nat.mul_lt_mul_of_pos_right hc (Nat.two_pow_pos _)
      _ = 2 ^ 1020 := by rw [← Nat.pow_add]
      _ < 2 ^ 1021 := Nat.pow_lt_pow_right (by decide) (by decide)
  have h3 := Int.natAbs_add_le (a * b) (c * d)
  have h4 : (2 : Nat) ^ 1021 + 2 ^ 1021 = 2 ^ 1022 := by rw [← Nat.two_mul, ← Nat.pow_succ']
  have h5 : (2 : Nat) ^ 1022 < 2 ^ 1023 := Nat.pow_lt_pow_right (by decide) (by decide)
  generalize (2 : Nat) ^ 1021 = p at h1 h2 h4
  generalize (2 : Nat) ^ 1022 = q at h4 h5
  generalize (2 : Nat) ^ 1023 = r at h5 ⊢
  omega

theorem getD_bound {ds : List Int} {P : Int → Prop} (h0 : P 0) (h : ∀ x ∈ ds, P x) (j : Nat) : P (ds.getD j 0) := by
  rw [List.getD_eq_getElem?_getD]
  cases hx : ds[j]? with
  | none => exact h0
  | some v => exact h v (List.mem_of_getElem? hx)

theorem divs_incl {I M n : Int} (hI : 0 ≤ I) (hIn : I < n) (hM : 1 ≤ M) : 0 ≤ (I * M).fdiv n ∧ (I * M).fdiv n < M ∧ 0 ≤ (I * M).fmod n ∧ (I * M).fmod n < n := by
  have hn : 0 < n := by omega
  rw [Int.fdiv_eq_ediv_of_nonneg _ (by omega), Int.fmod_eq_emod_of_nonneg _ (by omega)]
  refine ⟨Int.ediv_nonneg (Int.mul_nonneg hI (by omega)) (by omega), ?_, Int.emod_nonneg _ (by omega), Int.emod_lt_of_pos _ hn⟩
  rw [Int.ediv_lt_iff_lt_mul hn]
  rw [Int.mul_comm M n]
  exact Int.mul_lt_mul_of_pos_right hIn (by omega)

/-- the place of the i-th cut, exclusive -/
def jE (ld n i : Int) : Int := if (i * (ld + 1)).fdiv n < 1 then 1 else if (i * (ld + 1)).fdiv n > ld - 1 then ld - 1 else (i * (ld + 1)).fdiv n
/-- the numerator of the i-th cut, exclusive -/
def numE (ds : List Int) (n i : Int) : Int :=
  ds.getD (jE (ds.length : Int) n i - 1).toNat 0 * (n - (i * ((ds.length : Int) + 1) - jE (ds.length : Int) n i * n)) + ds.getD (jE (ds.length : Int) n i).toNat 0 * (i * ((ds.length : Int) + 1) - jE (ds.length : Int) n i * n)

theorem divs_excl {I ld n : Int} (hI : 0 ≤ I) (hIn : I < n) (hn : n ≤ 64) (hM : 1 ≤ ld) (hM2 : ld ≤ 64) :
    0 ≤ (I * (ld + 1)).fdiv n ∧ 0 ≤ I * (ld + 1) ∧ I * (ld + 1) ≤ 5000 ∧ 0 ≤ (I * (ld + 1)).fdiv n * n ∧ (I * (ld + 1)).fdiv n * n ≤ I * (ld + 1) ∧ 0 ≤ (ld - 1) * n ∧ (ld - 1) * n ≤ 5000 := by
  have hn0 : 0 < n := by omega
  have h1 : 0 ≤ I * (ld + 1) := Int.mul_nonneg hI (by omega)
  have h2 : I * (ld + 1) ≤ 64 * 65 := Int.mul_le_mul (by omega) (by omega) (by omega) (by omega)
  have h3 : (ld - 1) * n ≤ 64 * 64 := Int.mul_le_mul (by omega) (by omega) (by omega) (by omega)
  have h4 : 0 ≤ (ld - 1) * n := Int.mul_nonneg (by omega) (by omega)
  rw [Int.fdiv_eq_ediv_of_nonneg _ (by omega)]
  have h5 : 0 ≤ I * (ld + 1) / n := Int.ediv_nonneg h1 (by omega)
  have h6 := Int.ediv_mul_le (I * (ld + 1)) (b := n) (by omega)
  have h7 := Int.mul_nonneg h5 (show 0 ≤ n by omega)
  exact ⟨h5, h1, by omega, h7, h6, h4, by omega⟩

theorem fdiv_two (n : Nat) : (n : Int).fdiv 2 = ((n / 2 : Nat) : Int) := by
  rw [Int.fdiv_eq_ediv_of_nonneg _ (by decide)]; omega
theorem fmod_two (n : Nat) : (n : Int).fmod 2 = ((n % 2 : Nat) : Int) := by
  rw [Int.fmod_eq_emod_of_nonneg _ (by decide)]; omega
theorem some_at {vs : List Value} {k : Int} {i : Nat} (hk : k = (i : Int)) (hi : i < vs.length) : vs.toArray[k.toNat]? = some vs[i] := by
  subst hk
  simp [hi]
end Mine


namespace Mine
open PySem.Float64

theorem V_rep : ∀ (k q : Nat), q < 2 ^ 53 → k ≤ 2045 → ∃ t, t < infMag ∧ V t = q * 2 ^ k := by
  intro k
  induction k with
  | zero =>
    intro q hq _
    exact ⟨0 * 2 ^ 52 + q, by unfold infMag; omega, V_at (by omega) (.inr rfl)⟩
  | succ k ih =>
    intro q hq hk
    by_cases h : 2 ^ 52 ≤ q
    · exact ⟨(k + 1) * 2 ^ 52 + q, by unfold infMag; omega, V_at (by omega) (.inl h)⟩
    · obtain ⟨t, h1, h2⟩ := ih (2 * q) (by omega) (by omega)
      refine ⟨t, h1, ?_⟩
      rw [h2, Nat.pow_succ]
      generalize 2 ^ k = p
      rw [Nat.mul_comm 2 q, Nat.mul_assoc, Nat.mul_comm 2 p]

theorem V_max {t : Nat} (h : t < infMag) : 2 * V t < (2 ^ 54 - 1) * 2 ^ 2045 := by
  have h1 : V t ≤ V (infMag - 1) := V_mono (by omega)
  have hA : V (infMag - 1) = (2 ^ 53 - 1) * 2 ^ 2045 := by
    have e : infMag - 1 = 2045 * 2 ^ 52 + (2 ^ 53 - 1) := by unfold infMag; omega
    rw [e]
    exact V_at (k := 2045) (q := 2 ^ 53 - 1) (by omega) (.inl (by omega))
  rw [hA] at h1
  have hp : 0 < (2 : Nat) ^ 2045 := Nat.two_pow_pos _
  generalize (2 : Nat) ^ 2045 = p at *
  omega

theorem right_exact {r : UInt64} {neg : Bool} {W D t₀ : Nat} (R : Right r neg W D) (hD : 0 < D) (hW : W = D * V t₀) (ht : t₀ < infMag) :
    (∃ m f, decode r = .fin neg m f) ∧ val r = sgn neg (V t₀) := by
  obtain ⟨t, hr, hle, hinf, hnear⟩ := R
  have hlt : t < infMag := by
    refine Nat.lt_of_le_of_ne hle fun e => ?_
    have h1 := hinf.mp e
    rw [hW, ← Nat.mul_assoc 2 D (V t₀), Nat.mul_comm 2 D, Nat.mul_assoc D 2 (V t₀)] at h1
    have h2 := Nat.le_of_mul_le_mul_left h1 hD
    exact absurd (V_max ht) (Nat.not_lt.mpr h2)
  have h1 := (hnear hlt t₀).1
  have h2 : dist W (D * V t₀) = 0 := by rw [← hW]; unfold Float64.dist; omega
  rw [h2] at h1
  have h3 : W = D * V t := by unfold Float64.dist at h1; omega
  have h4 : V t = V t₀ := Nat.eq_of_mul_eq_mul_left hD (by rw [← h3, hW])
  obtain ⟨m, f, hd, _⟩ := decode_pack neg hlt
  subst hr
  exact ⟨⟨m, f, hd⟩, by rw [val_pack neg hlt, h4]⟩

/-- the float's value is z over two to the e -/
def FinQ (x : UInt64) (z : Int) (e : Nat) : Prop := (∃ a m f, decode x = .fin a m f) ∧ val x = z * ((2 ^ (1074 - e) : Nat) : Int)

theorem sgn_of (z : Int) (p : Nat) : sgn (decide (z < 0)) (z.natAbs * p) = z * (p : Int) := by
  unfold sgn
  by_cases h : z < 0
  · simp only [h, decide_true, if_true]
    rw [Int.natCast_mul, ← Int.neg_mul]
    congr 1
    omega
  · simp only [h, decide_false, Bool.false_eq_true, if_false]
    rw [Int.natCast_mul]
    congr 1
    omega

theorem ofFrac_exact {a n : Nat} {b : Int} {k : Nat} (hn : 0 < n) (hk : k ≤ 1074) (hb : b.natAbs < 2 ^ 53) (h : a * 2 ^ k = b.natAbs * n) : FinQ (ofFrac (decide (b < 0)) a n) b k := by
  have hR : Right (ofFrac (decide (b < 0)) a n) (decide (b < 0)) (b.natAbs * 2 ^ (1074 - k)) 1 := by
    refine ofFrac_right hn ?_ (by decide)
    have e : 2 ^ 1074 = 2 ^ k * 2 ^ (1074 - k) := by rw [← Nat.pow_add]; congr 1; omega
    rw [e, Nat.mul_one, ← Nat.mul_assoc, h]
    generalize 2 ^ (1074 - k) = p
    ac_rfl
  obtain ⟨t, ht, hV⟩ := V_rep (1074 - k) b.natAbs hb (by omega)
  obtain ⟨⟨m, f, hd⟩, hv⟩ := right_exact hR (by decide) (by rw [Nat.one_mul, hV]) ht
  exact ⟨⟨_, m, f, hd⟩, by rw [hv, hV, sgn_of]⟩

theorem fq_exact {a n b : Int} {k : Nat} (hn : 0 < n) (hk : k ≤ 1074) (hb : b.natAbs < 2 ^ 53) (h : a * ((2 ^ k : Nat) : Int) = b * n) : FinQ (fq a n) b k := by
  have hs : (decide (a < 0) != decide (n < 0)) = decide (b < 0) := by
    have h0 : decide (n < 0) = false := decide_eq_false (by omega)
    rw [h0, Bool.bne_false]
    have hp : (0 : Int) < ((2 ^ k : Nat) : Int) := Int.ofNat_lt.mpr (Nat.two_pow_pos _)
    generalize ((2 ^ k : Nat) : Int) = p at *
    apply decide_eq_decide.mpr
    constructor
    · intro ha
      have h1 := Int.mul_neg_of_neg_of_pos ha hp
      rw [h] at h1
      by_cases hbb : b < 0
      · exact hbb
      · have := Int.mul_nonneg (show 0 ≤ b by omega) (show 0 ≤ n by omega); omega
    · intro hbb
      have h1 := Int.mul_neg_of_neg_of_pos hbb hn
      rw [← h] at h1
      by_cases ha : a < 0
      · exact ha
      · have := Int.mul_nonneg (show 0 ≤ a by omega) (show 0 ≤ p by omega); omega
  unfold fq
  rw [hs]
  refine ofFrac_exact (by omega) hk hb ?_
  have := congrArg Int.natAbs h
  rw [Int.natAbs_mul, Int.natAbs_mul, Int.natAbs_natCast] at this
  exact this

theorem ofInt_exact {i : Int} (hi : i.natAbs < 2 ^ 53) : FinQ (ofInt i) i 0 := by
  unfold ofInt
  exact ofFrac_exact (by decide) (by omega) hi (by simp)

theorem finQ_up {x : UInt64} {z : Int} {e : Nat} (h : FinQ x z e) {j : Nat} (hj : e + j ≤ 1074) : FinQ x (z * ((2 ^ j : Nat) : Int)) (e + j) := by
  refine ⟨h.1, ?_⟩
  rw [h.2, Int.mul_assoc, ← Int.natCast_mul, ← Nat.pow_add]
  congr 4
  omega

theorem two_cancel {a b : Int} {p : Nat} (h : a * ((2 ^ p : Nat) : Int) = b * ((2 ^ p : Nat) : Int)) : a = b :=
  Int.eq_of_mul_eq_mul_right (by have := Nat.two_pow_pos p; omega) h

theorem decode_zero (b : Bool) : ∃ a m f, decode (zero b) = .fin a m f := by
  obtain ⟨m, f, h, _⟩ := decode_pack b (t := 0) (by decide)
  exact ⟨_, m, f, h⟩
theorem val_zero (b : Bool) : val (zero b) = 0 := by
  unfold zero
  rw [val_pack b (by decide), V_zero]
  cases b <;> rfl

theorem add_exact {x y : UInt64} {z v : Int} {e : Nat} (hx : FinQ x z e) (hy : FinQ y v e) (hb : (z + v).natAbs < 2 ^ 53) : FinQ (add x y) (z + v) e := by
  obtain ⟨⟨a, m, f, hd⟩, hv⟩ := hx
  obtain ⟨⟨a', m', f', hd'⟩, hv'⟩ := hy
  obtain ⟨h0, h1⟩ := add_right hd hd'
  have hs : val x + val y = (z + v) * ((2 ^ (1074 - e) : Nat) : Int) := by rw [hv, hv', Int.add_mul]
  by_cases hz : val x + val y = 0
  · rw [h0 hz]
    refine ⟨decode_zero _, ?_⟩
    rw [val_zero, ← hs, hz]
  · have hR := h1 hz
    have hneg : decide (val x + val y < 0) = decide (z + v < 0) := by
      rw [hs]
      have hp : (0 : Int) < ((2 ^ (1074 - e) : Nat) : Int) := Int.ofNat_lt.mpr (Nat.two_pow_pos _)
      generalize ((2 ^ (1074 - e) : Nat) : Int) = p at *
      apply decide_eq_decide.mpr
      constructor
      · intro h
        by_cases hn : z + v < 0
        · exact hn
        · have := Int.mul_nonneg (show 0 ≤ z + v by omega) (Int.le_of_lt hp); omega
      · intro h; exact Int.mul_neg_of_neg_of_pos h hp
    rw [hneg, hs, Int.natAbs_mul, Int.natAbs_natCast] at hR
    obtain ⟨t, ht, hV⟩ := V_rep (1074 - e) (z + v).natAbs hb (by omega)
    obtain ⟨⟨m2, f2, hd2⟩, hv2⟩ := right_exact hR (by decide) (by rw [Nat.one_mul, hV]) ht
    exact ⟨⟨_, m2, f2, hd2⟩, by rw [hv2, hV, sgn_of]⟩

theorem ofInt_pos {n : Int} (hn : 0 < n) (hb : n.natAbs < 2 ^ 53) : ∃ m f, decode (ofInt n) = .fin false m f := by
  have hR := ofInt_right n
  have e : decide (n < 0) = false := decide_eq_false (by omega)
  rw [e] at hR
  obtain ⟨t, ht, hV⟩ := V_rep 1074 n.natAbs hb (by omega)
  exact (right_exact hR (by decide) (by rw [Nat.one_mul, hV]) ht).1

theorem half_exact {x : UInt64} {z : Int} {e : Nat} (hx : FinQ x z e) (he : e + 1 ≤ 1074) (hb : z.natAbs < 2 ^ 53) : FinQ (div x (ofInt 2)) z (e + 1) := by
  obtain ⟨⟨a, m, f, hd⟩, hv⟩ := hx
  obtain ⟨m', f', hd'⟩ := ofInt_pos (n := 2) (by decide) (by decide)
  obtain ⟨K, hK, hK0, hv'⟩ : ∃ K : Nat, (2 : Nat) ^ 1074 = K ∧ 0 < K ∧ (val (ofInt 2)).natAbs = 2 * K := by
    refine ⟨_, rfl, Nat.two_pow_pos _, ?_⟩
    have h := (ofInt_exact (i := 2) (by decide)).2
    rw [Nat.sub_zero] at h
    have gen : ∀ K : Nat, val (ofInt 2) = 2 * (K : Int) → (val (ofInt 2)).natAbs = 2 * K := by intro K h; rw [h]; omega
    exact gen _ h
  have hk : m' ≠ 0 := by
    intro h0
    have := val_natAbs hd'
    rw [hv', h0, Nat.zero_mul] at this
    omega
  have hR := div_right hd hd' hk
  rw [hv', hv, Int.natAbs_mul, Int.natAbs_natCast, hK] at hR
  obtain ⟨t, ht, hV⟩ := V_rep (1074 - (e + 1)) z.natAbs hb (by omega)
  have hW : z.natAbs * 2 ^ (1074 - e) * K = 2 * K * V t := by
    rw [hV]
    have e1 : 1074 - e = (1074 - (e + 1)) + 1 := by omega
    rw [e1, Nat.pow_succ]
    generalize 2 ^ (1074 - (e + 1)) = p
    ac_rfl
  obtain ⟨⟨m2, f2, hd2⟩, hv2⟩ := right_exact hR (Nat.mul_pos (by decide) hK0) hW ht
  refine ⟨⟨_, m2, f2, hd2⟩, ?_⟩
  rw [hv2, hV, Bool.bne_false]
  have h1 := val_eq hd
  have h2 := val_natAbs hd
  rw [hv] at h1
  rw [← h2, hv, Int.natAbs_mul, Int.natAbs_natCast] at h1
  have e1 : 1074 - e = (1074 - (e + 1)) + 1 := by omega
  rw [e1, Nat.pow_succ, ← Nat.mul_assoc, sgn_mul, Int.natCast_mul, ← Int.mul_assoc] at h1
  exact (Int.eq_of_mul_eq_mul_right (by decide) h1).symm

theorem mulInt_exact {x : UInt64} {z n : Int} {e : Nat} (hx : FinQ x z e) (he : e ≤ 1074) (hn : 0 < n) (hn2 : n.natAbs < 2 ^ 53) (hb : (z * n).natAbs < 2 ^ 53) : FinQ (mul x (ofInt n)) (z * n) e := by
  obtain ⟨⟨a, m, f, hd⟩, hv⟩ := hx
  obtain ⟨m', f', hd'⟩ := ofInt_pos hn hn2
  have hv' := (ofInt_exact hn2).2
  have hR := mul_right hd hd'
  rw [hv', hv, Int.natAbs_mul, Int.natAbs_mul, Int.natAbs_natCast, Int.natAbs_natCast] at hR
  obtain ⟨t, ht, hV⟩ := V_rep (1074 - e) (z * n).natAbs hb (by omega)
  have hW : z.natAbs * 2 ^ (1074 - e) * (n.natAbs * 2 ^ (1074 - 0)) = 2 ^ 1074 * V t := by
    rw [hV, Int.natAbs_mul]
    show _ * (_ * 2 ^ 1074) = _
    generalize 2 ^ (1074 - e) = p
    generalize 2 ^ 1074 = q
    ac_rfl
  obtain ⟨⟨m2, f2, hd2⟩, hv2⟩ := right_exact hR (Nat.two_pow_pos _) hW ht
  refine ⟨⟨_, m2, f2, hd2⟩, ?_⟩
  rw [hv2, hV, Bool.bne_false, Int.natAbs_mul]
  have h1 := val_eq hd
  have h2 := val_natAbs hd
  rw [hv] at h1
  rw [← h2, hv, Int.natAbs_mul, Int.natAbs_natCast] at h1
  rw [show z.natAbs * n.natAbs * 2 ^ (1074 - e) = z.natAbs * 2 ^ (1074 - e) * n.natAbs by generalize 2 ^ (1074 - e) = p; ac_rfl, sgn_mul, ← h1]
  have : (n.natAbs : Int) = n := by omega
  rw [this]
  generalize ((2 ^ (1074 - e) : Nat) : Int) = p
  rw [Int.mul_assoc, Int.mul_comm p n, Int.mul_assoc]

theorem cmp_exact {x y : UInt64} {z v : Int} {e : Nat} (hx : FinQ x z e) (hy : FinQ y v e) : cmp x y = some (compare z v) := by
  obtain ⟨⟨a, m, f, hd⟩, hv⟩ := hx
  obtain ⟨⟨a', m', f', hd'⟩, hv'⟩ := hy
  rw [cmp_right hd hd', hv, hv']
  have hp : (0 : Int) < ((2 ^ (1074 - e) : Nat) : Int) := Int.ofNat_lt.mpr (Nat.two_pow_pos _)
  generalize ((2 ^ (1074 - e) : Nat) : Int) = p at *
  congr 1
  rcases Int.lt_trichotomy z v with h | h | h
  · rw [Int.compare_eq_lt.mpr h, Int.compare_eq_lt.mpr (Int.mul_lt_mul_of_pos_right h hp)]
  · subst h; simp
  · rw [Int.compare_eq_gt.mpr h, Int.compare_eq_gt.mpr (Int.mul_lt_mul_of_pos_right h hp)]

theorem cmpInt_exact {x : UInt64} {z i : Int} {e : Nat} (hx : FinQ x z e) (he : e ≤ 1074) : cmpInt x i = some (compare z (i * ((2 ^ e : Nat) : Int))) := by
  obtain ⟨⟨a, m, f, hd⟩, hv⟩ := hx
  rw [cmpInt_right hd, hv]
  have hp : (0 : Int) < ((2 ^ (1074 - e) : Nat) : Int) := Int.ofNat_lt.mpr (Nat.two_pow_pos _)
  have e1 : i * 2 ^ 1074 = i * ((2 ^ e : Nat) : Int) * ((2 ^ (1074 - e) : Nat) : Int) := by
    rw [Int.mul_assoc, ← Int.natCast_mul, ← Nat.pow_add]
    have : e + (1074 - e) = 1074 := by omega
    rw [this]
    congr 1
  rw [e1]
  generalize i * ((2 ^ e : Nat) : Int) = v
  generalize ((2 ^ (1074 - e) : Nat) : Int) = p at *
  congr 1
  rcases Int.lt_trichotomy z v with h | h | h
  · rw [Int.compare_eq_lt.mpr h, Int.compare_eq_lt.mpr (Int.mul_lt_mul_of_pos_right h hp)]
  · subst h; simp
  · rw [Int.compare_eq_gt.mpr h, Int.compare_eq_gt.mpr (Int.mul_lt_mul_of_pos_right h hp)]
end Mine


namespace Mine

/-- an int or a float -/
def IsNum (v : Value) : Prop := (∃ i t, v = .int i t) ∨ (∃ x t, v = .float x t)
/-- Python's less-than on ints and floats -/
def numLt : Value → Value → Bool
  | .int a _, .int b _ => decide (a < b)
  | .int a _, .float y _ => Float64.cmpInt y a == some Ordering.gt
  | .float x _, .int b _ => Float64.cmpInt x b == some Ordering.lt
  | .float x _, .float y _ => Float64.cmp x y == some Ordering.lt
  | _, _ => false

theorem keyLt'_general (x y : Value) : keyLt' general' x y = oneLt' false x y := rfl

section
variable {prog : Program} {w : World} {A : Around} {E : Value → Shared → Prop} {s : Shared}

theorem oneLt_general {x y : Value} (hx : IsNum x) (hy : IsNum y) {Q : Bool → Shared → Prop} (h : Q (numLt x y) s) : wpAny (model prog w) A (oneLt' false x y) Q E s := by
  rw [oneLt'_eq]
  simp only [Bool.false_eq_true, if_false]
  rcases hx with ⟨a, t, rfl⟩ | ⟨a, t, rfl⟩ <;> rcases hy with ⟨b, u, rfl⟩ | ⟨b, u, rfl⟩
  · exact wpAny_bind (PyProof.Rows.lt_int (wpAny_truthy_bool h))
  · exact wpAny_bind (PyProof.Rows.lt_if (wpAny_truthy_bool h))
  · exact wpAny_bind (PyProof.Rows.lt_fi (wpAny_truthy_bool h))
  · exact wpAny_bind (AutoFloatOps.lt_0 (wpAny_truthy_bool h))

theorem call_float_lt {a b : UInt64} {t u : Tok} {Q : Value → Shared → Prop} (h : Q (.bool (Float64.cmp a b == some Ordering.lt)) s) :
    wpAny (model prog w) A (call (.builtin "float.__lt__") [.float a t, .float b u]) Q E s :=
  call_gives F.slot_float_lt (AutoFloatOps.typeIs_float s a t) F.entry_float_lt (F.args_float_lt_2 _ _) (AutoFloatG5.float___lt___float_float_0 a t b u) h

theorem oneLt_float {a b : UInt64} {t u : Tok} {Q : Bool → Shared → Prop} (h : Q (Float64.cmp a b == some Ordering.lt) s) : wpAny (model prog w) A (oneLt' true (.float a t) (.float b u)) Q E s := by
  rw [oneLt'_eq]
  simp only [if_true]
  refine wpAny_bind (wpAny_cRoomFor_byValue rfl ?_)
  refine wpAny_bind (wpAny_callSpecialIfBound?_slot (AutoFloatOps.typeIs_float s a t) F.slot_float_lt (call_float_lt ?_))
  exact wpAny_truthy_bool h
end

/-- the kind's name of a number -/
def numTy : Value → Value
  | .int _ _ => .type "int"
  | _ => .type "float"
theorem typeOf_num {v : Value} (h : IsNum v) : typeOf v = pure (numTy v) := by
  rcases h with ⟨i, t, rfl⟩ | ⟨x, t, rfl⟩ <;> rfl
theorem first_num {v : Value} (h : IsNum v) : firstOfTuple' v = pure none := by
  rcases h with ⟨i, t, rfl⟩ | ⟨x, t, rfl⟩ <;> rfl
theorem mapM_first_nums : ∀ {vs : List Value}, (∀ v ∈ vs, IsNum v) → vs.mapM firstOfTuple' = pure (vs.map fun _ => none)
  | [], _ => by simp
  | v :: vs, h => by rw [List.mapM_cons, first_num (h v (.head _)), mapM_first_nums fun u hu => h u (.tail _ hu)]; simp
theorem mapM_typeOf_nums : ∀ {vs : List Value}, (∀ v ∈ vs, IsNum v) → vs.mapM typeOf = pure (vs.map numTy)
  | [], _ => by simp
  | v :: vs, h => by
    rw [List.mapM_cons, typeOf_num (h v (.head _)), mapM_typeOf_nums fun u hu => h u (.tail _ hu)]; simp

/-- one kind for all, or the general way -/
theorem keyKind_nums {v₁ v₂ : Value} {vs : List Value} (h : ∀ v ∈ v₁ :: v₂ :: vs, IsNum v) :
    (keyKind' (v₁ :: v₂ :: vs).toArray = pure oneType' ∧ ∀ v ∈ v₁ :: v₂ :: vs, numTy v = numTy v₁) ∨ keyKind' (v₁ :: v₂ :: vs).toArray = pure general' := by
  rw [keyKind'_eq, List.mapM_toArray, mapM_first_nums h]
  simp only [map_pure, pure_bind]
  rw [if_neg (by simp), if_neg (by simp)]
  rw [oneTypeOnly'_eq, List.mapM_toArray, mapM_typeOf_nums h]
  simp only [map_pure, pure_bind]
  have h0 : (List.map numTy (v₁ :: v₂ :: vs)).toArray[0]? = some (numTy v₁) := by simp
  rw [h0]
  cases hall : (List.map numTy (v₁ :: v₂ :: vs)).toArray.all fun x => x == numTy v₁ with
  | true =>
    left
    simp only [hall, if_true, pure_bind, Option.isSome_some]
    refine ⟨trivial, fun v hv => ?_⟩
    simp only [List.all_toArray, List.all_map, List.all_eq_true] at hall
    exact eq_of_beq (hall v hv)
  | false =>
    right
    simp only [hall, Bool.false_eq_true, if_false, pure_bind, Option.isSome_none]

section
variable {prog : Program} {w : World} {A : Around} {E : Value → Shared → Prop} {s : Shared}

/-- in this kind the less-than of two of the items is numLt -/
def KindLt (vs : List Value) (kd : SortKind) : Prop :=
  ∀ (prog : Program) (w : World) (A : Around) (E : Value → Shared → Prop) (s : Shared) (x y : Value) {Q : Bool → Shared → Prop}, x ∈ vs → y ∈ vs → Q (numLt x y) s → wpAny (model prog w) A (keyLt' kd x y) Q E s

theorem kindLt_general {vs : List Value} (h : ∀ v ∈ vs, IsNum v) : KindLt vs general' := by
  intro prog w A E s x y Q hx hy hQ
  rw [keyLt'_general]
  exact oneLt_general (h x hx) (h y hy) hQ
theorem kindLt_one {vs : List Value} {ty : Value} (h : ∀ v ∈ vs, IsNum v) (ht : ∀ v ∈ vs, numTy v = ty) : KindLt vs oneType' := by
  intro prog w A E s x y Q hx hy hQ
  rw [keyLt'_oneType]
  have e : numTy x = numTy y := (ht x hx).trans (ht y hy).symm
  rcases h x hx with ⟨a, t, rfl⟩ | ⟨a, t, rfl⟩ <;> rcases h y hy with ⟨b, u, rfl⟩ | ⟨b, u, rfl⟩
  · exact oneLt_int hQ
  · simp [numTy] at e
  · simp [numTy] at e
  · exact oneLt_float hQ

theorem wpS_ltAtN {vs : List Value} {kd : SortKind} (hk : KindLt vs kd) {st : SortSt} {i j : Nat} {x y p q : Value} {Q : Option Bool → SortSt → Prop} (hkd : kindOf st = kd)
    (hi : (arrOf st)[i]? = some (x, p)) (hj : (arrOf st)[j]? = some (y, q)) (hx : x ∈ vs) (hy : y ∈ vs) (h : Q (some (numLt x y)) st) :
    wpS (model prog w) A E s (ltAt' i j) Q st := by
  rw [ltAt'_eq]
  refine wpS_bind (wpS_get ?_)
  show wpS _ _ _ _ (do let x ← elem' (arrOf st) i; let y ← elem' (arrOf st) j; lt' x y) Q st
  rw [elem'_eq, elem'_eq, hi, hj]
  refine wpS_bind (wpS_pure (wpS_bind (wpS_pure ?_)))
  rw [lt'_eq]
  refine wpS_bind (wpS_get ?_)
  rw [hkd]
  refine wpS_bind (wpS_lift (wpAny_attempt (hk prog w A _ s x y hx hy ⟨rfl, ?_⟩)))
  exact wpS_pure h

theorem pairs_at {vs : List Value} {i : Nat} (hi : i < vs.length) : (pairsOf vs)[i]? = some (vs[i], vs[i]) := by
  rw [← Array.getElem?_toList, pairsOf_toList, List.getElem?_zip_eq_some.mpr]
  simp [hi]

/-- a list that stands in order is found to be one run, and stays -/
theorem wpS_runs_ordered {vs : List Value} {kd : SortKind} (hk : KindLt vs kd) (hord : ∀ i, (hi : i + 1 < vs.length) → numLt vs[i + 1] vs[i] = false) (h2 : 2 ≤ vs.length) (h64 : vs.length < 64)
    {Q : Unit → SortSt → Prop} (h : ∀ st', arrOf st' = pairsOf vs → failedOf st' = none → Q () st') :
    wpS (model prog w) A E s sortRuns' Q (SortSt.mk' kd (pairsOf vs) #[] 7 none) := by
  have hsz : (pairsOf vs).size = vs.length := pairsOf_size vs
  have hmr : minRun' vs.length vs.length 0 = vs.length := by
    obtain ⟨f, hf⟩ : ∃ f, vs.length = f + 1 := ⟨vs.length - 1, by omega⟩
    have : minRun' (f + 1) vs.length 0 = vs.length := by rw [minRun'_succ, if_pos h64]; rfl
    rwa [← hf] at this
  rw [sortRuns'_eq]
  refine wpS_bind (wpS_get ?_)
  show wpS _ _ _ _ _ Q (SortSt.mk' kd (pairsOf vs) #[] 7 none)
  have hs' : (arrOf (SortSt.mk' kd (pairsOf vs) #[] 7 none)).size = vs.length := hsz
  simp only [hs', hmr]
  refine wpS_bind (wpS_mono (wpS_forRange
    (I := fun x c st' => (x = 0 ∧ c = (none, 0) ∧ st' = SortSt.mk' kd (pairsOf vs) #[] 7 none) ∨ (1 ≤ x ∧ c = (none, vs.length) ∧ arrOf st' = pairsOf vs ∧ failedOf st' = none ∧ pendingOf st' = #[(0, vs.length, 0)]))
    (Q := fun c st' => c = (none, vs.length) ∧ arrOf st' = pairsOf vs ∧ failedOf st' = none ∧ pendingOf st' = #[(0, vs.length, 0)]) ?step ?fin (.inl ⟨rfl, rfl, rfl⟩)) ?post)
  case fin =>
    rintro c st' (⟨hx, _, _⟩ | ⟨_, hc, hD⟩)
    · omega
    · exact ⟨hc, hD⟩
  case step =>
    rintro x c st' _ hx (⟨rfl, rfl, rfl⟩ | ⟨hx1, rfl, hD⟩)
    · dsimp only
      rw [if_neg (by omega)]
      simp only [Nat.sub_zero, Nat.min_self, Nat.zero_add]
      have hcr : ∀ {Q' : Option Nat → SortSt → Prop}, Q' (some vs.length) (SortSt.mk' kd (pairsOf vs) #[] 7 none) → wpS (model prog w) A E s (countRun' 0 vs.length) Q' (SortSt.mk' kd (pairsOf vs) #[] 7 none) := by
        intro Q' hQ'
        rw [countRun0_eq]
        refine wpS_bind (wpS_mono (Q := fun c st' => c = (none, vs.length) ∧ st' = SortSt.mk' kd (pairsOf vs) #[] 7 none) ?_ ?_)
        · unfold ascLoop
          refine wpS_forRange (I := fun x c st' => st' = SortSt.mk' kd (pairsOf vs) #[] 7 none ∧ c = (none, x)) ?_ ?_ ⟨rfl, rfl⟩
          · rintro x c st' hax hxn ⟨rfl, rfl⟩
            dsimp only
            refine wpS_bind (wpS_ltAtN hk rfl (pairs_at (by omega)) (pairs_at (i := x - 1) (by omega)) (List.getElem_mem _) (List.getElem_mem _) ?_)
            have ho := hord (x - 1) (by omega)
            have e : x - 1 + 1 = x := by omega
            simp only [e] at ho
            rw [ho]
            simp only [Bool.false_eq_true, if_false]
            exact wpS_pure ⟨rfl, rfl⟩
          · rintro c st' ⟨rfl, rfl⟩
            rw [show max 1 vs.length = vs.length by omega]
            exact ⟨rfl, rfl⟩
        · rintro c st' ⟨rfl, rfl⟩
          dsimp only
          rw [if_pos (by simp)]
          exact wpS_pure hQ'
      refine wpS_bind (hcr ?_)
      dsimp only
      rw [if_neg (Nat.lt_irrefl _)]
      refine wpS_bind (wpS_get ?_)
      have hb : (pendingOf (SortSt.mk' kd (pairsOf vs) #[] 7 none)).back? = none := rfl
      rw [hb]
      dsimp only
      exact wpS_bind (wpS_modify (wpS_pure (.inr ⟨by omega, rfl, rfl, rfl, rfl⟩)))
    · dsimp only
      rw [if_pos (Nat.le_refl _)]
      exact wpS_pure ⟨rfl, hD⟩
  case post =>
    rintro c st' ⟨rfl, hD⟩
    dsimp only
    refine wpS_bind (wpS_mono (wpS_forRange (I := fun _ c st'' => st'' = st' ∧ c = (none, ())) (Q := fun c st'' => st'' = st' ∧ c = (none, ())) ?_ (fun _ _ hh => hh) ⟨rfl, rfl⟩) ?_)
    · rintro x c st'' _ _ ⟨rfl, rfl⟩
      refine wpS_bind (wpS_get ?_)
      rw [if_pos (by rw [hD.2.2]; exact Nat.le_refl 1)]
      exact wpS_pure ⟨rfl, rfl⟩
    · rintro c st'' ⟨rfl, rfl⟩
      exact wpS_pure (h _ hD.1 hD.2.1)

theorem list_sort_ordered {a : Addr} {vs : List Value} {n : Nat} {P : Fin → Shared → Prop} (ho : s.heap.get? a = some (seqObj "list" vs.toArray n))
    (hnum : ∀ v ∈ vs, IsNum v) (hord : ∀ i, (hi : i + 1 < vs.length) → numLt vs[i + 1] vs[i] = false) (h64 : vs.length < 64)
    (h : P (.done (.ret .none)) { s with heap := sortedHeap s.heap a vs vs.toArray }) :
    wpAny (model prog w) A (Builtin.«list.sort» ⟨[.ref a], []⟩) P E s := by
  rw [list_sort_plain]
  have ha : a < s.heap.objs.size := Heap.lt_size ho
  refine wpAny_bind (listItems_at ho rfl ?_)
  refine wpAny_bind (listUpdate_at ho rfl ?_)
  obtain ⟨e1, ho1⟩ : ∃ e1, (s.heap.update a (Obj.mapSeq fun _ => #[])).get? a = some (seqObj "list" #[] e1) := ⟨_, get?_update_seq ho (fun _ => #[])⟩
  refine wpAny_bind (seqEpoch_at ho1 rfl ?_)
  refine wpAny_bind (wpAny_newTuple ?_)
  refine wpAny_bind (wpAny_newList ?_)
  refine wpAny_holding ?_
  have ho6 : (((s.heap.update a (Obj.mapSeq fun _ => #[])).push (seqObj "tuple" vs.toArray 0)).push (seqObj "list" #[] 0)).get? a = some (seqObj "list" #[] e1) := by
    rw [Heap.get?_push_ne _ _ _ (by rw [size_push', Heap.size_update]; exact Nat.ne_of_lt (Nat.lt_succ_of_lt ha)), Heap.get?_push_ne _ _ _ (by rw [Heap.size_update]; exact Nat.ne_of_lt ha)]
    exact ho1
  show wpAny (model prog w) A _ P E { s with heap := ((s.heap.update a (Obj.mapSeq fun _ => #[])).push (seqObj "tuple" vs.toArray 0)).push (seqObj "list" #[] 0) }
  dsimp only
  have hsz : vs.toArray.size = vs.length := by simp
  have hout : (pairsOf vs).map (·.2) = vs.toArray := by
    apply Array.toList_inj.mp
    rw [Array.toList_map, pairsOf_toList, List.map_snd_zip (Nat.le_refl _)]
  by_cases h2 : vs.toArray.size < 2
  · rw [if_pos h2, if_pos h2]
    refine wpAny_bind (wpAny_pure ?_)
    rw [StateT.run_pure]
    refine wpAny_bind (wpAny_pure ?_)
    dsimp only
    refine wpAny_bind (seqEpoch_at ho6 rfl ?_)
    refine wpAny_bind (listUpdate_at ho6 rfl ?_ (hsz2 := by rw [Array.size_map]; show (pairsOf vs).size ≤ _; rw [pairsOf_size, sizeLine_eq]; omega))
    simp only [bne_self_eq_false, Bool.false_eq_true, if_false]
    refine wpAny_pure ?_
    show P _ { s with heap := sortedHeap s.heap a vs ((pairsOf vs).map (·.2)) }
    rw [hout]
    exact h
  · rw [if_neg h2, if_neg h2]
    obtain ⟨v₁, v₂, rest, rfl⟩ : ∃ v₁ v₂ rest, vs = v₁ :: v₂ :: rest := by
      match vs, hsz, h2 with
      | [], _, h2 => simp at h2
      | [_], _, h2 => simp at h2
      | v₁ :: v₂ :: rest, _, _ => exact ⟨v₁, v₂, rest, rfl⟩
    obtain ⟨kd, hkd, hkl⟩ : ∃ kd, keyKind' (v₁ :: v₂ :: rest).toArray = pure kd ∧ KindLt (v₁ :: v₂ :: rest) kd := by
      rcases keyKind_nums hnum with ⟨e, ht⟩ | e
      · exact ⟨_, e, kindLt_one hnum ht⟩
      · exact ⟨_, e, kindLt_general hnum⟩
    rw [hkd]
    refine wpAny_bind (wpAny_pure ?_)
    refine wpAny_bind (wpAny_mono (wpS_runs_ordered hkl hord (by simp) h64 (Q := fun _ st' => arrOf st' = pairsOf (v₁ :: v₂ :: rest) ∧ failedOf st' = none) fun st' a1 a2 => ⟨a1, a2⟩) ?_ fun _ _ e => e)
    rintro ⟨⟨⟩, st'⟩ s' ⟨rfl, hp, hf⟩
    dsimp only at hp hf ⊢
    refine wpAny_bind (seqEpoch_at ho6 rfl ?_)
    refine wpAny_bind (listUpdate_at ho6 rfl ?_ (hsz2 := by rw [Array.size_map, hp, pairsOf_size, sizeLine_eq]; omega))
    rw [hf]
    simp only [bne_self_eq_false, Bool.false_eq_true, if_false]
    refine wpAny_pure ?_
    show P _ { s with heap := sortedHeap s.heap a (v₁ :: v₂ :: rest) ((arrOf st').map (·.2)) }
    rw [hp, hout]
    exact h

theorem sorted_ordered {l : Addr} {vs : List Value} {Q : Value → Shared → Prop} (hl : s.heap.IsList l vs.toArray)
    (hnum : ∀ v ∈ vs, IsNum v) (hord : ∀ i, (hi : i + 1 < vs.length) → numLt vs[i + 1] vs[i] = false) (h64 : vs.length < 64)
    (h : Q (.ref (s.heap.objs.size + 1)) { s with heap := sortedAll s.heap vs vs.toArray }) :
    wpAny (model prog w) A (call (.builtin "sorted") [.ref l]) Q E s := by
  refine Calls.call_function_entry kind_sorted plain_sorted entry_sorted (args_sorted1 _) ?_
  unfold Builtin.«sorted»
  refine wpAny_bind (m := checkCount "sorted" 1 1 _) (wpAny_pure ?_)
  refine wpAny_bind (collect_list hl ?_)
  refine wpAny_bind (wpAny_newList ?_)
  have hsz : ((s.heap.push (seqObj "list" #[] 0)).update s.heap.objs.size (Obj.mapSeq (· ++ vs.toArray))).objs.size = s.heap.objs.size + 1 := by
    rw [Heap.size_update, size_push']
  have hoL : (((s.heap.push (seqObj "list" #[] 0)).update s.heap.objs.size (Obj.mapSeq (· ++ vs.toArray))).push (seqObj "list" vs.toArray 0)).get? (s.heap.objs.size + 1) = some (seqObj "list" vs.toArray 0) := by
    rw [← hsz]; exact Heap.get?_push_size _ rfl
  show wpAny _ _ _ _ _ { s with heap := ((s.heap.push (seqObj "list" #[] 0)).update s.heap.objs.size (Obj.mapSeq (· ++ vs.toArray))).push (seqObj "list" vs.toArray 0) }
  rw [hsz]
  refine wpAny_bind (wpAny_holding (wpAny_call_entry slot_list_sort ⟨_, hoL, rfl⟩ entry_list_sort (list_sort_ordered hoL hnum hord h64 ⟨_, rfl, ?_⟩) (args_list_sort _)))
  exact wpAny_pure ⟨_, rfl, h⟩

theorem sorted_orderedN {h₀ : Heap} {L : Addr} {m : Str → Option Value} {news : List (Addr × Obj)} {l : Addr} {vs : List Value} {Q : Value → Shared → Prop}
    (F : Fr h₀ L s.heap m) (N : News h₀ L s.heap news) (hl : s.heap.IsList l vs.toArray)
    (hnum : ∀ v ∈ vs, IsNum v) (hord : ∀ i, (hi : i + 1 < vs.length) → numLt vs[i + 1] vs[i] = false) (h64 : vs.length < 64)
    (h : ∀ (h' : Heap) (D : Addr) (e : Nat), Fr h₀ L h' m → News h₀ L h' ((D, W.listOf vs.toArray e) :: news) → Q (.ref D) { s with heap := h' }) :
    wpAny (model prog w) A (call (.builtin "sorted") [.ref l]) Q E s := by
  refine sorted_ordered hl hnum hord h64 ?_
  obtain ⟨e, he⟩ := sortedAll_at s.heap vs vs.toArray
  exact h _ _ e (F.kept fun _ _ => sortedAll_old) (N.kept_cons F (fun _ _ => sortedAll_old) (Nat.le_succ _) he)
end
end Mine


namespace Mine

/-- an int or a float whose value is z over two to the e -/
def NumQ (v : Value) (z : Int) (e : Nat) : Prop := (∃ i t, v = .int i t ∧ z = i * ((2 ^ e : Nat) : Int)) ∨ (∃ x t, v = .float x t ∧ FinQ x z e ∧ t ≠ 0)

theorem NumQ.isNum {v : Value} {z : Int} {e : Nat} (h : NumQ v z e) : IsNum v := by
  rcases h with ⟨i, t, rfl, _⟩ | ⟨x, t, rfl, _⟩
  · exact .inl ⟨i, t, rfl⟩
  · exact .inr ⟨x, t, rfl⟩

theorem NumQ.int {i : Int} {t : Tok} {e : Nat} : NumQ (.int i t) (i * ((2 ^ e : Nat) : Int)) e := .inl ⟨i, t, rfl, rfl⟩

theorem NumQ.up {v : Value} {z : Int} {e : Nat} (h : NumQ v z e) (j : Nat) (hj : e + j ≤ 1074) : NumQ v (z * ((2 ^ j : Nat) : Int)) (e + j) := by
  rcases h with ⟨i, t, rfl, rfl⟩ | ⟨x, t, rfl, h⟩
  · refine .inl ⟨i, t, rfl, ?_⟩
    rw [Int.mul_assoc, ← Int.natCast_mul, ← Nat.pow_add]
  · exact .inr ⟨x, t, rfl, finQ_up h.1 hj, h.2⟩

theorem two_pow_pos' (e : Nat) : (0 : Int) < ((2 ^ e : Nat) : Int) := Int.ofNat_lt.mpr (Nat.two_pow_pos _)

theorem int_of_scaled {i z : Int} {e : Nat} (h : z = i * ((2 ^ e : Nat) : Int)) : i.natAbs ≤ z.natAbs := by
  rw [h, Int.natAbs_mul, Int.natAbs_natCast]
  exact Nat.le_mul_of_pos_right _ (Nat.two_pow_pos _)

theorem ofInt_scaled {i z : Int} {e : Nat} (h : z = i * ((2 ^ e : Nat) : Int)) (he : e ≤ 1074) (hz : z.natAbs < 2 ^ 53) : FinQ (Float64.ofInt i) z e := by
  have h1 := ofInt_exact (i := i) (Nat.lt_of_le_of_lt (int_of_scaled h) hz)
  have h2 := finQ_up h1 (j := e) (by omega)
  rw [Nat.zero_add] at h2
  rw [h]; exact h2

theorem compare_lt (a b : Int) : (some (compare a b) == some Ordering.lt) = decide (a < b) := by
  rcases Int.lt_trichotomy a b with h | h | h
  · rw [Int.compare_eq_lt.mpr h]; simp [h]
  · subst h; simp
  · rw [Int.compare_eq_gt.mpr h]; simp; omega
theorem compare_gt (a b : Int) : (some (compare a b) == some Ordering.gt) = decide (b < a) := by
  rcases Int.lt_trichotomy a b with h | h | h
  · rw [Int.compare_eq_lt.mpr h]; simp; omega
  · subst h; simp
  · rw [Int.compare_eq_gt.mpr h]; simp [h]

theorem scaled_lt {a b : Int} (e : Nat) : (a * ((2 ^ e : Nat) : Int) < b * ((2 ^ e : Nat) : Int)) ↔ a < b := by
  have hp := two_pow_pos' e
  generalize ((2 ^ e : Nat) : Int) = p at *
  constructor
  · intro h; exact Int.lt_of_mul_lt_mul_right h (Int.le_of_lt hp)
  · intro h; exact Int.mul_lt_mul_of_pos_right h hp

theorem numLt_of {u v : Value} {z y : Int} {e : Nat} (he : e ≤ 1074) (hu : NumQ u z e) (hv : NumQ v y e) : numLt u v = decide (z < y) := by
  rcases hu with ⟨i, t, rfl, rfl⟩ | ⟨x, t, rfl, hx, ht0⟩ <;> rcases hv with ⟨j, t', rfl, rfl⟩ | ⟨x', t', rfl, hx', ht0'⟩
  · show decide (i < j) = _
    exact decide_eq_decide.mpr (scaled_lt e).symm
  · show (Float64.cmpInt x' i == some Ordering.gt) = _
    rw [cmpInt_exact hx' he, compare_gt]
  · show (Float64.cmpInt x j == some Ordering.lt) = _
    rw [cmpInt_exact hx he, compare_lt]
  · show (Float64.cmp x x' == some Ordering.lt) = _
    rw [cmp_exact hx hx', compare_lt]

section
variable {prog : Program} {w : World} {A : Around} {E : Value → Shared → Prop} {s : Shared}

theorem fits_of {n : Int} (h : n.natAbs < 2 ^ 53) : ¬ Float64.isInf (Float64.ofInt n) = true := by
  obtain ⟨⟨a, m, f, hd⟩, _⟩ := ofInt_exact h
  unfold Float64.isInf
  rw [hd]; simp

theorem num_add {u v : Value} {z y : Int} {e : Nat} {Q : Value → Shared → Prop} (hA : A.handled = none) (hs0 : s.toks ≠ 0) (he : e ≤ 1074) (hu : NumQ u z e) (hv : NumQ v y e) (hz : z.natAbs < 2 ^ 52) (hy : y.natAbs < 2 ^ 52)
    (h : ∀ r tk, tk ≠ 0 → NumQ r (z + y) e → Q r { s with toks := tk }) : wpAny (model prog w) A (binaryOp .Add u v) Q E s := by
  have hzy : (z + y).natAbs < 2 ^ 53 := by omega
  rcases hu with ⟨i, t, rfl, hi⟩ | ⟨x, t, rfl, hx, ht0⟩ <;> rcases hv with ⟨j, t', rfl, hj⟩ | ⟨x', t', rfl, hx', ht0'⟩
  · refine PyProof.Rows.add_int (h _ _ (Nat.succ_ne_zero _) (.inl ⟨_, _, rfl, ?_⟩))
    rw [hi, hj, Int.add_mul]
  · have hf := ofInt_scaled hi he (by omega)
    refine add_if_or hA (fun hb => absurd hb (fits_of (Nat.lt_of_le_of_lt (int_of_scaled hi) (by omega)))) (fun _ => h _ _ (Nat.succ_ne_zero _) (.inr ⟨_, _, rfl, add_exact hf hx' hzy, hs0⟩))
  · have hf := ofInt_scaled hj he (by omega)
    refine add_fi_or hA (fun hb => absurd hb (fits_of (Nat.lt_of_le_of_lt (int_of_scaled hj) (by omega)))) (fun _ => h _ _ (Nat.succ_ne_zero _) (.inr ⟨_, _, rfl, add_exact hx hf hzy, hs0⟩))
  · exact add_float (h _ _ (Nat.succ_ne_zero _) (.inr ⟨_, _, rfl, add_exact hx hx' hzy, hs0⟩))

theorem num_half {u : Value} {z : Int} {e : Nat} {t' : Tok} {Q : Value → Shared → Prop} (hA : A.handled = none) (hs0 : s.toks ≠ 0) (he : e + 1 ≤ 1074) (hu : NumQ u z e) (hz : z.natAbs < 2 ^ 53)
    (h : ∀ r tk, tk ≠ 0 → NumQ r z (e + 1) → Q r { s with toks := tk }) : wpAny (model prog w) A (binaryOp .Div u (.int 2 t')) Q E s := by
  rcases hu with ⟨i, t, rfl, hi⟩ | ⟨x, t, rfl, hx, ht0⟩
  · have hib := Nat.lt_of_le_of_lt (int_of_scaled hi) hz
    refine PySem.Flt.div_ii_fits hA (Nat.lt_of_lt_of_le hib (Nat.pow_le_pow_right (by decide) (by decide))) (fun h0 => absurd h0 (by decide)) (fun _ _ => h _ _ (Nat.succ_ne_zero _) (.inr ⟨_, _, rfl, ?_, hs0⟩))
    show FinQ (fq i 2) z (e + 1)
    have h1 : FinQ (fq i 2) i 1 := fq_exact (by decide) (by omega) hib (by rfl)
    have h2 := finQ_up h1 (j := e) (by omega)
    rw [Nat.add_comm 1 e] at h2
    rw [hi]; exact h2
  · have ho : ¬ PySem.Flt.Over 2 := fun ho => absurd (PySem.Flt.inf_of_over ho) (fits_of (by decide))
    exact PySem.Flt.truediv_fi hA (fun h0 => absurd h0 ho) (fun h0 => absurd h0 (by decide)) (fun _ _ => h _ _ (Nat.succ_ne_zero _) (.inr ⟨_, _, rfl, half_exact hx he hz, hs0⟩))

theorem wpAny_isSame_float {p q : UInt64} {t u : Tok} {Q : Bool → Shared → Prop} (ht : t ≠ 0) (hu : u ≠ 0) (hb : NoneBooked s.heap) (hq : ∀ b, Q b s) : wpAny (model prog w) A (isSame (.float p t) (.float q u)) Q E s := by
  show wpAny _ A (isSame.created (p == q && !Float64.isNaN p) t u) Q E s
  unfold isSame.created
  refine wpAny_ite ?_
  split
  · rename_i h
    simp only [Bool.or_eq_true, beq_iff_eq] at h
    exact h.elim (fun h => absurd h ht) fun h => absurd h hu
  refine wpAny_ite ?_
  split
  · exact wpAny_pure (hq _)
  refine wpAny_ite ?_
  split
  · exact wpAny_pure (hq _)
  refine wpAny_bind (wpAny_sharingNotTold_none hb ?_)
  first | rw [if_neg Bool.false_ne_true] | simp only [Bool.false_eq_true, if_false]
  refine wpAny_bind (wpAny_sharingNotTold_none hb ?_)
  first | rw [if_neg Bool.false_ne_true] | simp only [Bool.false_eq_true, if_false]
  exact wpAny_bind (wpAny_rule (wpAny_bind (wpAny_askSetting (wpAny_pure (hq _)))))

open PySem.SeqAt in
theorem num_eqAt {u v : Value} {z : Int} {e : Nat} (hb : NoneBooked s.heap) (he : e ≤ 1074) (hu : NumQ u z e) (hv : NumQ v z e) : EqAt A s u v true := by
  intro prog w E Q hq
  unfold eqBool
  refine wpAny_holding ?_
  refine wpAny_ite_split (fun _ => wpAny_bind (wpAny_rule (wpAny_pure hq))) (fun _ => ?_)
  rcases hu with ⟨i, t, rfl, hi⟩ | ⟨x, t, rfl, hx, ht0⟩ <;> rcases hv with ⟨j, t', rfl, hj⟩ | ⟨x', t', rfl, hx', ht0'⟩
  · have e1 : i = j := two_cancel (hi.symm.trans hj)
    subst e1
    refine wpAny_bind (PyProof.Rows.eq_int (wpAny_truthy_bool ?_))
    rw [beq_self_eq_true]; exact hq
  · refine wpAny_bind (eq_if (wpAny_truthy_bool ?_))
    rw [cmpInt_exact hx' he, ← hi]; simpa using hq
  · refine wpAny_bind (eq_fi (wpAny_truthy_bool ?_))
    rw [cmpInt_exact hx he, ← hj]; simpa using hq
  · dsimp only
    refine wpAny_bind (wpAny_isSame_float ht0 ht0' hb fun b => ?_)
    cases b with
    | true => exact wpAny_pure hq
    | false =>
      refine wpAny_bind (AutoFloatOps.eq_0 (wpAny_truthy_bool ?_))
      rw [cmp_exact hx hx']; simpa using hq

open PySem.SeqAt in
theorem lists_eq {l b : Addr} {xs ys : Array Value} {Q : Value → Shared → Prop} (hl : s.heap.IsList l xs) (hb : s.heap.IsList b ys) (hsz : xs.size = ys.size) (hu : A.units < cLine)
    (he : ∀ j (h1 : j < xs.size) (h2 : j < ys.size), EqAt A.in1 s xs[j] ys[j] true) (h : Q (.bool true) s) : wpAny (model prog w) A (compareOp .Eq (.ref l) (.ref b)) Q E s := by
  refine RcAt.lists (e := fun _ => true) hl hb hsz hu he prog w E Q ?_
  have : (List.range xs.size).all (fun _ => true) = true := by simp
  rw [this]; exact h
open PySem.SeqAt in
theorem lists_ne {l b : Addr} {xs ys : Array Value} {Q : Value → Shared → Prop} (hl : s.heap.IsList l xs) (hb : s.heap.IsList b ys) (hsz : xs.size = ys.size) (hu : A.units < cLine)
    (he : ∀ j (h1 : j < xs.size) (h2 : j < ys.size), EqAt A.in1 s xs[j] ys[j] true) (h : Q (.bool false) s) : wpAny (model prog w) A (compareOp .NotEq (.ref l) (.ref b)) Q E s := by
  refine RcNeAt.lists (e := fun _ => true) hl hb hsz hu he prog w E Q ?_
  have : (List.range xs.size).all (fun _ => true) = true := by simp
  rw [this]; exact h
end

theorem booked_of {K : Frag} {h : Heap} {o : Obj} {n : Nat} (X : K.In h) (hk : K.lookup cStatics = some o) (ho : o.data = .dict #[] n) : NoneBooked h :=
  ⟨fun _ => none, ⟨o, #[], n, X _ _ hk, ho, by intro e he; simp at he, fun _ => rfl⟩, rfl⟩
end Mine


namespace Mine

/-- D times the value at p Dths of the way along A -/
def interp (A : Nat → Int) (D p : Nat) : Int := A (p / D) * ((D : Int) - ((p % D : Nat) : Int)) + A (p / D + 1) * ((p % D : Nat) : Int)

theorem interp_one (A : Nat → Int) (p : Nat) : interp A 1 p = A p := by
  unfold interp
  simp [Nat.mod_one]

theorem interp_even (A : Nat → Int) {D : Nat} (hD : 0 < D) (p : Nat) : interp A (2 * D) (2 * p) = 2 * interp A D p := by
  unfold interp
  have e1 : 2 * p / (2 * D) = p / D := Nat.mul_div_mul_left _ _ (by decide)
  have e2 : 2 * p % (2 * D) = 2 * (p % D) := Nat.mul_mod_mul_left _ _ _
  rw [e1, e2]
  generalize A (p / D) = a
  generalize A (p / D + 1) = b
  generalize p % D = r
  rw [Int.natCast_mul, Int.natCast_mul]
  simp only [Int.mul_add, Int.mul_sub]
  generalize (r : Int) = r
  generalize (D : Int) = d
  rw [Int.mul_left_comm a, Int.mul_left_comm a, Int.mul_left_comm b]
  rfl

theorem interp_step (A : Nat → Int) {D : Nat} (hD : 0 < D) (p : Nat) : interp A D (p + 1) - interp A D p = A (p / D + 1) - A (p / D) := by
  unfold interp
  have hr := Nat.mod_lt p hD
  have hp := Nat.div_add_mod p D
  by_cases h : p % D + 1 < D
  · have e1 : (p + 1) / D = p / D := by
      rw [Nat.div_eq_of_lt_le]
      · rw [Nat.mul_comm]; omega
      · rw [Nat.add_mul, Nat.mul_comm]; omega
    have e2 : (p + 1) % D = p % D + 1 := by
      have := Nat.div_add_mod (p + 1) D
      rw [e1] at this; omega
    rw [e1, e2]
    generalize A (p / D) = a
    generalize A (p / D + 1) = b
    generalize p % D = r
    rw [Int.natCast_add]
    generalize (r : Int) = r
    generalize (D : Int) = d
    show a * (d - (r + 1)) + b * (r + 1) - (a * (d - r) + b * r) = b - a
    simp only [Int.mul_sub, Int.mul_add, Int.mul_one]
    omega
  · have e0 : p % D + 1 = D := by omega
    have e1 : (p + 1) / D = p / D + 1 := by
      have : p + 1 = D * (p / D + 1) := by rw [Nat.mul_add]; omega
      rw [this, Nat.mul_div_cancel_left _ hD]
    have e2 : (p + 1) % D = 0 := by
      have : p + 1 = D * (p / D + 1) := by rw [Nat.mul_add]; omega
      rw [this, Nat.mul_mod_right]
    have e3 : ((p % D : Nat) : Int) = (D : Int) - 1 := by omega
    rw [e1, e2, e3]
    generalize A (p / D) = a
    generalize A (p / D + 1) = b
    generalize A (p / D + 1 + 1) = c
    generalize (D : Int) = d
    simp only [Int.mul_sub, Int.mul_one, Int.natCast_zero, Int.mul_zero]
    omega

theorem interp_odd (A : Nat → Int) {D : Nat} (hD : 0 < D) (p : Nat) : interp A (2 * D) (2 * p + 1) = interp A D p + interp A D (p + 1) := by
  have h1 := interp_step A (D := 2 * D) (by omega) (2 * p)
  have h2 := interp_step A hD p
  have h3 := interp_even A hD p
  have e1 : 2 * p / (2 * D) = p / D := Nat.mul_div_mul_left _ _ (by decide)
  rw [e1] at h1
  omega

theorem interp_join (A : Nat → Int) {D : Nat} (hD : 0 < D) (q : Nat) : interp A D (q / 2) + interp A D ((q + 1) / 2) = interp A (2 * D) q := by
  rcases Nat.mod_two_eq_zero_or_one q with h | h
  · have e1 : q = 2 * (q / 2) := by omega
    have e2 : (q + 1) / 2 = q / 2 := by omega
    have := interp_even A hD (q / 2)
    rw [← e1] at this
    rw [e2, this]; omega
  · have e1 : q = 2 * (q / 2) + 1 := by omega
    have e2 : (q + 1) / 2 = q / 2 + 1 := by omega
    have := interp_odd A hD (q / 2)
    rw [← e1] at this
    rw [e2, this]

theorem interp_mono (A : Nat → Int) {D G : Nat} (hD : 0 < D) (hA : ∀ q, q < G → A q ≤ A (q + 1)) (p : Nat) (hp : p < G * D) : interp A D p ≤ interp A D (p + 1) := by
  have h1 := interp_step A hD p
  have h2 := hA (p / D) ((Nat.div_lt_iff_lt_mul hD).mpr hp)
  omega

theorem natAbs_mul_le {a : Int} {b : Nat} {M : Nat} (ha : a.natAbs ≤ M) : (a * (b : Int)).natAbs ≤ M * b := by
  rw [Int.natAbs_mul, Int.natAbs_natCast]
  exact Nat.mul_le_mul_right _ ha

theorem interp_bound (A : Nat → Int) {D M : Nat} (hD : 0 < D) (hA : ∀ q, (A q).natAbs ≤ M) (p : Nat) : (interp A D p).natAbs ≤ M * D := by
  unfold interp
  have hr := Nat.mod_lt p hD
  have e : (D : Int) - ((p % D : Nat) : Int) = ((D - p % D : Nat) : Int) := by omega
  rw [e]
  have h1 := natAbs_mul_le (b := D - p % D) (hA (p / D))
  have h2 := natAbs_mul_le (b := p % D) (hA (p / D + 1))
  have h3 := Int.natAbs_add_le (A (p / D) * ((D - p % D : Nat) : Int)) (A (p / D + 1) * ((p % D : Nat) : Int))
  have h4 : M * (D - p % D) + M * (p % D) = M * D := by rw [← Nat.mul_add]; congr 1; omega
  omega

theorem interp_const (A : Nat → Int) {D p : Nat} {x : Int} (h1 : A (p / D) = x) (h2 : p % D = 0 ∨ A (p / D + 1) = x) : interp A D p = x * (D : Int) := by
  unfold interp
  rw [h1]
  rcases h2 with h | h
  · rw [h]; simp
  · rw [h, ← Int.mul_add]
    congr 1
    omega

theorem fdiv_nat (a b : Nat) : ((a : Int)).fdiv (b : Int) = ((a / b : Nat) : Int) := by
  rw [Int.fdiv_eq_ediv_of_nonneg _ (by omega)]; exact (Int.natCast_ediv a b).symm
theorem fmod_nat (a b : Nat) : ((a : Int)).fmod (b : Int) = ((a % b : Nat) : Int) := by
  rw [Int.fmod_eq_emod_of_nonneg _ (by omega)]; exact (Int.natCast_emod a b).symm

/-- the inclusive cut's numerator -/
theorem numI_interp {ds : List Int} {N i : Nat} (h1 : 1 ≤ ds.length) : numI ds (N : Int) (1 + (i : Int)) = interp (fun q => ds.getD q 0) N ((i + 1) * (ds.length - 1)) := by
  unfold numI interp
  have e : (1 + (i : Int)) * ((ds.length : Int) - 1) = (((i + 1) * (ds.length - 1) : Nat) : Int) := by
    rw [Int.natCast_mul]; congr 1 <;> omega
  rw [e, fdiv_nat, fmod_nat]
  have e2 : ∀ q : Nat, ((q : Int) + 1).toNat = q + 1 := by intro q; omega
  rw [e2, Int.toNat_natCast]

/-- the data with one more item at each end -/
def wideA (ds : List Int) (q : Nat) : Int := if q = 0 then 2 * ds.getD 0 0 - ds.getD 1 0 else if q ≤ ds.length then ds.getD (q - 1) 0 else 2 * ds.getD (ds.length - 1) 0 - ds.getD (ds.length - 2) 0

theorem numE_interp {ds : List Int} {N i : Nat} (h2 : 2 ≤ ds.length) (hi : i + 1 < N) : numE ds (N : Int) (1 + (i : Int)) = interp (wideA ds) N ((i + 1) * (ds.length + 1)) := by
  have hN : 0 < N := by omega
  unfold numE interp
  have e : (1 + (i : Int)) * ((ds.length : Int) + 1) = (((i + 1) * (ds.length + 1) : Nat) : Int) := by
    rw [Int.natCast_mul]; congr 1 <;> omega
  have hq : (i + 1) * (ds.length + 1) / N < ds.length + 1 := by
    rw [Nat.div_lt_iff_lt_mul hN, Nat.mul_comm (ds.length + 1) N]
    exact Nat.mul_lt_mul_of_pos_right hi (by omega)
  have hdm := Nat.div_add_mod ((i + 1) * (ds.length + 1)) N
  have hj : jE (ds.length : Int) (N : Int) (1 + (i : Int)) = if (i + 1) * (ds.length + 1) / N < 1 then 1 else if (i + 1) * (ds.length + 1) / N > ds.length - 1 then (ds.length : Int) - 1 else (((i + 1) * (ds.length + 1) / N : Nat) : Int) := by
    unfold jE
    rw [e, fdiv_nat]
    by_cases c1 : (i + 1) * (ds.length + 1) / N < 1
    · rw [if_pos c1, if_pos (by omega)]
    · rw [if_neg c1, if_neg (by omega)]
      by_cases c2 : (i + 1) * (ds.length + 1) / N > ds.length - 1
      · rw [if_pos c2, if_pos (by omega)]
      · rw [if_neg c2, if_neg (by omega)]
  rw [hj, e]
  generalize hQ : (i + 1) * (ds.length + 1) / N = Q at *
  generalize hR : (i + 1) * (ds.length + 1) % N = R at *
  have hW : (((i + 1) * (ds.length + 1) : Nat) : Int) = (N : Int) * (Q : Int) + (R : Int) := by rw [← hdm]; simp
  rw [hW]
  by_cases c1 : Q < 1
  · have hQ0 : Q = 0 := by omega
    subst hQ0
    rw [if_pos c1]
    have w0 : wideA ds 0 = 2 * ds.getD 0 0 - ds.getD 1 0 := rfl
    have w1 : wideA ds (0 + 1) = ds.getD 0 0 := by unfold wideA; rw [if_neg (by omega), if_pos (by omega)]
    rw [w0, w1]
    show ds.getD 0 0 * _ + ds.getD 1 0 * _ = _
    generalize ds.getD 0 0 = a
    generalize ds.getD 1 0 = b
    generalize (N : Int) = n
    generalize (R : Int) = r
    simp only [Int.natCast_zero, Int.mul_zero, Int.zero_add, Int.one_mul, Int.mul_sub, Int.sub_mul, Int.mul_assoc]
    omega
  · rw [if_neg c1]
    have w1 : wideA ds Q = ds.getD (Q - 1) 0 := by unfold wideA; rw [if_neg (by omega), if_pos (by omega)]
    by_cases c2 : Q > ds.length - 1
    · have hQl : Q = ds.length := by omega
      rw [if_pos c2, w1]
      have w2 : wideA ds (Q + 1) = 2 * ds.getD (ds.length - 1) 0 - ds.getD (ds.length - 2) 0 := by unfold wideA; rw [if_neg (by omega), if_neg (by omega)]
      rw [w2, hQl]
      have t1 : ((ds.length : Int) - 1 - 1).toNat = ds.length - 2 := by omega
      have t2 : ((ds.length : Int) - 1).toNat = ds.length - 1 := by omega
      rw [t1, t2]
      generalize ds.getD (ds.length - 1) 0 = a
      generalize ds.getD (ds.length - 2) 0 = b
      generalize (ds.length : Int) = l
      generalize (N : Int) = n
      generalize (R : Int) = r
      have e1 : n * l + r - (l - 1) * n = n + r := by rw [Int.sub_mul, Int.mul_comm n l]; omega
      rw [e1]
      simp only [Int.mul_sub, Int.sub_mul, Int.mul_add, Int.mul_assoc]
      omega
    · rw [if_neg c2, w1]
      have w2 : wideA ds (Q + 1) = ds.getD Q 0 := by unfold wideA; rw [if_neg (by omega), if_pos (by omega)]; rfl
      rw [w2]
      have t1 : ((Q : Int) - 1).toNat = Q - 1 := by omega
      rw [t1, Int.toNat_natCast]
      have e1 : (N : Int) * (Q : Int) + (R : Int) - (Q : Int) * (N : Int) = (R : Int) := by rw [Int.mul_comm (N : Int) (Q : Int)]; omega
      rw [e1]
end Mine


namespace Mine
set_option maxRecDepth 100000 in
set_option maxHeartbeats 8000000 in
open_top hd for PySem.Challenge.rw_dn0167_02
end Mine


namespace Mine
local macro_rules | `(tactic| k_steps) => `(tactic| repeat' ((fail_if_success (with_reducible show wpAny _ _ (pyIter _) _ _ _)); first | (k_unfold; (try dsimp only)) | (k_end; wrow_close) | walk1 | (dsimp only; walk1) | (leave1; walk_say "STEP leave1"; try dsimp only) | fail "no step"))
set_option maxHeartbeats 8000000 in
theorem q_incl {w : World} {A A₀ : Around} {s : Shared} {L : Addr} {h₀ base : Heap} {m mg mb : Str → Option Value} {mean : ExcName → Option Value}
    {an : Str} {as : Scope} {aa : Addr} {acd : Value} {outer : List Env} {R : Result → Shared → Prop} {l : Addr} {vs : List Value} {ns : List Int} {n : Int} {tn tm : Tok}
    (B : Below A₀ base outer h₀) (F : Fr h₀ L s.heap m) (X₀ : (hd.heap_39 w.params).In h₀) (T : Top hd.view_39 (looseW hd.view_39 [Str.ofString "quantiles"]) mean mg mb h₀)
    (hA : A = A₀.deeper (envOf an as L aa acd)) (hke : as.kind = .function) (hroom : A.depth < 900) (hh : A.handled = none)
    (hl : s.heap.IsList l vs.toArray) (hi : IntsAre vs ns) (h2 : 2 ≤ ns.length) (h64 : ns.length < 64) (hn : 1 ≤ n) (hn2 : n ≤ 64) (hb : ∀ x ∈ ns, x.natAbs < 2 ^ 1000)
    (k : ∀ h' tk r e vals ds, s.heap.StaysIn h' → h'.get? r = some (W.listOf vals e) → s.heap.get? r = none → ds.Perm ns → ds.Pairwise (· ≤ ·) → Cuts (fun k => fq (numI ds n (1 + (k : Int))) n) (n - 1).toNat vals → R (.ok (.ret (.ref r))) { s with heap := h', toks := tk })
    : codeAny (model PySem.Challenge.rw_dn0167_02.row.prog w) A (.call (.ref 42) ⟨[.ref l], [(Str.ofString "n", .int n tn), (Str.ofString "method", .str (Str.ofString "inclusive") tm)]⟩) R s := by
  have hfill : (fun (_ : Params → Frag) (_ : OpenLaw) => True) hd.heap_39 PySem.Challenge.rw_dn0167_02 := by (k_fill; trivial)
  clear hfill
  w_top off
  refine' code_defP (binds := [(Str.ofString "data", .ref l), (Str.ofString "n", .int n tn), (Str.ofString "method", .str (Str.ofString "inclusive") tm)]) B F X₀ T hA hke ?k6 ?k7 ?k8 ?k9 ?kB ?_ ?c2 ?c3 ?c4 ?c5
  (case k6 => k_is)
  (case k7 => k_is)
  (case k8 => exact Nat.lt_trans hroom (by decide))
  (case k9 => first | exact BindsTo.of_eq rfl | exact binds_K (by k_in) rfl (by k_is) rfl rfl rfl | fail "k_enter: no rule for these arguments")
  (case c5 => decide)
  (case kB => exact locs rfl)
  (case c2 => exact rfl)
  (case c3 => exact rfl)
  (case c4 => exact rfl)
  intro L' h' F' N' B' X' T'
  (try dsimp only)
  clear B F X₀ T hA
  rcases A with ⟨ah, ad, af, ag, au⟩
  have hh' : ah = none := hh
  subst hh'
  clear hh
  show wpAny _ _ _ _ _ _
  k_fold
  k_steps
  rename Fr _ _ _ _ => F1
  rename News _ _ _ _ => N1
  rename IsRange _ _ _ _ _ _ _ _ => rg
  rename_i tk1 tk2 D1 v1 n1 c1 h1 i1 e1 p1 o1 b1 p2 l0 s1 h2' tk3 h3 tk4 tk5 tk6 h4 l1 h5 l2 h6 F0 N0 tk7 h7 t1 u1 v2 kk
  have hbn : ∀ x ∈ n1, x.natAbs < 2 ^ 1000 := fun x hx => hb x (p1.mem_iff.mp hx)
  with_unfolding_all refine iter_rangeV (n := (n - 1).toNat) [Str.ofString "j", Str.ofString "delta", Str.ofString "interpolated"] (fun i nx => (∃ c vals, nx = [(l1, W.listOf vals c), (D1, W.listOf v1.toArray c1)] ∧ Cuts (fun k => fq (numI n1 n (1 + (k : Int))) n) i vals)) ?hh rg ?hs ?hn F1 N1 ?hj ?turn ?done
  case hh => rfl
  case hs => exact small_one (by decide) (by decide) (by omega) (by omega)
  case hn => exact rangeSize_nat _ _
  case hj => exact ⟨0, #[], rfl, Cuts.zero _⟩
  case turn =>
    rintro i t u nx h tk own hin hoff ⟨c, vals, rfl, hvs⟩ F2 N2
    clear F1 N1 F0 N0 kk rg
    have F3 : Fr s.heap L' h _ := F2
    have N3 : News s.heap L' h ((l1, W.listOf vals c) :: (D1, W.listOf v1.toArray c1) :: own) := N2
    clear F2 N2
    have hoff' : OwnOff own [l1, D1] := hoff
    clear hoff
    obtain ⟨hj0, hj1, hd0, hd1⟩ := divs_incl (I := 1 + (i : Int)) (M := (n1.length : Int) - 1) (n := n) (by omega) (by omega) (by omega)
    have hsz9 : vals.size ≤ 100 := by rw [hvs.1]; omega
    have hlt1 : @LT.lt Nat _ l1 h.objs.size := Heap.lt_size (N3 _ (.head _)).1
    have hlt2 : @LT.lt Nat _ D1 h.objs.size := Heap.lt_size (N3 _ (.tail _ (.head _))).1
    show wpAny _ _ _ _ _ _
    k_fold
    k_steps
    · rename Float64.isInf _ = true => hinf
      refine absurd hinf (PySem.Flt.quot_fits (by omega) (num_fits ?_ ?_ (by omega) (by omega)))
      · exact getD_bound (P := fun x => x.natAbs < 2 ^ 1000) (Nat.two_pow_pos _) hbn _
      · exact getD_bound (P := fun x => x.natAbs < 2 ^ 1000) (Nat.two_pow_pos _) hbn _
    · rename Fr _ _ _ _ => F9
      rename News _ _ _ _ => N9
      refine ⟨_, _, _, [(l1, _), (D1, _)], rfl, F9, fun p hp => N9 p (.tail _ hp), hoff', ⟨_, _, rfl, Cuts.push hvs (Nat.succ_ne_zero _) rfl⟩, ?_⟩
      intro z h1 h2
      have q1 : z ≠ Str.ofString "interpolated" := by rintro rfl; exact absurd h2 (by decide)
      have q2 : z ≠ Str.ofString "delta" := by rintro rfl; exact absurd h2 (by decide)
      have q3 : z ≠ Str.ofString "j" := by rintro rfl; exact absurd h2 (by decide)
      simp only [if_neg q1, if_neg q2, if_neg q3, if_neg h1, h2, Bool.false_eq_true, if_false]
  case done =>
    rintro u nx h tk ⟨c, vals, rfl, hvs⟩ F2 N2
    clear F1 N1 F0 N0 kk rg
    have F3 : Fr s.heap L' h _ := F2
    have N3 : News s.heap L' h [(l1, W.listOf vals c), (D1, W.listOf v1.toArray c1)] := N2
    clear F2 N2
    dsimp only
    k_steps
    dsimp only
    exact k _ _ _ _ _ n1 F3.keep (N3 _ (.head _)).1 (N3 _ (.head _)).2.2 p1 o1 hvs
end Mine


namespace Mine
local macro_rules | `(tactic| k_steps) => `(tactic| repeat' ((fail_if_success (with_reducible show wpAny _ _ (pyIter _) _ _ _)); first | (k_unfold; (try dsimp only)) | (k_end; wrow_close) | walk1 | (dsimp only; walk1) | (leave1; walk_say "STEP leave1"; try dsimp only) | fail "no step"))
set_option maxHeartbeats 8000000 in
theorem q_excl {w : World} {A A₀ : Around} {s : Shared} {L : Addr} {h₀ base : Heap} {m mg mb : Str → Option Value} {mean : ExcName → Option Value}
    {an : Str} {as : Scope} {aa : Addr} {acd : Value} {outer : List Env} {R : Result → Shared → Prop} {l : Addr} {vs : List Value} {ns : List Int} {n : Int} {tn tm : Tok}
    (B : Below A₀ base outer h₀) (F : Fr h₀ L s.heap m) (X₀ : (hd.heap_39 w.params).In h₀) (T : Top hd.view_39 (looseW hd.view_39 [Str.ofString "quantiles"]) mean mg mb h₀)
    (hA : A = A₀.deeper (envOf an as L aa acd)) (hke : as.kind = .function) (hroom : A.depth < 900) (hh : A.handled = none)
    (hl : s.heap.IsList l vs.toArray) (hi : IntsAre vs ns) (h2 : 2 ≤ ns.length) (h64 : ns.length < 64) (hn : 1 ≤ n) (hn2 : n ≤ 64) (hb : ∀ x ∈ ns, x.natAbs < 2 ^ 1000)
    (k : ∀ h' tk r e vals ds, s.heap.StaysIn h' → h'.get? r = some (W.listOf vals e) → s.heap.get? r = none → ds.Perm ns → ds.Pairwise (· ≤ ·) → Cuts (fun k => fq (numE ds n (1 + (k : Int))) n) (n - 1).toNat vals → R (.ok (.ret (.ref r))) { s with heap := h', toks := tk })
    : codeAny (model PySem.Challenge.rw_dn0167_02.row.prog w) A (.call (.ref 42) ⟨[.ref l], [(Str.ofString "n", .int n tn), (Str.ofString "method", .str (Str.ofString "exclusive") tm)]⟩) R s := by
  have hfill : (fun (_ : Params → Frag) (_ : OpenLaw) => True) hd.heap_39 PySem.Challenge.rw_dn0167_02 := by (k_fill; trivial)
  clear hfill
  w_top off
  refine' code_defP (binds := [(Str.ofString "data", .ref l), (Str.ofString "n", .int n tn), (Str.ofString "method", .str (Str.ofString "exclusive") tm)]) B F X₀ T hA hke ?k6 ?k7 ?k8 ?k9 ?kB ?_ ?c2 ?c3 ?c4 ?c5
  (case k6 => k_is)
  (case k7 => k_is)
  (case k8 => exact Nat.lt_trans hroom (by decide))
  (case k9 => first | exact BindsTo.of_eq rfl | exact binds_K (by k_in) rfl (by k_is) rfl rfl rfl | fail "k_enter: no rule for these arguments")
  (case c5 => decide)
  (case kB => exact locs rfl)
  (case c2 => exact rfl)
  (case c3 => exact rfl)
  (case c4 => exact rfl)
  intro L' h' F' N' B' X' T'
  (try dsimp only)
  clear B F X₀ T hA
  rcases A with ⟨ah, ad, af, ag, au⟩
  have hh' : ah = none := hh
  subst hh'
  clear hh
  show wpAny _ _ _ _ _ _
  k_fold
  k_steps
  rename Fr _ _ _ _ => F1
  rename News _ _ _ _ => N1
  rename IsRange _ _ _ _ _ _ _ _ => rg
  rename_i tk1 tk2 D1 v1 n1 c1 h1 i1 e1 p1 o1 b1 p2 l0 s1 h2' tk3 h3 tk4 tk5 tk6 tk8 h4 l1 h5 l2 h6 F0 N0 tk7 h7 t1 u1 v2 kk
  have hbn : ∀ x ∈ n1, x.natAbs < 2 ^ 1000 := fun x hx => hb x (p1.mem_iff.mp hx)
  with_unfolding_all refine iter_rangeV (n := (n - 1).toNat) [Str.ofString "j", Str.ofString "delta", Str.ofString "interpolated"] (fun i nx => (∃ c vals, nx = [(l1, W.listOf vals c), (D1, W.listOf v1.toArray c1)] ∧ Cuts (fun k => fq (numE n1 n (1 + (k : Int))) n) i vals)) ?hh rg ?hs ?hn F1 N1 ?hj ?turn ?done
  case hh => rfl
  case hs => exact small_one (by decide) (by decide) (by omega) (by omega)
  case hn => exact rangeSize_nat _ _
  case hj => exact ⟨0, #[], rfl, Cuts.zero _⟩
  case turn =>
    rintro i t u nx h tk own hin hoff ⟨c, vals, rfl, hvs⟩ F2 N2
    clear F1 N1 F0 N0 kk rg
    have F3 : Fr s.heap L' h _ := F2
    have N3 : News s.heap L' h ((l1, W.listOf vals c) :: (D1, W.listOf v1.toArray c1) :: own) := N2
    clear F2 N2
    have hoff' : OwnOff own [l1, D1] := hoff
    clear hoff
    obtain ⟨hj0, hd0, hd1, hd2, hd3, hd4, hd5⟩ := divs_excl (I := 1 + (i : Int)) (ld := (n1.length : Int)) (n := n) (by omega) (by omega) (by omega) (by omega) (by omega)
    have hsz9 : vals.size ≤ 100 := by rw [hvs.1]; omega
    have hlt1 : @LT.lt Nat _ l1 h.objs.size := Heap.lt_size (N3 _ (.head _)).1
    have hlt2 : @LT.lt Nat _ D1 h.objs.size := Heap.lt_size (N3 _ (.tail _ (.head _))).1
    show wpAny _ _ _ _ _ _
    k_fold
    k_steps
    all_goals first
      | (rename Float64.isInf _ = true => hinf
         refine absurd hinf (PySem.Flt.quot_fits (by omega) (num_fits ?_ ?_ (by omega) (by omega)))
         · exact getD_bound (P := fun x => x.natAbs < 2 ^ 1000) (Nat.two_pow_pos _) hbn _
         · exact getD_bound (P := fun x => x.natAbs < 2 ^ 1000) (Nat.two_pow_pos _) hbn _)
      | (rename Fr _ _ _ _ => F9
         rename News _ _ _ _ => N9
         refine ⟨_, _, _, [(l1, _), (D1, _)], rfl, F9, N9, hoff', ⟨_, _, rfl, Cuts.push hvs (Nat.succ_ne_zero _) ?_⟩, ?_⟩
         · show _ = fq (numE n1 n (1 + (i : Int))) n
           first
             | (have hj9 : jE (n1.length : Int) n (1 + (i : Int)) = 1 := by
                  unfold jE; rw [if_pos (by omega)]
                unfold fq numE; rw [hj9])
             | (have hj9 : jE (n1.length : Int) n (1 + (i : Int)) = (n1.length : Int) - 1 := by
                  unfold jE; rw [if_neg (by omega), if_pos (by omega)]
                unfold fq numE; rw [hj9])
             | (have hj9 : jE (n1.length : Int) n (1 + (i : Int)) = ((1 + (i : Int)) * ((n1.length : Int) + 1)).fdiv n := by
                  unfold jE; rw [if_neg (by omega), if_neg (by omega)]
                unfold fq numE; rw [hj9])
         · intro z h1 h2
           have q1 : z ≠ Str.ofString "interpolated" := by rintro rfl; exact absurd h2 (by decide)
           have q2 : z ≠ Str.ofString "delta" := by rintro rfl; exact absurd h2 (by decide)
           have q3 : z ≠ Str.ofString "j" := by rintro rfl; exact absurd h2 (by decide)
           simp only [if_neg q1, if_neg q2, if_neg q3, if_neg h1, h2, Bool.false_eq_true, if_false])
  case done =>
    rintro u nx h tk ⟨c, vals, rfl, hvs⟩ F2 N2
    clear F1 N1 F0 N0 kk rg
    have F3 : Fr s.heap L' h _ := F2
    have N3 : News s.heap L' h [(l1, W.listOf vals c), (D1, W.listOf v1.toArray c1)] := N2
    clear F2 N2
    dsimp only
    k_steps
    dsimp only
    exact k _ _ _ _ _ n1 F3.keep (N3 _ (.head _)).1 (N3 _ (.head _)).2.2 p1 o1 hvs
end Mine


namespace Mine
local macro_rules | `(tactic| k_steps) => `(tactic| repeat' ((fail_if_success (with_reducible show wpAny _ _ (pyIter _) _ _ _)); first | (k_unfold; (try dsimp only)) | (k_end; wrow_close) | walk1 | (dsimp only; walk1) | (leave1; walk_say "STEP leave1"; try dsimp only) | fail "no step"))
set_option maxHeartbeats 8000000 in
theorem q_one {w : World} {A A₀ : Around} {s : Shared} {L : Addr} {h₀ base : Heap} {m mg mb : Str → Option Value} {mean : ExcName → Option Value}
    {an : Str} {as : Scope} {aa : Addr} {acd : Value} {outer : List Env} {R : Result → Shared → Prop} {l : Addr} {vs : List Value} {ns : List Int} {n : Int} {tn : Tok} {mv : Value}
    (B : Below A₀ base outer h₀) (F : Fr h₀ L s.heap m) (X₀ : (hd.heap_39 w.params).In h₀) (T : Top hd.view_39 (looseW hd.view_39 [Str.ofString "quantiles"]) mean mg mb h₀)
    (hA : A = A₀.deeper (envOf an as L aa acd)) (hke : as.kind = .function) (hroom : A.depth < 900) (hh : A.handled = none)
    (hl : s.heap.IsList l vs.toArray) (hi : IntsAre vs ns) (h2 : ns.length = 1) (hn : 1 ≤ n) (hn2 : n ≤ 64)
    (k : ∀ h' tk r e vals, s.heap.StaysIn h' → h'.get? r = some (W.listOf (vals : List Value).toArray e) → s.heap.get? r = none → IntsAre vals (List.replicate (n - 1).toNat (ns.getD 0 0)) → R (.ok (.ret (.ref r))) { s with heap := h', toks := tk })
    : codeAny (model PySem.Challenge.rw_dn0167_02.row.prog w) A (.call (.ref 42) ⟨[.ref l], [(Str.ofString "n", .int n tn), (Str.ofString "method", mv)]⟩) R s := by
  have hfill : (fun (_ : Params → Frag) (_ : OpenLaw) => True) hd.heap_39 PySem.Challenge.rw_dn0167_02 := by (k_fill; trivial)
  clear hfill
  w_top off
  refine' code_defP (binds := [(Str.ofString "data", .ref l), (Str.ofString "n", .int n tn), (Str.ofString "method", mv)]) B F X₀ T hA hke ?k6 ?k7 ?k8 ?k9 ?kB ?_ ?c2 ?c3 ?c4 ?c5
  (case k6 => k_is)
  (case k7 => k_is)
  (case k8 => exact Nat.lt_trans hroom (by decide))
  (case k9 => first | exact BindsTo.of_eq rfl | exact binds_K (by k_in) rfl (by k_is) rfl rfl rfl | fail "k_enter: no rule for these arguments")
  (case c5 => decide)
  (case kB => exact locs rfl)
  (case c2 => exact rfl)
  (case c3 => exact rfl)
  (case c4 => exact rfl)
  intro L' h' F' N' B' X' T'
  (try dsimp only)
  clear B F X₀ T hA
  rcases A with ⟨ah, ad, af, ag, au⟩
  have hh' : ah = none := hh
  subst hh'
  clear hh
  show wpAny _ _ _ _ _ _
  k_fold
  k_steps
  · rename Fr _ _ _ _ => F9
    rename News _ _ _ _ => N9
    rename IntsAre _ _ => i9
    rename List.Perm _ _ => p9
    dsimp only
    refine k _ _ _ _ _ F9.keep (N9 _ (.head _)).1 (N9 _ (.head _)).2.2 ?_
    match ns, h2, p9 with
    | [d], _, p9 =>
      rw [List.perm_singleton.mp p9, List.flatten_replicate_singleton] at i9
      exact i9
  · exfalso
    omega
end Mine


namespace Mine
local macro_rules | `(tactic| k_steps) => `(tactic| repeat' ((fail_if_success (with_reducible show wpAny _ _ (pyIter _) _ _ _)); first | (k_unfold; (try dsimp only)) | (k_end; wrow_close) | walk1 | (dsimp only; walk1) | (leave1; walk_say "STEP leave1"; try dsimp only) | fail "no step"))
set_option maxHeartbeats 8000000 in
theorem med_ok {w : World} {A A₀ : Around} {s : Shared} {L : Addr} {h₀ base : Heap} {m mg mb : Str → Option Value} {mean : ExcName → Option Value}
    {an : Str} {as : Scope} {aa : Addr} {acd : Value} {outer : List Env} {R : Result → Shared → Prop} {l : Addr} {vs : List Value} {Y : Nat → Int} {e : Nat}
    (B : Below A₀ base outer h₀) (F : Fr h₀ L s.heap m) (X₀ : (hd.heap_39 w.params).In h₀) (T : Top hd.view_39 (looseW hd.view_39 [Str.ofString "quantiles"]) mean mg mb h₀)
    (hA : A = A₀.deeper (envOf an as L aa acd)) (hke : as.kind = .function) (hroom : A.depth < 900) (hh : A.handled = none)
    (hl : s.heap.IsList l vs.toArray) (h1 : 1 ≤ vs.length) (h64 : vs.length < 64) (he : e + 1 ≤ 1074)
    (hnum : ∀ i, (hi : i < vs.length) → NumQ vs[i] (Y i) e) (hY : ∀ i, i + 1 < vs.length → Y i ≤ Y (i + 1)) (hb : ∀ i, i < vs.length → (Y i).natAbs < 2 ^ 50)
    (k : ∀ h' tk v, s.heap.StaysIn h' → NumQ v (Y ((vs.length - 1) / 2) + Y (vs.length / 2)) (e + 1) → R (.ok (.ret v)) { s with heap := h', toks := tk })
    : codeAny (model PySem.Challenge.rw_dn0167_02.row.prog w) A (.call (.ref 34) ⟨[.ref l], []⟩) R s := by
  have hfill : (fun (_ : Params → Frag) (_ : OpenLaw) => True) hd.heap_39 PySem.Challenge.rw_dn0167_02 := by (k_fill; trivial)
  clear hfill
  w_top off
  refine' code_defP (binds := [(Str.ofString "data", .ref l)]) B F X₀ T hA hke ?k6 ?k7 ?k8 ?k9 ?kB ?_ ?c2 ?c3 ?c4 ?c5
  (case k6 => k_is)
  (case k7 => k_is)
  (case k8 => exact Nat.lt_trans hroom (by decide))
  (case k9 => first | exact BindsTo.of_eq rfl | exact binds_K (by k_in) rfl (by k_is) rfl rfl rfl | fail "k_enter: no rule for these arguments")
  (case c5 => decide)
  (case kB => exact locs rfl)
  (case c2 => exact rfl)
  (case c3 => exact rfl)
  (case c4 => exact rfl)
  intro L' h' F' N' B' X' T'
  (try dsimp only)
  clear B F X₀ T hA
  rcases A with ⟨ah, ad, af, ag, au⟩
  have hh' : ah = none := hh
  subst hh'
  clear hh
  show wpAny _ _ _ _ _ _
  k_fold
  k_steps
  refine sorted_orderedN F' N' (hl.at fun o e => F'.keep _ _ e) (fun v hv => ?_) (fun i hi => ?_) h64 (fun h2 D c2 F2 N2 => ?_)
  · obtain ⟨i, hi, rfl⟩ := List.mem_iff_getElem.mp hv
    exact (hnum i hi).isNum
  · rw [numLt_of (by omega) (hnum (i + 1) hi) (hnum i (by omega))]
    exact decide_eq_false (by have := hY i hi; omega)
  clear F' N'
  show wpAny _ _ _ _ _ _
  k_steps
  rename Fr _ _ _ _ => F3
  rename News _ _ _ _ => N3
  refine len_at (News.isList N3 (.head _)) (n := vs.length) (by simp) (by omega) ?_
  show wpAny _ _ _ _ _ _
  k_steps
  · exfalso; omega
  · rename Fr _ _ _ _ => F4
    rename News _ _ _ _ => N4
    refine item_at (News.isList N4 (.head _)) (by rw [fdiv_two]; omega) (by rw [fdiv_two]; omega) (some_at (fdiv_two _) (by omega)) ?_ (by with_unfolding_all rfl)
    rename (_ : Int) = 1 => hodd
    rw [fmod_two] at hodd
    refine k _ _ _ F4.keep ?_
    have := (hnum (vs.length / 2) (by omega)).up 1 (by omega)
    have e1 : (vs.length - 1) / 2 = vs.length / 2 := by omega
    rw [e1]
    have e2 : Y (vs.length / 2) * ((2 ^ 1 : Nat) : Int) = Y (vs.length / 2) + Y (vs.length / 2) := by omega
    rw [e2] at this
    exact this
  · rename Fr _ _ _ _ => F4
    rename News _ _ _ _ => N4
    rename ¬ (_ : Int) = 1 => hodd
    rw [fmod_two] at hodd
    refine item_at (News.isList N4 (.head _)) (by rw [fdiv_two]; omega) (by rw [fdiv_two]; omega) (some_at (i := vs.length / 2 - 1) (by rw [fdiv_two]; omega) (by omega)) ?_ (by with_unfolding_all rfl)
    show wpAny _ _ _ _ _ _
    k_steps
    refine item_at (News.isList N4 (.head _)) (by rw [fdiv_two]; omega) (by rw [fdiv_two]; omega) (some_at (fdiv_two _) (by omega)) ?_ (by with_unfolding_all rfl)
    refine num_add rfl (Nat.succ_ne_zero _) (by omega) (hnum (vs.length / 2 - 1) (by omega)) (hnum (vs.length / 2) (by omega)) (by have := hb (vs.length / 2 - 1) (by omega); omega) (by have := hb (vs.length / 2) (by omega); omega) ?_
    intro r tk9 ht9 hr
    show wpAny _ _ _ _ _ _
    k_steps
    refine num_half rfl (Nat.succ_ne_zero _) he hr (by have := hb (vs.length / 2 - 1) (by omega); have := hb (vs.length / 2) (by omega); omega) ?_
    intro r2 tk10 ht10 hr2
    have e1 : (vs.length - 1) / 2 = vs.length / 2 - 1 := by omega
    refine k _ _ _ F4.keep ?_
    rw [e1]
    exact hr2
end Mine


namespace Mine
local macro_rules | `(tactic| k_steps) => `(tactic| repeat' ((fail_if_success (with_reducible show wpAny _ _ (pyIter _) _ _ _)); (fail_if_success (with_reducible show wpAny _ _ (call (Value.builtin "len") _) _ _ _)); (fail_if_success (with_reducible show wpAny _ _ (subscriptTail _ _ (Value.ref _) (Value.int _ _)) _ _ _)); (fail_if_success (with_reducible show wpAny _ _ (binaryOp Operator.Add (Value.ref _) (Value.ref _)) _ _ _)); first | (k_unfold; (try dsimp only)) | (k_end; wrow_close) | walk1 | (dsimp only; walk1) | (leave1; walk_say "STEP leave1"; try dsimp only) | fail "no step"))
set_option maxHeartbeats 8000000 in
theorem finer_ok {w : World} {A A₀ : Around} {s : Shared} {L : Addr} {h₀ base : Heap} {m mg mb : Str → Option Value} {mean : ExcName → Option Value}
    {an : Str} {as : Scope} {aa : Addr} {acd : Value} {outer : List Env} {R : Result → Shared → Prop} {l : Addr} {vs : List Value} {Y : Nat → Nat → Int} {d : Nat} {td : Tok}
    (B : Below A₀ base outer h₀) (F : Fr h₀ L s.heap m) (X₀ : (hd.heap_39 w.params).In h₀) (T : Top hd.view_39 (looseW hd.view_39 [Str.ofString "quantiles"]) mean mg mb h₀)
    (hA : A = A₀.deeper (envOf an as L aa acd)) (hke : as.kind = .function) (hroom : A.depth + 0 < 900) (hh : A.handled = none)
    (hl : s.heap.IsList l vs.toArray) (h1 : 1 ≤ vs.length) (h64 : vs.length < 80) (hd1 : 1 ≤ d) (hd3 : d ≤ 3)
    (hnum : ∀ i, (hi : i < vs.length) → NumQ vs[i] (Y 0 i) 0)
    (hev : ∀ t i, t < d → i ≤ (vs.length - 1) * 2 ^ t → Y (t + 1) (2 * i) = 2 * Y t i) (hod : ∀ t i, t < d → i < (vs.length - 1) * 2 ^ t → Y (t + 1) (2 * i + 1) = Y t i + Y t (i + 1))
    (hb : ∀ t i, t ≤ d → i ≤ (vs.length - 1) * 2 ^ t → (Y t i).natAbs < 2 ^ 50)
    (k : ∀ h' tk r c (us : List Value), s.heap.StaysIn h' → h'.get? r = some (W.listOf us.toArray c) → s.heap.get? r = none → us.length = (vs.length - 1) * 2 ^ d + 1 → (∀ i, (hi : i < us.length) → NumQ us[i] (Y d i) d) → R (.ok (.ret (.ref r))) { s with heap := h', toks := tk })
    : codeAny (model PySem.Challenge.rw_dn0167_02.row.prog w) A (.call (.ref 49) ⟨[.ref l, .int (d : Int) td], []⟩) R s := by
  have hfill : (fun (_ : Params → Frag) (_ : OpenLaw) => True) hd.heap_39 PySem.Challenge.rw_dn0167_02 := by (k_fill; trivial)
  clear hfill
  w_top off
  refine' code_defP (binds := [(Str.ofString "items", .ref l), (Str.ofString "deep", .int (d : Int) td)]) B F X₀ T hA hke ?k6 ?k7 ?k8 ?k9 ?kB ?_ ?c2 ?c3 ?c4 ?c5
  (case k6 => k_is)
  (case k7 => k_is)
  (case k8 => exact Nat.lt_of_le_of_lt (Nat.le_add_right _ _) (Nat.lt_trans hroom (by decide)))
  (case k9 => first | exact BindsTo.of_eq rfl | exact binds_K (by k_in) rfl (by k_is) rfl rfl rfl | fail "k_enter: no rule for these arguments")
  (case c5 => decide)
  (case kB => exact locs rfl)
  (case c2 => exact rfl)
  (case c3 => exact rfl)
  (case c4 => exact rfl)
  intro L' h' F' N' B' X' T'
  (try dsimp only)
  clear B F X₀ T hA
  rcases A with ⟨ah, ad, af, ag, au⟩
  have hh' : ah = none := hh
  subst hh'
  clear hh
  show wpAny _ _ _ _ _ _
  k_fold
  k_steps
  rename Fr _ _ _ _ => F1
  rename News _ _ _ _ => N1
  rename IsRange _ _ _ _ _ _ _ _ => rg
  with_unfolding_all refine iter_rangeG (n := d) (fun t m₁ nx => ∃ (a : Addr) (us : List Value), m₁ (Str.ofString "items") = some (.ref a) ∧
    (∀ z, z ≠ Str.ofString "turn" → z ≠ Str.ofString "items" → [Str.ofString "finer", Str.ofString "k"].contains z = false → m₁ z = List.lookup z [(Str.ofString "items", Value.ref l), (Str.ofString "deep", Value.int (d : Int) td)].reverse) ∧
    us.length = (vs.length - 1) * 2 ^ t + 1 ∧ (∀ i, (hi : i < us.length) → NumQ us[i] (Y t i) t) ∧ ((t = 0 ∧ nx = [] ∧ s.heap.IsList a us.toArray) ∨ ∃ c, nx = [(a, W.listOf us.toArray c)])) ?hh rg ?hs ?hn F1 N1 ?hj ?turn ?done
  case hh => rfl
  case hs => exact small_one (by decide) (by decide) (by omega) (by omega)
  case hn => rw [rangeSize_nat]; omega
  case hj => exact ⟨l, vs, rfl, fun _ _ _ _ => rfl, by omega, hnum, .inl ⟨rfl, rfl, hl⟩⟩
  case turn =>
    rintro t tt m₁ nx h tk own htd hoff ⟨a, us, ha, hm, hlen, hq, hor⟩ F2 N2
    clear F1 N1 rg
    have hkeep : ∀ h' : Heap, (∀ p ∈ nx, h'.get? p.1 = some p.2) → (∀ b o, s.heap.get? b = some o → h'.get? b = some o) → h'.IsList a us.toArray := by
      intro h' c1 c2
      rcases hor with ⟨_, _, hl0⟩ | ⟨c, rfl⟩
      · exact hl0.at fun o e => c2 _ _ e
      · exact ⟨_, c1 _ (.head _), rfl, _, rfl⟩
    clear hor
    have F3 : Fr s.heap L' h _ := F2
    have N3 : News s.heap L' h (nx ++ own) := N2
    clear F2 N2
    rw [map_known ha hm] at F3
    have hlt8 : us.length ≤ 800 := by
      have : (vs.length - 1) * 2 ^ t ≤ 79 * 2 ^ 3 := Nat.mul_le_mul (by omega) (Nat.pow_le_pow_right (by decide) (by omega))
      omega
    show wpAny _ _ _ _ _ _
    k_fold
    k_steps
    refine item_at (hkeep _ (fun p hp => (N3 p (List.mem_append_left _ hp)).1) F3.keep) (by decide) (by decide) (some_at (i := 0) rfl (by omega)) ?_ (by with_unfolding_all rfl)
    show wpAny _ _ _ _ _ _
    k_steps
    rename Fr _ _ _ _ => F4
    rename News _ _ _ _ => N4
    refine len_at (hkeep _ (fun p hp => (N4 p (.tail _ (List.mem_append_left _ hp))).1) F4.keep) (n := us.length) (by simp) (by omega) ?_
    show wpAny _ _ _ _ _ _
    k_steps
    rename Fr _ _ _ _ => F5
    rename News _ _ _ _ => N5
    rename IsRange _ _ _ _ _ _ _ _ => rg2
    rename_i lA hA1 l1 hA2 F5' N5' hA3 tkB t1 u1 v1 kk
    with_unfolding_all refine iter_rangeV (n := us.length - 1) [] (fun i nx' => ∃ (c : Nat) (fv : List Value), nx' = (lA, W.listOf fv.toArray c) :: (nx ++ own) ∧ fv.length = 2 * i + 1 ∧ ∀ j, (hj : j < fv.length) → NumQ fv[j] (Y (t + 1) j) (t + 1)) ?hh2 rg2 ?hs2 ?hn2 F5 N5 ?hj2 ?turn2 ?done2
    case hh2 => rfl
    case hs2 => exact small_one (by decide) (by decide) (by omega) (by omega)
    case hn2 => rw [rangeSize_nat]; omega
    case hj2 =>
      refine ⟨0, [us[0]], rfl, rfl, fun j hj => ?_⟩
      have hj0 : j = 0 := by simpa using hj
      subst hj0
      have h2 := (hq 0 (by omega)).up 1 (by omega)
      have h3 := hev t 0 htd (Nat.zero_le _)
      have e2 : Y t 0 * ((2 ^ 1 : Nat) : Int) = Y (t + 1) 0 := by rw [Nat.mul_zero] at h3; rw [h3]; omega
      rw [e2] at h2
      exact h2
    case turn2 =>
      rintro i ti u nx' h tk own2 hin hoff2 ⟨c, fv, rfl, hfl, hfq⟩ F6 N6
      clear F5 N5 rg2 kk F5' N5'
      have F7 : Fr s.heap L' h _ := F6
      have N7 : News s.heap L' h (((lA, W.listOf fv.toArray c) :: (nx ++ own)) ++ own2) := N6
      clear F6 N6
      show wpAny _ _ _ _ _ _
      k_fold
      k_steps
      have hL7 := hkeep h (fun p hp => (N7 p (List.mem_append_left _ (.tail _ (List.mem_append_left _ hp)))).1) F7.keep
      have hb1 := hb t i (by omega) (by omega)
      have hb2 := hb t (i + 1) (by omega) (by omega)
      refine item_at hL7 (by omega) (by omega) (some_at (i := i) (by omega) (by omega)) ?_ (by with_unfolding_all rfl)
      show wpAny _ _ _ _ _ _
      k_steps
      refine item_at hL7 (by omega) (by omega) (some_at (i := i + 1) (by omega) (by omega)) ?_ (by with_unfolding_all rfl)
      refine num_add rfl (Nat.succ_ne_zero _) (by omega) (hq i (by omega)) (hq (i + 1) (by omega)) (by omega) (by omega) ?_
      intro r9 tk9 ht9 hr9
      show wpAny _ _ _ _ _ _
      k_steps
      refine num_half rfl (Nat.succ_ne_zero _) (by omega) hr9 (by omega) ?_
      intro r8 tk8 ht8 hr8
      show wpAny _ _ _ _ _ _
      k_steps
      refine item_at hL7 (by omega) (by omega) (some_at (i := i + 1) (by omega) (by omega)) ?_ (by with_unfolding_all rfl)
      show wpAny _ _ _ _ _ _
      k_steps
      rename Fr _ _ _ _ => F8
      rename News _ _ _ _ => N8
      have hoff9 : ∀ p ∈ (nx ++ own) ++ own2, p.1 ≠ lA := by
        intro p hp
        rcases List.mem_append.mp hp with hp | hp
        · exact Nat.ne_of_lt (l1 p hp)
        · exact hoff2 p hp lA (.head _)
      refine iadd_N F8 (rest := (nx ++ own) ++ own2) (xs := fv.toArray) (ys := #[r8, us[i + 1]]) (n := c) (fun p hp => N8 p (.tail _ hp)) hoff9 (N8 _ (.head _)).1 (by simp; omega) ?_
      intro h9 c9 F9 N9
      clear F8 N8
      show wpAny _ _ _ _ _ _
      k_steps
      rename Fr _ _ _ _ => F10
      rename News _ _ _ _ => N10
      refine ⟨_, _, _, (lA, W.listOf (fv ++ [r8, us[i + 1]]).toArray c9) :: (nx ++ own), rfl, F10, ?_, hoff2, ⟨_, _, rfl, by simp; omega, ?_⟩, ?_⟩
      · intro p hp
        have e : (fv ++ [r8, us[i + 1]]).toArray = fv.toArray ++ #[r8, us[i + 1]] := by simp
        rw [e] at hp
        exact N10 p hp
      · intro j hj
        simp only [List.length_append, List.length_cons, List.length_nil] at hj
        by_cases hj1 : j < fv.length
        · rw [List.getElem_append_left hj1]; exact hfq j hj1
        · by_cases hj2 : j = 2 * i + 1
          · subst hj2
            have e1 : (fv ++ [r8, us[i + 1]])[2 * i + 1] = r8 := by
              rw [List.getElem_append_right (by omega)]; simp [hfl]
            rw [e1, hod t i htd (by omega)]; exact hr8
          · have hj3 : j = 2 * (i + 1) := by omega
            subst hj3
            have e1 : (fv ++ [r8, us[i + 1]])[2 * (i + 1)] = us[i + 1] := by
              rw [List.getElem_append_right (by omega)]; simp [hfl, show 2 * (i + 1) - (2 * i + 1) = 1 by omega]
            rw [e1, hev t (i + 1) htd (by omega)]
            have h2 := (hq (i + 1) (by omega)).up 1 (by omega)
            have e2 : Y t (i + 1) * ((2 ^ 1 : Nat) : Int) = 2 * Y t (i + 1) := by omega
            rw [e2] at h2
            exact h2
      · intro z h1 h2
        by_cases hz : z = Str.ofString "finer"
        · subst hz; rfl
        · simp only [if_neg hz, if_neg h1, List.contains_nil, Bool.false_eq_true, if_false]
    case done2 =>
      rintro u nx' h tk ⟨c, fv, rfl, hfl, hfq⟩ F6 N6
      clear F5 N5 rg2 kk F5' N5'
      have F7 : Fr s.heap L' h _ := F6
      have N7 : News s.heap L' h ((lA, W.listOf fv.toArray c) :: (nx ++ own)) := N6
      clear F6 N6
      dsimp only
      show wpAny _ _ _ _ _ _
      k_steps
      rename Fr _ _ _ _ => F10
      rename News _ _ _ _ => N10
      have e2 : (vs.length - 1) * 2 ^ (t + 1) = 2 * ((vs.length - 1) * 2 ^ t) := by rw [Nat.pow_succ]; generalize 2 ^ t = q; rw [← Nat.mul_assoc, Nat.mul_comm]
      refine ⟨_, _, _, [(lA, W.listOf fv.toArray c)], rfl, F10, ?_, ?_, ⟨lA, fv, rfl, ?_, by omega, hfq, .inr ⟨c, rfl⟩⟩⟩
      · intro p hp
        rcases List.mem_cons.mp hp with rfl | hp
        · exact N10 _ (.head _)
        · exact N10 p (.tail _ (List.mem_append_right _ hp))
      · intro p hp b hb'
        rw [List.mem_singleton.mp hb']
        exact Nat.ne_of_lt (l1 p (List.mem_append_right _ hp))
      · intro z h1 h2 h3
        have q1 : z ≠ Str.ofString "finer" := by rintro rfl; exact absurd h3 (by decide)
        have q2 : z ≠ Str.ofString "k" := by rintro rfl; exact absurd h3 (by decide)
        simp only [if_neg q1, if_neg q2, if_neg h1, if_neg h2, h3, List.contains_nil, Bool.false_eq_true, if_false]
  case done =>
    rintro m₁ nx h tk ⟨a, us, ha, hm, hlen, hq, hor⟩ F2 N2
    clear F1 N1 rg
    have F3 : Fr s.heap L' h _ := F2
    have N3 : News s.heap L' h nx := N2
    clear F2 N2
    rw [map_known' ha hm] at F3
    rcases hor with ⟨h0, _, _⟩ | ⟨c, rfl⟩
    · omega
    dsimp only
    show wpAny _ _ _ _ _ _
    k_steps
    dsimp only
    exact k _ _ _ _ _ F3.keep (N3 _ (.head _)).1 (N3 _ (.head _)).2.2 hlen hq
end Mine


namespace Mine
local macro_rules | `(tactic| k_steps) => `(tactic| repeat' ((fail_if_success (with_reducible show wpAny _ _ (pyIter _) _ _ _)); (fail_if_success (with_reducible show wpAny _ _ (call (Value.builtin "len") _) _ _ _)); (fail_if_success (with_reducible show wpAny _ _ (subscriptTail _ _ (Value.ref _) (Value.int _ _)) _ _ _)); (fail_if_success (with_reducible show wpAny _ _ (binaryOp Operator.Add (Value.ref _) (Value.ref _)) _ _ _)); (fail_if_success (with_reducible show wpAny _ _ (call (Value.ref _) _ _) _ _ _)); (fail_if_success (with_reducible show wpAny _ _ (subscriptTail _ _ (Value.ref _) (Value.ref _)) _ _ _)); first | (k_unfold; (try dsimp only)) | (k_end; wrow_close) | walk1 | (dsimp only; walk1) | (leave1; walk_say "STEP leave1"; try dsimp only) | fail "no step"))
theorem join_halves {Y : Nat → Int} {G P D e : Nat} {us1 us2 : List Value} {mid : Value} (hP : P = G * 2 ^ D) (h1 : us1.length + 1 = 2 ^ (D + 1)) (h2 : us2.length + 1 = 2 ^ (D + 1)) (he : e + 1 ≤ 1074)
    (q1 : ∀ i, (hi : i < us1.length) → NumQ us1[i] (Y ((i + 1) * G / 2) + Y (((i + 1) * G + 1) / 2)) (e + 1)) (qm : NumQ mid (Y P) e)
    (q2 : ∀ i, (hi : i < us2.length) → NumQ us2[i] (Y ((i + 1) * G / 2 + P) + Y (((i + 1) * G + 1) / 2 + P)) (e + 1)) :
    ((us1 ++ [mid]) ++ us2).length + 1 = 2 ^ (D + 1 + 1) ∧ ∀ i, (hi : i < ((us1 ++ [mid]) ++ us2).length) → NumQ ((us1 ++ [mid]) ++ us2)[i] (Y ((i + 1) * G / 2) + Y (((i + 1) * G + 1) / 2)) (e + 1) := by
  have hp2 : 2 ^ (D + 1) * G = 2 * P := by rw [hP, Nat.pow_succ]; generalize 2 ^ D = q; rw [Nat.mul_comm q 2, Nat.mul_assoc, Nat.mul_comm q G]
  refine ⟨by simp only [List.length_append, List.length_cons, List.length_nil]; rw [Nat.pow_succ]; omega, fun i hi => ?_⟩
  simp only [List.length_append, List.length_cons, List.length_nil] at hi
  by_cases c1 : i < us1.length
  · have e1 : ((us1 ++ [mid]) ++ us2)[i] = us1[i] := by
      rw [List.getElem_append_left (by simp; omega), List.getElem_append_left c1]
    rw [e1]; exact q1 i c1
  · by_cases c2 : i = us1.length
    · subst c2
      have e1 : ((us1 ++ [mid]) ++ us2)[us1.length] = mid := by
        rw [List.getElem_append_left (by simp), List.getElem_append_right (Nat.le_refl _)]; simp
      rw [e1, h1, hp2]
      have e2 : 2 * P / 2 = P := by omega
      have e3 : (2 * P + 1) / 2 = P := by omega
      rw [e2, e3]
      have h3 := qm.up 1 he
      have e4 : Y P * ((2 ^ 1 : Nat) : Int) = Y P + Y P := by omega
      rw [e4] at h3
      exact h3
    · obtain ⟨j, rfl⟩ : ∃ j, i = us1.length + 1 + j := ⟨i - (us1.length + 1), by omega⟩
      have hj : j < us2.length := by omega
      have e1 : ((us1 ++ [mid]) ++ us2)[us1.length + 1 + j] = us2[j] := by
        rw [List.getElem_append_right (by simp)]; simp
      have e2 : (us1.length + 1 + j + 1) * G = 2 * P + (j + 1) * G := by
        rw [show us1.length + 1 + j + 1 = 2 ^ (D + 1) + (j + 1) by omega, Nat.add_mul, hp2]
      rw [e1, e2]
      have e3 : (2 * P + (j + 1) * G) / 2 = (j + 1) * G / 2 + P := by omega
      have e4 : (2 * P + (j + 1) * G + 1) / 2 = ((j + 1) * G + 1) / 2 + P := by omega
      rw [e3, e4]
      exact q2 j hj

/-- the list of halves: how many gaps at the leaf, the parameter apart, the depth -/
def HalvedSpec (D : Nat) : Prop := ∀ {w : World} {A A₀ : Around} {s : Shared} {L : Addr} {h₀ base : Heap} {m mg mb : Str → Option Value} {mean : ExcName → Option Value}
    {an : Str} {as : Scope} {aa : Addr} {acd : Value} {outer : List Env} {R : Result → Shared → Prop} {l : Addr} {vs : List Value} {Y : Nat → Int} {G e c : Nat} {td : Tok} {ap : Bool}
    (B : Below A₀ base outer h₀) (F : Fr h₀ L s.heap m) (X₀ : (hd.heap_39 w.params).In h₀) (T : Top hd.view_39 (looseW hd.view_39 [Str.ofString "quantiles"]) mean mg mb h₀)
    (hA : A = A₀.deeper (envOf an as L aa acd)) (hke : as.kind = .function) (hD : D ≤ 3) (hroom : A.depth + D + 1 < 900) (hh : A.handled = none)
    (hl : s.heap.IsList l vs.toArray) (h1 : 1 ≤ vs.length) (hc : c = if ap then 1 else 0) (hlen : vs.length + 2 * c = G * 2 ^ D + 1) (h64 : G + 1 < 64 + 2 * c) (hG : c ≤ 1 ∧ 2 * c ≤ G) (he : e + 1 ≤ 1074)
    (hnum : ∀ i, (hi : i < vs.length) → NumQ vs[i] (Y (i + c)) e) (hY : ∀ i, i < G * 2 ^ D → Y i ≤ Y (i + 1)) (hb : ∀ i, i ≤ G * 2 ^ D → (Y i).natAbs < 2 ^ 50)
    (k : ∀ h' tk r ep (us : List Value), s.heap.StaysIn h' → h'.get? r = some (W.listOf us.toArray ep) → s.heap.get? r = none → us.length + 1 = 2 ^ (D + 1) → (∀ i, (hi : i < us.length) → NumQ us[i] (Y ((i + 1) * G / 2) + Y (((i + 1) * G + 1) / 2)) (e + 1)) → R (.ok (.ret (.ref r))) { s with heap := h', toks := tk }),
    codeAny (model PySem.Challenge.rw_dn0167_02.row.prog w) A (.call (.ref 56) ⟨[.ref l, .int (D : Int) td, .bool ap], []⟩) R s

set_option maxHeartbeats 8000000 in
theorem halved_zero : HalvedSpec 0 := by
  intro w A A₀ s L h₀ base m mg mb mean an as aa acd outer R l vs Y G e c td ap B F X₀ T hA hke hD hroom hh hl h1 hc hlen h64 hG he hnum hY hb k
  have hfill : (fun (_ : Params → Frag) (_ : OpenLaw) => True) hd.heap_39 PySem.Challenge.rw_dn0167_02 := by (k_fill; trivial)
  clear hfill
  w_top off
  refine' code_defP (binds := [(Str.ofString "items", .ref l), (Str.ofString "deep", .int ((0 : Nat) : Int) td), (Str.ofString "apart", .bool ap)]) B F X₀ T hA hke ?k6 ?k7 ?k8 ?k9 ?kB ?_ ?c2 ?c3 ?c4 ?c5
  (case k6 => k_is)
  (case k7 => k_is)
  (case k8 => exact (by have hrl : (900 : Nat) < recursionLimit := by decide
                        omega))
  (case k9 => first | exact BindsTo.of_eq rfl | exact binds_K (by k_in) rfl (by k_is) rfl rfl rfl | fail "k_enter: no rule for these arguments")
  (case c5 => decide)
  (case kB => exact locs rfl)
  (case c2 => exact rfl)
  (case c3 => exact rfl)
  (case c4 => exact rfl)
  intro L' h' F' N' B' X' T'
  (try dsimp only)
  clear B F X₀ T hA
  rcases A with ⟨ah, ad, af, ag, au⟩
  have hh' : ah = none := hh
  subst hh'
  clear hh
  show wpAny _ _ _ _ _ _
  k_fold
  k_steps
  have hcG : (vs.length - 1) / 2 + c = (0 + 1) * G / 2 ∧ vs.length / 2 + c = ((0 + 1) * G + 1) / 2 := by
    simp only [Nat.pow_zero, Nat.mul_one] at hlen
    obtain ⟨hG1, hG2⟩ := hG
    omega
  simp only [Nat.pow_zero, Nat.mul_one] at hlen hY hb
  refine wpAny_call (med_ok (Y := fun i => Y (i + c)) B' F' X' T' rfl rfl ?_ rfl (hl.at fun o e => F'.keep _ _ e) h1 (by omega) he hnum (fun i hi => ?_) (fun i hi => ?_) ?_)
  · simp only [depth_deeper]; omega
  · have := hY (i + c) (by omega)
    have e1 : i + 1 + c = i + c + 1 := by omega
    show Y (i + c) ≤ Y (i + 1 + c)
    rw [e1]; exact this
  · exact hb (i + c) (by omega)
  intro h2 tk2 v hs2 hv
  have F2 := back_fr F' hs2
  have N2 := back_news N' hs2
  clear F' N'
  show wpAny _ _ _ _ _ _
  k_steps
  dsimp only
  rename Fr _ _ _ _ => F3
  rename News _ _ _ _ => N3
  refine k _ _ _ _ [v] F3.keep (N3 _ (.head _)).1 (N3 _ (.head _)).2.2 (by simp) (fun i hi => ?_)
  have hi0 : i = 0 := by simpa using hi
  subst hi0
  rw [← hcG.1, ← hcG.2]
  exact hv

set_option maxHeartbeats 8000000 in
theorem halved_succ {D : Nat} (ih : HalvedSpec D) : HalvedSpec (D + 1) := by
  intro w A A₀ s L h₀ base m mg mb mean an as aa acd outer R l vs Y G e c td ap B F X₀ T hA hke hD hroom hh hl h1 hc hlen h64 hG he hnum hY hb k
  have hfill : (fun (_ : Params → Frag) (_ : OpenLaw) => True) hd.heap_39 PySem.Challenge.rw_dn0167_02 := by (k_fill; trivial)
  clear hfill
  w_top off
  refine' code_defP (binds := [(Str.ofString "items", .ref l), (Str.ofString "deep", .int (((D + 1 : Nat) : Nat) : Int) td), (Str.ofString "apart", .bool ap)]) B F X₀ T hA hke ?k6 ?k7 ?k8 ?k9 ?kB ?_ ?c2 ?c3 ?c4 ?c5
  (case k6 => k_is)
  (case k7 => k_is)
  (case k8 => exact (by have hrl : (900 : Nat) < recursionLimit := by decide
                        omega))
  (case k9 => first | exact BindsTo.of_eq rfl | exact binds_K (by k_in) rfl (by k_is) rfl rfl rfl | fail "k_enter: no rule for these arguments")
  (case c5 => decide)
  (case kB => exact locs rfl)
  (case c2 => exact rfl)
  (case c3 => exact rfl)
  (case c4 => exact rfl)
  intro L' h' F' N' B' X' T'
  (try dsimp only)
  clear B F X₀ T hA
  rcases A with ⟨ah, ad, af, ag, au⟩
  have hh' : ah = none := hh
  subst hh'
  clear hh
  show wpAny _ _ _ _ _ _
  k_fold
  obtain ⟨P, hP⟩ : ∃ P, P = G * 2 ^ D := ⟨_, rfl⟩
  have hP2 : G * 2 ^ (D + 1) = 2 * P := by rw [hP, Nat.pow_succ]; generalize 2 ^ D = q; rw [← Nat.mul_assoc, Nat.mul_comm]
  have hPle : P ≤ 66 * 2 ^ 3 := by rw [hP]; exact Nat.mul_le_mul (by omega) (Nat.pow_le_pow_right (by decide) (by omega))
  have hPge : G ≤ P := by rw [hP]; exact Nat.le_mul_of_pos_right _ (Nat.two_pow_pos _)
  rw [hP2] at hlen hY hb
  have hbig : vs.length ≤ 100000 := by omega
  have hdm : ((D + 1 : Nat) : Int) - 1 = (D : Int) := by omega
  have hroom2 : ad + (D + 1) + 1 < 900 := hroom
  cases ap with
  | true =>
    have hc1 : c = 1 := hc
    subst hc1
    k_steps
    · exfalso; omega
    rename Fr _ _ _ _ => F2
    rename News _ _ _ _ => N2
    refine len_at (hl.at fun o e => F2.keep _ _ e) (n := vs.length) (by simp) (by omega) ?_
    show wpAny _ _ _ _ _ _
    k_steps
    rename Fr _ _ _ _ => F3
    rename News _ _ _ _ => N3
    refine slice_upto (P - 1) F3 N3 (hl.at fun o e => F3.keep _ _ e) (by rw [fdiv_two]; omega) hbig ?_ (by with_unfolding_all rfl) (by intro _; with_unfolding_all rfl)
    intro h4 D4 F4 N4
    try clear F3 N3
    show wpAny _ _ _ _ _ _
    k_steps
    rename Fr _ _ _ _ => F5
    rename News _ _ _ _ => N5
    refine slice_from P F5 N5 (hl.at fun o e => F5.keep _ _ e) (by rw [fdiv_two]; omega) hbig ?_ (by with_unfolding_all rfl) (by intro _; with_unfolding_all rfl)
    intro h6 D6 F6 N6
    try clear F5 N5
    show wpAny _ _ _ _ _ _
    k_steps
    rename Fr _ _ _ _ => F7
    rename News _ _ _ _ => N7
    rw [hdm]
    refine wpAny_call (ih (Y := Y) (G := G) (e := e) (c := 1) (vs := vs.take (P - 1)) B' F7 X' T' rfl rfl (by omega) ?_ rfl (News.isList N7 (.tail _ (.head _))) ?_ rfl ?_ h64 hG he ?_ (fun i hi => hY i (by omega)) (fun i hi => hb i (by omega)) ?_)
    · show ad + 1 + D + 1 < 900; omega
    · rw [List.length_take]; omega
    · rw [List.length_take]; omega
    · intro i hi
      rw [List.getElem_take]
      exact hnum i (by rw [List.length_take] at hi; omega)
    intro h8 tk8 r8 ep8 us8 hs8 hr8 hf8 hl8 hq8
    have F8 := back_fr F7 hs8
    have N8 := back_new F7 N7 hs8 hr8 hf8
    clear F7 N7
    show wpAny _ _ _ _ _ _
    k_steps
    refine item_at (hl.at fun o e => F8.keep _ _ e) (by rw [fdiv_two]; omega) (by rw [fdiv_two]; omega) (some_at (i := P - 1) (by rw [fdiv_two]; omega) (by omega)) ?_ (by with_unfolding_all rfl)
    show wpAny _ _ _ _ _ _
    k_steps
    rename Fr _ _ _ _ => F9
    rename News _ _ _ _ => N9
    refine add_N (xs := us8) (ys := [vs[P - 1]]) F9 N9 (N9 _ (.tail _ (.head _))).1 (N9 _ (.head _)).1 (by have := Nat.pow_le_pow_right (n := 2) (by decide) (show D + 1 ≤ 4 by omega); simp; omega) ?_
    intro h10 D10 F10 N10
    clear F9 N9
    show wpAny _ _ _ _ _ _
    k_steps
    rw [hdm]
    refine wpAny_call (ih (Y := fun i => Y (i + P)) (G := G) (e := e) (c := 1) (vs := vs.drop P) B' F10 X' T' rfl rfl (by omega) ?_ rfl (News.isList N10 (.tail _ (.tail _ (.tail _ (.head _))))) ?_ rfl ?_ h64 hG he ?_ (fun i hi => ?_) (fun i hi => ?_) ?_)
    · show ad + 1 + D + 1 < 900; omega
    · rw [List.length_drop]; omega
    · rw [List.length_drop]; omega
    · intro i hi
      rw [List.length_drop] at hi
      rw [List.getElem_drop]
      have h3 := hnum (P + i) (by omega)
      have e3 : P + i + 1 = i + 1 + P := by omega
      rw [e3] at h3
      exact h3
    · have h3 := hY (i + P) (by omega)
      have e3 : i + P + 1 = i + 1 + P := by omega
      rw [e3] at h3
      exact h3
    · exact hb (i + P) (by omega)
    intro h12 tk12 r12 ep12 us12 hs12 hr12 hf12 hl12 hq12
    have F12 := back_fr F10 hs12
    have N12 := back_new F10 N10 hs12 hr12 hf12
    clear F10 N10
    show wpAny _ _ _ _ _ _
    have hpw := Nat.pow_le_pow_right (n := 2) (by decide) (show D + 1 ≤ 4 by omega)
    refine add_N (xs := us8 ++ [vs[P - 1]]) (ys := us12) F12 N12 (N12 _ (.tail _ (.head _))).1 (N12 _ (.head _)).1 (by simp; omega) ?_
    intro h13 D13 F13 N13
    have hj := join_halves (Y := Y) (e := e) hP hl8 hl12 he hq8 (mid := vs[P - 1]) (by have h3 := hnum (P - 1) (by omega); have e3 : P - 1 + 1 = P := by omega
                                                                                       rw [e3] at h3; exact h3) hq12
    exact k _ _ _ _ _ F13.keep (N13 _ (.head _)).1 (N13 _ (.head _)).2.2 hj.1 hj.2
  | false =>
    have hc1 : c = 0 := hc
    subst hc1
    k_steps
    · exfalso; omega
    rename Fr _ _ _ _ => F2
    rename News _ _ _ _ => N2
    refine len_at (hl.at fun o e => F2.keep _ _ e) (n := vs.length) (by simp) (by omega) ?_
    show wpAny _ _ _ _ _ _
    k_steps
    rename Fr _ _ _ _ => F3
    rename News _ _ _ _ => N3
    refine slice_upto (P + 1) F3 N3 (hl.at fun o e => F3.keep _ _ e) (by rw [fdiv_two]; omega) hbig ?_ (by with_unfolding_all rfl) (by intro _; with_unfolding_all rfl)
    intro h4 D4 F4 N4
    try clear F3 N3
    show wpAny _ _ _ _ _ _
    k_steps
    rename Fr _ _ _ _ => F5
    rename News _ _ _ _ => N5
    refine slice_from P F5 N5 (hl.at fun o e => F5.keep _ _ e) (by rw [fdiv_two]; omega) hbig ?_ (by with_unfolding_all rfl) (by intro _; with_unfolding_all rfl)
    intro h6 D6 F6 N6
    try clear F5 N5
    show wpAny _ _ _ _ _ _
    k_steps
    rename Fr _ _ _ _ => F7
    rename News _ _ _ _ => N7
    rw [hdm]
    refine wpAny_call (ih (Y := Y) (G := G) (e := e) (c := 0) (vs := vs.take (P + 1)) B' F7 X' T' rfl rfl (by omega) ?_ rfl (News.isList N7 (.tail _ (.head _))) ?_ rfl ?_ h64 hG he ?_ (fun i hi => hY i (by omega)) (fun i hi => hb i (by omega)) ?_)
    · show ad + 1 + D + 1 < 900; omega
    · rw [List.length_take]; omega
    · rw [List.length_take]; omega
    · intro i hi
      rw [List.getElem_take]
      exact hnum i (by rw [List.length_take] at hi; omega)
    intro h8 tk8 r8 ep8 us8 hs8 hr8 hf8 hl8 hq8
    have F8 := back_fr F7 hs8
    have N8 := back_new F7 N7 hs8 hr8 hf8
    clear F7 N7
    show wpAny _ _ _ _ _ _
    k_steps
    refine item_at (hl.at fun o e => F8.keep _ _ e) (by rw [fdiv_two]; omega) (by rw [fdiv_two]; omega) (some_at (i := P) (by rw [fdiv_two]; omega) (by omega)) ?_ (by with_unfolding_all rfl)
    show wpAny _ _ _ _ _ _
    k_steps
    rename Fr _ _ _ _ => F9
    rename News _ _ _ _ => N9
    refine add_N (xs := us8) (ys := [vs[P]]) F9 N9 (N9 _ (.tail _ (.head _))).1 (N9 _ (.head _)).1 (by have := Nat.pow_le_pow_right (n := 2) (by decide) (show D + 1 ≤ 4 by omega); simp; omega) ?_
    intro h10 D10 F10 N10
    clear F9 N9
    show wpAny _ _ _ _ _ _
    k_steps
    rw [hdm]
    refine wpAny_call (ih (Y := fun i => Y (i + P)) (G := G) (e := e) (c := 0) (vs := vs.drop P) B' F10 X' T' rfl rfl (by omega) ?_ rfl (News.isList N10 (.tail _ (.tail _ (.tail _ (.head _))))) ?_ rfl ?_ h64 hG he ?_ (fun i hi => ?_) (fun i hi => ?_) ?_)
    · show ad + 1 + D + 1 < 900; omega
    · rw [List.length_drop]; omega
    · rw [List.length_drop]; omega
    · intro i hi
      rw [List.length_drop] at hi
      rw [List.getElem_drop]
      have h3 := hnum (P + i) (by omega)
      have e3 : P + i + 0 = i + 0 + P := by omega
      rw [e3] at h3
      exact h3
    · have h3 := hY (i + P) (by omega)
      have e3 : i + P + 1 = i + 1 + P := by omega
      rw [e3] at h3
      exact h3
    · exact hb (i + P) (by omega)
    intro h12 tk12 r12 ep12 us12 hs12 hr12 hf12 hl12 hq12
    have F12 := back_fr F10 hs12
    have N12 := back_new F10 N10 hs12 hr12 hf12
    clear F10 N10
    show wpAny _ _ _ _ _ _
    have hpw := Nat.pow_le_pow_right (n := 2) (by decide) (show D + 1 ≤ 4 by omega)
    refine add_N (xs := us8 ++ [vs[P]]) (ys := us12) F12 N12 (N12 _ (.tail _ (.head _))).1 (N12 _ (.head _)).1 (by simp; omega) ?_
    intro h13 D13 F13 N13
    have hj := join_halves (Y := Y) (e := e) hP hl8 hl12 he hq8 (mid := vs[P]) (hnum P (by omega)) hq12
    exact k _ _ _ _ _ F13.keep (N13 _ (.head _)).1 (N13 _ (.head _)).2.2 hj.1 hj.2

theorem halved_ok : ∀ D, HalvedSpec D
  | 0 => halved_zero
  | D + 1 => halved_succ (halved_ok D)
end Mine


namespace Mine

theorem intsAre_at {vs : List Value} {ns : List Int} (h : IntsAre vs ns) {i : Nat} (hi : i < vs.length) : ∃ t, vs[i] = .int (ns.getD i 0) t := by
  have hi' : i < ns.length := by rw [← h.length]; exact hi
  obtain ⟨t, ht⟩ := h.get i ns[i] (by simp [hi'])
  refine ⟨t, ?_⟩
  have e : vs[i]? = some vs[i] := by simp [hi]
  rw [e] at ht
  rw [List.getD_eq_getElem?_getD, List.getElem?_eq_getElem hi']
  exact Option.some.inj ht

theorem cuts_list {f : Nat → UInt64} {k : Nat} {vals : Array Value} (h : Cuts f k vals) : vals.toList.length = k ∧ ∀ i, (hi : i < vals.toList.length) → ∃ t, t ≠ 0 ∧ vals.toList[i] = .float (f i) t := by
  refine ⟨by rw [Array.length_toList]; exact h.1, fun i hi => ?_⟩
  rw [Array.length_toList] at hi
  obtain ⟨t, ht, hx⟩ := h.2 i (by rw [← h.1]; exact hi)
  refine ⟨t, ht, ?_⟩
  rw [Array.getElem_toList]
  rw [Array.getElem?_eq_getElem hi] at hx
  exact Option.some.inj hx

/-- the data with one more item at each end; of one item three alike -/
def wideB (ds : List Int) (q : Nat) : Int := if q = 0 then 2 * ds.getD 0 0 - ds.getD (1 % ds.length) 0 else if q ≤ ds.length then ds.getD (q - 1) 0 else 2 * ds.getD (ds.length - 1) 0 - ds.getD (if ds.length = 1 then 0 else ds.length - 2) 0
theorem wideB_two {ds : List Int} (h : 2 ≤ ds.length) : wideB ds = wideA ds := by
  funext q
  unfold wideB wideA
  rw [Nat.mod_eq_of_lt (by omega), if_neg (show ¬ ds.length = 1 by omega)]
theorem wideB_one {x : Int} (q : Nat) : wideB [x] q = x := by
  unfold wideB
  by_cases h : q = 0
  · rw [if_pos h]; simp; omega
  · rw [if_neg h]
    by_cases h2 : q ≤ 1
    · have : q = 1 := by omega
      subst this; simp
    · rw [if_neg (by simpa using h2)]; simp; omega
theorem wideB_bound {ds : List Int} {M : Nat} (hb : ∀ x ∈ ds, x.natAbs ≤ M) (q : Nat) : (wideB ds q).natAbs ≤ 3 * M := by
  have hg : ∀ j, (ds.getD j 0).natAbs ≤ M := fun j => getD_bound (P := fun x => x.natAbs ≤ M) (Nat.zero_le _) hb j
  unfold wideB
  split
  · have h1 := hg 0
    have h2 := hg (1 % ds.length)
    generalize ds.getD 0 0 = a at *
    generalize ds.getD (1 % ds.length) 0 = b at *
    omega
  · split
    · have := hg (q - 1); omega
    · have h1 := hg (ds.length - 1)
      have h2 := hg (if ds.length = 1 then 0 else ds.length - 2)
      generalize ds.getD (ds.length - 1) 0 = a at *
      generalize ds.getD (if ds.length = 1 then 0 else ds.length - 2) 0 = b at *
      omega

theorem wideB_mono {ds : List Int} (hs : ds.Pairwise (· ≤ ·)) (h1 : 1 ≤ ds.length) (q : Nat) (hq : q < ds.length + 1) : wideB ds q ≤ wideB ds (q + 1) := by
  by_cases c1 : ds.length = 1
  · match ds, c1 with
    | [x], _ => rw [wideB_one, wideB_one]; exact Int.le_refl _
  · rw [wideB_two (by omega)]
    unfold wideA
    by_cases hq0 : q = 0
    · subst hq0
      rw [if_pos rfl, if_neg (by omega), if_pos (by omega)]
      have := sorted_getD_le hs (Nat.le_succ 0) (by omega)
      show 2 * ds.getD 0 0 - ds.getD 1 0 ≤ ds.getD 0 0
      simp only [Nat.succ_eq_add_one, Nat.zero_add] at this
      omega
    · rw [if_neg hq0, if_pos (by omega), if_neg (by omega)]
      by_cases hq2 : q + 1 ≤ ds.length
      · rw [if_pos hq2]
        exact sorted_getD_le hs (by omega) (by omega)
      · rw [if_neg hq2]
        have := sorted_getD_le hs (i := ds.length - 2) (j := ds.length - 1) (by omega) (by omega)
        rw [show q - 1 = ds.length - 1 by omega]
        omega

/-- the written list of the law -/
def wideL (ds : List Int) : List Int := [2 * ds.getD (Int.toNat 0) 0 - ds.getD (Int.fmod 1 (ds.length : Int)).toNat 0] ++ ds ++ [2 * ds.getD (-1 + (ds.length : Int)).toNat 0 - ds.getD (Int.fmod (-2) (ds.length : Int)).toNat 0]
theorem wideL_length (ds : List Int) : (wideL ds).length = ds.length + 2 := by
  unfold wideL; simp
theorem fmod_m2 {n : Nat} (h : 1 ≤ n) : (Int.fmod (-2) (n : Int)).toNat = if n = 1 then 0 else n - 2 := by
  rw [Int.fmod_eq_emod_of_nonneg _ (by omega)]
  by_cases c : n = 1
  · subst c; rfl
  · rw [if_neg c]
    have e : (-2 : Int) % (n : Int) = (-2 + (n : Int)) % (n : Int) := (Int.add_emod_right _ _).symm
    rw [e, Int.emod_eq_of_lt (by omega) (by omega)]
    omega
theorem wideL_at {ds : List Int} (h1 : 1 ≤ ds.length) (q : Nat) (hq : q ≤ ds.length + 1) : (wideL ds).getD q 0 = wideB ds q := by
  unfold wideL wideB
  rw [fmod_m2 h1, show (Int.fmod 1 (ds.length : Int)).toNat = 1 % ds.length from by
    have := fmod_nat 1 ds.length
    rw [show ((1 : Nat) : Int) = 1 from rfl] at this
    rw [this, Int.toNat_natCast]]
  rw [show (-1 + (ds.length : Int)).toNat = ds.length - 1 by omega]
  rw [List.getD_eq_getElem?_getD]
  by_cases c0 : q = 0
  · subst c0; rw [if_pos rfl]; rfl
  · rw [if_neg c0]
    by_cases c1 : q ≤ ds.length
    · rw [if_pos c1, List.getElem?_append_left (by simp; omega), List.getElem?_append_right (by simp; omega)]
      rw [List.getD_eq_getElem?_getD]; rfl
    · rw [if_neg c1, List.getElem?_append_right (by simp; omega)]
      rw [show q - ([2 * ds.getD (Int.toNat 0) 0 - ds.getD (1 % ds.length) 0] ++ ds).length = 0 by simp; omega]
      rfl

section
variable {w : World} {A A₀ : Around} {s : Shared} {L : Addr} {h₀ base : Heap} {m mg mb : Str → Option Value} {mean : ExcName → Option Value}
    {an : Str} {as : Scope} {aa : Addr} {acd : Value} {outer : List Env} {R : Result → Shared → Prop} {l : Addr} {vs : List Value} {ns srt : List Int} {n : Int} {d : Nat} {tn tm : Tok}

theorem qi_num (B : Below A₀ base outer h₀) (F : Fr h₀ L s.heap m) (X₀ : (hd.heap_39 w.params).In h₀) (T : Top hd.view_39 (looseW hd.view_39 [Str.ofString "quantiles"]) mean mg mb h₀)
    (hA : A = A₀.deeper (envOf an as L aa acd)) (hke : as.kind = .function) (hroom : A.depth < 900) (hh : A.handled = none)
    (hl : s.heap.IsList l vs.toArray) (hi : IntsAre vs ns) (h1 : 1 ≤ ns.length) (h64 : ns.length < 64) (hn : n = ((2 ^ (d + 1) : Nat) : Int)) (hd4 : d ≤ 4) (hb : ∀ x ∈ ns, x.natAbs ≤ 2 ^ 40)
    (hp : srt.Perm ns) (hs : srt.Pairwise (· ≤ ·))
    (k : ∀ h' tk r e (us : List Value), s.heap.StaysIn h' → h'.get? r = some (W.listOf us.toArray e) → s.heap.get? r = none → us.length + 1 = 2 ^ (d + 1) →
      (∀ i, (hi : i < us.length) → NumQ us[i] (interp (fun q => srt.getD q 0) (2 ^ (d + 1)) ((i + 1) * (srt.length - 1))) (d + 1)) → R (.ok (.ret (.ref r))) { s with heap := h', toks := tk })
    : codeAny (model PySem.Challenge.rw_dn0167_02.row.prog w) A (.call (.ref 42) ⟨[.ref l], [(Str.ofString "n", .int n tn), (Str.ofString "method", .str (Str.ofString "inclusive") tm)]⟩) R s := by
  have hpw : 2 ^ (d + 1) ≤ 2 ^ 5 := Nat.pow_le_pow_right (by decide) (by omega)
  have hpw1 : 2 ^ 1 ≤ 2 ^ (d + 1) := Nat.pow_le_pow_right (by decide) (by omega)
  have hlen := hp.length_eq
  by_cases c1 : ns.length = 1
  · refine q_one B F X₀ T hA hke hroom hh hl hi c1 (by omega) (by omega) ?_
    intro h' tk r e us s1 s2 s3 hus
    have hul := hus.length
    rw [List.length_replicate] at hul
    have hnt : (n - 1).toNat + 1 = 2 ^ (d + 1) := by omega
    refine k h' tk r e us s1 s2 s3 (by omega) (fun i hi' => ?_)
    obtain ⟨t, ht⟩ := intsAre_at hus hi'
    rw [ht]
    have e1 : (List.replicate (n - 1).toNat (ns.getD 0 0)).getD i 0 = ns.getD 0 0 := by
      rw [List.getD_eq_getElem?_getD, List.getElem?_replicate, if_pos (by omega)]; rfl
    rw [e1]
    have e2 : interp (fun q => srt.getD q 0) (2 ^ (d + 1)) ((i + 1) * (srt.length - 1)) = ns.getD 0 0 * ((2 ^ (d + 1) : Nat) : Int) := by
      rw [show srt.length - 1 = 0 by omega, Nat.mul_zero]
      refine interp_const _ ?_ (.inl (Nat.zero_mod _))
      rw [Nat.zero_div]
      match ns, c1, hp with
      | [x], _, hp => rw [List.perm_singleton.mp hp]
    rw [e2]
    exact NumQ.int
  · refine q_incl B F X₀ T hA hke hroom hh hl hi (by omega) h64 (by omega) (by omega) (fun x hx => Nat.lt_of_le_of_lt (hb x hx) (Nat.pow_lt_pow_right (by decide) (by decide))) ?_
    intro h' tk r e vals ds s1 s2 s3 hdp hds hc
    have hsd : ds = srt := lks_uniq (hdp.trans hp.symm) hds hs
    subst hsd
    obtain ⟨hvl, hvq⟩ := cuts_list hc
    refine k h' tk r e vals.toList s1 s2 s3 (by omega) (fun i hi' => ?_)
    obtain ⟨t, ht0, ht⟩ := hvq i hi'
    rw [ht, hn, numI_interp (by omega)]
    refine .inr ⟨_, _, rfl, fq_exact (by omega) (by omega) ?_ rfl, ht0⟩
    have hbd := interp_bound (fun q => ds.getD q 0) (D := 2 ^ (d + 1)) (M := 2 ^ 40) (by omega) (fun q => getD_bound (P := fun x => x.natAbs ≤ 2 ^ 40) (Nat.zero_le _) (fun x hx => hb x (hdp.mem_iff.mp hx)) q) ((i + 1) * (ds.length - 1))
    have : 2 ^ 40 * 2 ^ (d + 1) ≤ 2 ^ 40 * 2 ^ 5 := Nat.mul_le_mul_left _ hpw
    omega

theorem qe_num (B : Below A₀ base outer h₀) (F : Fr h₀ L s.heap m) (X₀ : (hd.heap_39 w.params).In h₀) (T : Top hd.view_39 (looseW hd.view_39 [Str.ofString "quantiles"]) mean mg mb h₀)
    (hA : A = A₀.deeper (envOf an as L aa acd)) (hke : as.kind = .function) (hroom : A.depth < 900) (hh : A.handled = none)
    (hl : s.heap.IsList l vs.toArray) (hi : IntsAre vs ns) (h1 : 1 ≤ ns.length) (h64 : ns.length < 64) (hn : n = ((2 ^ (d + 1) : Nat) : Int)) (hd4 : d ≤ 4) (hb : ∀ x ∈ ns, x.natAbs ≤ 2 ^ 40)
    (hp : srt.Perm ns) (hs : srt.Pairwise (· ≤ ·))
    (k : ∀ h' tk r e (us : List Value), s.heap.StaysIn h' → h'.get? r = some (W.listOf us.toArray e) → s.heap.get? r = none → us.length + 1 = 2 ^ (d + 1) →
      (∀ i, (hi : i < us.length) → NumQ us[i] (interp (wideB srt) (2 ^ (d + 1)) ((i + 1) * (srt.length + 1))) (d + 1)) → R (.ok (.ret (.ref r))) { s with heap := h', toks := tk })
    : codeAny (model PySem.Challenge.rw_dn0167_02.row.prog w) A (.call (.ref 42) ⟨[.ref l], [(Str.ofString "n", .int n tn), (Str.ofString "method", .str (Str.ofString "exclusive") tm)]⟩) R s := by
  have hpw : 2 ^ (d + 1) ≤ 2 ^ 5 := Nat.pow_le_pow_right (by decide) (by omega)
  have hpw1 : 2 ^ 1 ≤ 2 ^ (d + 1) := Nat.pow_le_pow_right (by decide) (by omega)
  have hlen := hp.length_eq
  by_cases c1 : ns.length = 1
  · refine q_one B F X₀ T hA hke hroom hh hl hi c1 (by omega) (by omega) ?_
    intro h' tk r e us s1 s2 s3 hus
    have hul := hus.length
    rw [List.length_replicate] at hul
    have hnt : (n - 1).toNat + 1 = 2 ^ (d + 1) := by omega
    refine k h' tk r e us s1 s2 s3 (by omega) (fun i hi' => ?_)
    obtain ⟨t, ht⟩ := intsAre_at hus hi'
    rw [ht]
    have e1 : (List.replicate (n - 1).toNat (ns.getD 0 0)).getD i 0 = ns.getD 0 0 := by
      rw [List.getD_eq_getElem?_getD, List.getElem?_replicate, if_pos (by omega)]; rfl
    rw [e1]
    have e2 : interp (wideB srt) (2 ^ (d + 1)) ((i + 1) * (srt.length + 1)) = ns.getD 0 0 * ((2 ^ (d + 1) : Nat) : Int) := by
      match ns, c1, hp with
      | [x], _, hp =>
        rw [List.perm_singleton.mp hp]
        exact interp_const _ (wideB_one _) (.inr (wideB_one _))
    rw [e2]
    exact NumQ.int
  · refine q_excl B F X₀ T hA hke hroom hh hl hi (by omega) h64 (by omega) (by omega) (fun x hx => Nat.lt_of_le_of_lt (hb x hx) (Nat.pow_lt_pow_right (by decide) (by decide))) ?_
    intro h' tk r e vals ds s1 s2 s3 hdp hds hc
    have hsd : ds = srt := lks_uniq (hdp.trans hp.symm) hds hs
    subst hsd
    obtain ⟨hvl, hvq⟩ := cuts_list hc
    refine k h' tk r e vals.toList s1 s2 s3 (by omega) (fun i hi' => ?_)
    obtain ⟨t, ht0, ht⟩ := hvq i hi'
    rw [ht, hn, numE_interp (by omega) (by omega), ← wideB_two (by omega)]
    refine .inr ⟨_, _, rfl, fq_exact (by omega) (by omega) ?_ rfl, ht0⟩
    have hbd := interp_bound (wideB ds) (D := 2 ^ (d + 1)) (M := 3 * 2 ^ 40) (by omega) (fun q => wideB_bound (fun x hx => hb x (hdp.mem_iff.mp hx)) q) ((i + 1) * (ds.length + 1))
    have : 3 * 2 ^ 40 * 2 ^ (d + 1) ≤ 3 * 2 ^ 40 * 2 ^ 5 := Nat.mul_le_mul_left _ hpw
    omega
end
end Mine


namespace Mine
theorem units1 (env : Env) : (callerA.deeper env).units < cLine := by rw [units_deeper, units_caller, cLine_is]; decide
theorem room1 (env : Env) : (callerA.deeper env).depth + 10 < 900 := by show callerA.depth + 1 + 10 < 900; decide
theorem room2 (env : Env) {d : Nat} (h : d ≤ 3) : (callerA.deeper env).depth + d + 1 < 900 := by have := room1 env; omega
theorem pick_mid {vs : List Value} (h2 : 2 ≤ vs.length) : slicePick vs.toArray (some 1) (some (-1)) none = ((vs.drop 1).take (vs.length - 2)).toArray := by
  have e1 : clipAt vs.toArray.size 1 = 1 := by
    have := clipAt_nat vs.toArray.size 1
    rw [show ((1 : Nat) : Int) = 1 from rfl] at this
    rw [this]; simp; omega
  have e2 : clipAt vs.toArray.size (-1) = vs.length - 1 := by
    have := clipAt_neg vs.toArray.size 1 (by decide)
    rw [show (-((1 : Nat) : Int)) = -1 from rfl] at this
    rw [this]; simp
  rw [slicePick_plain]
  simp only [Option.elim, e1, e2]
  rw [show vs.length - 1 - 1 = vs.length - 2 by omega]
theorem n_eq (k : Nat) : (2 : Int) * 2 ^ k = ((2 ^ (k + 1) : Nat) : Int) := by
  rw [Nat.pow_succ, Int.natCast_mul, Int.natCast_pow]
  exact Int.mul_comm _ _
def clip40 (x : Int) : Int := if x.natAbs < 2 ^ 40 then x else x.fmod (2 ^ 40)
theorem clip40_bound (ns : List Int) : ∀ x ∈ ns.map clip40, x.natAbs ≤ 2 ^ 40 := by
  intro x hx
  obtain ⟨y, _, rfl⟩ := List.mem_map.mp hx
  unfold clip40
  split
  · omega
  · have h1 := fmod_lo y (n := 2 ^ 40) (by decide)
    have h2 := fmod_hi y (n := 2 ^ 40) (by decide)
    omega
theorem data_facts {ys : List Value} {ns : List Int} (h : IntsAre ys (ns.map clip40)) (h63 : ¬ (63 : Int) < (ns.length : Int)) (hne : decide (ns = []) = false) :
    ∃ ds, IntsAre ys ds ∧ 1 ≤ ds.length ∧ ds.length < 64 ∧ ∀ x ∈ ds, x.natAbs ≤ 2 ^ 40 := by
  refine ⟨_, h, ?_, ?_, clip40_bound _⟩
  · rw [List.length_map]
    have : ns ≠ [] := by simpa using hne
    exact List.length_pos_iff.mpr this
  · rw [List.length_map]; omega
end Mine
section
open Mine
local macro_rules | `(tactic| k_steps) => `(tactic| repeat' ((fail_if_success (with_reducible show wpAny _ _ (pyIter _) _ _ _)); (fail_if_success (with_reducible show wpAny _ _ (call (Value.ref _) _ _) _ _ _)); (fail_if_success (with_reducible show LCg.FinA _ _ _ _ _ _ _ _)); first | (k_unfold; (try dsimp only)) | (k_end; wrow_close) | walk1 | (dsimp only; walk1) | (leave1; walk_say "STEP leave1"; try dsimp only) | fail "no step"))
set_option maxHeartbeats 8000000 in
theorem PySem.Challenge.cw_dn0167_02_holds : PySem.Challenge.rw_dn0167_02.Holds := by
  refine hd ?_
  k_go0
  rename List Int => ns
  show wpAny _ _ _ _ _ _
  k_fold
  k_steps
  rotate_left 1
  rename Fr _ _ _ _ => F1
  rename News _ _ _ _ => N1
  rename IntsAre _ _ => hI
  rename Heap.IsList _ _ _ => hL
  rename ¬ (63 : Int) < _ => h63
  rename decide (_ = ([] : List Int)) = false => hne
  with_unfolding_all refine LCg.CompSrc.base (by rfl) F1 N1 hL (by simp [hI.length]; rw [sizeLine_eq]; omega) ?_
  intro g'
  with_unfolding_all refine kcf_list clip40 hI (fun k' t' I' oI' C' oC' D' m' ys' h' tk' E' hk' hC' hx' F' N' off' ne' hMark' => ?_) ?_
  · clear F1 N1
    (try simp only [LCg.Off3, and_true] at off')
    show wpAny _ _ _ _ _ _
    k_fold
    k_steps
    · rename (_ : Int) < 2 ^ Int.toNat 40 => hlt
      have e40 : (2 : Int) ^ Int.toNat 40 = 1099511627776 := by decide
      rw [e40] at hlt
      have e41 : (if k'.natAbs < 2 ^ 40 then k' else k'.fmod (2 ^ 40)) = k' := if_pos (by split at hlt <;> omega)
      show KCfEl _ (clip40 k') _ _
      unfold clip40
      rw [e41]
      exact ⟨rfl, _, rfl⟩
    · rename ¬ (_ : Int) < 2 ^ Int.toNat 40 => hlt
      have e40 : (2 : Int) ^ Int.toNat 40 = 1099511627776 := by decide
      rw [e40] at hlt
      have e41 : (if k'.natAbs < 2 ^ 40 then k' else k'.fmod (2 ^ 40)) = k'.fmod (2 ^ 40) := if_neg (by split at hlt <;> omega)
      show KCfEl _ (clip40 k') _ _
      unfold clip40
      rw [e41]
      exact ⟨rfl, _, rfl⟩
  refine (show KPfDone _ from ?_)
  unfold KPfDone
  intro ys hys
  unfold LCg.FinA
  intro D h tk F N _
  have N2 : News _ _ h [(D, LCg.lst ys)] := fun p hp => N p (by rw [List.mem_singleton.mp hp]; exact .head _)
  obtain ⟨ds, hds, hd1, hd64, hdb⟩ := data_facts hys h63 hne
  clear F1 N1 N hys hne
  rotate_left 1
  unfold LCg.FinA
  intro D h tk F N _
  obtain ⟨ys, ds, N2, hds, hd1, hd64, hdb⟩ : ∃ (ys : List Value) (ds : List Int), News _ _ h [(D, LCg.lst ys)] ∧ IntsAre ys ds ∧ 1 ≤ ds.length ∧ ds.length < 64 ∧ ∀ x ∈ ds, x.natAbs ≤ 2 ^ 40 :=
    ⟨_, [0], (fun p hp => N p (by rw [List.mem_singleton.mp hp]; exact .head _)), .cons _ _ .nil, by decide, by decide, by simp⟩
  clear N
  all_goals (
    dsimp only
    show wpAny _ _ _ _ _ _
    k_steps
    rename Fr _ _ _ _ => F3
    rename News _ _ _ _ => N3
    rename IntsAre _ _ => hi3
    rename List.Perm _ _ => hp3
    rename List.Pairwise _ _ => hs3
    rename Frag.In _ _ => KX
    rename Top _ _ _ _ _ _ => TT
    rename Below _ _ _ _ => KB
    obtain ⟨d, hdd⟩ : ∃ d : Nat, 1 + ns.sum.fmod 3 = (d : Int) := ⟨(1 + ns.sum.fmod 3).toNat, by omega⟩
    have hdd1 : 1 ≤ d := by omega
    have hdd3 : d ≤ 3 := by omega
    rw [hdd] at F3 ⊢
    rw [Int.toNat_natCast] at F3 ⊢
    rename_i vI nI cI hI1 eI bI p0I l1I hI2 tkI hI3
    have hbI : ∀ q, (nI.getD q 0).natAbs ≤ 2 ^ 40 := fun q => getD_bound (P := fun x => x.natAbs ≤ 2 ^ 40) (Nat.zero_le _) (fun x hx => hdb x (hp3.mem_iff.mp hx)) q
    have hpd : 2 ^ d ≤ 2 ^ 3 := Nat.pow_le_pow_right (by decide) hdd3
    refine wpAny_call ?_
    with_unfolding_all refine qi_num (d := d) KB F3 KX TT rfl rfl (Nat.lt_of_le_of_lt (Nat.le_add_right _ _) (room1 _)) rfl ⟨_, (N3 _ (.tail _ (.head _))).1, rfl, _, rfl⟩ hds hd1 hd64 (n_eq _) (by omega) hdb hp3 hs3 ?_
    intro h4 tk4 r4 e4 us4 hs4 hr4 hf4 hl4 hq4
    have F4 := back_fr F3 hs4
    have N4 := back_new F3 N3 hs4 hr4 hf4
    clear F3 N3
    show wpAny _ _ _ _ _ _
    k_steps
    refine wpAny_call ?_
    with_unfolding_all refine finer_ok (Y := fun t i => interp (fun q => nI.getD q 0) (2 ^ t) i) KB F4 KX TT rfl rfl (Nat.lt_of_le_of_lt (Nat.le_add_right _ 10) (room1 _)) rfl (News.isList N4 (.tail _ (.head _))) ?_ ?_ hdd1 hdd3 ?_ ?_ ?_ ?_ ?_
    · rw [hi3.length]; omega
    · rw [hi3.length]; omega
    · intro i hi
      obtain ⟨t, ht⟩ := intsAre_at hi3 hi
      rw [ht]
      show NumQ _ (interp _ (2 ^ 0) i) 0
      rw [Nat.pow_zero, interp_one]
      have := NumQ.int (i := nI.getD i 0) (t := t) (e := 0)
      simpa using this
    · intro t i _ _
      show interp _ (2 ^ (t + 1)) (2 * i) = 2 * interp _ (2 ^ t) i
      rw [Nat.pow_succ, Nat.mul_comm (2 ^ t) 2]
      exact interp_even _ (Nat.two_pow_pos _) i
    · intro t i _ _
      show interp _ (2 ^ (t + 1)) (2 * i + 1) = _
      rw [Nat.pow_succ, Nat.mul_comm (2 ^ t) 2]
      exact interp_odd _ (Nat.two_pow_pos _) i
    · intro t i ht _
      have h1 := interp_bound (fun q => nI.getD q 0) (D := 2 ^ t) (M := 2 ^ 40) (Nat.two_pow_pos _) hbI i
      have h2 : 2 ^ t ≤ 2 ^ 3 := Nat.pow_le_pow_right (by decide) (by omega)
      have h3 : 2 ^ 40 * 2 ^ t ≤ 2 ^ 40 * 2 ^ 3 := Nat.mul_le_mul_left _ h2
      show (interp _ (2 ^ t) i).natAbs < 2 ^ 50
      omega
    intro h5 tk5 r5 e5 us5 hs5 hr5 hf5 hl5 hq5
    have F5 := back_fr F4 hs5
    have N5 := back_new F4 N4 hs5 hr5 hf5
    clear F4 N4
    show wpAny _ _ _ _ _ _
    k_steps
    refine wpAny_call ?_
    with_unfolding_all refine halved_ok d (Y := fun i => interp (fun q => nI.getD q 0) (2 ^ d) i) (G := nI.length - 1) (e := d) (c := 0) (vs := us5) KB F5 KX TT rfl rfl hdd3 ?_ rfl (News.isList N5 (.head _)) (by omega) rfl ?_ (by omega) (by omega) (by omega) hq5 ?_ ?_ ?_
    · exact room2 _ hdd3
    · rw [hl5, hi3.length]
    · intro i hi
      exact interp_mono _ (Nat.two_pow_pos _) (fun q hq => sorted_getD_le hs3 (Nat.le_succ q) (by omega)) i hi
    · intro i hi
      have h1 := interp_bound (fun q => nI.getD q 0) (D := 2 ^ d) (M := 2 ^ 40) (Nat.two_pow_pos _) hbI i
      have h3 : 2 ^ 40 * 2 ^ d ≤ 2 ^ 40 * 2 ^ 3 := Nat.mul_le_mul_left _ hpd
      show (interp _ (2 ^ d) i).natAbs < 2 ^ 50
      omega
    intro h6 tk6 r6 e6 us6 hs6 hr6 hf6 hl6 hq6
    have F6 := back_fr F5 hs6
    have N6 := back_new F5 N5 hs6 hr6 hf6
    clear F5 N5
    show wpAny _ _ _ _ _ _
    have hbk : NoneBooked h6 := booked_of (KX.keeps F6.keep) (by k_is) rfl
    refine lists_ne (News.isList N6 (.tail _ (.tail _ (.head _)))) (News.isList N6 (.head _)) (by simp; omega) (units1 _) ?_ ?_
    · intro j j1 j2
      have hj4 : j < us4.length := by simpa using j1
      have hj6 : j < us6.length := by simpa using j2
      have h4j := hq4 j hj4
      have h6j := hq6 j hj6
      rw [interp_join _ (Nat.two_pow_pos _), show 2 * 2 ^ d = 2 ^ (d + 1) by rw [Nat.pow_succ, Nat.mul_comm]] at h6j
      simpa using num_eqAt hbk (by omega) h4j h6j
    have hz1 : 0 ≤ (1 : Int).fmod (nI.length : Int) ∧ (1 : Int).fmod (nI.length : Int) < (nI.length : Int) := ⟨Int.fmod_nonneg_of_pos _ (by omega), Int.fmod_lt_of_pos _ (by omega)⟩
    have hz2 : 0 ≤ (-2 : Int).fmod (nI.length : Int) ∧ (-2 : Int).fmod (nI.length : Int) < (nI.length : Int) := ⟨Int.fmod_nonneg_of_pos _ (by omega), Int.fmod_lt_of_pos _ (by omega)⟩
    obtain ⟨hz1, hz1'⟩ := hz1
    obtain ⟨hz2, hz2'⟩ := hz2
    show wpAny _ _ _ _ _ _
    k_steps
    rename Fr _ _ _ _ => F7
    rename News _ _ _ _ => N7
    rename IntsAre _ _ => hw
    have hw2 : IntsAre _ (wideL nI) := hw
    clear hw
    have hwl := hw2.length
    rw [wideL_length] at hwl
    have hbW : ∀ q, (wideB nI q).natAbs ≤ 3 * 2 ^ 40 := fun q => wideB_bound (fun x hx => hdb x (hp3.mem_iff.mp hx)) q
    refine wpAny_call ?_
    with_unfolding_all refine qe_num (d := d) KB F7 KX TT rfl rfl (Nat.lt_of_le_of_lt (Nat.le_add_right _ _) (room1 _)) rfl ⟨_, (N7 (D, LCg.lst ys) (by simp)).1, rfl, _, rfl⟩ hds hd1 hd64 (n_eq _) (by omega) hdb hp3 hs3 ?_
    intro h8 tk8 r8 e8 us8 hs8 hr8 hf8 hl8 hq8
    have F8 := back_fr F7 hs8
    have N8 := back_new F7 N7 hs8 hr8 hf8
    clear F7 N7
    show wpAny _ _ _ _ _ _
    k_steps
    refine wpAny_call ?_
    with_unfolding_all refine finer_ok (Y := fun t i => interp (wideB nI) (2 ^ t) i) KB F8 KX TT rfl rfl (Nat.lt_of_le_of_lt (Nat.le_add_right _ 10) (room1 _)) rfl (News.isList N8 (.tail _ (.head _))) ?_ ?_ hdd1 hdd3 ?_ ?_ ?_ ?_ ?_
    · omega
    · omega
    · intro i hi
      obtain ⟨t, ht⟩ := intsAre_at hw2 hi
      rw [ht, wideL_at (by omega) i (by omega)]
      show NumQ _ (interp _ (2 ^ 0) i) 0
      rw [Nat.pow_zero, interp_one]
      have := NumQ.int (i := wideB nI i) (t := t) (e := 0)
      simpa using this
    · intro t i _ _
      show interp _ (2 ^ (t + 1)) (2 * i) = 2 * interp _ (2 ^ t) i
      rw [Nat.pow_succ, Nat.mul_comm (2 ^ t) 2]
      exact interp_even _ (Nat.two_pow_pos _) i
    · intro t i _ _
      show interp _ (2 ^ (t + 1)) (2 * i + 1) = _
      rw [Nat.pow_succ, Nat.mul_comm (2 ^ t) 2]
      exact interp_odd _ (Nat.two_pow_pos _) i
    · intro t i ht _
      have h1 := interp_bound (wideB nI) (D := 2 ^ t) (M := 3 * 2 ^ 40) (Nat.two_pow_pos _) hbW i
      have h2 : 2 ^ t ≤ 2 ^ 3 := Nat.pow_le_pow_right (by decide) (by omega)
      have h3 : 3 * 2 ^ 40 * 2 ^ t ≤ 3 * 2 ^ 40 * 2 ^ 3 := Nat.mul_le_mul_left _ h2
      show (interp _ (2 ^ t) i).natAbs < 2 ^ 50
      omega
    intro h9 tk9 r9 e9 us9 hs9 hr9 hf9 hl9 hq9
    rw [hwl, show nI.length + 2 - 1 = nI.length + 1 by omega] at hl9
    have F9 := back_fr F8 hs9
    have N9 := back_new F8 N8 hs9 hr9 hf9
    clear F8 N8
    have hpe : 2 ^ 1 ≤ 2 ^ d := Nat.pow_le_pow_right (by decide) hdd1
    have hge : 2 * 2 ≤ (nI.length + 1) * 2 ^ d := Nat.mul_le_mul (by omega) hpe
    have hle : (nI.length + 1) * 2 ^ d ≤ 64 * 2 ^ 3 := Nat.mul_le_mul (by omega) hpd
    show wpAny _ _ _ _ _ _
    k_steps
    rename Fr _ _ _ _ => F10
    rename News _ _ _ _ => N10
    rw [pick_mid (vs := us9) (by omega)] at N10
    have hlm : ((us9.drop 1).take (us9.length - 2)).length = us9.length - 2 := by rw [List.length_take, List.length_drop]; omega
    refine wpAny_call ?_
    with_unfolding_all refine halved_ok d (Y := fun i => interp (wideB nI) (2 ^ d) i) (G := nI.length + 1) (e := d) (c := 1) (vs := (us9.drop 1).take (us9.length - 2)) KB F10 KX TT rfl rfl hdd3 (room2 _ hdd3) rfl (News.isList N10 (.head _)) (by omega) rfl (by omega) (by omega) (by omega) (by omega) ?_ ?_ ?_ ?_
    · intro i hi
      rw [List.getElem_take, List.getElem_drop]
      have h9i := hq9 (1 + i) (by omega)
      have e9i : i + 1 = 1 + i := Nat.add_comm _ _
      rw [e9i]
      exact h9i
    · intro i hi
      exact interp_mono _ (Nat.two_pow_pos _) (fun q hq => wideB_mono hs3 (by omega) q hq) i hi
    · intro i hi
      have h1 := interp_bound (wideB nI) (D := 2 ^ d) (M := 3 * 2 ^ 40) (Nat.two_pow_pos _) hbW i
      have h3 : 3 * 2 ^ 40 * 2 ^ d ≤ 3 * 2 ^ 40 * 2 ^ 3 := Nat.mul_le_mul_left _ hpd
      show (interp _ (2 ^ d) i).natAbs < 2 ^ 50
      omega
    intro h11 tk11 r11 e11 us11 hs11 hr11 hf11 hl11 hq11
    have F11 := back_fr F10 hs11
    have N11 := back_new F10 N10 hs11 hr11 hf11
    clear F10 N10
    show wpAny _ _ _ _ _ _
    have hbk2 : NoneBooked h11 := booked_of (KX.keeps F11.keep) (by k_is) rfl
    refine lists_eq (News.isList N11 (.tail _ (.tail _ (.tail _ (.head _))))) (News.isList N11 (.head _)) (by simp; omega) (units1 _) ?_ ?_
    · intro j j1 j2
      have hj8 : j < us8.length := by simpa using j1
      have hj11 : j < us11.length := by simpa using j2
      have h8j := hq8 j hj8
      have h11j := hq11 j hj11
      rw [interp_join _ (Nat.two_pow_pos _), show 2 * 2 ^ d = 2 ^ (d + 1) by rw [Nat.pow_succ, Nat.mul_comm]] at h11j
      simpa using num_eqAt hbk2 (by omega) h8j h11j
    k_steps)
end

