import PyProof.Rows.All
import Wide.All
import OpenK.AllK
import Wide.FinOn
import PyProof.TypeOfCall
import PySem.Challenge.RW_mq0046_01
set_option Elab.async false
set_option maxRecDepth 100000
set_option maxHeartbeats 8000000

/-! the head, once -/
namespace Mine
open PySem PySem.W PyProof.Rows
open_top hd for PySem.Challenge.rw_mq0046_01
end Mine

/-! Base -/
namespace Mine
open PySem PySem.W PySem.Calls PyProof.Rows

abbrev lawEnv (sc : Scope) (L fa : Addr) (cd : Value) : Env := envOf (Str.ofString "law") sc L fa cd
abbrev lawA (sc : Scope) (L fa : Addr) (cd : Value) : Around := callerA.deeper (lawEnv sc L fa cd)
abbrev theTop (mean : ExcName → Option Value) (mg mb : Str → Option Value) (h : Heap) : Prop :=
  Top hd.view_39 (looseW hd.view_39 [Str.ofString "b2a_base64", Str.ofString "b64encode"]) mean mg mb h

theorem fr_stays {h₀ h h' : Heap} {L : Addr} {m : Str → Option Value} (F : Fr h₀ L h m) (st : h.StaysIn h') : Fr h₀ L h' m := by
  obtain ⟨⟨oL, es, ep, hL, r⟩, k, ab⟩ := F
  exact ⟨⟨oL, es, ep, st _ _ hL, r⟩, fun b o e => st _ _ (k b o e), ab⟩
theorem news_stays {h₀ h h' : Heap} {L : Addr} {news : List (Addr × Obj)} (N : News h₀ L h news) (st : h.StaysIn h') : News h₀ L h' news :=
  fun p hp => ⟨st _ _ (N p hp).1, (N p hp).2⟩
theorem stays_fr {h₀ h h' : Heap} {L : Addr} {m : Str → Option Value} (st : h.StaysIn h') (F : Fr h₀ L h m) : Fr h₀ L h' m := fr_stays F st
theorem stays_news {h₀ h h' : Heap} {L : Addr} {news : List (Addr × Obj)} (st : h.StaysIn h') (N : News h₀ L h news) : News h₀ L h' news := news_stays N st
theorem list_stays {h h' : Heap} {a : Addr} {its : Array Value} (H : h.IsList a its) (st : h.StaysIn h') : h'.IsList a its := stays_list st H

theorem fr_ext {h₀ h : Heap} {L : Addr} {m m' : Str → Option Value} (F : Fr h₀ L h m) (e : ∀ z, m z = m' z) : Fr h₀ L h m' := by
  have : m = m' := funext e
  rw [← this]; exact F
theorem range4 {n : Int} {q : Nat} (h : n = 4 * q) : Builtin.Range.rangeSize 0 n 4 = (q : Int) := by
  subst h; unfold Builtin.Range.rangeSize; rw [if_pos (by decide)]; split <;> omega
theorem range6 {n : Int} {q : Nat} (h : n = 6 * q) : Builtin.Range.rangeSize 0 n 6 = (q : Int) := by
  subst h; unfold Builtin.Range.rangeSize; rw [if_pos (by decide)]; split <;> omega
theorem fitsLong {n : Int} (h0 : 0 ≤ n) (h1 : n < 1000000) : Builtin.Range.rangeFitsLong n = true := by
  unfold Builtin.Range.rangeFitsLong; simp; omega
theorem small4 {n : Int} {q : Nat} (h : n = 4 * q) (hq : q < 1000) : Builtin.Range.small 0 n 4 = true := by
  have e := range4 h
  subst h
  unfold Builtin.Range.small
  rw [e, fitsLong (by omega) (by omega), fitsLong (by omega) (by omega), fitsLong (by omega) (by omega), fitsLong (by omega) (by omega), if_pos (by decide), fitsLong (by omega) (by omega)]
  simp
theorem small6 {n : Int} {q : Nat} (h : n = 6 * q) (hq : q < 1000) : Builtin.Range.small 0 n 6 = true := by
  have e := range6 h
  subst h
  unfold Builtin.Range.small
  rw [e, fitsLong (by omega) (by omega), fitsLong (by omega) (by omega), fitsLong (by omega) (by omega), fitsLong (by omega) (by omega), if_pos (by decide), fitsLong (by omega) (by omega)]
  simp
/-- the end of a call that changes nothing of its caller's -/
def LeaveP (g : Heap) (R : Result → Shared → Prop) (v : Value) (s' : Shared) : Prop := g.StaysIn s'.heap ∧ R (.ok (.ret v)) s'
theorem leaveP {g : Heap} {L : Addr} {m : Str → Option Value} {R : Result → Shared → Prop} {v : Value} {s' : Shared} (F : Fr g L s'.heap m) (h : g.StaysIn s'.heap → R (.ok (.ret v)) s') : LeaveP g R v s' :=
  ⟨fun b o e => F.keep b o e, h fun b o e => F.keep b o e⟩

theorem code_pure {prog : Program} {w : World} {A A₀ : Around} {s : Shared} {K : Frag} {L : Addr} {h₀ base : Heap} {m mg mb : Str → Option Value} {p : Program} {loose : List Str} {mean : ExcName → Option Value}
    {env : Env} {outer : List Env} {R : Result → Shared → Prop} {name qual : Str} {params : Arguments} {body : List Stmt} {scope : Scope} {dV kV doc pm cdv ct oc : Value} {an od : Option Addr} {osl : Array (Option Value)} {f : Addr} {args : Args} {binds : List (Str × Value)}
    (B : Below A₀ base outer h₀) (F : Fr h₀ L s.heap m) (X₀ : K.In h₀) (T : Top p loose mean mg mb h₀) (hA : A.frames = some (env :: outer)) (hf : env.frame = some L) (hke : env.scope.kind = .function)
    (ho : K.lookup f = some ⟨oc, od, .func (fnOf name qual params body scope dV kV doc pm an cdv ct), osl⟩) (hcd : codeIn K cdv qual = true) (hroom : A.depth < recursionLimit)
    (hbind : BindsTo s (fnOf name qual params body scope dV kV doc pm an cdv ct) args binds) (hloc : ∀ y ∈ binds, scope.names.lookup y.1 = some .local)
    (h : ∀ L' h₁, Fr s.heap L' h₁ (fun y => binds.reverse.lookup y) → News s.heap L' h₁ [] → Below A base (env :: outer) s.heap → K.In s.heap → Top p loose mean mg mb s.heap →
      wpAny (model prog w) (A.deeper (envOf qual scope L' f cdv)) (execs body (envOf qual scope L' f cdv))
        (fun fl s' => LeaveP s.heap R (match fl with | .ret v => v | _ => .none) s')
        (fun e s' => wpAny (model prog w) (A.deeper (envOf qual scope L' f cdv)) (leaving (envOf qual scope L' f cdv) e) (fun _ s'' => R (.error e) s'') (fun e' s'' => R (.error e') s'') s')
        { s with heap := h₁, toks := s.toks + binds.length })
    (hco : scope.isCoroutine = false) (hgen : scope.isGenerator = false) (hk : scope.kind = .function)
    (hcell : ∀ x ∈ scope.names, x.2 ≠ .cell) : codeAny (model prog w) A (.call (.ref f) args) R s := by
  have st : h₀.StaysIn s.heap := fun b o e => F.keep b o e
  have X : K.In s.heap := X₀.keeps F.keep
  obtain ⟨FG, BG, _, lv⟩ := groundX (R := R) B F (News.nil (h₀ := h₀) (L := L) (h := s.heap)) hA hf hke
  refine codeAny_call_def (fd := fnOf name qual params body scope dV kV doc pm an cdv ct) (body := body) (binds := binds) hroom (X _ _ ho) rfl (T.nolimit.keeps F.keep) (codeRec_of X hcd) rfl hbind hcell hloc (fun h₁ hns hk₁ => ?_) hco hgen hk
  exact wpAny_mono (h s.heap.objs.size h₁ ⟨hns, fun b o e => hk₁ b o e, Nat.le_refl _⟩ News.nil BG X (T.keeps st)) (fun fl s' hl => hl.2) fun _ _ y => y

section
variable {prog : Program} {w : World} {A : Around} {E : Value → Shared → Prop} {s : Shared} {env : Env} {h₀ : Heap} {x : Str} {body : List Stmt} {Q : Flow → Shared → Prop}
theorem unrPost_mono {L I : Addr} {it : Obj} {s₁ : Shared} {J J' : (Str → Option Value) → List (Addr × Obj) → Prop} (hJ : ∀ m n, J m n → J' m n) {f : Flow} {s₂ : Shared} (h : UnrPost h₀ L s₁ I it J Q f s₂) : UnrPost h₀ L s₁ I it J' Q f s₂ := by
  have fin : UnrEnd h₀ L s₁ I it J s₂ → UnrEnd h₀ L s₁ I it J' s₂ := by
    rintro ⟨h', tk, m', news', e, F', N', ho, r⟩
    exact ⟨h', tk, m', news', e, F', N', ho, hJ _ _ r⟩
  cases f with
  | ret v => exact h
  | brk => exact h
  | next => exact fin h
  | cont => exact fin h
/-- a turn's end: what the loop's invariant asks -/
def TurnPost (h₀ : Heap) (L : Addr) (s₁ : Shared) (I : Addr) (it : Obj) (J : (Str → Option Value) → List (Addr × Obj) → Prop) (Q : Flow → Shared → Prop) (f : Flow) (s₂ : Shared) : Prop := UnrPost h₀ L s₁ I it J Q f s₂
theorem turn_next {L I : Addr} {it : Obj} {J : (Str → Option Value) → List (Addr × Obj) → Prop} {s₁ : Shared} {h' : Heap} {tk : Nat} {m' : Str → Option Value} {all : List (Addr × Obj)} (F : Fr h₀ L h' m') (N : News h₀ L h' all) (news' : List (Addr × Obj))
    (sub : ∀ p ∈ (I, it) :: news', p ∈ all) (off : ∀ p ∈ news', p.1 ≠ I) (r : J m' news') : TurnPost h₀ L s₁ I it J Q .next { s₁ with heap := h', toks := tk } := UnrEnd.intro F N news' sub off r
/-- a for over a range of any step, by an invariant over the turn's number, the frame and the ledger -/
theorem step_inv {r : Addr} {a₀ b₀ c : Int} {t₀ u₀ v₀ : Tok} {n : Nat} {m₀ : Str → Option Value} {news : List (Addr × Obj)} (J : Nat → (Str → Option Value) → List (Addr × Obj) → Prop)
    (hh : A.handled = none) (hr : IsRange s.heap r a₀ b₀ c t₀ u₀ v₀) (hsmall : Builtin.Range.small a₀ b₀ c = true) (hn : Builtin.Range.rangeSize a₀ b₀ c = (n : Int)) (F : Fr h₀ env.locals s.heap m₀) (N : News h₀ env.locals s.heap news) (hj : J 0 m₀ news)
    (turn : ∀ I i m₁ news₁ t h tk, i < n → (∀ p ∈ news, p.1 < I) → J i m₁ news₁ → Fr h₀ env.locals h (fun y => if y = x then some (.int (a₀ + (i : Int) * c) t) else m₁ y) →
      News h₀ env.locals h ((I, krsIt (a₀ + ((i + 1 : Nat) : Int) * c) ((n : Int) - ((i + 1 : Nat) : Int)) c) :: news₁) →
      wpAny (model prog w) A (execs body env) (TurnPost h₀ env.locals { s with heap := h, toks := tk } I (krsIt (a₀ + ((i + 1 : Nat) : Int) * c) ((n : Int) - ((i + 1 : Nat) : Int)) c) (J (i + 1)) Q) E { s with heap := h, toks := tk })
    (done : ∀ m₁ news₁ h tk, J n m₁ news₁ → Fr h₀ env.locals h m₁ → News h₀ env.locals h news₁ → Q .next { s with heap := h, toks := tk }) :
    wpAny (model prog w) A (pyIter (.ref r)) (fun it s₂ => LoopAtV prog w A h₀ env x body Q E it s₂) E s := by
  refine krs_iter hh hr hsmall hn F N fun I hI => ?_
  have go : ∀ k i m₁ news₁, i + k = n → J i m₁ news₁ → KrsRest prog w A E h₀ env x body Q s I a₀ c n k i m₁ news₁ := by
    intro k
    induction k with
    | zero =>
      intro i m₁ news₁ e hJ
      have e' : i = n := by omega
      subst e'
      exact KrsRest.zero fun h tk F' N' => done m₁ news₁ h tk hJ F' N'
    | succ k ih =>
      intro i m₁ news₁ e hJ
      refine KrsRest.succ rfl fun t h tk F' N' => ?_
      exact wpAny_mono (turn I i m₁ news₁ t h tk (by omega) hI hJ F' N') (fun f s₂ p => unrPost_mono (fun m' n' r => ih (i + 1) m' n' (by omega) r) p) fun _ _ e => e
  exact go n 0 m₀ news (by omega) hj
end

section
variable {prog : Program} {w : World} {A : Around} {E : Value → Shared → Prop} {s : Shared} {env : Env} {h₀ : Heap} {x : Str} {body : List Stmt} {Q : Flow → Shared → Prop}
/-- a for over a bytes, by an invariant over the turn's number, the frame and the ledger -/
theorem bytes_inv {b : Array UInt8} {tb : Tok} {m₀ : Str → Option Value} {news : List (Addr × Obj)} (J : Nat → (Str → Option Value) → List (Addr × Obj) → Prop)
    (hh : A.handled = none) (F : Fr h₀ env.locals s.heap m₀) (N : News h₀ env.locals s.heap news) (hj : J 0 m₀ news)
    (turn : ∀ I oI i c m₁ news₁ t h tk, b[i]? = some c → (∀ p ∈ news, p.1 < I) → J i m₁ news₁ → (∀ p ∈ news₁, p.1 ≠ I) → Fr h₀ env.locals h (fun y => if y = x then some (.int (c.toNat : Int) t) else m₁ y) →
      News h₀ env.locals h ((I, oI) :: news₁) →
      wpAny (model prog w) A (execs body env) (TurnPost h₀ env.locals { s with heap := h, toks := tk } I oI (J (i + 1)) Q) E { s with heap := h, toks := tk })
    (done : ∀ m₁ news₁ h tk, J b.size m₁ news₁ → Fr h₀ env.locals h m₁ → News h₀ env.locals h news₁ → Q .next { s with heap := h, toks := tk }) :
    wpAny (model prog w) A (pyIter (.bytes b tb)) (fun it s₂ => LoopAtV prog w A h₀ env x body Q E it s₂) E s := by
  refine KBw.pyIter_bytes ?_
  have hnew := next_is_new F
  have below : ∀ p ∈ news, p.1 < s.heap.objs.size := fun p hp => Heap.lt_size (N p hp).1
  refine ⟨_, _, _, b.size, _, _, m₀, news, J, rfl, KBw.walks (prog := prog) (w := w) hh s.heap.objs.size b tb, ?_, ?_, ?_, ⟨_, Heap.get?_push_size _ rfl, rfl, rfl⟩, F.push _, (fun p hp => ⟨Heap.get?_push_of_some _ (N p hp).1, (N p hp).2⟩), hj, ?_, ?_⟩
  · intro hm
    exact absurd F.ns.lt ((List.mem_singleton.mp hm) ▸ Nat.lt_irrefl _)
  · intro b' hb
    rw [List.mem_singleton.mp hb]
    exact hnew
  · intro p hp hI
    exact absurd (below p hp) ((List.mem_singleton.mp hI) ▸ Nat.lt_irrefl _)
  · rintro i v m₁ news₁ s₁ own ⟨hh', tk', rfl⟩ hin ⟨c, u, hc, rfl⟩ hJ hoff hown hget hall hst F₁ N₁
    obtain ⟨oI, hoI, _⟩ := id hst
    have hmem := hall s.heap.objs.size (List.mem_singleton.mpr rfl) hnew _ hoI
    have off₁ : ∀ p ∈ news₁, p.1 ≠ s.heap.objs.size := fun p hp e => hoff p hp (List.mem_singleton.mpr e)
    have N₂ : News h₀ env.locals hh' ((s.heap.objs.size, oI) :: news₁) := fun p hp => by
      rcases List.mem_cons.mp hp with rfl | hp
      · exact N₁ _ (List.mem_append_left _ hmem)
      · exact N₁ _ (List.mem_append_right _ hp)
    refine wpAny_mono (turn s.heap.objs.size oI i c m₁ news₁ u hh' tk' hc below hJ off₁ F₁ N₂) (fun f s₂ p => ?_) fun _ _ e => e
    have fin : UnrEnd h₀ env.locals { s with heap := hh', toks := tk' } s.heap.objs.size oI (J (i + 1)) s₂ →
        LoopStepU h₀ env.locals [s.heap.objs.size] own (J (i + 1)) { s with heap := hh', toks := tk' } .next s₂ := by
      rintro ⟨h', tk, m', news', e, F', N', ho, r⟩
      refine ⟨rfl, h', tk, m', news', e, F', fun p hp => ?_, fun p hp hI => ho p hp (List.mem_singleton.mp hI), r⟩
      rcases List.mem_append.mp hp with hp | hp
      · have h1 : p.1 = s.heap.objs.size := List.mem_singleton.mp (hown p hp)
        have h2 : hh'.get? p.1 = some p.2 := hget p hp
        have h3 : p = (s.heap.objs.size, oI) := by
          rw [h1, hoI] at h2
          exact Prod.ext h1 (Option.some.inj h2).symm
        rw [h3]; exact N' _ (List.mem_cons_self ..)
      · exact N' _ (List.mem_cons_of_mem _ hp)
    cases f with
    | ret v => exact .ret p
    | brk => exact .brk p
    | next => exact .next (fin p)
    | cont => exact .cont (fin p)
  · rintro h' tk m' news' F' N' _ hJ
    exact done m' news' h' tk hJ F' N'
end

section
variable {prog : Program} {w : World} {A : Around} {E : Value → Shared → Prop} {s : Shared} {h₀ : Heap} {L D b : Addr} {m : Str → Option Value} {news news' : List (Addr × Obj)} {n n2 : Nat}
theorem seq_list_iadd : seqSlot? (.type "list") (dunderI "add") = pure (some (.builtin "list.__iadd__")) := by
  unfold seqSlot?
  rw [PySem.F.slot_list_iadd.lookup]
  have e : isSeqSlotId "list.__iadd__" = true := by decide +kernel
  simp [isSeqSlot, e]
theorem noFillI_list_add : fillsInplaceSlot (.type "list") "add" (Operator.Add == .Add) = pure false := by
  unfold fillsInplaceSlot
  show (typeLookup (.type "list") (dunderI "add") >>= fun fi => pure (fi.isSome && !isSeqSlot fi)) = pure false
  rw [PySem.F.slot_list_iadd.lookup]
  have e : isSeqSlotId "list.__iadd__" = true := by decide +kernel
  simp [isSeqSlot, e]
theorem iadd_call {a b : Value} {Q : Value → Shared → Prop} (ha : s.TypeIs a "list") (hb : s.TypeIs b "list")
    (hc : wpAny (model prog w) A (call (.builtin "list.__iadd__") [a, b]) Q E s) : wpAny (model prog w) A (inplaceOp .Add a b) Q E s := by
  unfold inplaceOp
  refine wpAny_holding ?_
  refine wpAny_bind (wpAny_typeOf ha (wpAny_bind (wpAny_of_eq noFillI_list_add ?_)))
  show wpAny _ A (if false = true then _ else _) Q E s
  rw [if_neg Bool.false_ne_true]
  refine wpAny_bind (wpAny_binaryOp1_none (nm := "add") ha hb noFill_list_add ?_)
  refine wpAny_bind (wpAny_of_eq seq_list_iadd ?_)
  exact wpAny_bind (wpAny_rule hc)
theorem iadd_list {us ws : List Value} {Q : Value → Shared → Prop} (F : Fr h₀ L s.heap m) (N : News h₀ L s.heap news) (hb : (b, listOf ws.toArray n2) ∈ news) (hne : ws.length ≠ 0)
    (U : Upd D (listOf us.toArray n) (listOf (us ++ ws).toArray (n + 1)) news news') (hz : us.length + ws.length ≤ 1000)
    (h : ∀ h', Fr h₀ L h' m → News h₀ L h' news' → Q (.ref D) { s with heap := h' }) : wpAny (model prog w) A (inplaceOp .Add (.ref D) (.ref b)) Q E s := by
  obtain ⟨pre, post, rfl, rfl, a, c⟩ := U.split
  have z := N (D, listOf us.toArray n) (List.mem_append.mpr (.inr (.head _)))
  have hsl : sizeLine = 16777216 := sizeLine_eq
  refine iadd_call ⟨_, z.1, rfl⟩ ⟨_, (N _ hb).1, rfl⟩ ?_
  have hlong : Builtin.List.listTooLong (us.toArray.size + ws.toArray.size) = false := by
    unfold Builtin.List.listTooLong
    simp
    omega
  refine call_meets PySem.F.slot_list_iadd ⟨_, z.1, rfl⟩ PySem.F.entry_list_iadd (PySem.F.args_list_iadd_2 _ _) (PySem.AutoSeq1.list___iadd___list_list_0 D us.toArray n b ws.toArray n2 (by rw [hlong]; simp) (by rw [List.size_toArray, hsl]; omega) (by rw [List.size_toArray, List.size_toArray, hsl]; omega)) ⟨z.1, (N _ hb).1, h _ (F.change (Heap.SameBut.update ..) z.2.1 z.2.2) (kl_turn _ N a c ?_ ?_)⟩
  · simp
  · simp only [List.size_toArray, List.length_append]; omega
theorem append_ints {us : List Value} {zs : List Int} {x : Int} {tx : Tok} {g : Obj → List (Addr × Obj)} {Q : Value → Shared → Prop} (F : Fr h₀ L s.heap m) (N : News h₀ L s.heap news) (U : UpdF D (listOf us.toArray n) news g) (hu : IntsAre us zs) (hz : zs.length ≤ 1000)
    (h : ∀ h' vs', IntsAre vs' (zs ++ [x]) → Fr h₀ L h' m → News h₀ L h' (g (listOf (List.toArray vs') (n + 1))) → Q .none { s with heap := h' }) : wpAny (model prog w) A (call (.builtin "list.append") [.ref D, .int x tx]) Q E s := by
  obtain ⟨pre, post, rfl, hg, a, c⟩ := U.split
  have l1 := hu.length
  have z := N (D, listOf us.toArray n) (List.mem_append.mpr (.inr (.head _)))
  have hsl : sizeLine = 16777216 := sizeLine_eq
  refine append_at (hsz := by show us.toArray.size ≤ sizeLine; rw [List.size_toArray, hsl]; omega) z.1 fun h₅ hs₅ hD₅ => ?_
  refine h h₅ (us ++ [.int x tx]) (hu.append (.cons _ _ .nil)) (F.change hs₅ z.2.1 z.2.2) ?_
  rw [hg]
  refine news_set N a c hs₅ ?_
  rw [hD₅]
  simp
theorem iadd_ints {us ws : List Value} {zs ms : List Int} {g : Obj → List (Addr × Obj)} {Q : Value → Shared → Prop} (F : Fr h₀ L s.heap m) (N : News h₀ L s.heap news) (hb : (b, listOf ws.toArray n2) ∈ news) (hu : IntsAre us zs) (hw : IntsAre ws ms) (hne : ms.length ≠ 0)
    (U : UpdF D (listOf us.toArray n) news g) (hz : zs.length + ms.length ≤ 1000)
    (h : ∀ h' vs', IntsAre vs' (zs ++ ms) → Fr h₀ L h' m → News h₀ L h' (g (listOf (List.toArray vs') (n + 1))) → Q (.ref D) { s with heap := h' }) : wpAny (model prog w) A (inplaceOp .Add (.ref D) (.ref b)) Q E s := by
  obtain ⟨pre, post, rfl, hg, a, c⟩ := U.split
  have l1 := hu.length
  have l2 := hw.length
  have z := N (D, listOf us.toArray n) (List.mem_append.mpr (.inr (.head _)))
  have hsl : sizeLine = 16777216 := sizeLine_eq
  refine iadd_call ⟨_, z.1, rfl⟩ ⟨_, (N _ hb).1, rfl⟩ ?_
  have hlong : Builtin.List.listTooLong (us.toArray.size + ws.toArray.size) = false := by
    unfold Builtin.List.listTooLong
    simp
    omega
  refine call_meets PySem.F.slot_list_iadd ⟨_, z.1, rfl⟩ PySem.F.entry_list_iadd (PySem.F.args_list_iadd_2 _ _) (PySem.AutoSeq1.list___iadd___list_list_0 D us.toArray n b ws.toArray n2 (by rw [hlong]; simp) (by rw [List.size_toArray, hsl]; omega) (by rw [List.size_toArray, List.size_toArray, hsl]; omega)) ⟨z.1, (N _ hb).1, h _ (us ++ ws) (hu.append hw) (F.change (Heap.SameBut.update ..) z.2.1 z.2.2) ?_⟩
  rw [hg]
  refine kl_turn _ N a c ?_ ?_
  · simp
  · simp only [List.size_toArray, List.length_append]; omega
end

theorem code_pureC {prog : Program} {w : World} {A A₀ : Around} {s : Shared} {K : Frag} {L : Addr} {h₀ base : Heap} {m mg mb : Str → Option Value} {p : Program} {loose : List Str} {mean : ExcName → Option Value}
    {env : Env} {outer : List Env} {R : Result → Shared → Prop} {name qual : Str} {params : Arguments} {body : List Stmt} {scope : Scope} {dV kV doc pm cdv ct oc : Value} {an od : Option Addr} {osl : Array (Option Value)} {f : Addr} {args : Args} {binds : List (Str × Value)}
    (B : Below A₀ base outer h₀) (F : Fr h₀ L s.heap m) (X₀ : K.In h₀) (T : Top p loose mean mg mb h₀) (hA : A.frames = some (env :: outer)) (hf : env.frame = some L) (hke : env.scope.kind = .function)
    (ho : K.lookup f = some ⟨oc, od, .func (fnOf name qual params body scope dV kV doc pm an cdv ct), osl⟩) (hcd : codeIn K cdv qual = true) (hroom : A.depth < recursionLimit)
    (hbind : BindsTo s (fnOf name qual params body scope dV kV doc pm an cdv ct) args binds) (hkind : (binds.all fun y => scope.names.lookup y.1 == some .local || scope.names.lookup y.1 == some .cell) = true)
    (hnd : ((cellsFrom 0 scope.names []).map (·.1)).Nodup)
    (h : ∀ L' h₁ tk cells, Fr s.heap L' h₁ (bindL (envOfC qual scope L' f cdv).kindOf binds fun _ => none) → News s.heap L' h₁ cells →
      CellsAre (bindC (envOfC qual scope L' f cdv).kindOf binds fun _ => none) (cellsFrom (L' + 1) scope.names []) cells → Below A base (env :: outer) s.heap → K.In s.heap → Top p loose mean mg mb s.heap →
      wpAny (model prog w) (A.deeper (envOfC qual scope L' f cdv)) (execs body (envOfC qual scope L' f cdv))
        (fun fl s' => LeaveP s.heap R (match fl with | .ret v => v | _ => .none) s')
        (fun e s' => wpAny (model prog w) (A.deeper (envOfC qual scope L' f cdv)) (leaving (envOfC qual scope L' f cdv) e) (fun _ s'' => R (.error e) s'') (fun e' s'' => R (.error e') s'') s')
        { s with heap := h₁, toks := tk })
    (hco : scope.isCoroutine = false) (hgen : scope.isGenerator = false) (hk : scope.kind = .function) : codeAny (model prog w) A (.call (.ref f) args) R s := by
  have st : h₀.StaysIn s.heap := fun b o e => F.keep b o e
  have X : K.In s.heap := X₀.keeps F.keep
  obtain ⟨FG, BG, _, lv⟩ := groundX (R := R) B F (News.nil (h₀ := h₀) (L := L) (h := s.heap)) hA hf hke
  refine codeAny_call_function hroom (X _ _ ho) rfl hco hgen rfl (codeRec_of X hcd) (hbind _ _ _ _ ?_)
  refine wpAny_newFunctionEnv_cells hk (kindsX hkind _) fun env' he s' x => ?_
  subst he
  refine ⟨(T.nolimit.keeps F.keep).keeps x.toInCall.keep, codeAny_func ?_⟩
  obtain ⟨h₁, tk, rfl, _⟩ := x.done
  have hk₁ := x.toInCall.keep
  obtain ⟨cells, NC, Y⟩ := Cl.news (h₀ := s.heap) (Nat.le_refl _) fun n c hm => ⟨x.cell n c (lookup_of_mem_nodup (cellsFrom_names scope.names 0 (s.heap.objs.size + 1) [] [] rfl ▸ hnd) hm), x.above n c hm⟩
  exact wpAny_mono (h s.heap.objs.size h₁ tk cells ⟨x.toInCall.ns, fun b o e => hk₁ b o e, Nat.le_refl _⟩ NC Y BG X (T.keeps st)) (fun fl s' hl => hl.2) fun _ _ y => y
end Mine

/-! Comp -/
namespace Mine
open PySem PySem.W PySem.Calls PyProof.Rows

/-- the names' block of a comprehension -/
theorem newCompEnv {M : Model} {A : Around} {E : Value → Shared → Prop} {s : Shared} {scope : Scope} {env : Env} {cl : List (Str × Addr)} {Q : Env → Shared → Prop}
    (hQ : Q { scope, locals := s.heap.objs.size, globals := env.globals, cells := cellsFrom (s.heap.objs.size + 1) scope.names cl, qual := env.qual, func := none, code := env.code, frame := env.frame, builtins := env.builtins }
      { s with heap := pushCells (s.heap.push { cls := .type "dict", data := .dict #[] }) scope.names }) :
    wpAny M A (newFunctionEnv scope env.globals cl [] env.qual none .none (some env)) Q E s := by
  simp only [newFunctionEnv, Option.isSome_some, if_true]
  refine wpAny_bind (wpAny_alloc ?_)
  refine wpAny_bind (wpAny_layCells _ (fun name kind cells => by cases hkc : kind == NameKind.cell <;> simp) _ _ _ _ ?_)
  rw [show ({ s with heap := s.heap.push { cls := .type "dict", data := .dict #[] } } : Shared).heap.objs.size = s.heap.objs.size + 1 from Heap.size_push ..]
  exact wpAny_pure hQ

def Off2 (I a : Addr) (l : List (Addr × Obj)) : Prop := ∀ p ∈ l, p.1 ≠ I ∧ p.1 ≠ a

/-- what a turn of a comprehension's loop leaves -/
def BodyEnd (h₀ : Heap) (L : Addr) (m : Str → Option Value) (I : Addr) (oI : Obj) (a : Addr) (Base : Obj → Prop) (J : List (Addr × Obj) → Prop) (s₁ s₂ : Shared) : Prop :=
  ∃ h' tk oa' rest', s₂ = { s₁ with heap := h', toks := tk } ∧ Fr h₀ L h' m ∧ News h₀ L h' ((I, oI) :: (a, oa') :: rest') ∧ Base oa' ∧ J rest' ∧ Off2 I a rest'

section
variable {prog : Program} {w : World} {A : Around} {R : Result → Shared → Prop} {s : Shared} {h₀ : Heap} {L : Addr} {m : Str → Option Value}

theorem compLoop_walk {β : Type} {elt : Expr} {gens : List Comprehension} {scope : Scope} {pos : Pos} {d : Nat} {cenv : Env} {I a : Addr} {acc : Value} {target : Expr} {p : Pos} {body : Sem β} {n : Nat} {P : Nat → Value → Prop} {St : Nat → Heap → Prop}
    (hturn : compTurn (.ListComp elt gens scope pos) d (.ref I) acc cenv = (standAt p >>= fun _ => pyNext (.ref I) >>= fun r => match r with
      | none => pure (.done .next)
      | some v => letOwnedTupleGo target (.ref I) v >>= fun _ => assign target cenv v >>= fun _ => body >>= fun _ => again (.compLoop (.ListComp elt gens scope pos) d (.ref I) acc cenv)))
    (ht : ∀ v, letOwnedTupleGo target (.ref I) v = pure ())
    (W : Walks prog w A I [I] [I] n P St) (hIo : ∀ i h, St i h → ∃ o, h.get? I = some o) (hSt : ∀ i h h' o, St i h → h.get? I = some o → h'.get? I = some o → St i h')
    (Base : Obj → Prop) (Car : Value → Obj → Prop)
    (hassign : ∀ v h tk oa (E' : Value → Shared → Prop) (Q : Unit → Shared → Prop), h.get? a = some oa → Base oa →
      (∀ h' tk' oa', Heap.SameBut a h h' → h'.get? a = some oa' → Car v oa' → Q () { s with heap := h', toks := tk' }) → wpAny (model prog w) A (assign target cenv v) Q E' { s with heap := h, toks := tk })
    (J : Nat → List (Addr × Obj) → Prop) {oI₀ oa₀ : Obj} {rest₀ : List (Addr × Obj)}
    (F : Fr h₀ L s.heap m) (N : News h₀ L s.heap ((I, oI₀) :: (a, oa₀) :: rest₀)) (hst : St 0 s.heap) (hb : Base oa₀) (hj : J 0 rest₀) (hoff : Off2 I a rest₀) (hIa : I ≠ a)
    (turn : ∀ i v oI oa rest h tk (E' : Value → Shared → Prop), i < n → P i v → Car v oa → J i rest → Fr h₀ L h m → News h₀ L h ((I, oI) :: (a, oa) :: rest) → Off2 I a rest →
      wpAny (model prog w) A body (fun _ s₂ => BodyEnd h₀ L m I oI a Base (J (i + 1)) { s with heap := h, toks := tk } s₂) E' { s with heap := h, toks := tk })
    (done : ∀ rest oa h tk, J n rest → Fr h₀ L h m → News h₀ L h ((a, oa) :: rest) → Base oa → (∀ p ∈ rest, p.1 ≠ a) → R (.ok .next) { s with heap := h, toks := tk }) :
    codeAny (model prog w) A (.compLoop (.ListComp elt gens scope pos) d (.ref I) acc cenv) R s := by
  have zI := N (I, oI₀) (.head _)
  have za := N (a, oa₀) (.tail _ (.head _))
  refine codeAny_loop rfl (fun k s' => ∃ h tk i oI oa rest, s' = { s with heap := h, toks := tk } ∧ i ≤ n ∧ k = n + 1 - i ∧ Fr h₀ L h m ∧ News h₀ L h ((I, oI) :: (a, oa) :: rest) ∧ St i h ∧ Base oa ∧ J i rest ∧ Off2 I a rest) ?_ (n + 1)
    ⟨s.heap, s.toks, 0, oI₀, oa₀, rest₀, rfl, Nat.zero_le _, rfl, F, N, hst, hb, hj, hoff⟩
  rintro k s' ⟨h, tk, i, oI, oa, rest, rfl, hi, rfl, F', N', hst', hb', hj', hoff'⟩
  show wpAny _ A ((compTurn (.ListComp elt gens scope pos) d (.ref I) acc cenv).onRaise (fun x => do noteFrame x cenv; theTreesLotGoes x)) _ _ _
  refine wpAny_noted ?_
  rw [hturn]
  refine wpAny_bind (wpAny_standAt (wpAny_bind ?_))
  have hLI : L ≠ I := Ne.symm zI.2.1
  have up : ∀ {h₁ : Heap}, (∀ b o, b ∉ [I] → h.get? b = some o → h₁.get? b = some o) → Fr h₀ L h₁ m := fun hk => LCg.fr_but F' hk hLI zI.2.2
  have upN : ∀ {h₁ : Heap}, (∀ b o, b ∉ [I] → h.get? b = some o → h₁.get? b = some o) → News h₀ L h₁ ((a, oa) :: rest) := fun hk =>
    LCg.news_but (fun p hp => N' p (.tail _ hp)) hk fun p hp => by
      rcases List.mem_cons.mp hp with rfl | hp
      · exact Ne.symm hIa
      · exact (hoff' p hp).1
  by_cases hlt : i < n
  · refine W.item i _ _ _ hlt hst' fun v h₁ tk₁ hPv hst₁ hk₁ => ?_
    refine wpAny_bind (wpAny_of_eq (ht v) (wpAny_bind ?_))
    have N₁ := upN hk₁
    refine hassign v h₁ tk₁ oa _ _ (N₁ _ (.head _)).1 hb' fun h₂ tk₂ oa₂ hs₂ ha₂ hc₂ => ?_
    obtain ⟨oI₁, heI⟩ := hIo _ _ hst₁
    have heI₂ : h₂.get? I = some oI₁ := (hs₂.2 I hIa).trans heI
    have F₂ : Fr h₀ L h₂ m := (up hk₁).change hs₂ za.2.1 za.2.2
    have N₂ : News h₀ L h₂ ((I, oI₁) :: (a, oa₂) :: rest) := fun p hp => by
      rcases List.mem_cons.mp hp with rfl | hp
      · exact ⟨heI₂, zI.2⟩
      · rcases List.mem_cons.mp hp with rfl | hp
        · exact ⟨ha₂, za.2⟩
        · exact ⟨(hs₂.2 _ (hoff' p hp).2).trans (N₁ p (.tail _ hp)).1, (N₁ p (.tail _ hp)).2⟩
    refine wpAny_bind (wpAny_mono (turn i v oI₁ oa₂ rest h₂ tk₂ _ hlt hPv hc₂ hj' F₂ N₂ hoff') (fun _ s₃ h₃ => ?_) fun _ _ e => e)
    obtain ⟨h₃, tk₃, oa₃, rest₃, rfl, F₃, N₃, hb₃, hj₃, hoff₃⟩ := h₃
    refine wpAny_pure ⟨rfl, n + 1 - (i + 1), by omega, h₃, tk₃, i + 1, oI₁, oa₃, rest₃, rfl, hlt, rfl, F₃, N₃, ?_, hb₃, hj₃, hoff₃⟩
    exact hSt _ _ _ _ hst₁ heI (N₃ _ (.head _)).1
  · obtain rfl : i = n := Nat.le_antisymm hi (Nat.not_lt.mp hlt)
    refine W.done _ _ _ hst' fun h₁ tk₁ hk₁ => ?_
    exact wpAny_pure (done rest oa h₁ tk₁ hj' (up hk₁) (upN hk₁) hb' fun p hp => (hoff' p hp).2)
end

/-- an expression's end: a value, the ledger kept -/
def ElEnd (h₀ : Heap) (L : Addr) (m : Str → Option Value) (all : List (Addr × Obj)) (Pv : Value → Heap → Prop) (s₁ : Shared) (y : Value) (s₂ : Shared) : Prop :=
  ∃ h' tk all', s₂ = { s₁ with heap := h', toks := tk } ∧ Fr h₀ L h' m ∧ News h₀ L h' all' ∧ (∀ p ∈ all, p ∈ all') ∧ Pv y h'
theorem ElEnd.intro {h₀ : Heap} {L : Addr} {m : Str → Option Value} {all all' : List (Addr × Obj)} {Pv : Value → Heap → Prop} {s₁ : Shared} {y : Value} {h' : Heap} {tk : Nat} (F : Fr h₀ L h' m) (N : News h₀ L h' all') (sub : ∀ p ∈ all, p ∈ all') (hv : Pv y h') :
    ElEnd h₀ L m all Pv s₁ y { s₁ with heap := h', toks := tk } := ⟨h', tk, all', rfl, F, N, sub, hv⟩

section
variable {prog : Program} {w : World} {A : Around} {E : Value → Shared → Prop} {s : Shared} {h₀ : Heap} {L : Addr} {m : Str → Option Value}
theorem emit_end {elt : Expr} {cenv : Env} {I a D : Addr} {oI oa : Obj} {ys : List Value} {news : List (Addr × Obj)} {Base : Obj → Prop} {J : List (Addr × Obj) → Prop} {Pv : Value → Heap → Prop}
    (N : News h₀ L s.heap ((I, oI) :: (a, oa) :: (D, LCg.lst ys) :: news)) (hb : Base oa) (hoff : Off2 I a ((D, LCg.lst ys) :: news)) (hD : ∀ p ∈ news, p.1 ≠ D) (hsz : ys.length ≤ 1000)
    (hel : wpAny (model prog w) A (eval elt cenv) (ElEnd h₀ L m ((I, oI) :: (a, oa) :: (D, LCg.lst ys) :: news) Pv s) E s) (hJ : ∀ y h, Pv y h → J ((D, LCg.lst (ys ++ [y])) :: news)) :
    wpAny (model prog w) A (eval elt cenv >>= fun x => call (.builtin "list.append") [.ref D, x] >>= fun _ => pure ()) (fun _ s₂ => BodyEnd h₀ L m I oI a Base J s s₂) E s := by
  have zD₀ := N (D, LCg.lst ys) (.tail _ (.tail _ (.head _)))
  refine wpAny_bind (wpAny_mono hel (fun y s₂ h₂ => ?_) fun _ _ e => e)
  obtain ⟨h', tk, all', rfl, F', N', sub, hv⟩ := h₂
  have zD := N' (D, LCg.lst ys) (sub _ (.tail _ (.tail _ (.head _))))
  have hsl : sizeLine = 16777216 := sizeLine_eq
  refine wpAny_bind (append_at (hsz := by show ys.toArray.size ≤ sizeLine; rw [List.size_toArray, hsl]; omega) zD.1 fun h₅ hs₅ hD₅ => wpAny_pure ?_)
  refine ⟨h₅, tk, oa, (D, LCg.lst (ys ++ [y])) :: news, rfl, F'.change hs₅ zD₀.2.1 zD₀.2.2, fun p hp => ?_, hb, hJ y h' hv, fun p hp => ?_⟩
  · have far : ∀ q ∈ ((I, oI) :: (a, oa) :: (D, LCg.lst ys) :: news : List (Addr × Obj)), q.1 ≠ D → h₅.get? q.1 = some q.2 ∧ q.1 ≠ L ∧ h₀.get? q.1 = none := fun q hq hne =>
      ⟨(hs₅.2 _ hne).trans (N' q (sub q hq)).1, (N' q (sub q hq)).2⟩
    rcases List.mem_cons.mp hp with rfl | hp
    · exact far _ (.head _) (Ne.symm (hoff (D, LCg.lst ys) (.head _)).1)
    · rcases List.mem_cons.mp hp with rfl | hp
      · exact far _ (.tail _ (.head _)) (Ne.symm (hoff (D, LCg.lst ys) (.head _)).2)
      · rcases List.mem_cons.mp hp with rfl | hp
        · exact ⟨hD₅.trans (congrArg some (LCg.lst_snoc ys y)), zD₀.2⟩
        · exact far _ (.tail _ (.tail _ (.tail _ hp))) (hD p hp)
  · rcases List.mem_cons.mp hp with rfl | hp
    · exact hoff (D, LCg.lst ys) (.head _)
    · exact hoff p (.tail _ hp)

theorem compTurn_two0' (elt t1 it1 t2 it2 : Expr) (scope : Scope) (pos : Pos) (it acc : Value) (env : Env) :
    compTurn (.ListComp elt [⟨t1, it1, [], 0⟩, ⟨t2, it2, [], 0⟩] scope pos) 0 it acc env = (standAt it1.pos >>= fun _ => pyNext it >>= fun r => match r with
      | none => pure (.done .next)
      | some v => letOwnedTupleGo t1 it v >>= fun _ => assign t1 env v >>= fun _ =>
        eval it2 env >>= fun x => standAt it2.pos >>= fun _ => foldedSetIterable it2 env x >>= fun x => holding [x] (pyIter x) >>= fun i2 =>
          runOwn (.compStart (.ListComp elt [⟨t1, it1, [], 0⟩, ⟨t2, it2, [], 0⟩] scope pos) 1 i2 acc env) env >>= fun _ =>
          again (.compLoop (.ListComp elt [⟨t1, it1, [], 0⟩, ⟨t2, it2, [], 0⟩] scope pos) 0 it acc env)) := by
  rfl
theorem compTurn_two0 (elt t1 it1 t2 it2 : Expr) (scope : Scope) (pos : Pos) (it acc : Value) (env : Env) :
    compTurn (.ListComp elt [⟨t1, it1, [], 0⟩, ⟨t2, it2, [], 0⟩] scope pos) 0 it acc env = (standAt it1.pos >>= fun _ => pyNext it >>= fun r => match r with
      | none => pure (.done .next)
      | some v => letOwnedTupleGo t1 it v >>= fun _ => assign t1 env v >>= fun _ =>
        (eval it2 env >>= fun x => standAt it2.pos >>= fun _ => foldedSetIterable it2 env x >>= fun x => holding [x] (pyIter x) >>= fun i2 =>
          runOwn (.compStart (.ListComp elt [⟨t1, it1, [], 0⟩, ⟨t2, it2, [], 0⟩] scope pos) 1 i2 acc env) env >>= fun _ => pure ()) >>= fun _ =>
          again (.compLoop (.ListComp elt [⟨t1, it1, [], 0⟩, ⟨t2, it2, [], 0⟩] scope pos) 0 it acc env)) := by
  rw [compTurn_two0']
  simp only [bind_assoc, pure_bind]
theorem compTurn_two1 (elt t1 it1 t2 it2 : Expr) (scope : Scope) (pos : Pos) (it acc : Value) (env : Env) :
    compTurn (.ListComp elt [⟨t1, it1, [], 0⟩, ⟨t2, it2, [], 0⟩] scope pos) 1 it acc env = (standAt it2.pos >>= fun _ => pyNext it >>= fun r => match r with
      | none => pure (.done .next)
      | some v => letOwnedTupleGo t2 it v >>= fun _ => assign t2 env v >>= fun _ =>
        (eval elt env >>= fun x => call (.builtin "list.append") [acc, x] >>= fun _ => pure ()) >>= fun _ =>
          again (.compLoop (.ListComp elt [⟨t1, it1, [], 0⟩, ⟨t2, it2, [], 0⟩] scope pos) 1 it acc env)) := by rfl

theorem compStart_two1 {elt t1 it1 t2 it2 : Expr} {scope : Scope} {pos : Pos} {it acc : Value} {env : Env} {R : Result → Shared → Prop}
    (h0 : codeAny (model prog w) A (.compLoop (.ListComp elt [⟨t1, it1, [], 0⟩, ⟨t2, it2, [], 0⟩] scope pos) 1 it acc env) R s)
    (h : wpAny (model prog w) A (pyIter it) (fun it' s' => codeAny (model prog w) A (.compLoop (.ListComp elt [⟨t1, it1, [], 0⟩, ⟨t2, it2, [], 0⟩] scope pos) 1 it' acc env) R s')
      (notedBy (model prog w) A env fun x s' => R (.error x) s') s) :
    codeAny (model prog w) A (.compStart (.ListComp elt [⟨t1, it1, [], 0⟩, ⟨t2, it2, [], 0⟩] scope pos) 1 it acc env) R s := by
  refine codeAny_of_tree ?_
  show wpAny _ _ ((compStart (.ListComp elt [⟨t1, it1, [], 0⟩, ⟨t2, it2, [], 0⟩] scope pos) 1 it acc env).onRaise (fun x => do noteFrame x env; standAt theWindowsPlace)) _ _ s
  refine wpAny_notedAt ?_
  unfold compStart
  show wpAny _ _ (ask >>= _) _ _ s
  refine wpAny_bind (wpAny_askSetting (wpAny_ite ?_))
  split
  · first
      | exact wpAny_bind (wpAny_pure (wpAny_pure (And.intro rfl h0)))
      | exact wpAny_pure (And.intro rfl h0)
  · first
      | exact wpAny_bind (wpAny_rule (wpAny_bind (wpAny_standAt (wpAny_bind (wpAny_mono h (fun it' s' h' => wpAny_pure (And.intro rfl h')) fun _ _ x => x)))))
      | (refine wpAny_bind (wpAny_rule ?_); show wpAny _ _ (standAt it2.pos >>= _) _ _ s; exact wpAny_bind (wpAny_standAt (wpAny_bind (wpAny_mono h (fun it' s' h' => wpAny_pure (And.intro rfl h')) fun _ _ x => x))))

theorem nsObj_empty : LCg.NsObj { cls := .type "dict", data := .dict #[] } (fun _ => none) := ⟨#[], _, rfl, (fun e he => by simp at he), fun _ => rfl⟩

/-- storing a comprehension's own name -/
theorem assign_own {scope : Scope} {cl : List (Str × Addr)} {C : Addr} {env : Env} {x : Str} {px : Pos} {v : Value} {h : Heap} {tk : Nat} {oC : Obj} {m₂ : Str → Option Value} {Q : Unit → Shared → Prop}
    (hx : scope.names.lookup x = some .local) (hkind : scope.kind = .function) (ho : h.get? C = some oC) (hn : LCg.NsObj oC m₂)
    (hQ : ∀ h' tk' oC', Heap.SameBut C h h' → h'.get? C = some oC' → LCg.NsObj oC' (fun z => if z = x then some v else m₂ z) → Q () { s with heap := h', toks := tk' }) :
    wpAny (model prog w) A (assign (.Name x px) (compEnvC scope cl C env) v) Q E { s with heap := h, toks := tk } := by
  refine wpAny_assign_Name (wpAny_storeName_local (lookup_relabel_local hx) (hn.ns ho) (fun h' hn' hs' => ?_) (by simp [compEnvC, relabel, hkind]))
  obtain ⟨o', e', r'⟩ := LCg.ns_obj hn'
  exact hQ h' _ o' hs' e' r'

theorem comp_nest {O : Array UInt8} {tO : Tok} {elt it1 it2 : Expr} {x y : Str} {px py : Pos} {scope : Scope} {pos : Pos} {env : Env} {n2 : Nat} {f : UInt8 → Nat → Int} {news : List (Addr × Obj)} {Q : Value → Shared → Prop}
    (hh : A.handled = none) (hmark : A.mark none = A) (F : Fr h₀ L s.heap m) (N : News h₀ L s.heap news) (hsize : O.size * n2 ≤ 1000)
    (hclos : closureFor scope env = pure []) (hce : ∀ n, cellsFrom n scope.names [] = []) (hpc : ∀ h, pushCells h scope.names = h) (hkind : scope.kind = .function)
    (hnames : ∀ z ∈ scope.names, z.2 = .local → scope.names.lookup z.1 = some .local) (hx : scope.names.lookup x = some .local) (hy : scope.names.lookup y = some .local) (hxy : x ≠ y)
    (hsm : Builtin.Range.small 0 n2 1 = true) (hn2 : Builtin.Range.rangeSize 0 n2 1 = (n2 : Int))
    (hs1 : ∀ x, foldedSetIterable it1 env x = pure x) (hs2 : ∀ C x, foldedSetIterable it2 (compEnvC scope [] C env) x = pure x)
    (h1 : wpAny (model prog w) A (eval it1 env) (fun xv s₁ => xv = .bytes O tO ∧ s₁ = s) E s)
    (h2 : ∀ I oI C oC D ys h tk (E' : Value → Shared → Prop) m₂, LCg.NsObj oC m₂ → Fr h₀ L h m → News h₀ L h ((I, oI) :: (C, oC) :: (D, LCg.lst ys) :: news) →
      wpAny (model prog w) A (eval it2 (compEnvC scope [] C env)) (ElEnd h₀ L m ((I, oI) :: (C, oC) :: (D, LCg.lst ys) :: news) (fun xv h' => ∃ r t u v, xv = .ref r ∧ IsRange h' r 0 n2 1 t u v) { s with heap := h, toks := tk }) E' { s with heap := h, toks := tk })
    (h3 : ∀ I2 oI2 C oC D ys I oI h tk (E' : Value → Shared → Prop) m₂ c k t u, LCg.NsObj oC m₂ → c ∈ O.toList → m₂ x = some (.int (c.toNat : Int) t) → k < n2 → m₂ y = some (.int (k : Int) u) → Fr h₀ L h m → News h₀ L h ((I2, oI2) :: (C, oC) :: (D, LCg.lst ys) :: (I, oI) :: news) →
      wpAny (model prog w) A (eval elt (compEnvC scope [] C env)) (ElEnd h₀ L m ((I2, oI2) :: (C, oC) :: (D, LCg.lst ys) :: (I, oI) :: news) (fun v _ => ∃ t, v = .int (f c k) t) { s with heap := h, toks := tk }) E' { s with heap := h, toks := tk })
    (hQ : ∀ D ys h tk, IntsAre ys (O.toList.flatMap fun c => (List.range n2).map (f c)) → Fr h₀ L h m → News h₀ L h ((D, LCg.lst ys) :: news) → (∀ p ∈ news, p.1 < D) → Q (.ref D) { s with heap := h, toks := tk }) :
    wpAny (model prog w) A (eval (.ListComp elt [⟨.Name x px, it1, [], 0⟩, ⟨.Name y py, it2, [], 0⟩] scope pos) env) Q E s := by
  rw [eval_ListComp]
  refine wpAny_comprehension_free (use := none) rfl hs1 hclos hkind hnames (wpAny_mono h1 (fun xv s₁ q => ?_) fun _ _ e => e)
  obtain ⟨rfl, rfl⟩ := q
  refine KBw.pyIter_bytes (wpAny_newObj_type (newCompEnv ?_))
  rw [hce, hpc]
  dsimp only
  generalize hoI : ({ cls := .type "bytes_iterator", data := .fields #[.bytes O tO, .int 0 0] } : Obj) = oI₀
  have hfree : oI₀.isFreed = false := by rw [← hoI]; rfl
  generalize hI : s₁.heap.objs.size = I
  have F1 : Fr h₀ L (s₁.heap.push oI₀) m := F.push _
  have N1 : News h₀ L (s₁.heap.push oI₀) ((I, oI₀) :: news) := hI ▸ N.push F _ hfree
  have hD : (s₁.heap.push oI₀).objs.size = I + 1 := by rw [Heap.size_push, hI]
  have F2 := F1.push ({ cls := .type "list", data := .seq ([] : List Value).toArray } : Obj)
  have N2 := N1.push F1 ({ cls := .type "list", data := .seq ([] : List Value).toArray } : Obj)
  generalize hH2 : (s₁.heap.push oI₀).push ({ cls := .type "list", data := .seq ([] : List Value).toArray } : Obj) = H2 at F2 N2 ⊢
  rw [hD] at N2 ⊢
  have hC : H2.objs.size = I + 2 := by rw [← hH2, Heap.size_push, hD]
  have F3 := F2.push ({ cls := .type "dict", data := .dict #[] } : Obj)
  have N3 := N2.push F2 ({ cls := .type "dict", data := .dict #[] } : Obj)
  rw [hC] at N3 ⊢
  generalize hH3 : H2.push ({ cls := .type "dict", data := .dict #[] } : Obj) = H3 at F3 N3 ⊢
  have below : ∀ p ∈ news, p.1 < I := fun p hp => hI ▸ Heap.lt_size (N p hp).1
  have NN : News h₀ L H3 ((I, oI₀) :: (I + 2, { cls := .type "dict", data := .dict #[] }) :: (I + 1, LCg.lst []) :: news) := fun p hp => by
    rcases List.mem_cons.mp hp with rfl | hp
    · exact N3 _ (.tail _ (.tail _ (.head _)))
    · rcases List.mem_cons.mp hp with rfl | hp
      · exact N3 _ (.head _)
      · rcases List.mem_cons.mp hp with rfl | hp
        · exact N3 _ (.tail _ (.head _))
        · exact N3 _ (.tail _ (.tail _ (.tail _ hp)))
  have stI : KBw.IsBytesIter H3 I O tO 0 := ⟨oI₀, (NN _ (.head _)).1, by rw [← hoI], by rw [← hoI]; rfl⟩
  have nI : ∀ p ∈ news, p.1 ≠ I ∧ p.1 ≠ I + 1 ∧ p.1 ≠ I + 2 := fun p hp => by
    have := below p hp
    have h' : @LT.lt Nat _ p.1 I := this
    exact ⟨fun e => by (have e' : @Eq Nat p.1 I := e); omega, fun e => by (have e' : @Eq Nat p.1 (I + 1) := e); omega, fun e => by (have e' : @Eq Nat p.1 (I + 2) := e); omega⟩
  let vals : Nat → List Int := fun i => (O.toList.take i).flatMap fun c => (List.range n2).map (f c)
  have hlen : ∀ l : List UInt8, (l.flatMap fun c => (List.range n2).map (f c)).length = l.length * n2 := by
    intro l
    induction l with
    | nil => simp
    | cons a r ih => simp only [List.flatMap_cons, List.length_append, List.length_map, List.length_range, ih, List.length_cons, Nat.succ_mul]; omega
  have loop : ∀ s₃ : Shared, s₃ = { s₁ with heap := H3 } → codeAny (model prog w) A (.compLoop (.ListComp elt [⟨.Name x px, it1, [], 0⟩, ⟨.Name y py, it2, [], 0⟩] scope pos) 0 (.ref I) (.ref (I + 1)) (compEnvC scope [] (I + 2) env))
      (compPost (model prog w) A E none Q (.ref (I + 1)) (I + 2)) s₃ := by
    rintro s₃ rfl
    refine compLoop_walk (p := it1.pos) (target := .Name x px) (compTurn_two0 ..) (fun _ => rfl) (KBw.walks hh I O tO) (fun i h st => let ⟨o, e, _⟩ := st; ⟨o, e⟩)
      (fun i h h' o st e e' => by obtain ⟨o', q, r⟩ := st; rw [e] at q; cases q; exact ⟨o, e', r⟩)
      (fun o => ∃ m₂, LCg.NsObj o m₂) (fun v o => ∃ m₂, LCg.NsObj o m₂ ∧ m₂ x = some v)
      (fun v h tk oa E' Q' ha ⟨m₂, hb⟩ hq => assign_own (s := { s₁ with heap := H3 }) hx hkind ha hb fun h' tk' oC' hs e r => hq h' tk' oC' hs e ⟨_, r, by simp⟩)
      (fun i rest => ∃ ys, rest = (I + 1, LCg.lst ys) :: news ∧ IntsAre ys (vals i)) F3 NN stI ⟨_, nsObj_empty⟩ ⟨[], rfl, .nil⟩ ?off (Nat.ne_of_lt (Nat.lt_succ_of_lt (Nat.lt_succ_self _))) ?turn ?done
    case off =>
      intro p hp
      rcases List.mem_cons.mp hp with rfl | hp
      · exact ⟨Nat.ne_of_gt (Nat.lt_succ_self _), Nat.ne_of_lt (Nat.lt_succ_self _)⟩
      · exact ⟨(nI p hp).1, (nI p hp).2.2⟩
    case turn =>
      rintro i v oI oa rest h tk E' hi ⟨c, u, hc, rfl⟩ ⟨m₂, hn, hm⟩ ⟨ys, rfl, hys⟩ F' N' off'
      have hcm : c ∈ O.toList := by
        rw [← Array.getElem?_toList] at hc
        exact List.mem_of_getElem? hc
      have hyl := hys.length
      have hvl : (vals i).length ≤ 1000 - n2 ∧ (vals i).length + n2 ≤ 1000 := by
        have e1 : (vals i).length = (O.toList.take i).length * n2 := hlen _
        have e2 : (O.toList.take i).length + 1 ≤ O.size := by
          rw [List.length_take]
          simp only [Array.length_toList]
          omega
        have e3 := Nat.mul_le_mul_right n2 e2
        rw [Nat.succ_mul] at e3
        omega
      refine wpAny_bind (wpAny_mono (h2 I oI (I + 2) oa (I + 1) ys h tk E' m₂ hn F' N') (fun xv s₂ q => ?_) fun _ _ e => e)
      obtain ⟨h₂, tk₂, all₂, rfl, F₂, N₂, sub₂, r, t1, t2, t3, rfl, hr⟩ := q
      refine wpAny_bind (wpAny_standAt (wpAny_bind (wpAny_of_eq (hs2 _ _) (wpAny_bind (wpAny_holding (wpAny_pyIter_range hr hsm ?_))))))
      have hsub : News h₀ L h₂ ((I, oI) :: (I + 2, oa) :: (I + 1, LCg.lst ys) :: news) := fun p hp => N₂ p (sub₂ p hp)
      generalize hoI2 : ({ cls := .type "range_iterator", data := .fields #[rawInt 0, rawInt (Builtin.Range.rangeSize 0 n2 1), rawInt 1] } : Obj) = oI2
      have hfree2 : oI2.isFreed = false := by rw [← hoI2]; rfl
      have F₃ : Fr h₀ L (h₂.push oI2) m := F₂.push _
      have N₃ := hsub.push F₂ oI2 hfree2
      have up3 : ∀ p ∈ ((I, oI) :: (I + 2, oa) :: (I + 1, LCg.lst ys) :: news : List (Addr × Obj)), p.1 < h₂.objs.size := fun p hp => Heap.lt_size (hsub p hp).1
      generalize hI2 : h₂.objs.size = I2 at N₃ up3
      refine wpAny_bind (wpAny_runOwn ?_)
      rw [hmark]
      have stI2 : IsRangeIter (h₂.push oI2) I2 (0 + (0 : Nat) * 1) ((n2 : Int) - (0 : Nat)) 1 := by
        show (h₂.push oI2).get? I2 = some _
        refine (N₃ _ (.head _)).1.trans (congrArg some ?_)
        rw [← hoI2, hn2]
        simp
      have inner : ∀ s₅ : Shared, s₅ = { s₁ with heap := h₂.push oI2, toks := tk₂ } → codeAny (model prog w) A (.compLoop (.ListComp elt [⟨.Name x px, it1, [], 0⟩, ⟨.Name y py, it2, [], 0⟩] scope pos) 1 (.ref I2) (.ref (I + 1)) (compEnvC scope [] (I + 2) env))
          (fun r s' => match r with | .ok _ => BodyEnd h₀ L m I oI (I + 2) (fun o => ∃ m₂, LCg.NsObj o m₂) (fun rest => ∃ ys, rest = (I + 1, LCg.lst ys) :: news ∧ IntsAre ys (vals (i + 1))) { s₁ with heap := h, toks := tk } s' | .error e => cameBackBy (model prog w) A (compEnvC scope [] (I + 2) env) E' e s') s₅ := by
        rintro s₅ rfl
        have q1 := up3 _ (.head _)
        have q2 := up3 _ (.tail _ (.head _))
        have q3 := up3 _ (.tail _ (.tail _ (.head _)))
        refine compLoop_walk (p := it2.pos) (target := .Name y py) (compTurn_two1 ..) (fun _ => rfl) (LCg.range_walks hh 0 n2) (fun i h st => ⟨_, st⟩)
          (fun i h h' o st e e' => by (have st' : h.get? I2 = some _ := st); show h'.get? I2 = some _; rw [e', ← e]; exact st')
          (fun o => ∃ m₂, LCg.NsObj o m₂ ∧ m₂ x = some (.int (c.toNat : Int) u)) (fun v o => ∃ m₂, LCg.NsObj o m₂ ∧ m₂ x = some (.int (c.toNat : Int) u) ∧ m₂ y = some v)
          (fun v h tk oa E' Q' ha ⟨m₂, hb, hbx⟩ hq => assign_own (s := { s₁ with heap := h₂.push oI2, toks := tk₂ }) hy hkind ha hb fun h' tk' oC' hs e r => hq h' tk' oC' hs e ⟨_, r, by simp [hxy, hbx], by simp⟩)
          (fun k rest => ∃ ys, rest = (I + 1, LCg.lst ys) :: (I, oI) :: news ∧ IntsAre ys (vals i ++ (List.range k).map (f c)))
          (oI₀ := oI2) (oa₀ := oa) (rest₀ := (I + 1, LCg.lst ys) :: (I, oI) :: news) F₃ ?n3 stI2 ⟨m₂, hn, hm⟩ ⟨ys, rfl, by simpa using hys⟩ ?off3 (Nat.ne_of_gt q2) ?turn3 ?done3
        case n3 =>
          intro p hp
          rcases List.mem_cons.mp hp with rfl | hp
          · exact N₃ _ (.head _)
          · rcases List.mem_cons.mp hp with rfl | hp
            · exact N₃ _ (.tail _ (.tail _ (.head _)))
            · rcases List.mem_cons.mp hp with rfl | hp
              · exact N₃ _ (.tail _ (.tail _ (.tail _ (.head _))))
              · rcases List.mem_cons.mp hp with rfl | hp
                · exact N₃ _ (.tail _ (.head _))
                · exact N₃ _ (.tail _ (.tail _ (.tail _ (.tail _ hp))))
        case off3 =>
          intro p hp
          rcases List.mem_cons.mp hp with rfl | hp
          · exact ⟨Nat.ne_of_lt q3, Nat.ne_of_lt (Nat.lt_succ_self _)⟩
          · rcases List.mem_cons.mp hp with rfl | hp
            · exact ⟨Nat.ne_of_lt q1, Nat.ne_of_lt (Nat.lt_succ_of_lt (Nat.lt_succ_self _))⟩
            · exact ⟨Nat.ne_of_lt (up3 p (.tail _ (.tail _ (.tail _ hp)))), (nI p hp).2.2⟩
        case turn3 =>
          rintro k v oI3 oa3 rest h3' tk3 E3 hk ⟨t4, rfl⟩ ⟨m₃, hn3, hmx, hmy⟩ ⟨ys3, rfl, hys3⟩ F4 N4 off4
          have hl3 := hys3.length
          simp only [List.length_append, List.length_map, List.length_range] at hl3
          have e0 : (0 : Int) + (k : Int) = (k : Int) := by omega
          rw [e0] at hmy
          refine emit_end (s := { s₁ with heap := h3', toks := tk3 }) (Pv := fun v _ => ∃ t, v = .int (f c k) t) N4 ⟨m₃, hn3, hmx⟩ off4 ?_ (by omega) (h3 I2 oI3 (I + 2) oa3 (I + 1) ys3 I oI h3' tk3 E3 m₃ c k u t4 hn3 hcm hmx hk hmy F4 N4) ?_
          · intro p hp
            rcases List.mem_cons.mp hp with rfl | hp
            · exact Nat.ne_of_lt (Nat.lt_succ_self _)
            · exact (nI p hp).2.1
          · rintro y' _ ⟨t5, rfl⟩
            refine ⟨_, rfl, ?_⟩
            rw [List.range_succ, List.map_append, ← List.append_assoc]
            exact hys3.append (.cons _ _ .nil)
        case done3 =>
          rintro rest oa3 h5 tk5 ⟨ys3, rfl, hys3⟩ F5 N5 ⟨m₃, hn3, _⟩ _
          refine ⟨h5, tk5, oa3, (I + 1, LCg.lst ys3) :: news, rfl, F5, fun p hp => ?_, ⟨m₃, hn3⟩, ⟨ys3, rfl, ?_⟩, fun p hp => ?_⟩
          · rcases List.mem_cons.mp hp with rfl | hp
            · exact N5 _ (.tail _ (.tail _ (.head _)))
            · rcases List.mem_cons.mp hp with rfl | hp
              · exact N5 _ (.head _)
              · rcases List.mem_cons.mp hp with rfl | hp
                · exact N5 _ (.tail _ (.head _))
                · exact N5 _ (.tail _ (.tail _ (.tail _ hp)))
          · have e : vals (i + 1) = vals i ++ (List.range n2).map (f c) := by
              show (O.toList.take (i + 1)).flatMap _ = (O.toList.take i).flatMap _ ++ _
              rw [List.take_add_one, show O.toList[i]? = some c from by rw [Array.getElem?_toList]; exact hc]
              simp
            rw [e]; exact hys3
          · rcases List.mem_cons.mp hp with rfl | hp
            · exact ⟨Nat.ne_of_gt (Nat.lt_succ_self _), Nat.ne_of_lt (Nat.lt_succ_self _)⟩
            · exact ⟨(nI p hp).1, (nI p hp).2.2⟩
      refine codeAny_mono (compStart_two1 (s := { s₁ with heap := h₂.push oI2, toks := tk₂ }) (inner _ rfl) (Walks.self (LCg.range_walks hh 0 n2) 0 _ _ _ stI2 (inner _ rfl))) fun r' s' hr' => ?_
      cases r' with
      | ok _ => exact wpAny_pure hr'
      | error _ => exact hr'
    case done =>
      rintro rest oa h tk ⟨ys, rfl, hys⟩ F' N' ⟨m₂, hn⟩ _
      refine ⟨m₂, hn.ns (N' _ (.head _)).1, fun h'' hs'' => hQ (I + 1) ys h'' tk ?_ ?_ ?_ fun p hp => Nat.lt_succ_of_lt (below p hp)⟩
      · have e : vals O.size = O.toList.flatMap fun c => (List.range n2).map (f c) := by
          show (O.toList.take O.size).flatMap _ = _
          rw [← Array.length_toList, List.take_length]
        rw [← e]; exact hys
      · exact F'.change hs'' (N' _ (.head _)).2.1 (N' _ (.head _)).2.2
      · intro p hp
        refine ⟨hs''.extBut _ _ ?_ (N' p (.tail _ hp)).1, (N' p (.tail _ hp)).2⟩
        rcases List.mem_cons.mp hp with rfl | hp
        · exact Nat.ne_of_lt (Nat.lt_succ_self _)
        · exact (nI p hp).2.2
  exact codeAny_compStart_list (loop _ rfl) (Walks.self (KBw.walks hh I O tO) 0 _ _ _ stI (loop _ rfl))

/-- what the source of a comprehension over a range, with a cell for its name, must bring -/
def CellSrc (prog : Program) (w : World) (A : Around) (h₀ : Heap) (L : Addr) (m : Str → Option Value) (env : Env) (elt : Expr) (x y : Str) (scope : Scope) (cl : List (Str × Addr)) (st : Int) (Q : Flow → Shared → Prop) (xv : Value) (s₁ : Shared) : Prop :=
  ∃ (r : Addr) (b : Int) (n : Nat) (t u v : Tok) (news : List (Addr × Obj)) (J : Nat → List Value → Prop), xv = .ref r ∧ Fr h₀ L s₁.heap m ∧ News h₀ L s₁.heap news ∧ IsRange s₁.heap r 0 b st t u v ∧ Builtin.Range.small 0 b st = true ∧ Builtin.Range.rangeSize 0 b st = (n : Int) ∧
    J 0 [] ∧ (∀ i ys, J i ys → ys.length ≤ 1000) ∧
    (∀ i ys I oI c oc C oC D h tk (E' : Value → Shared → Prop) t₁, i < n → J i ys → oc.data = .cell (some (.int (0 + (i : Int) * st) t₁)) → Fr h₀ L h m → News h₀ L h ((I, oI) :: (c, oc) :: (D, LCg.lst ys) :: (C, oC) :: news) →
      wpAny (model prog w) A (eval elt (compEnvC scope ((x, c) :: cl) C env)) (ElEnd h₀ L m ((I, oI) :: (c, oc) :: (D, LCg.lst ys) :: (C, oC) :: news) (fun v _ => J (i + 1) (ys ++ [v])) { s₁ with heap := h, toks := tk }) E' { s₁ with heap := h, toks := tk }) ∧
    (∀ D ys h tk, J n ys → Fr h₀ L h (fun z => if z = y then some (.ref D) else m z) → News h₀ L h ((D, LCg.lst ys) :: news) → (∀ p ∈ news, p.1 < D) → Q .next { s₁ with heap := h, toks := tk })

theorem comp_cell {elt iter : Expr} {x y : Str} {px py : Pos} {scope : Scope} {cl : List (Str × Addr)} {pos spos : Pos} {env : Env} {st : Int} {Q : Flow → Shared → Prop}
    (F₀ : Fr h₀ L s.heap m) (hh : A.handled = none) (hLe : env.locals = L)
    (hsw : swapsWith (.ListComp elt [⟨.Name x px, iter, [], 0⟩] scope pos) (some (.Name y py)) spos.line env = pure true)
    (hclos : closureFor scope env = pure cl) (hce : ∀ n, cellsFrom n scope.names cl = (x, n) :: cl) (hpc : ∀ h, pushCells h scope.names = h.push { cls := .type "cell", data := .cell none }) (hkind : scope.kind = .function)
    (hnames : ∀ z ∈ scope.names, z.2 = .local → scope.names.lookup z.1 = some .local) (hx : ∀ c C, (compEnvC scope ((x, c) :: cl) C env).kindOf x = some .cell)
    (hy : env.kindOf y = some .local) (hp : (env.scope.kind == .class || (env.scope.kind == .module && env.locals != env.globals)) = false)
    (h : wpAny (model prog w) A (eval iter env) (CellSrc prog w A h₀ L m env elt x y scope cl st Q) E s)
    (hs : ∀ x, foldedSetIterable iter env x = pure x := by intro _; rfl) :
    wpAny (model prog w) A (exec (.Assign [.Name y py] (.ListComp elt [⟨.Name x px, iter, [], 0⟩] scope pos) spos) env) Q E s := by
  subst hLe
  rw [exec_Assign_Name_used _ _ _ _ hsw]
  refine wpAny_bind (wpAny_standAt (wpAny_bind ?_))
  show wpAny _ A (do let _ ← comprehension (.ListComp elt [⟨.Name x px, iter, [], 0⟩] scope pos) scope env _ (newList []) false (eval iter env) (some (assign (.Name y py) env))) _ _ s
  refine wpAny_bind (wpAny_mono (wpAny_comprehension_free (use := some (assign (.Name y py) env)) (Q := fun _ s' => Q .next s') rfl hs hclos hkind hnames
    (wpAny_mono h (fun xv s₁ h₁ => ?_) fun _ _ e => e)) (fun _ s' hq => wpAny_pure (wpAny_pure hq)) fun _ _ e => e)
  obtain ⟨r, b, n, t, u, v, news, J, rfl, F, N, hr, hsm, hn, hj, hsz, turn, done⟩ := h₁
  refine wpAny_pyIter_range hr hsm (wpAny_newObj_type (newCompEnv ?_))
  rw [hce, hpc]
  dsimp only
  generalize hoI : ({ cls := .type "range_iterator", data := .fields #[rawInt 0, rawInt (Builtin.Range.rangeSize 0 b st), rawInt st] } : Obj) = oI₀
  have hfree : oI₀.isFreed = false := by rw [← hoI]; rfl
  generalize hI : s₁.heap.objs.size = I
  have F1 : Fr h₀ env.locals (s₁.heap.push oI₀) m := F.push _
  have N1 : News h₀ env.locals (s₁.heap.push oI₀) ((I, oI₀) :: news) := hI ▸ N.push F _ hfree
  have hD : (s₁.heap.push oI₀).objs.size = I + 1 := by rw [Heap.size_push, hI]
  have F2 := F1.push ({ cls := .type "list", data := .seq ([] : List Value).toArray } : Obj)
  have N2 := N1.push F1 ({ cls := .type "list", data := .seq ([] : List Value).toArray } : Obj)
  generalize hH2 : (s₁.heap.push oI₀).push ({ cls := .type "list", data := .seq ([] : List Value).toArray } : Obj) = H2 at F2 N2 ⊢
  rw [hD] at N2 ⊢
  have hC : H2.objs.size = I + 2 := by rw [← hH2, Heap.size_push, hD]
  have F3 := F2.push ({ cls := .type "dict", data := .dict #[] } : Obj)
  have N3 := N2.push F2 ({ cls := .type "dict", data := .dict #[] } : Obj)
  rw [hC] at N3 ⊢
  generalize hH3 : H2.push ({ cls := .type "dict", data := .dict #[] } : Obj) = H3 at F3 N3 ⊢
  have hc3 : H3.objs.size = I + 3 := by rw [← hH3, Heap.size_push, hC]
  have F4 := F3.push ({ cls := .type "cell", data := .cell none } : Obj)
  have N4 := N3.push F3 ({ cls := .type "cell", data := .cell none } : Obj)
  rw [hc3] at N4
  generalize hH4 : H3.push ({ cls := .type "cell", data := .cell none } : Obj) = H4 at F4 N4 ⊢
  have below : ∀ p ∈ news, p.1 < I := fun p hp => hI ▸ Heap.lt_size (N p hp).1
  have NN : News h₀ env.locals H4 ((I, oI₀) :: (I + 3, { cls := .type "cell", data := .cell none }) :: (I + 1, LCg.lst []) :: (I + 2, { cls := .type "dict", data := .dict #[] }) :: news) := fun p hp => by
    rcases List.mem_cons.mp hp with rfl | hp
    · exact N4 _ (.tail _ (.tail _ (.tail _ (.head _))))
    · rcases List.mem_cons.mp hp with rfl | hp
      · exact N4 _ (.head _)
      · rcases List.mem_cons.mp hp with rfl | hp
        · exact N4 _ (.tail _ (.tail _ (.head _)))
        · rcases List.mem_cons.mp hp with rfl | hp
          · exact N4 _ (.tail _ (.head _))
          · exact N4 _ (.tail _ (.tail _ (.tail _ (.tail _ hp))))
  have W : Walks prog w A I [I] [I] n (fun i v => i < n ∧ ∃ t, v = .int (0 + i * st) t) (fun i h => IsRangeIter h I (0 + (i : Nat) * st) ((n : Int) - (i : Nat)) st) := (Walks.range hh _ 0 st n).bound
  have stI : IsRangeIter H4 I (0 + (0 : Nat) * st) ((n : Int) - (0 : Nat)) st := by
    show H4.get? I = some _
    refine (NN _ (.head _)).1.trans (congrArg some ?_)
    rw [← hoI, hn]
    simp
  have nI : ∀ p ∈ news, p.1 ≠ I ∧ p.1 ≠ I + 1 ∧ p.1 ≠ I + 2 ∧ p.1 ≠ I + 3 := fun p hp => by
    have := below p hp
    have h' : @LT.lt Nat _ p.1 I := this
    exact ⟨fun e => by (have e' : @Eq Nat p.1 I := e); omega, fun e => by (have e' : @Eq Nat p.1 (I + 1) := e); omega, fun e => by (have e' : @Eq Nat p.1 (I + 2) := e); omega, fun e => by (have e' : @Eq Nat p.1 (I + 3) := e); omega⟩
  have a01 : (I : Addr) ≠ I + 1 := Nat.ne_of_lt (Nat.lt_succ_self _)
  have a03 : (I : Addr) ≠ I + 3 := by show ¬ @Eq Nat I (I + 3); omega
  have a02 : (I : Addr) ≠ I + 2 := by show ¬ @Eq Nat I (I + 2); omega
  have a13 : (I + 1 : Addr) ≠ I + 3 := by show ¬ @Eq Nat (I + 1) (I + 3); omega
  have a23 : (I + 2 : Addr) ≠ I + 3 := by show ¬ @Eq Nat (I + 2) (I + 3); omega
  have a12 : (I + 1 : Addr) ≠ I + 2 := by show ¬ @Eq Nat (I + 1) (I + 2); omega
  have loop : ∀ s₃ : Shared, s₃ = { s₁ with heap := H4 } → codeAny (model prog w) A (.compLoop (.ListComp elt [⟨.Name x px, iter, [], 0⟩] scope pos) 0 (.ref I) (.ref (I + 1)) (compEnvC scope ((x, I + 3) :: cl) (I + 2) env))
      (compPost (model prog w) A E (some (assign (.Name y py) env)) (fun _ s' => Q .next s') (.ref (I + 1)) (I + 2)) s₃ := by
    rintro s₃ rfl
    refine compLoop_walk (p := iter.pos) (target := .Name x px) (compTurn_list1 ..) (fun _ => rfl) W (fun i h st => ⟨_, st⟩)
      (fun i h h' o st e e' => by (have st' : h.get? I = some _ := st); show h'.get? I = some _; rw [e', ← e]; exact st')
      (fun o => ∃ v, o.data = .cell v) (fun v o => o.data = .cell (some v))
      (fun v h tk oa E' Q' ha ⟨v₀, hb⟩ hq => ?asg)
      (fun i rest => ∃ ys, rest = (I + 1, LCg.lst ys) :: (I + 2, { cls := .type "dict", data := .dict #[] }) :: news ∧ J i ys) F4 NN stI ⟨_, rfl⟩ ⟨[], rfl, hj⟩ ?off a03 ?turn ?done
    case asg =>
      refine wpAny_assign_Name (wpAny_storeName_cell (by show (relabel scope env).kind = _; exact hkind) (hx _ _) (c := I + 3) (by simp [compEnvC]) ⟨oa, ha, hb⟩ fun h' hv hs => ?_)
      obtain ⟨o', ho', hd'⟩ := hv
      exact hq h' tk o' hs ho' hd'
    case off =>
      intro p hp
      rcases List.mem_cons.mp hp with rfl | hp
      · exact ⟨Ne.symm a01, a13⟩
      · rcases List.mem_cons.mp hp with rfl | hp
        · exact ⟨Ne.symm a02, a23⟩
        · exact ⟨(nI p hp).1, (nI p hp).2.2.2⟩
    case turn =>
      rintro i v oI oa rest h tk E' hi ⟨_, t₁, rfl⟩ hd ⟨ys, rfl, hJ⟩ F' N' off'
      refine emit_end (s := { s₁ with heap := h, toks := tk }) (Pv := fun v _ => J (i + 1) (ys ++ [v])) N' ⟨_, hd⟩ off' ?_ (hsz i ys hJ) (turn i ys I oI (I + 3) oa (I + 2) _ (I + 1) h tk E' t₁ hi hJ hd F' N') ?_
      · intro p hp
        rcases List.mem_cons.mp hp with rfl | hp
        · exact Ne.symm a12
        · exact (nI p hp).2.1
      · intro y' _ hy'
        exact ⟨_, rfl, hy'⟩
    case done =>
      rintro rest oa h' tk ⟨ys, rfl, hJ⟩ F' N' ⟨v₀, hd⟩ _
      have zC := N' (I + 2, { cls := .type "dict", data := .dict #[] }) (.tail _ (.tail _ (.head _)))
      show wpAny _ A (assign (.Name y py) env (.ref (I + 1))) _ _ _
      refine wpAny_assign_Name (wpAny_storeName_local hy F'.ns (fun h₂ hn₂ hs₂ => ?_) hp)
      have hL₀ : h₀.get? env.locals = none := Heap.get?_none_of_le F'.above
      have F₂ : Fr h₀ env.locals h₂ (fun z => if z = y then some (.ref (I + 1)) else m z) := ⟨hn₂, fun b o e => hs₂.extBut b o (fun q => by rw [q, hL₀] at e; cases e) (F'.keep b o e), F'.above⟩
      have zC2 : h₂.get? (I + 2) = some { cls := .type "dict", data := .dict #[] } := hs₂.extBut _ _ zC.2.1 zC.1
      refine ⟨_, nsObj_empty.ns zC2, fun h'' hs'' => done (I + 1) ys h'' _ hJ (F₂.change hs'' zC.2.1 zC.2.2) (fun p hp => ?_) fun p hp => Nat.lt_succ_of_lt (below p hp)⟩
      have z : ∀ q ∈ ((I + 3, oa) :: (I + 1, LCg.lst ys) :: (I + 2, { cls := .type "dict", data := .dict #[] }) :: news : List (Addr × Obj)), q.1 ≠ I + 2 → h''.get? q.1 = some q.2 ∧ q.1 ≠ env.locals ∧ h₀.get? q.1 = none := fun q hq hne =>
        ⟨hs''.extBut _ _ hne (hs₂.extBut _ _ (N' q hq).2.1 (N' q hq).1), (N' q hq).2⟩
      rcases List.mem_cons.mp hp with rfl | hp
      · exact z _ (.tail _ (.head _)) a12
      · exact z _ (.tail _ (.tail _ (.tail _ hp))) (nI p hp).2.2.1
  exact codeAny_compStart_list (loop _ rfl) (Walks.self W 0 _ _ _ stI (loop _ rfl))

theorem compRest_of {elt : Expr} {x : Str} {scope : Scope} {cl : List (Str × Addr)} {env : Env} {n : Nat} {news : List (Addr × Obj)} {S : List (Addr × Obj) → Prop} {P : Nat → Value → Prop} {Fin : List Value → List (Addr × Obj) → Prop} (J : Nat → List Value → Prop)
    (hS : S news) (hfin : ∀ ys, J n ys → Fin ys news)
    (turn : ∀ i ys v I oI C oC D m₂ h tk (E' : Value → Shared → Prop), i < n → J i ys → P i v → LCg.NsObj oC m₂ → m₂ x = some v → Fr h₀ L h m → News h₀ L h ((I, oI) :: (C, oC) :: (D, LCg.lst ys) :: news) →
      wpAny (model prog w) A (eval elt (compEnvC scope cl C env)) (ElEnd h₀ L m ((I, oI) :: (C, oC) :: (D, LCg.lst ys) :: news) (fun y _ => J (i + 1) (ys ++ [y])) { s with heap := h, toks := tk }) E' { s with heap := h, toks := tk }) :
    ∀ k i ys, i + k = n → J i ys → LCg.CompRest prog w A h₀ L m env elt x scope cl s S P Fin k i ys news := by
  intro k
  induction k with
  | zero =>
    intro i ys e hJ
    have e' : i = n := by omega
    subst e'
    exact LCg.CompRest.zero (hfin ys hJ)
  | succ k ih =>
    intro i ys e hJ
    refine LCg.CompRest.succ fun v I oI C oC D m₂ h tk E' hP hC hx F' N' off _ => ?_
    refine wpAny_mono (turn i ys v I oI C oC D m₂ h tk E' (by omega) hJ hP hC hx F' N') (fun y s₂ q => ?_) fun _ _ e => e
    obtain ⟨h', tk', all', rfl, F₂, N₂, sub, hJ'⟩ := q
    exact LCg.CompEnd.intro F₂ N₂ news (fun p hp => sub p hp) off hS (ih (i + 1) _ (by omega) hJ')
end
end Mine

/-! Plain -/
namespace Mine
open PySem PySem.W PySem.Calls PyProof.Rows
theorem flatten_rep (n : Nat) : (List.replicate n [(0 : Int)]).flatten = List.replicate n 0 := by
  induction n with
  | zero => rfl
  | succ n ih => rw [List.replicate_succ, List.flatten_cons, ih, List.replicate_succ]; rfl
theorem pad_len {bits0 bits : List Int} {n : Nat} (h8 : bits0.length = 8 * n) (hn : n ≤ 9) (h : bits0 ++ (List.replicate ((-(bits0.length : Int)).fmod 6).toNat [0]).flatten = bits) : ∃ q, bits.length = 6 * q ∧ q ≤ 12 := by
  rw [flatten_rep, Int.fmod_eq_emod_of_nonneg _ (by decide)] at h
  subst h
  rw [List.length_append, List.length_replicate, h8]
  exact ⟨(8 * n + ((-((8 * n : Nat) : Int)) % 6).toNat) / 6, by omega, by omega⟩
theorem pad_bits {bits0 bits : List Int} {l : List UInt8} (h0 : (l.flatMap fun c => (List.range 8).map fun k => ((c.toNat : Int).fdiv (2 ^ (7 - k))).fmod 2) = bits0) (h : bits0 ++ (List.replicate ((-(bits0.length : Int)).fmod 6).toNat [0]).flatten = bits) :
    ∀ b ∈ bits, 0 ≤ b ∧ b ≤ 1 := by
  intro b hb
  rw [flatten_rep] at h
  subst h
  rcases List.mem_append.mp hb with hb | hb
  · subst h0
    obtain ⟨c, _, hc⟩ := List.mem_flatMap.mp hb
    obtain ⟨k, _, rfl⟩ := List.mem_map.mp hc
    rw [Int.fmod_eq_emod_of_nonneg _ (by decide)]
    omega
  · rw [(List.mem_replicate.mp hb).2]; omega

theorem bit_small {a : Int} (h : 0 ≤ a ∧ a ≤ 1) : Builtin.Int.intBits a ≤ 64 := by
  obtain rfl | rfl : a = 0 ∨ a = 1 := by omega
  · decide
  · decide
theorem getD_bit {bits : List Int} (h : ∀ b ∈ bits, 0 ≤ b ∧ b ≤ 1) (i : Nat) : 0 ≤ bits.getD i 0 ∧ bits.getD i 0 ≤ 1 := by
  rw [List.getD_eq_getElem?_getD]
  cases e : bits[i]? with
  | none => simp
  | some v => simpa using h v (List.mem_of_getElem? e)
theorem six_sum {bits : List Int} {place : Int} (h : ∀ b ∈ bits, 0 ≤ b ∧ b ≤ 1) :
    0 ≤ ((List.range 6).map fun (k : Nat) => bits.getD (place + (k : Int)).toNat 0 * 2 ^ (5 - k)).sum ∧ ((List.range 6).map fun (k : Nat) => bits.getD (place + (k : Int)).toNat 0 * 2 ^ (5 - k)).sum < 64 := by
  have h0 := getD_bit h (place + ((0 : Nat) : Int)).toNat
  have h1 := getD_bit h (place + ((1 : Nat) : Int)).toNat
  have h2 := getD_bit h (place + ((2 : Nat) : Int)).toNat
  have h3 := getD_bit h (place + ((3 : Nat) : Int)).toNat
  have h4 := getD_bit h (place + ((4 : Nat) : Int)).toNat
  have h5 := getD_bit h (place + ((5 : Nat) : Int)).toNat
  have e : List.range 6 = [0, 1, 2, 3, 4, 5] := rfl
  rw [e]
  simp only [List.map_cons, List.map_nil, List.sum_cons, List.sum_nil]
  generalize bits.getD (place + ((0 : Nat) : Int)).toNat 0 = a0 at *
  generalize bits.getD (place + ((1 : Nat) : Int)).toNat 0 = a1 at *
  generalize bits.getD (place + ((2 : Nat) : Int)).toNat 0 = a2 at *
  generalize bits.getD (place + ((3 : Nat) : Int)).toNat 0 = a3 at *
  generalize bits.getD (place + ((4 : Nat) : Int)).toNat 0 = a4 at *
  generalize bits.getD (place + ((5 : Nat) : Int)).toNat 0 = a5 at *
  omega
abbrev alphT : Str := Str.ofString "ABCDEFGHIJKLMNOPQRSTUVWXYZabcdefghijklmnopqrstuvwxyz0123456789'*"
/-- the number that six bits tell -/
def sixAt (bits : List Int) (j : Nat) : Int := ((List.range 6).map fun (k : Nat) => bits.getD (6 * j + k) 0 * 2 ^ (5 - k)).sum
def sgn (bits : List Int) (j : Nat) : Str := Txt.item alphT (sixAt bits j)
theorem sgn_weight (bits : List Int) (q : Nat) : (((List.range q).map (fun j => sgn bits j)).map (·.length)).sum = q := by
  induction q with
  | zero => rfl
  | succ n ih => rw [List.range_succ, List.map_append, List.map_append, List.sum_append_nat, ih]; rfl
theorem sixAt_of {bits : List Int} {j : Nat} {place : Int} (h : 0 + (j : Int) * 6 = place) : ((List.range 6).map fun (k : Nat) => bits.getD (place + (k : Int)).toNat 0 * 2 ^ (5 - k)).sum = sixAt bits j := by
  unfold sixAt
  congr 1
  apply List.map_congr_left
  intro k _
  have e : (place + (k : Int)).toNat = 6 * j + k := by omega
  rw [e]

/-- the octets' bits -/
def bitsOf (l : List UInt8) : List Int := l.flatMap fun c => (List.range 8).map fun k => ((c.toNat : Int).fdiv (2 ^ (7 - k))).fmod 2
/-- noughts behind them up to whole sixes -/
def bitsP (l : List UInt8) : List Int := bitsOf l ++ (List.replicate ((-((bitsOf l).length : Int)).fmod 6).toNat [0]).flatten
def signsOf (l : List UInt8) : List Str := (List.range ((bitsP l).length / 6)).map fun j => sgn (bitsP l) j
/-- what _law_told gives -/
def toldT (l : List UInt8) : Str := Txt.join (Str.ofString "") (signsOf l) ++ Txt.mul (Str.ofString "=") ((-((signsOf l).length : Int)).fmod 4)

/-! the encoder's own reckoning -/
def b64L : List UInt8 := [65, 66, 67, 68, 69, 70, 71, 72, 73, 74, 75, 76, 77, 78, 79, 80, 81, 82, 83, 84, 85, 86, 87, 88, 89, 90, 97, 98, 99, 100, 101, 102, 103, 104, 105, 106, 107, 108, 109, 110, 111, 112, 113, 114, 115, 116, 117, 118, 119, 120, 121, 122, 48, 49, 50, 51, 52, 53, 54, 55, 56, 57, 43, 47]
def b64At (i : Int) : Int := ((b64L.getD i.toNat 0).toNat : Int)
theorem b64At_range (i : Int) : 0 ≤ b64At i ∧ b64At i < 256 := by
  unfold b64At
  have := (b64L.getD i.toNat 0).toNat_lt
  omega
def encStep (st : Int × Int × List Int) (v : Int) : Int × Int × List Int :=
  let lc := (st.1 * 256 + v) % 65536
  if st.2.1 = 0 then (lc, 2, st.2.2 ++ [b64At (lc / 4 % 64)])
  else if st.2.1 = 2 then (lc, 4, st.2.2 ++ [b64At (lc / 16 % 64)])
  else (lc, 0, st.2.2 ++ [b64At (lc / 64 % 64), b64At (lc % 64)])
def encRun (l : List UInt8) : Int × Int × List Int := l.foldl (fun st c => encStep st (c.toNat : Int)) (0, 0, [])
def encTail (st : Int × Int × List Int) : List Int :=
  if st.2.1 = 2 then st.2.2 ++ [b64At (st.1 % 4 * 16), 61, 61] else if st.2.1 = 4 then st.2.2 ++ [b64At (st.1 % 16 * 4), 61] else st.2.2
theorem encRun_snoc (l : List UInt8) (c : UInt8) : encRun (l ++ [c]) = encStep (encRun l) (c.toNat : Int) := by
  unfold encRun; rw [List.foldl_append]; rfl
theorem encStep_len (st : Int × Int × List Int) (v : Int) : (encStep st v).2.2.length ≤ st.2.2.length + 2 := by
  unfold encStep
  dsimp only
  split
  · simp
  · split <;> simp
theorem encFold_len (l : List UInt8) : ∀ st : Int × Int × List Int, (l.foldl (fun st c => encStep st (c.toNat : Int)) st).2.2.length ≤ st.2.2.length + 2 * l.length := by
  induction l with
  | nil => intro st; simp
  | cons c r ih =>
    intro st
    have h1 := ih (encStep st (c.toNat : Int))
    have h2 := encStep_len st (c.toNat : Int)
    simp only [List.foldl_cons, List.length_cons]
    omega
theorem encTail_len (l : List UInt8) : (encTail (encRun l)).length ≤ 2 * l.length + 3 := by
  have h := encFold_len l (0, 0, [])
  simp only [List.length_nil] at h
  unfold encTail
  show _ ≤ _
  have h' : (encRun l).2.2.length ≤ 0 + 2 * l.length := h
  split
  · simp only [List.length_append, List.length_cons, List.length_nil]; omega
  · split
    · simp only [List.length_append, List.length_cons, List.length_nil]; omega
    · omega
theorem enc_0 {l : List UInt8} {c : UInt8} {lc v : Int} {out : List Int} (h : encRun l = (lc, 0, out)) (hv : (c.toNat : Int) = v) :
    encRun (l ++ [c]) = ((lc * 256 + v) % 65536, 0 + 8 - 6, out ++ [b64At (((lc * 256 + v) % 65536).fdiv (2 ^ ((0 : Int) + 8 - 6).toNat) % 64)]) := by
  rw [encRun_snoc, h, hv, Int.fdiv_eq_ediv_of_nonneg _ (by decide)]
  rfl
theorem enc_2 {l : List UInt8} {c : UInt8} {lc v : Int} {out : List Int} (h : encRun l = (lc, 2, out)) (hv : (c.toNat : Int) = v) :
    encRun (l ++ [c]) = ((lc * 256 + v) % 65536, 2 + 8 - 6, out ++ [b64At (((lc * 256 + v) % 65536).fdiv (2 ^ ((2 : Int) + 8 - 6).toNat) % 64)]) := by
  rw [encRun_snoc, h, hv, Int.fdiv_eq_ediv_of_nonneg _ (by decide)]
  rfl
theorem enc_4 {l : List UInt8} {c : UInt8} {lc v : Int} {out : List Int} (h : encRun l = (lc, 4, out)) (hv : (c.toNat : Int) = v) :
    encRun (l ++ [c]) = ((lc * 256 + v) % 65536, 4 + 8 - 6 - 6, out ++ [b64At (((lc * 256 + v) % 65536).fdiv (2 ^ ((4 : Int) + 8 - 6).toNat) % 64)] ++ [b64At (((lc * 256 + v) % 65536).fdiv (2 ^ ((4 : Int) + 8 - 6 - 6).toNat) % 64)]) := by
  rw [encRun_snoc, h, hv, Int.fdiv_eq_ediv_of_nonneg _ (by decide), Int.fdiv_eq_ediv_of_nonneg _ (by decide), List.append_assoc]
  have e : (2 : Int) ^ ((4 : Int) + 8 - 6 - 6).toNat = 1 := by decide
  rw [e, Int.ediv_one]
  rfl
theorem octets_snoc {out : List Int} {i : Int} (h : ∀ z ∈ out, 0 ≤ z ∧ z < 256) : ∀ z ∈ out ++ [b64At i], 0 ≤ z ∧ z < 256 := by
  intro z hz
  rcases List.mem_append.mp hz with hz | hz
  · exact h z hz
  · rw [List.mem_singleton.mp hz]; exact b64At_range i
theorem octets_61 {out : List Int} (h : ∀ z ∈ out, 0 ≤ z ∧ z < 256) : ∀ z ∈ out ++ [61], 0 ≤ z ∧ z < 256 := by
  intro z hz
  rcases List.mem_append.mp hz with hz | hz
  · exact h z hz
  · rw [List.mem_singleton.mp hz]; decide
theorem take_snoc {O : Array UInt8} {i : Nat} {c : UInt8} (h : O[i]? = some c) : O.toList.take (i + 1) = O.toList.take i ++ [c] := by
  rw [List.take_add_one, Array.getElem?_toList, h]; rfl
theorem bitAnd_half (a v : Int) : Builtin.bitAnd (2 * a) v = 2 * Builtin.bitAnd a (v / 2) := by
  rw [kbt_halves, if_neg (by omega)]
  have e : 2 * a / 2 = a := by omega
  rw [e]; omega
theorem bitAnd_high {a v : Int} (h0 : 0 ≤ v) (h1 : v < 256) : Builtin.bitAnd (a * 256) v = 0 := by
  have e : a * 256 = 2 * (2 * (2 * (2 * (2 * (2 * (2 * (2 * a))))))) := by omega
  rw [e, bitAnd_half, bitAnd_half, bitAnd_half, bitAnd_half, bitAnd_half, bitAnd_half, bitAnd_half, bitAnd_half]
  have e2 : v / 2 / 2 / 2 / 2 / 2 / 2 / 2 / 2 = 0 := by omega
  rw [e2]
  have := bitAnd_range a (y := 0) (by decide)
  omega
section
variable {prog : Program} {w : World} {A : Around} {E : Value → Shared → Prop} {s : Shared} {a v : Int} {t u : Tok} {Q : Value → Shared → Prop}
theorem or8_int (h0 : 0 ≤ v) (h1 : v < 256) (h : Q (.int (a * 256 + v) s.toks) { s with toks := s.toks + 1 }) : wpAny (model prog w) A (binaryOp .BitOr (.int (a * 2 ^ Int.toNat 8) t) (.int v u)) Q E s := by
  refine or_int ?_
  have e : (a * 2 ^ Int.toNat 8 : Int) = a * 256 := rfl
  rw [e, bitOr_and, bitAnd_high h0 h1, Int.sub_zero]
  exact h
theorem and63_int (h : Q (.int (a % 64) s.toks) { s with toks := s.toks + 1 }) : wpAny (model prog w) A (binaryOp .BitAnd (.int a t) (.int 63 u)) Q E s := and_int (by rw [bitAnd_m6]; exact h)
theorem and65535_int (h : Q (.int (a % 65536) s.toks) { s with toks := s.toks + 1 }) : wpAny (model prog w) A (binaryOp .BitAnd (.int a t) (.int 65535 u)) Q E s := and_int (by rw [bitAnd_m16]; exact h)
theorem and3_int (h : Q (.int (a % 4) s.toks) { s with toks := s.toks + 1 }) : wpAny (model prog w) A (binaryOp .BitAnd (.int a t) (.int 3 u)) Q E s := and_int (by rw [bitAnd_m2]; exact h)
theorem and15_int (h : Q (.int (a % 16) s.toks) { s with toks := s.toks + 1 }) : wpAny (model prog w) A (binaryOp .BitAnd (.int a t) (.int 15 u)) Q E s := and_int (by rw [bitAnd_m4]; exact h)
theorem item64 {e1 e2 : Expr} {i : Int} (h0 : 0 ≤ i) (h1 : i < 64) (h : Q (.int (b64At i) s.toks) { s with toks := s.toks + 1 })
    (hs : subscripted e2 false (.bytes b64L.toArray t) (.int i u) = operate [.bytes b64L.toArray t, .int i u] (getItem (.bytes b64L.toArray t) (.int i u))) (ht : ∀ r, letTemporaryGo e1 (.bytes b64L.toArray t) r = pure ()) :
    wpAny (model prog w) A (subscriptTail e1 e2 (.bytes b64L.toArray t) (.int i u)) Q E s :=
  subscriptTail_builtin (typeIs_bytes _ _ _) FB.slot_bytes_getitem.lookup (getItem_bytes (by decide) h0 h1 h) hs ht
end
end Mine

/-! Oct -/
namespace Mine
open PySem PySem.W PySem.Calls PyProof.Rows

theorem three_octets {a b c d z : Int} (ha : 0 ≤ a ∧ a < 64) (hb : 0 ≤ b ∧ b < 64) (hc : 0 ≤ c ∧ c < 64) (hd : 0 ≤ d ∧ d < 64)
    (h : z ∈ [(((a * 64 + b) * 64 + c) * 64 + d).fdiv 65536, ((((a * 64 + b) * 64 + c) * 64 + d).fdiv 256).fmod 256, (((a * 64 + b) * 64 + c) * 64 + d).fmod 256]) : 0 ≤ z ∧ z < 256 := by
  obtain ⟨n, hn⟩ : ∃ n, ((a * 64 + b) * 64 + c) * 64 + d = n := ⟨_, rfl⟩
  rw [hn] at h
  have h0 : 0 ≤ n ∧ n < 16777216 := by omega
  rw [Int.fdiv_eq_ediv_of_nonneg _ (by decide), Int.fmod_eq_emod_of_nonneg _ (by decide), Int.fmod_eq_emod_of_nonneg _ (by decide), Int.fdiv_eq_ediv_of_nonneg _ (by decide)] at h
  simp only [List.mem_cons, List.not_mem_nil, or_false] at h
  omega

theorem oct_call : ∀ {w : World} {sc : Scope} {s : Shared} {h₀ base : Heap} {L fa a : Addr} {cd : Value} {m mg mb : Str → Option Value} {mean : ExcName → Option Value} {E : Value → Shared → Prop} {Q : Value → Shared → Prop} {vs : List Value} {S : List Int},
    sc.kind = .function → Below callerA base [] h₀ → Fr h₀ L s.heap m → (hd.heap_39 w.params).In h₀ → theTop mean mg mb h₀ →
    s.heap.IsList a vs.toArray → IntsAre vs S → S.length % 4 = 0 → S.length ≤ 12 → (∀ x ∈ S, 0 ≤ x ∧ x < 64) →
    (∀ (O : Array UInt8) t h' tk, s.heap.StaysIn h' → 4 * O.size = 3 * S.length → Q (.bytes O t) { s with heap := h', toks := tk }) →
    wpAny (model Challenge.rw_mq0046_01.row.prog w) (lawA sc L fa cd) (call (.ref 65) [.ref a]) Q E s := by
  w_on
  k_fill
  intro w sc s h₀ base L fa a cd m mg mb mean E Q vs S hsc B F X T hl hi h4 h12 hb h
  w_top on
  k_dflt ((refine wpAny_call ?_; (refine' code_pure (binds := [(Str.ofString "sixes", Value.ref a)]) ?k1 ?k2 ?k3 ?k5 ?kA ?kF ?kK ?k6 ?k7 ?k8 ?k9 ?kB ?_ ?c2 ?c3 ?c4 ?c5; (case kA => exact rfl); (case kF => exact rfl); (case kK => first | exact rfl | assumption); (case k1 => k_asm); (case k2 => k_asm); (case k3 => k_asm); (case k5 => k_asm); (case k6 => k_is); (case k7 => k_is); (case k8 => k_room); (case k9 => first | exact BindsTo.of_eq rfl | exact binds_K (by k_in) rfl (by k_is) rfl rfl rfl); (case c5 => decide); (case kB => exact locs rfl); (case c2 => exact rfl); (case c3 => exact rfl); (case c4 => exact rfl); k_whole)))
  clear B F X T
  intro L' h' F' N' B' X' T'
  (try dsimp only); (try k_fold)
  k_steps
  rename_i l _ l1 _ F2 N2 h3 tk3 t1 u1 v1 hR F3 N3 K3
  obtain ⟨q, hq⟩ : ∃ q : Nat, S.length = 4 * q := ⟨S.length / 4, by omega⟩
  refine step_inv (n := q) (fun i m₁ news₁ => (∀ z, z ≠ Str.ofString "k" → z ≠ Str.ofString "n" → m₁ z = if z = Str.ofString "octets" then some (Value.ref l) else List.lookup z [(Str.ofString "sixes", Value.ref a)]) ∧
    ∃ us zs c, news₁ = [(l, listOf (List.toArray us) c)] ∧ IntsAre us zs ∧ zs.length = 3 * i ∧ ∀ z ∈ zs, 0 ≤ z ∧ z < 256) rfl hR ?x1 ?x2 (by assumption) (by assumption) ?x3 ?x4 ?x5
  case x1 => exact small4 (q := q) (by omega) (by omega)
  case x2 => exact range4 (by omega)
  case x3 => exact ⟨fun _ _ _ => rfl, [], [], 0, rfl, .nil, rfl, by simp⟩
  case x4 =>
    clear F3 N3 F2 N2 K3 hR
    rintro I i m₁ _ t h2 tk2 hiq hI ⟨hm, us, zs, c, rfl, hus, hlen, hz⟩ F4 N4
    have F' : Fr s.heap L' h2 (fun y => if y = Str.ofString "k" then some (Value.int (0 + (i : Int) * 4) t) else if y = Str.ofString "n" then m₁ y else if y = Str.ofString "octets" then some (Value.ref l) else List.lookup y [(Str.ofString "sixes", Value.ref a)]) :=
      fr_ext F4 (by intro z; by_cases e1 : z = Str.ofString "k"; · simp [e1]
                    by_cases e2 : z = Str.ofString "n"; · simp [e2]
                    simp only [e1, e2, if_false]; exact hm z e1 e2)
    clear F4 hm
    have lI : @LT.lt Nat _ l I := hI _ (.head _)
    clear hI
    obtain ⟨k, hk⟩ : ∃ k : Int, 0 + (i : Int) * 4 = k := ⟨_, rfl⟩
    rw [hk] at F'
    have hk0 : 0 ≤ k := by omega
    have hk3 : k + 3 < (S.length : Int) := by omega
    generalize krsIt _ _ _ = itO at N4 ⊢
    k_steps
    have hd : ∀ j : Int, 0 ≤ S.getD j.toNat 0 ∧ S.getD j.toNat 0 < 64 := by
      intro j
      rw [List.getD_eq_getElem?_getD]
      cases e : S[j.toNat]? with
      | none => simp
      | some v => simpa using hb v (List.mem_of_getElem? e)
    have d0 := hd k
    have d1 := hd (k + 1)
    have d2 := hd (k + 2)
    have d3 := hd (k + 3)
    clear hd
    refine' iadd_ints (us := us) (n := c) ?y1 ?y2 (List.Mem.head _) hus (.cons _ _ (.cons _ _ (.cons _ _ .nil))) (Nat.succ_ne_zero _) ?y3 ?y4 ?_
    case y1 => assumption
    case y2 => assumption
    case y3 => k_updF
    case y4 => simp only [List.length_cons, List.length_nil]; omega
    intro h9 vs9 hI9 F9 N9
    dsimp only at N9
    k_steps
    rename_i F7 N7
    refine turn_next F7 N7 [(l, listOf vs9.toArray (c + 1))] (fun p hp => .tail _ hp) ?z1 ⟨?z2, vs9, _, c + 1, rfl, hI9, ?z3, ?z4⟩
    case z1 =>
      intro p hp
      rw [List.mem_singleton.mp hp]
      exact Nat.ne_of_lt lI
    case z2 =>
      intro z h1 h2
      simp only [h1, h2, if_false]
      split <;> rfl
    case z3 => simp only [List.length_append, List.length_cons, List.length_nil]; omega
    case z4 =>
      have e0 := d0; have e1 := d1; have e2 := d2; have e3 := d3
      clear N7 F7 d0 d1 d2 d3 hI9
      generalize S.getD k.toNat 0 = x0 at *
      generalize S.getD (k + 1).toNat 0 = x1 at *
      generalize S.getD (k + 2).toNat 0 = x2 at *
      generalize S.getD (k + 3).toNat 0 = x3 at *
      intro z hzm
      rcases List.mem_append.mp hzm with hzm | hzm
      · exact hz z hzm
      · exact three_octets e0 e1 e2 e3 hzm
  case x5 =>
    clear F3 N3 F2 N2 K3 hR
    rintro m₁ _ h2 tk2 ⟨hm, us, zs, c, rfl, hus, hlen, hz⟩ F4 N4
    have F' : Fr s.heap L' h2 (fun y => if y = Str.ofString "k" then m₁ y else if y = Str.ofString "n" then m₁ y else if y = Str.ofString "octets" then some (Value.ref l) else List.lookup y [(Str.ofString "sixes", Value.ref a)]) :=
      fr_ext F4 (by intro z; by_cases e1 : z = Str.ofString "k"; · simp [e1]
                    by_cases e2 : z = Str.ofString "n"; · simp [e2]
                    simp only [e1, e2, if_false]; exact hm z e1 e2)
    clear F4 hm
    k_steps
    rename_i t9 k9 F9 N9 _ _
    refine leaveP F9 fun st => ?_
    exact h _ _ _ _ st (by rw [byteArr_size]; omega)
end Mine

/-! Told -/
namespace Mine
open PySem PySem.W PySem.Calls PyProof.Rows

theorem told_call : ∀ {w : World} {sc : Scope} {s : Shared} {h₀ base : Heap} {L fa : Addr} {cd : Value} {m mg mb : Str → Option Value} {mean : ExcName → Option Value} {E : Value → Shared → Prop} {Q : Value → Shared → Prop} {O : Array UInt8} {t : Tok},
    sc.kind = .function → Below callerA base [] h₀ → Fr h₀ L s.heap m → (hd.heap_39 w.params).In h₀ → theTop mean mg mb h₀ → O.size ≤ 9 →
    (∀ t h' tk, s.heap.StaysIn h' → Q (.str (toldT O.toList) t) { s with heap := h', toks := tk }) →
    wpAny (model Challenge.rw_mq0046_01.row.prog w) (lawA sc L fa cd) (call (.ref 70) [.bytes O t]) Q E s := by
  w_on
  k_fill
  intro w sc s h₀ base L fa cd m mg mb mean E Q O t hsc B F X T hO h
  w_top on
  k_dflt ((refine wpAny_call ?_; (refine' code_pureC (binds := [(Str.ofString "octets", Value.bytes O t)]) ?k1 ?k2 ?k3 ?k5 ?kA ?kF ?kK ?k6 ?k7 ?k8 ?k9 ?kB ?kD ?_ ?c2 ?c3 ?c4; (case kA => exact rfl); (case kF => exact rfl); (case kK => first | exact rfl | assumption); (case k1 => k_asm); (case k2 => k_asm); (case k3 => k_asm); (case k5 => k_asm); (case k6 => k_is); (case k7 => k_is); (case k8 => k_room); (case k9 => first | exact BindsTo.of_eq rfl | exact binds_K (by k_in) rfl (by k_is) rfl rfl rfl); (case kB => exact rfl); (case kD => decide +kernel); (case c2 => exact rfl); (case c3 => exact rfl); (case c4 => exact rfl); k_whole)))
  clear B F X T
  intro L' h' tk' cells' F' N' Y' B' X' T'
  k_cells Y'
  replace F' : Fr s.heap L' h' (fun y => if y = Str.ofString "octets" then some (Value.bytes O t) else none) := F'
  (try simp only [List.cons_append, List.nil_append] at N')
  (try dsimp only); (try k_fold)
  k_steps
  refine comp_nest (O := O) (tO := t) (n2 := 8) (f := fun c k => ((c.toNat : Int).fdiv (2 ^ (7 - k))).fmod 2) rfl rfl (by assumption) (by assumption) (by omega) (by with_unfolding_all rfl) (fun _ => rfl) (fun _ => rfl) rfl (by decide) (by rfl) (by rfl) (by decide) (by decide) (by decide) (fun _ => rfl) (fun _ _ => rfl) ?h1 ?h2 ?h3 ?h4
  case h1 => k_steps
  case h2 =>
    intro I oI C oC D ys h9 tk9 E9 m₂ hn F9 N9
    k_steps
    rename_i hR F8 N8 _
    exact ElEnd.intro F8 N8 (fun p hp => hp) ⟨_, _, _, _, rfl, hR⟩
  case h3 =>
    intro I2 oI2 C oC D ys I oI h9 tk9 E9 m₂ c k t9 u9 hn hc hmx hk hmy F9 N9
    k_steps
    refine ElEnd.intro F9 N9 (fun p hp => hp) ?_
    have e : (7 - (k : Int)).toNat = 7 - k := by omega
    rw [e]
    exact ⟨_, rfl⟩
  case h4 =>
    intro D ys h9 tk9 hI F9 N9 below
    have hlen8 : (O.toList.flatMap fun c => (List.range 8).map fun k => ((c.toNat : Int).fdiv (2 ^ (7 - k))).fmod 2).length = 8 * O.size := by
      rw [← Array.length_toList]
      induction O.toList with
      | nil => rfl
      | cons a r ih => rw [List.flatMap_cons, List.length_append, ih]; simp only [List.length_map, List.length_range, List.length_cons]; omega
    generalize hb0 : (O.toList.flatMap fun c => (List.range 8).map fun k => ((c.toNat : Int).fdiv (2 ^ (7 - k))).fmod 2) = bits0 at hI hlen8
    replace below := allLt_of below
    simp only [AllLt, and_true] at below
    k_steps
    rename_i s1 e1 e2 e3 l3 Db wsb _ hIb lb hb8 ob Fb Nb db
    clear s1 e1 e2 e3 l3
    generalize hbits : bits0 ++ (List.replicate ((-(bits0.length : Int)).fmod 6).toNat [0]).flatten = bits at hIb
    obtain ⟨q, hq, hq12⟩ : ∃ q, bits.length = 6 * q ∧ q ≤ 12 := pad_len hlen8 hO hbits
    have hbit := PySem.Flt.Hid.mk (pad_bits hb0 hbits)
    have N5 : News s.heap L' hb8 [(Db, listOf wsb.toArray 0), (L' + 1 + 1, ob), (L' + 1, _)] := fun p hp => Nb p (by
      rcases List.mem_cons.mp hp with rfl | hp
      · exact .head _
      · exact .tail _ (.tail _ (.tail _ (.tail _ hp))))
    clear Nb
    refine comp_cell (st := 6) Fb rfl rfl (by with_unfolding_all rfl) (by with_unfolding_all rfl) (fun _ => rfl) (fun _ => rfl) rfl (by decide) (fun _ _ => rfl) (by rfl) (by rfl) ?_
    k_steps
    rename_i hR F3 N3 _
    refine ⟨_, _, q, _, _, _, _, fun i ys => i ≤ q ∧ ∃ sg : List Str, StrsAre ys sg ∧ sg = (List.range i).map (fun j => sgn bits j), rfl, F3, N3, hR, small6 (q := q) (by omega) (by omega), range6 (by omega), ⟨Nat.zero_le _, [], .nil, rfl⟩, ?jl, ?turn, ?done⟩
    case jl =>
      rintro i ys ⟨hi, sg, hsg, rfl⟩
      rw [hsg.length, List.length_map, List.length_range]
      omega
    case turn =>
      clear F3 N3 hR
      intro i ys8 I8 oI8 c8 oc8 C8 oC8 D8 h8 tk8 E8 t8 hi8 hJ8 hd8 F8 N8
      obtain ⟨place, hpl⟩ : ∃ pl : Int, 0 + (i : Int) * 6 = pl := ⟨_, rfl⟩
      rw [hpl] at hd8
      have hp0 : 0 ≤ place := by omega
      have hp6 : place + 5 < (bits.length : Int) := by omega
      replace hJ8 := PySem.Flt.Hid.mk hJ8
      iterate 14 walk1
      rename_i hR9 F9 N9 _
      refine LCg.CompSrc.range rfl F9 N9 hR9 (by decide) (by rfl) (by decide) (fun g9 => ?_)
      refine compRest_of (fun i ys => IntsAre ys ((List.range i).map fun (k : Nat) => bits.getD (place + (k : Int)).toNat 0 * 2 ^ (5 - k))) trivial ?fin ?tur 6 0 [] rfl .nil
      case tur =>
        rintro k ys7 v7 I7 oI7 C7 oC7 D7 m7 h7 tk7 E7 hk7 hJ7 ⟨t7, rfl⟩ hn7 hm7 F7 N7
        have hJ7' := PySem.Flt.Hid.mk hJ7
        clear hJ7 F9 N9 hR9
        obtain ⟨k', hk'⟩ : ∃ k' : Int, 0 + (k : Int) = k' := ⟨_, rfl⟩
        rw [hk'] at hm7
        have hk0 : 0 ≤ k' := by omega
        have hk5 : k' ≤ 5 := by omega
        k_steps
        refine PyProof.Rows.mul_int ?_ (IntMulOk.of_left (bit_small (getD_bit hbit.out _)))
        refine ElEnd.intro F7 N7 (fun p hp => hp) ?_
        rw [List.range_succ, List.map_append]
        have e1 : k' = (k : Int) := by omega
        have e2 : (5 - k').toNat = 5 - k := by omega
        rw [e2, e1]
        exact hJ7'.out.append (.cons _ _ .nil)
      case fin =>
        intro ys7 hJ7
        generalize hsx : ((List.range 6).map fun (k : Nat) => bits.getD (place + (k : Int)).toNat 0 * 2 ^ (5 - k)) = sx at hJ7
        have hsl : sx.length = 6 := by rw [← hsx]; rfl
        have hsum : 0 ≤ sx.sum ∧ sx.sum < 64 := by rw [← hsx]; exact six_sum hbit.out
        intro D7 h7 tk7 F7 N7 o7
        simp only [LCg.Off1, and_true] at o7
        k_steps
        rename_i h6 tk6 t6 F6 N6 _
        refine ElEnd.intro F6 N6 (fun p hp => .tail _ hp) ?_
        obtain ⟨_, sg, hsg, rfl⟩ := hJ8.out
        refine ⟨hi8, _, hsg.append' (.cons _ _ .nil), ?_⟩
        rw [List.range_succ, List.map_append]
        have e := sixAt_of (bits := bits) hpl
        rw [hsx] at e
        rw [e]
        rfl
    case done =>
      clear F3 N3 hR
      rintro D8 ys8 h8 tk8 ⟨_, sg, hsg, hsq⟩ F8 N8 lt8
      have hsl : sg.length = q := by rw [hsq]; simp
      have hsw : (sg.map (·.length)).sum = q := by rw [hsq]; exact sgn_weight bits q
      have hs0 : (Str.ofString "").length = 0 := rfl
      k_steps
      refine join_list (D := D8) (items := ys8.toArray) (News.isList N8 (.head _)) hsg (by rw [hs0, hsw]; omega) ?_
      intro t9 k9
      have hjl : (Txt.join (Str.ofString "") sg).length = q := by
        show (Builtin.Str.glued _ _).length = q
        rw [size_glued, hsw, hs0]
        omega
      k_steps
      refine leaveP F8 fun st => ?_
      have e : Txt.join (Str.ofString "") sg ++ Txt.mul (Str.ofString "=") ((-(sg.length : Int)).fmod 4) = toldT O.toList := by
        have e1 : bitsP O.toList = bits := by rw [← hbits, ← hb0]; rfl
        have e2 : signsOf O.toList = sg := by
          rw [hsq]; unfold signsOf; rw [e1, hq]
          congr 2
          omega
        unfold toldT
        rw [e2]
      rw [e]
      exact h _ _ _ st
end Mine

/-! Enc -/
namespace Mine
open PySem PySem.W PySem.Calls PyProof.Rows

local macro_rules | `(tactic| walk_at "call type:type") => `(tactic| (k_here; first | refine call_type_of (typeIs_bytes _ _ _) (by decide +kernel) ?_ | refine call_type_of (typeIs_bool _ _) (by decide +kernel) ?_))

local macro_rules | `(tactic| walk_at "binaryOp BitOr int int") => `(tactic| (k_here; refine or8_int (by omega) (by omega) ?_))
local macro_rules | `(tactic| walk_at "binaryOp BitAnd int int") => `(tactic| (k_here; first | refine and63_int ?_ | refine and65535_int ?_ | refine and3_int ?_ | refine and15_int ?_))
local macro_rules | `(tactic| walk_at "subscriptTail") => `(tactic| (k_here; (with_reducible show wpAny _ _ (subscriptTail _ _ (Value.bytes _ _) (Value.int _ _)) _ _ _); k_dflt (refine' item64 ?i0 ?i1 ?_ ?i3 ?i4); (case i3 => with_unfolding_all rfl); (case i4 => (intro _; with_unfolding_all rfl)); (case i0 => first | omega | (show 0 ≤ _ % _ * 16; omega) | (show 0 ≤ _ % _ * 4; omega)); (case i1 => first | omega | (show _ % 4 * 16 < 64; omega) | (show _ % 16 * 4 < 64; omega))))
local macro_rules | `(tactic| walk_at "call builtin:list.append") => `(tactic| (k_here; k_dflt (show wpAny _ _ (call (Value.builtin "list.append") [Value.ref _, Value.int _ _]) _ _ _); k_dflt (refine' append_ints ?a1 ?a2 ?a3 ?a4 ?a5 ?_; (case a1 => k_asm); (case a2 => k_asm); (case a3 => k_updF); (case a4 => assumption); (case a5 => ((try simp only [List.length_append, List.length_cons, List.length_nil]); omega))); intro h' vs' hI' F' N'; (try dsimp only at N'); (try k_sweep)))

theorem b2a_call : ∀ {w : World} {sc : Scope} {s : Shared} {h₀ base : Heap} {L L2 fa fb : Addr} {cd cd2 : Value} {sc2 : Scope} {q2 : Str} {m mg mb : Str → Option Value} {mean : ExcName → Option Value} {E : Value → Shared → Prop} {Q : Value → Shared → Prop} {O : Array UInt8} {t : Tok},
    sc2.kind = .function → Below (lawA sc L fa cd) base [lawEnv sc L fa cd] h₀ → Fr h₀ L2 s.heap m → (hd.heap_39 w.params).In h₀ → theTop mean mg mb h₀ → O.size ≤ 9 →
    (∀ t h' tk, s.heap.StaysIn h' → Q (.bytes (byteArr (encTail (encRun O.toList))) t) { s with heap := h', toks := tk }) →
    wpAny (model Challenge.rw_mq0046_01.row.prog w) ((lawA sc L fa cd).deeper (envOf q2 sc2 L2 fb cd2)) (call (.ref 43) [.bytes O t] [(Str.ofString "newline", .bool false)]) Q E s := by
  w_on
  k_fill
  intro w sc s h₀ base L L2 fa fb cd cd2 sc2 q2 m mg mb mean E Q O t hsc B F X T hO h
  w_top on
  k_dflt ((refine wpAny_call ?_; (refine' code_pure (binds := [(Str.ofString "data", Value.bytes O t), (Str.ofString "newline", Value.bool false)]) ?k1 ?k2 ?k3 ?k5 ?kA ?kF ?kK ?k6 ?k7 ?k8 ?k9 ?kB ?_ ?c2 ?c3 ?c4 ?c5; (case kA => exact rfl); (case kF => exact rfl); (case kK => first | exact rfl | assumption); (case k1 => k_asm); (case k2 => k_asm); (case k3 => k_asm); (case k5 => k_asm); (case k6 => k_is); (case k7 => k_is); (case k8 => k_room); (case k9 => first | exact BindsTo.of_eq rfl | exact binds_K (by k_in) rfl (by k_is) rfl rfl rfl); (case c5 => decide); (case kB => exact locs rfl); (case c2 => exact rfl); (case c3 => exact rfl); (case c4 => exact rfl); k_whole)))
  clear B F X T
  intro L' h' F' N' B' X' T'
  (try dsimp only); (try k_fold)
  k_steps
  rename_i l _ _ _ _ _ F4 N4
  refine bytes_inv (fun i m₁ news₁ => m₁ (Str.ofString "out") = some (Value.ref l) ∧ m₁ (Str.ofString "newline") = some (Value.bool false) ∧
    ∃ lc lb out t1 t2 us c, m₁ (Str.ofString "leftchar") = some (Value.int lc t1) ∧ m₁ (Str.ofString "leftbits") = some (Value.int lb t2) ∧ news₁ = [(l, listOf (List.toArray us) c)] ∧ IntsAre us out ∧
      0 ≤ lc ∧ lc < 65536 ∧ (lb = 0 ∨ lb = 2 ∨ lb = 4) ∧ out.length ≤ 2 * i ∧ encRun (O.toList.take i) = (lc, lb, out) ∧ ∀ z ∈ out, 0 ≤ z ∧ z < 256) rfl F4 N4 ?j0 ?turn ?done
  case j0 => exact ⟨rfl, rfl, 0, 0, [], _, _, [], 0, rfl, rfl, rfl, .nil, by decide, by decide, .inl rfl, by simp, rfl, by simp⟩
  case turn =>
    clear F4 N4
    rintro I oI i c m₁ news₁ t5 h5 tk5 hc hI ⟨hmo, hmn, lc, lb, out, t1, t2, us, n5, hlc, hlb, rfl, hus, hc0, hc1, hb, hlen, henc, hoct⟩ hne F5 N5
    have F6 : Fr s.heap L' h5 (fun y => if y = Str.ofString "b" then some (Value.int (c.toNat : Int) t5) else if y = Str.ofString "leftchar" then some (Value.int lc t1) else if y = Str.ofString "leftbits" then some (Value.int lb t2) else
        if y = Str.ofString "out" then some (Value.ref l) else if y = Str.ofString "newline" then some (Value.bool false) else m₁ y) :=
      fr_ext F5 (by
        intro z
        by_cases e1 : z = Str.ofString "b"; · simp [e1]
        by_cases e2 : z = Str.ofString "leftchar"; · subst e2; simp only [e1, if_false, if_true]; exact hlc
        by_cases e3 : z = Str.ofString "leftbits"; · subst e3; simp only [e1, e2, if_false, if_true]; exact hlb
        by_cases e4 : z = Str.ofString "out"; · subst e4; simp only [e1, e2, e3, if_false, if_true]; exact hmo
        by_cases e5 : z = Str.ofString "newline"; · subst e5; simp only [e1, e2, e3, e4, if_false, if_true]; exact hmn
        simp only [e1, e2, e3, e4, e5, if_false])
    clear F5 hmo hmn hlc hlb
    have lI : @LT.lt Nat _ l I := hI _ (.head _)
    clear hI hne
    have hul := hus.length
    have hi : i < O.size := by
      rcases Nat.lt_or_ge i O.size with h | h
      · exact h
      · rw [Array.getElem?_eq_none h] at hc; cases hc
    obtain ⟨v, hv, hv0, hv1⟩ : ∃ v : Int, (c.toNat : Int) = v ∧ 0 ≤ v ∧ v < 256 := ⟨_, rfl, by omega, by have := c.toNat_lt; omega⟩
    rw [hv] at F6
    replace henc := PySem.Flt.Hid.mk henc
    replace hoct := PySem.Flt.Hid.mk hoct
    have nlI : ∀ p ∈ ([(l, listOf #[] 0)] : List (Addr × Obj)), p.1 ≠ I := fun p hp => by rw [List.mem_singleton.mp hp]; exact Nat.ne_of_lt lI
    have nl : l ≠ I := nlI _ (.head _)
    clear nlI
    rcases hb with rfl | rfl | rfl
    · k_steps
      rename IntsAre _ (out ++ [_]) => hI9
      rename Fr _ _ _ _ => F9
      rename News _ _ _ _ => N9
      refine turn_next F9 N9 [(l, listOf _ _)] (fun p hp => hp) (fun p hp => by rw [List.mem_singleton.mp hp]; exact nl) ⟨rfl, rfl, _, _, _, _, _, _, _, rfl, rfl, rfl, hI9, by omega, by omega, .inr (.inl rfl), ?_, ?_, octets_snoc hoct.out⟩
      · simp only [List.length_append, List.length_cons, List.length_nil]; omega
      · rw [take_snoc hc]; exact enc_0 henc.out hv
    · k_steps
      rename IntsAre _ (out ++ [_]) => hI9
      rename Fr _ _ _ _ => F9
      rename News _ _ _ _ => N9
      refine turn_next F9 N9 [(l, listOf _ _)] (fun p hp => hp) (fun p hp => by rw [List.mem_singleton.mp hp]; exact nl) ⟨rfl, rfl, _, _, _, _, _, _, _, rfl, rfl, rfl, hI9, by omega, by omega, .inr (.inr rfl), ?_, ?_, octets_snoc hoct.out⟩
      · simp only [List.length_append, List.length_cons, List.length_nil]; omega
      · rw [take_snoc hc]; exact enc_2 henc.out hv
    · k_steps
      rename IntsAre _ (out ++ [_] ++ [_]) => hI9
      rename Fr _ _ _ _ => F9
      rename News _ _ _ _ => N9
      refine turn_next F9 N9 [(l, listOf _ _)] (fun p hp => hp) (fun p hp => by rw [List.mem_singleton.mp hp]; exact nl) ⟨rfl, rfl, _, _, _, _, _, _, _, rfl, rfl, rfl, hI9, by omega, by omega, .inl rfl, ?_, ?_, octets_snoc (octets_snoc hoct.out)⟩
      · simp only [List.length_append, List.length_cons, List.length_nil]; omega
      · rw [take_snoc hc]; exact enc_4 henc.out hv
  case done =>
    clear F4 N4
    rintro m₁ news₁ h5 tk5 ⟨hmo, hmn, lc, lb, out, t1, t2, us, n5, hlc, hlb, rfl, hus, hc0, hc1, hb, hlen, henc, hoct⟩ F5 N5
    have F6 : Fr s.heap L' h5 (fun y => if y = Str.ofString "leftchar" then some (Value.int lc t1) else if y = Str.ofString "leftbits" then some (Value.int lb t2) else
        if y = Str.ofString "out" then some (Value.ref l) else if y = Str.ofString "newline" then some (Value.bool false) else m₁ y) :=
      fr_ext F5 (by
        intro z
        by_cases e2 : z = Str.ofString "leftchar"; · subst e2; simp only [if_true]; exact hlc
        by_cases e3 : z = Str.ofString "leftbits"; · subst e3; simp only [e2, if_false, if_true]; exact hlb
        by_cases e4 : z = Str.ofString "out"; · subst e4; simp only [e2, e3, if_false, if_true]; exact hmo
        by_cases e5 : z = Str.ofString "newline"; · subst e5; simp only [e2, e3, e4, if_false, if_true]; exact hmn
        simp only [e2, e3, e4, e5, if_false])
    clear F5 hmo hmn hlc hlb
    have hul := hus.length
    rw [← Array.length_toList, List.take_length] at henc
    replace henc := PySem.Flt.Hid.mk henc
    replace hoct := PySem.Flt.Hid.mk hoct
    rcases hb with rfl | rfl | rfl
    · replace hoct := hoct.out
      k_steps
      rename Fr _ _ _ _ => F9
      refine leaveP F9 fun st => ?_
      have e : out = encTail (encRun O.toList) := by rw [henc.out]; rfl
      rw [e]
      exact h _ _ _ st
    · k_steps
      rename IntsAre _ _ => hI9
      have hz := octets_61 (octets_61 (octets_snoc (i := lc % 4 * 2 ^ Int.toNat 4) hoct.out))
      k_steps
      rename Fr _ _ _ _ => F9
      refine leaveP F9 fun st => ?_
      have e : out ++ [b64At (lc % 4 * 2 ^ Int.toNat 4)] ++ [61] ++ [61] = encTail (encRun O.toList) := by rw [henc.out]; simp [encTail]
      rw [e]
      exact h _ _ _ st
    · k_steps
      rename IntsAre _ _ => hI9
      have hz := octets_61 (octets_snoc (i := lc % 16 * 2 ^ Int.toNat 2) hoct.out)
      k_steps
      rename Fr _ _ _ _ => F9
      refine leaveP F9 fun st => ?_
      have e : out ++ [b64At (lc % 16 * 2 ^ Int.toNat 2)] ++ [61] = encTail (encRun O.toList) := by rw [henc.out]; simp [encTail]
      rw [e]
      exact h _ _ _ st
end Mine

/-! Tr -/
namespace Mine
open PySem PySem.W PySem.Calls PyProof.Rows
theorem slot_translate : Slot "bytes" "translate" "bytes.translate" :=
  .of (owner := "bytes") (n := "translate") (by rw [typeLookup_type, builtinLookup_eq_fast]; kernel_rfl) (by decide +kernel) (by decide +kernel) (by decide +kernel)
    (by first | exact .inl (by decide +kernel) | exact .inr (by decide +kernel)) (by rw [isSubtype_type]; kernel_rfl)
theorem type_translate : typeOf (.builtin "bytes.translate") = pure (.type "method_descriptor") := by show builtinType _ = _; rw [builtinType_eq_fast]; kernel_rfl
theorem entry_translate : entryFor table "bytes.translate" = some Builtin.«bytes.translate» := entryFor_of_tree (by kernel_rfl)
theorem args_translate (a b : Value) : argsOk "bytes.translate" ⟨[a, b], []⟩ := by unfold argsOk; kernel_rfl
def transl (tab b : Array UInt8) : Array UInt8 := b.map fun c => tab.getD c.toNat c
theorem meets_translate {b tab : Array UInt8} {t u : Tok} (h256 : tab.size = 256) (hb : b.size ≤ 1000) :
    Meets (Builtin.«bytes.translate» ⟨[.bytes b t, .bytes tab u], []⟩) (fun _ R s => ∀ t' k, R (.ok (.ret (.bytes (transl tab b) t'))) { s with toks := k }) := by
  refine .of_wp fun prog w A R s h => ?_
  show wpAny _ _ (Builtin.Bytes.bytesLike _ (.bytes tab u) >>= fun r => _) _ _ s
  refine wpAny_bind (wpAny_of_eq KBd.like_eq ?_)
  have e : (tab.size != 256) = false := by rw [h256]; rfl
  simp only [e, Bool.false_eq_true, if_false]
  refine wpAny_bind (wpAny_pure ?_)
  show wpAny _ _ (pure #[] >>= fun delete => Builtin.Bytes.payload (Value.bytes b t) >>= fun b_1 => _) _ _ s
  refine wpAny_bind (wpAny_pure ?_)
  refine wpAny_bind ?_
  unfold Builtin.Bytes.payload Builtin.Bytes.payload?
  refine wpAny_bind (wpAny_pure (wpAny_pure ?_))
  have hf : Array.filter (fun x => !(#[] : Array UInt8).contains x) b = b := by simp
  rw [hf]
  have hm : (Array.map (fun (c : UInt8) => tab.getD c.toNat c) b) = transl tab b := rfl
  simp only [hm]
  have hsl : sizeLine = 16777216 := sizeLine_eq
  have hsz : (transl tab b).size ≤ sizeLine := by unfold transl; rw [Array.size_map, hsl]; omega
  split
  · rename_i q
    have q' : transl tab b = b := by simpa using q
    rw [q'] at h
    refine wpAny_bind (wpAny_rule (wpAny_bind ?_))
    unfold Builtin.Bytes.Kind.same
    refine wpAny_bind (wpAny_typeOf (typeIs_bytes _ _ _) ?_)
    exact wpAny_pure (wpAny_pure ⟨_, rfl, h t s.toks⟩)
  · refine wpAny_bind ?_
    show wpAny _ _ (mkBytes (transl tab b)) _ _ s
    exact wpAny_mkBytes (wpAny_pure ⟨_, rfl, h _ _⟩) hsz
section
variable {prog : Program} {w : World} {A : Around} {E : Value → Shared → Prop} {s : Shared} {b tab : Array UInt8} {t u : Tok}
theorem method_translate {M : Model} {pl : Sem Bool} {Q : Value × List Value → Shared → Prop} (h : Q (.builtin "bytes.translate", [.bytes b t]) s) : wpAny M A (getMethod (.bytes b t) (Str.ofString "translate") pl) Q E s := by
  with_reducible exact KBd.method_of (.bytes b t) (typeIs_bytes _ _ _) slot_translate type_translate KBd.noRef h
theorem translate_call {Q : Value → Shared → Prop} (h256 : tab.size = 256) (hb : b.size ≤ 1000) (h : ∀ t' k, Q (.bytes (transl tab b) t') { s with toks := k }) :
    wpAny (model prog w) A (call (.builtin "bytes.translate") [.bytes b t, .bytes tab u]) Q E s :=
  call_meets slot_translate (typeIs_bytes _ _ _) entry_translate (args_translate _ _) (meets_translate h256 hb) h
end

/-- the table that maketrans makes of + / and ' * -/
def trTab : Array UInt8 := (([43, 47] : List UInt8).zip ([39, 42] : List UInt8)).foldl (fun t (f, x) => t.setIfInBounds f.toNat x) ((Array.range 256).map (·.toUInt8))
theorem trTab_size : trTab.size = 256 := by decide +kernel
theorem kind_mk : builtinKind "bytes.maketrans" = some .staticMethod := by decide +kernel
theorem split_mk : splitId "bytes.maketrans" = some ("bytes", "maketrans") := by decide +kernel
theorem plain_mk : plainId "bytes.maketrans" = true := by decide +kernel
theorem entry_mk : entryFor table "bytes.maketrans" = some Builtin.«bytes.maketrans» := entryFor_of_tree (by kernel_rfl)
theorem args_mk (a b : Value) : argsOk "bytes.maketrans" ⟨[a, b], []⟩ := by unfold argsOk; kernel_rfl
section
variable {prog : Program} {w : World} {A : Around} {E : Value → Shared → Prop} {s : Shared} {t u : Tok} {K : Frag} {h₀ : Heap} {L : Addr} {m : PySem.Str → Option Value}
theorem run_mk {P : Fin → Shared → Prop} (h : P (.done (.ret (.bytes trTab s.toks))) { s with toks := s.toks + 1 }) :
    wpAny (model prog w) A (Builtin.«bytes.maketrans» ⟨[.bytes #[43, 47] t, .bytes #[39, 42] u], []⟩) P E s := by
  show wpAny _ _ (Builtin.Bytes.bytesLike _ (.bytes #[43, 47] t) >>= fun r => _) _ _ s
  refine wpAny_bind (wpAny_of_eq KBd.like_eq ?_)
  refine wpAny_bind (wpAny_of_eq KBd.like_eq ?_)
  show wpAny _ _ (mkBytes trTab >>= fun v => ret v) _ _ s
  exact wpAny_bind (wpAny_mkBytes (wpAny_pure h) (by rw [trTab_size, sizeLine_eq]; decide))
theorem maketrans_call {Q : Value → Shared → Prop} (h : Q (.bytes trTab s.toks) { s with toks := s.toks + 1 }) :
    wpAny (model prog w) A (call (.builtin "bytes.maketrans") [.bytes #[43, 47] t, .bytes #[39, 42] u]) Q E s := by
  refine wpAny_call (codeAny_call_builtin plain_mk entry_mk ?_)
  have ok := args_mk (.bytes #[43, 47] t) (.bytes #[39, 42] u)
  simp only [checkBuiltinCall, kind_mk, split_mk]
  cases hsig : Manifest.signature? "bytes.maketrans" with
  | none => exact wpAny_pure (run_mk h)
  | some sig =>
    simp only [argsOk, hsig] at ok
    have h2 : Bind.checkArgs "bytes.maketrans" sig ⟨[.bytes #[43, 47] t, .bytes #[39, 42] u], []⟩ = pure () := ok
    show wpAny _ _ (Bind.checkArgs "bytes.maketrans" sig ⟨[.bytes #[43, 47] t, .bytes #[39, 42] u], []⟩) _ _ s
    rw [h2]; exact wpAny_pure (run_mk h)
theorem getm_mk {pl : Sem Bool} {Q : Value × List Value → Shared → Prop} (F : Fr h₀ L s.heap m) (X₀ : K.In h₀)
    (e : findCls K (.type "bytes") (.type "type") (PySem.Str.ofString "maketrans") = some (.val (.builtin "bytes.maketrans")))
    (h : Q (.builtin "bytes.maketrans", []) { s with toks := s.toks + 1 }) :
    wpAny (model prog w) A (getMethod (.type "bytes") (PySem.Str.ofString "maketrans") pl) Q E s := by
  have X := X₀.keeps F.keep
  have hstub : opaqueClassAbove (.type "bytes") = pure none := by unfold opaqueClassAbove; dsimp only; rw [show Manifest.isStub "bytes" = false by decide +kernel]; rfl
  have ht : typeOf (.type "bytes") = pure (.type "type") := by first | rfl | kernel_rfl
  have L0 : Looks (model prog w) s.heap (typeOf (.type "bytes")) (.type "type") := Looks.of_pure ht
  have hg : findIn K (.type "type") "__getattribute__" = some (some (.builtin "type.__getattribute__")) := type_tga
  unfold getMethod specialOf
  refine wpAny_bind (wpAny_bind (L0.here ((looks_findIn X hg).here ?_)))
  dsimp only
  rw [if_pos canon_tga]
  refine wpAny_bind (wpAny_mono (Q := fun v => Q (v, [])) (E := E) ?_ (fun _ _ z => wpAny_pure z) fun _ _ z => z)
  have LO : Looks (model prog w) s.heap (opaqueClassAbove (.type "bytes")) none := Looks.of_pure hstub
  refine cls_open X LO L0 hg (looks_hook X (r := none) (by rfl)) (by show subIn K _ _ = _; rfl) e ?_
  exact wpAny_pure (by show wpAny _ _ (handedOut _) _ _ _; rw [handedOut_of (by decide +kernel)]; exact wpAny_pure h)
end
end Mine

/-! Enc2 -/
namespace Mine
open PySem PySem.W PySem.Calls PyProof.Rows
local macro_rules | `(tactic| walk_at "call ref") => `(tactic| (k_here; k_dflt (refine' b2a_call ?b1 ?b2 ?b3 ?b4 ?b5 ?b6 ?_; (case b1 => exact rfl); (case b2 => k_asm); (case b3 => k_asm); (case b4 => k_asm); (case b5 => k_asm); (case b6 => assumption)); intro t' h' tk' st'; (have F' := stays_fr st' (by assumption)); (have N' := stays_news st' (by assumption)); clear st'; (try k_sweep)))
local macro_rules | `(tactic| walk_at "getMethod bytes") => `(tactic| (k_here; k_dflt (refine method_translate ?_)))
local macro_rules | `(tactic| walk_at "call builtin:bytes.translate") => `(tactic| (k_here; k_dflt (show wpAny _ _ (call (Value.builtin "bytes.translate") [Value.bytes _ _, Value.bytes _ _]) _ _ _); k_dflt (refine' translate_call ?a1 ?a2 ?_; (case a1 => exact trTab_size); (case a2 => assumption)); intro t' k'))
local macro_rules | `(tactic| walk_at "getMethod type:bytes") => `(tactic| (k_here; k_dflt (refine' getm_mk ?g1 ?g2 ?g3 ?_; (case g1 => k_asm); (case g2 => k_asm); (case g3 => k_is))))
local macro_rules | `(tactic| walk_at "getMethod") => `(tactic| (k_here; k_dflt (refine' getm_mk ?g1 ?g2 ?g3 ?_; (case g1 => k_asm); (case g2 => k_asm); (case g3 => k_is))))
local macro_rules | `(tactic| walk_at "call builtin:bytes.maketrans") => `(tactic| (k_here; k_dflt (refine maketrans_call ?_)))

theorem enc_call : ∀ {w : World} {sc : Scope} {s : Shared} {h₀ base : Heap} {L fa : Addr} {cd : Value} {m mg mb : Str → Option Value} {mean : ExcName → Option Value} {E : Value → Shared → Prop} {Q : Value → Shared → Prop} {O : Array UInt8} {t u : Tok},
    sc.kind = .function → Below callerA base [] h₀ → Fr h₀ L s.heap m → (hd.heap_39 w.params).In h₀ → theTop mean mg mb h₀ → O.size ≤ 9 →
    (∀ t h' tk, s.heap.StaysIn h' → Q (.bytes (transl trTab (byteArr (encTail (encRun O.toList)))) t) { s with heap := h', toks := tk }) →
    wpAny (model Challenge.rw_mq0046_01.row.prog w) (lawA sc L fa cd) (call (.ref 51) [.bytes O t, .bytes #[39, 42] u]) Q E s := by
  w_on
  k_fill
  intro w sc s h₀ base L fa cd m mg mb mean E Q O t u hsc B F X T hO h
  w_top on
  k_dflt ((refine wpAny_call ?_; (refine' code_pure (binds := [(Str.ofString "s", Value.bytes O t), (Str.ofString "altchars", Value.bytes #[39, 42] u)]) ?k1 ?k2 ?k3 ?k5 ?kA ?kF ?kK ?k6 ?k7 ?k8 ?k9 ?kB ?_ ?c2 ?c3 ?c4 ?c5; (case kA => exact rfl); (case kF => exact rfl); (case kK => first | exact rfl | assumption); (case k1 => k_asm); (case k2 => k_asm); (case k3 => k_asm); (case k5 => k_asm); (case k6 => k_is); (case k7 => k_is); (case k8 => k_room); (case k9 => first | exact BindsTo.of_eq rfl | exact binds_K (by k_in) rfl (by k_is) rfl rfl rfl); (case c5 => decide); (case kB => exact locs rfl); (case c2 => exact rfl); (case c3 => exact rfl); (case c4 => exact rfl); k_whole)))
  clear B F X T
  intro L' h' F' N' B' X' T'
  (try dsimp only); (try k_fold)
  have hsz : (byteArr (encTail (encRun O.toList))).size ≤ 1000 := by
    have := encTail_len O.toList
    have e : O.toList.length = O.size := Array.length_toList
    rw [byteArr_size]
    omega
  k_steps
  rename Fr _ _ _ _ => F9
  refine leaveP F9 fun st => ?_
  exact h _ _ _ st
end Mine

/-! Dec -/
namespace Mine
open PySem PySem.W PySem.Calls PyProof.Rows
open Builtin in
theorem road_ascii {id : String} {b : Array UInt8} : _codecs.decodeRoad id b (PySem.Str.ofString "ascii") none [] = (_codecs.runDecoder id _codecs.asciiDecoder none true b 0 [] >>= fun r => mkStr ⟨r.1⟩) := by kernel_rfl
theorem args_decode2 (a b : Value) : argsOk "bytes.decode" ⟨[a, b], []⟩ := by unfold argsOk; kernel_rfl
theorem decode_entry {c : UInt8} {cs : List UInt8} {t u : Tok} : Builtin.«bytes.decode» ⟨[.bytes (c :: cs).toArray t, .str (PySem.Str.ofString "ascii") u], []⟩ =
    (mkStr (PySem.Str.ofString "utf-8") >>= fun _ => mkStr (PySem.Str.ofString "ascii") >>= fun e => mkStr (PySem.Str.ofString "bytes.decode") >>= fun d =>
    call (.builtin "_codecs.decode.text") [.bytes (c :: cs).toArray t, e, .none, d] >>= fun v => ret v) := by kernel_rfl
/-- the text of octets -/
def asText (l : List UInt8) : Str := ⟨(l.map (·.toNat)).toArray⟩
theorem forIn_steps {β : Type} (f : Nat → β → Sem (ForInStep β)) (g : Nat → β) (N : Nat) (hstep : ∀ j k, j < N → f k (g j) = pure (.yield (g (j + 1)))) :
    ∀ (l : List Nat) (j : Nat), j + l.length = N → forIn l (g j) f = (pure (g N) : Sem β)
  | [], j, h => by rw [List.forIn_nil]; simp at h; rw [h]
  | k :: r, j, h => by
    rw [List.forIn_cons, hstep j k (by simp at h; omega), pure_bind]
    exact forIn_steps f g N hstep r (j + 1) (by simp at h; omega)
theorem run_ascii {id : String} {b : Array UInt8} (hb : ∀ c ∈ b.toList, c.toNat < 128) (hz : b.size ≤ 1000) :
    Builtin._codecs.runDecoder id Builtin._codecs.asciiDecoder none true b 0 [] = pure ((b.toList.map (·.toNat)).toArray, b.size) := by
  unfold Builtin._codecs.runDecoder
  dsimp only
  rw [Std.Legacy.Range.forIn_eq_forIn_range']
  have hsl : sizeLine = 16777216 := sizeLine_eq
  refine Eq.trans (congrArg (fun (z : Sem (Nat × Array Nat × Builtin._codecs.Faults)) => z >>= fun st => pure (st.snd.fst, st.fst)) (forIn_steps _ (fun j => (j, ((b.toList.take j).map (·.toNat)).toArray, ({ held := [] } : Builtin._codecs.Faults))) b.size ?_ _ 0 ?_)) ?_
  case refine_3 =>
    rw [pure_bind]
    have e : b.toList.take b.size = b.toList := List.take_of_length_le (by rw [Array.length_toList]; exact Nat.le_refl _)
    show pure (((b.toList.take b.size).map (·.toNat)).toArray, b.size) = _
    rw [e]
  · intro j k hj
    have e0 : ¬ ((((b.toList.take j).map (·.toNat)).toArray).size > sizeLine) := by
      simp only [List.size_toArray, List.length_map, List.length_take]
      omega
    have e1 : ¬ (j ≥ b.size) := by omega
    dsimp only
    rw [if_neg e0, if_neg e1]
    have hc : (b.getD j 0).toNat < 128 := by
      have : b.getD j 0 = b.toList[j]'(by simpa using hj) := by simp [Array.getD, hj]
      rw [this]
      exact hb _ (List.getElem_mem _)
    have hf : Builtin._codecs.asciiDecoder.find true b j = .char (b.getD j 0).toNat (j + 1) := by
      unfold Builtin._codecs.asciiDecoder
      dsimp only
      rw [if_pos hc]
    rw [hf]
    show pure (ForInStep.yield (j + 1, _ ++ [(b.getD j 0).toNat].toArray, _)) = _
    congr 3
    rw [List.take_add_one]
    simp [Array.getD, hj]
  · simp
theorem meets_text_ascii {b : Array UInt8} {t t1 t2 : Tok} {d : PySem.Str} (hb : ∀ c ∈ b.toList, c.toNat < 128) (hz : b.size ≤ 1000) :
    Meets (Builtin.«_codecs.decode.text» ⟨[.bytes b t, .str (PySem.Str.ofString "ascii") t1, .none, .str d t2], []⟩) (fun _ R s => R (.ok (.ret (.str (asText b.toList) s.toks))) { s with toks := s.toks + 1 }) := by
  refine .of_wp fun prog w A R s h => ?_
  show wpAny _ _ (Builtin.Bytes.bytesLike _ (.bytes b t) >>= fun r => _) _ _ s
  refine wpAny_bind (wpAny_of_eq KBd.like_eq ?_)
  refine wpAny_bind (wpAny_of_eq KBd.held_eq ?_)
  show wpAny _ _ (Builtin._codecs.decodeRoad _ b (PySem.Str.ofString "ascii") none [] >>= fun v => _) _ _ s
  rw [road_ascii, run_ascii hb hz]
  refine wpAny_bind (wpAny_bind (wpAny_pure ?_))
  exact wpAny_mkStr (wpAny_pure ⟨_, rfl, h⟩) (by rw [sizeLine_eq]; show (List.toArray (List.map _ _)).size ≤ _; rw [List.size_toArray, List.length_map, Array.length_toList]; omega)
section
variable {prog : Program} {w : World} {A : Around} {E : Value → Shared → Prop} {s : Shared} {t u : Tok}
theorem decode_call {b : Array UInt8} {Q : Value → Shared → Prop} (h1 : 1 ≤ b.size) (hb : ∀ c ∈ b.toList, c.toNat < 128) (hz : b.size ≤ 1000) (h : ∀ t' k, Q (.str (asText b.toList) t') { s with toks := k }) :
    wpAny (model prog w) A (call (.builtin "bytes.decode") [.bytes b t, .str (PySem.Str.ofString "ascii") u]) Q E s := by
  obtain ⟨l⟩ := b
  cases l with
  | nil => simp at h1
  | cons c cs =>
    refine call_meets FB.slot_bytes_decode (typeIs_bytes _ _ _) FB.entry_bytes_decode (args_decode2 _ _) (S := fun _ R s => ∀ t' k, R (.ok (.ret (.str (asText (c :: cs)) t'))) { s with toks := k }) (.of_wp fun prog w A R s h => ?_) h
    rw [decode_entry]
    refine wpAny_bind (wpAny_mkStr ?_ (by decide))
    refine wpAny_bind (wpAny_mkStr ?_ (by decide))
    refine wpAny_bind (wpAny_mkStr ?_ (by decide))
    exact wpAny_bind (call_function_meets KBd.kind_text KBd.plain_text KBd.entry_text (KBd.args_text _ _ _ _) (meets_text_ascii hb hz) (wpAny_pure ⟨_, rfl, h _ _⟩))
theorem method_decode {M : Model} {b : Array UInt8} {pl : Sem Bool} {Q : Value × List Value → Shared → Prop} (h : Q (.builtin "bytes.decode", [.bytes b t]) s) : wpAny M A (getMethod (.bytes b t) (PySem.Str.ofString "decode") pl) Q E s := KBd.method h
end
end Mine

/-! Split -/
namespace Mine
open PySem PySem.Builtin PySem.Builtin.Str PySem.StrLaws

theorem tight_lim (s sub : Str) (hi limit lo : Nat) (hw : 1 ≤ sub.length) : ∀ (m cur : Nat) (st : Array Nat × Nat), ChainG s sub hi lo st.fst.toList st.snd → (st.fst.size < limit → ∀ k, st.snd ≤ k → k < cur → ¬ At s sub hi k) →
    ChainG s sub hi lo (forIn (List.range' cur m) st (occBody s sub hi limit)).run.fst.toList (forIn (List.range' cur m) st (occBody s sub hi limit)).run.snd ∧
    ((forIn (List.range' cur m) st (occBody s sub hi limit)).run.fst.size < limit → ∀ k, (forIn (List.range' cur m) st (occBody s sub hi limit)).run.snd ≤ k → k < cur + m → ¬ At s sub hi k)
  | 0, cur, st, h, hn => ⟨h, hn⟩
  | m + 1, cur, st, h, hn => by
    rw [List.range'_succ, List.forIn_cons]
    unfold occBody
    have e : cur + (m + 1) = (cur + 1) + m := by omega
    rw [e]
    split
    · rename_i hc
      refine tight_lim s sub hi limit lo hw m (cur + 1) _ ?_ ?_
      · show ChainG s sub hi lo (st.fst.push cur).toList (cur + sub.length)
        rw [Array.toList_push]
        exact chainG_snoc h hc.1.1.2 ⟨hc.1.2, hc.2⟩ (hn hc.1.1.1)
      · intro _ k h1 h2
        have h1' : cur + sub.length ≤ k := h1
        omega
    · rename_i hc
      refine tight_lim s sub hi limit lo hw m (cur + 1) _ h ?_
      intro hl k h1 h2 hA
      by_cases hk : k < cur
      · exact hn hl k h1 hk hA
      · have ek : k = cur := by omega
        subst ek
        exact hc ⟨⟨⟨hl, h1⟩, hA.1⟩, hA.2⟩

theorem occ_lim (x y : Str) (limit : Nat) (hw : 1 ≤ y.length) : ∃ f, ChainG x y x.length 0 (occurrences x y 0 x.length limit) f ∧ ((occurrences x y 0 x.length limit).length < limit → ∀ k, f ≤ k → ¬ At x y x.length k) := by
  rw [occ_eq]
  have key := tight_lim x y x.length limit 0 hw (x.length + 1 - 0) 0 ((#[] : Array Nat), 0) rfl (fun _ k _ h => by omega)
  refine ⟨_, key.1, fun hl k hk hA => ?_⟩
  exact key.2 (by simpa using hl) k hk (by have := hA.1; omega) hA

/-- the parts: all but the last free of the sign -/
theorem parts_shape (x : Str) (c : Nat) : ∀ (cuts : List Nat) (a f : Nat), ChainG x ⟨#[c]⟩ x.length a cuts f →
    ∃ init, partsFrom x (⟨#[c]⟩ : Str).length a cuts = init ++ [strSub x f x.length] ∧ init.length = cuts.length ∧ ∀ p ∈ init, c ∉ p.cps.toList
  | [], a, f, h => by
    have e : f = a := h
    subst e
    exact ⟨[], rfl, rfl, by simp⟩
  | d :: r, a, f, h => by
    obtain ⟨init, e, hl, hp⟩ := parts_shape x c r _ f h.2.2.2
    refine ⟨strSub x a d :: init, ?_, by simp [hl], ?_⟩
    · show strSub x a d :: partsFrom x _ _ r = _
      rw [e]; rfl
    · intro p hpm
      rcases List.mem_cons.mp hpm with rfl | hpm
      · exact part_free x c a d (by have := h.2.1.1; omega) h.2.2.1
      · exact hp p hpm

theorem splitMax_shape (x : Str) (c : Nat) (k : Int) (hk : 0 ≤ k) : ∃ init last, Txt.splitMax x ⟨#[c]⟩ k = init ++ [last] ∧ init.length ≤ k.toNat ∧ (∀ p ∈ init, c ∉ p.cps.toList) ∧
    Str.join ⟨#[c]⟩ (init ++ [last]) = x ∧ (init.length < k.toNat → c ∉ last.cps.toList) := by
  have hlim : limitOf x k = k.toNat := by unfold limitOf; rw [if_neg (by omega)]
  obtain ⟨f, hG, hn⟩ := occ_lim x ⟨#[c]⟩ k.toNat (Nat.le_refl 1)
  obtain ⟨f', hC⟩ := occ_chain x ⟨#[c]⟩ k.toNat
  have hlen := occ_length_le x ⟨#[c]⟩ 0 x.length k.toNat
  unfold Txt.splitMax
  rw [hlim]
  split
  · rename_i hc
    refine ⟨[], x, rfl, Nat.zero_le _, by simp, rfl, fun _ hm => ?_⟩
    obtain ⟨j, hj⟩ := List.getElem?_of_mem hm
    have hA := (subAt_one x c j).mpr hj
    rw [Bool.or_eq_true, decide_eq_true_eq, decide_eq_true_eq] at hc
    rcases hc with h | h
    · have := hA.1; omega
    · exact absurd hm (kind_free x c h)
  · split
    · rename_i he
      have e0 : occurrences x ⟨#[c]⟩ 0 x.length k.toNat = [] := List.isEmpty_iff.mp he
      rw [e0] at hG hn
      have ef : f = 0 := hG
      subst ef
      refine ⟨[], x, rfl, Nat.zero_le _, by simp, rfl, fun hl => ?_⟩
      rw [← sub_whole x]
      exact part_free x c 0 x.length (Nat.le_refl _) fun k' h1 _ => hn (by simpa using hl) k' h1
    · rw [partsBetween_eq]
      obtain ⟨init, e, hl, hp⟩ := parts_shape x c _ 0 f hG
      refine ⟨init, strSub x f x.length, e, by omega, hp, ?_, fun hlt => part_free x c f x.length (Nat.le_refl _) fun k' h1 _ => hn (by omega) k' h1⟩
      rw [← e, join_partsFrom x ⟨#[c]⟩ _ 0 f' hC, sub_whole]

theorem join_cons_toList (c : Nat) (p q : Str) (r : List Str) : (Str.join ⟨#[c]⟩ (p :: q :: r)).cps.toList = p.cps.toList ++ c :: (Str.join ⟨#[c]⟩ (q :: r)).cps.toList := by
  show (p ++ (⟨#[c]⟩ : Str) ++ Str.join ⟨#[c]⟩ (q :: r)).cps.toList = _
  simp [Str.cps_append]
theorem cut_unique {c : Nat} : ∀ {a a' r r' : List Nat}, c ∉ a → c ∉ a' → a ++ c :: r = a' ++ c :: r' → a = a' ∧ r = r'
  | [], [], _, _, _, _, e => ⟨rfl, by simpa using e⟩
  | [], y :: a', _, _, _, h', e => by
    have : c = y := by simpa using (List.cons.inj e).1
    exact absurd (this ▸ List.mem_cons_self) h'
  | x :: a, [], _, _, h, _, e => by
    have : x = c := by simpa using (List.cons.inj e).1
    exact absurd (this ▸ List.mem_cons_self) h
  | x :: a, y :: a', r, r', h, h', e => by
    have e1 := (List.cons.inj e).1
    have e2 := (List.cons.inj e).2
    obtain ⟨i1, i2⟩ := cut_unique (fun hm => h (List.mem_cons_of_mem _ hm)) (fun hm => h' (List.mem_cons_of_mem _ hm)) e2
    exact ⟨by rw [e1, i1], i2⟩
/-- pieces without the sign are told by their join -/
theorem join_unique {c : Nat} : ∀ (init : List Str) (last : Str) (ps : List Str), (∀ p ∈ init, c ∉ p.cps.toList) → (∀ p ∈ ps, c ∉ p.cps.toList) → ps ≠ [] → Str.join ⟨#[c]⟩ (init ++ [last]) = Str.join ⟨#[c]⟩ ps →
    ∃ rest, rest ≠ [] ∧ ps = init ++ rest ∧ last = Str.join ⟨#[c]⟩ rest
  | [], last, ps, _, _, hne, e => ⟨ps, hne, rfl, e⟩
  | p :: init, last, ps, hi, hp, hne, e => by
    obtain ⟨q, r, e1⟩ : ∃ q r, init ++ [last] = q :: r := by cases init <;> exact ⟨_, _, rfl⟩
    rw [List.cons_append, e1] at e
    have e' := congrArg (fun s : Str => s.cps.toList) e
    simp only [join_cons_toList] at e'
    cases ps with
    | nil => exact absurd rfl hne
    | cons p' ps' =>
      cases ps' with
      | nil =>
        have e2 : p.cps.toList ++ c :: (Str.join ⟨#[c]⟩ (q :: r)).cps.toList = p'.cps.toList := e'
        exact absurd (by rw [← e2]; simp) (hp p' List.mem_cons_self)
      | cons q' r' =>
        simp only [join_cons_toList] at e'
        obtain ⟨i1, i2⟩ := cut_unique (hi p List.mem_cons_self) (hp p' List.mem_cons_self) e'
        have ep : p = p' := Str.ext' (Array.toList_inj.mp i1)
        have ej : Str.join ⟨#[c]⟩ (q :: r) = Str.join ⟨#[c]⟩ (q' :: r') := Str.ext' (Array.toList_inj.mp i2)
        rw [← e1] at ej
        obtain ⟨rest, h1, h2, h3⟩ := join_unique init last (q' :: r') (fun p hm => hi p (List.mem_cons_of_mem _ hm)) (fun p hm => hp p (List.mem_cons_of_mem _ hm)) (by simp) ej
        exact ⟨rest, h1, by rw [h2, ep]; rfl, h3⟩
theorem free_single {c : Nat} {rest : List Str} (hne : rest ≠ []) (h : c ∉ (Str.join ⟨#[c]⟩ rest).cps.toList) : ∃ p, rest = [p] := by
  cases rest with
  | nil => exact absurd rfl hne
  | cons p r =>
    cases r with
    | nil => exact ⟨p, rfl⟩
    | cons q r => rw [join_cons_toList] at h; exact absurd (by simp) h
/-- s.split(c, 2) of a text joined of free pieces -/
theorem split2_few {c : Nat} {ps : List Str} (hp : ∀ p ∈ ps, c ∉ p.cps.toList) (hne : ps ≠ []) (h2 : ps.length ≤ 2) : Txt.splitMax (Str.join ⟨#[c]⟩ ps) ⟨#[c]⟩ 2 = ps := by
  obtain ⟨init, last, e, hl, hi, hj, hf⟩ := splitMax_shape (Str.join ⟨#[c]⟩ ps) c 2 (by decide)
  obtain ⟨rest, h1, h3, h4⟩ := join_unique init last ps hi hp hne hj
  have hlt : init.length < 2 := by
    have e1 := congrArg List.length h3
    rw [List.length_append] at e1
    have : 1 ≤ rest.length := List.length_pos_iff.mpr h1
    omega
  obtain ⟨p, hr⟩ := free_single h1 (by rw [← h4]; exact hf hlt)
  rw [e, h3, h4, hr]; rfl
theorem split2_many {c : Nat} {p q : Str} {r : List Str} (hp : ∀ z ∈ p :: q :: r, c ∉ z.cps.toList) (hne : r ≠ []) : Txt.splitMax (Str.join ⟨#[c]⟩ (p :: q :: r)) ⟨#[c]⟩ 2 = [p, q, Str.join ⟨#[c]⟩ r] := by
  obtain ⟨init, last, e, hl, hi, hj, hf⟩ := splitMax_shape (Str.join ⟨#[c]⟩ (p :: q :: r)) c 2 (by decide)
  obtain ⟨rest, h1, h3, h4⟩ := join_unique init last (p :: q :: r) hi hp (by simp) hj
  have h2 : init.length = 2 := by
    rcases Nat.lt_or_ge init.length 2 with hlt | hge
    · obtain ⟨z, hr⟩ := free_single h1 (by rw [← h4]; exact hf hlt)
      have e1 := congrArg List.length h3
      rw [List.length_append, hr] at e1
      have : 1 ≤ r.length := List.length_pos_iff.mpr hne
      simp only [List.length_cons, List.length_nil] at e1
      omega
    · have : init.length ≤ 2 := hl
      omega
  match init, h2 with
  | [a, b], _ =>
    have e1 : p = a := (List.cons.inj h3).1
    have e2 : q = b := (List.cons.inj (List.cons.inj h3).2).1
    have e3 : r = rest := (List.cons.inj (List.cons.inj h3).2).2
    rw [e, e1, e2, e3, h4]; rfl

theorem tick_eq : Str.ofString "'" = (⟨#[39]⟩ : Str) := by decide +kernel
theorem splitMax_le (x : Str) : (Txt.splitMax x (Str.ofString "'") 2).length ≤ 3 := by
  rw [tick_eq]
  obtain ⟨init, last, e, hl, _⟩ := splitMax_shape x 39 2 (by decide)
  rw [e, List.length_append]
  have : init.length ≤ 2 := hl
  simp only [List.length_cons, List.length_nil]; omega
end Mine
namespace Mine
open PySem PySem.W PySem.Calls PyProof.Rows
section
variable {prog : Program} {w : World} {A : Around} {E : Value → Shared → Prop} {s : Shared} {x y : Str} {t u v : Tok} {k : Int} {h₀ : Heap} {L : Addr} {m : Str → Option Value} {news : List (Addr × Obj)} {Q : Value → Shared → Prop}
theorem split2_call (F : Fr h₀ L s.heap m) (N : News h₀ L s.heap news) (hy : (y.length == 0) = false) (hk : (decide (k < -(2 ^ 63 : Int)) || decide (k ≥ 2 ^ 63)) = false) (hz : x.length ≤ 1000)
    (h : ∀ D vs h' tk, StrsAre vs (Txt.splitMax x y k) → Fr h₀ L h' m → News h₀ L h' ((D, listOf (List.toArray vs) 0) :: news) → (∀ p ∈ news, p.1 < D) → Q (.ref D) { s with heap := h', toks := tk }) :
    wpAny (model prog w) A (call (.builtin "str.split") [.str x t, .str y u, .int k v]) Q E s :=
  splitN2A F N hy hk (fun l h' tk e a _ _ F' N' => h _ _ h' tk (e ▸ a) F' N' fun p hp => Heap.lt_size (N p hp).1) (by rw [sizeLine_eq]; omega)
theorem split1_call (F : Fr h₀ L s.heap m) (N : News h₀ L s.heap news) (hy : (y.length == 0) = false) (hz : x.length ≤ 1000)
    (h : ∀ D vs h' tk, StrsAre vs (Txt.split x y) → Fr h₀ L h' m → News h₀ L h' ((D, listOf (List.toArray vs) 0) :: news) → (∀ p ∈ news, p.1 < D) → Q (.ref D) { s with heap := h', toks := tk }) :
    wpAny (model prog w) A (call (.builtin "str.split") [.str x t, .str y u]) Q E s :=
  KSpl.split1 F N hy (fun D l h' k e a F' N' lt => h D _ h' k (e ▸ a) F' N' lt) (by rw [sizeLine_eq]; omega)
end
end Mine

/-! Rfc -/
namespace Mine
open PySem PySem.W PySem.Calls PyProof.Rows
local macro_rules | `(tactic| walk_at "call builtin:str.split") => `(tactic| (k_here; k_dflt (show wpAny _ _ (call (Value.builtin "str.split") [Value.str _ _, Value.str _ _, Value.int _ _]) _ _ _); k_dflt (refine' split2_call ?a1 ?a2 ?a3 ?a4 ?a5 ?_; (case a1 => k_asm); (case a2 => k_asm); (case a3 => decide); (case a4 => decide); (case a5 => assumption)); intro D' vs' h' tk' a' F' N' l1; (try k_lt l1); (try k_sweep)))

theorem rfc_call : ∀ {w : World} {sc : Scope} {s : Shared} {h₀ base : Heap} {L fa : Addr} {cd : Value} {m mg mb : Str → Option Value} {mean : ExcName → Option Value} {E : Value → Shared → Prop} {Q : Value → Shared → Prop} {T : Str} {t : Tok},
    sc.kind = .function → Below callerA base [] h₀ → Fr h₀ L s.heap m → (hd.heap_39 w.params).In h₀ → theTop mean mg mb h₀ → T.length ≤ 1000 →
    ((Txt.splitMax T (Str.ofString "'") 2).length ≤ 2 → ∀ D n t' h' tk, s.heap.StaysIn h' → s.heap.get? D = none → h'.get? D = some { cls := .type "tuple", data := .seq #[.none, .none, .str T t'] n } → Q (.ref D) { s with heap := h', toks := tk }) →
    (2 < (Txt.splitMax T (Str.ofString "'") 2).length → ∀ D vs n h' tk, StrsAre vs (Txt.splitMax T (Str.ofString "'") 2) → s.heap.StaysIn h' → s.heap.get? D = none → h'.get? D = some (listOf (List.toArray vs) n) → Q (.ref D) { s with heap := h', toks := tk }) →
    wpAny (model Challenge.rw_mq0046_01.row.prog w) (lawA sc L fa cd) (call (.ref 58) [.str T t]) Q E s := by
  w_on
  k_fill
  intro w sc s h₀ base L fa cd m mg mb mean E Q T t hsc B F X Tp hT h1 h2
  w_top on
  k_dflt ((refine wpAny_call ?_; (refine' code_pure (binds := [(Str.ofString "s", Value.str T t)]) ?k1 ?k2 ?k3 ?k5 ?kA ?kF ?kK ?k6 ?k7 ?k8 ?k9 ?kB ?_ ?c2 ?c3 ?c4 ?c5; (case kA => exact rfl); (case kF => exact rfl); (case kK => first | exact rfl | assumption); (case k1 => k_asm); (case k2 => k_asm); (case k3 => k_asm); (case k5 => k_asm); (case k6 => k_is); (case k7 => k_is); (case k8 => k_room); (case k9 => first | exact BindsTo.of_eq rfl | exact binds_K (by k_in) rfl (by k_is) rfl rfl rfl); (case c5 => decide); (case kB => exact locs rfl); (case c2 => exact rfl); (case c3 => exact rfl); (case c4 => exact rfl); k_whole)))
  clear B F X Tp
  intro L' h' F' N' B' X' T'
  (try dsimp only); (try k_fold)
  have hsl := splitMax_le T
  k_steps
  · rename (_ ≤ (2 : Int)) => hle
    rename Fr _ _ _ _ => F9
    rename News _ _ _ _ => N9
    refine leaveP F9 fun st => ?_
    exact h1 (by omega) _ _ _ _ _ st (N9 _ (.head _)).2.2 (N9 _ (.head _)).1
  · rename (¬ (_ ≤ (2 : Int))) => hle
    rename Fr _ _ _ _ => F9
    rename News _ _ _ _ => N9
    rename StrsAre _ _ => hs9
    refine leaveP F9 fun st => ?_
    exact h2 (by omega) _ _ _ _ _ hs9 st (N9 _ (.head _)).2.2 (N9 _ (.head _)).1
end Mine

/-! Plain2 -/
namespace Mine
open PySem PySem.W PySem.Calls PyProof.Rows

/-- what the encoder writes, three octets at a time -/
def encE : List UInt8 → List Int
  | [] => []
  | [a] => [b64At ((a.toNat : Int) / 4), b64At ((a.toNat : Int) % 4 * 16), 61, 61]
  | [a, b] => [b64At ((a.toNat : Int) / 4), b64At ((a.toNat : Int) % 4 * 16 + (b.toNat : Int) / 16), b64At ((b.toNat : Int) % 16 * 4), 61]
  | a :: b :: c :: r => b64At ((a.toNat : Int) / 4) :: b64At ((a.toNat : Int) % 4 * 16 + (b.toNat : Int) / 16) :: b64At ((b.toNat : Int) % 16 * 4 + (c.toNat : Int) / 64) :: b64At ((c.toNat : Int) % 64) :: encE r

theorem enc_run : ∀ (l : List UInt8) (lc : Int) (out : List Int), encTail (l.foldl (fun st c => encStep st (c.toNat : Int)) (lc, 0, out)) = out ++ encE l
  | [], lc, out => by simp [encTail, encE]
  | [a], lc, out => by
    have ha := a.toNat_lt
    simp only [List.foldl_cons, List.foldl_nil, encStep, encTail, if_true, encE]
    have e1 : (lc * 256 + (a.toNat : Int)) % 65536 / 4 % 64 = (a.toNat : Int) / 4 := by omega
    have e2 : (lc * 256 + (a.toNat : Int)) % 65536 % 4 * 16 = (a.toNat : Int) % 4 * 16 := by omega
    rw [e1, e2, List.append_assoc]; rfl
  | [a, b], lc, out => by
    have ha := a.toNat_lt
    have hb := b.toNat_lt
    have n20 : ¬ ((2 : Int) = 0) := by decide
    have n42 : ¬ ((4 : Int) = 2) := by decide
    have n40 : ¬ ((4 : Int) = 0) := by decide
    simp only [List.foldl_cons, List.foldl_nil, encStep, encTail, if_true, n20, n42, n40, if_false, encE]
    have e1 : (lc * 256 + (a.toNat : Int)) % 65536 / 4 % 64 = (a.toNat : Int) / 4 := by omega
    have e2 : ((lc * 256 + (a.toNat : Int)) % 65536 * 256 + (b.toNat : Int)) % 65536 / 16 % 64 = (a.toNat : Int) % 4 * 16 + (b.toNat : Int) / 16 := by omega
    have e3 : ((lc * 256 + (a.toNat : Int)) % 65536 * 256 + (b.toNat : Int)) % 65536 % 16 * 4 = (b.toNat : Int) % 16 * 4 := by omega
    rw [e1, e2, e3, List.append_assoc, List.append_assoc]; rfl
  | a :: b :: c :: r, lc, out => by
    have ha := a.toNat_lt
    have hb := b.toNat_lt
    have hc := c.toNat_lt
    have n20 : ¬ ((2 : Int) = 0) := by decide
    have n42 : ¬ ((4 : Int) = 2) := by decide
    have n40 : ¬ ((4 : Int) = 0) := by decide
    simp only [List.foldl_cons]
    have e1 : (lc * 256 + (a.toNat : Int)) % 65536 / 4 % 64 = (a.toNat : Int) / 4 := by omega
    have e2 : ((lc * 256 + (a.toNat : Int)) % 65536 * 256 + (b.toNat : Int)) % 65536 / 16 % 64 = (a.toNat : Int) % 4 * 16 + (b.toNat : Int) / 16 := by omega
    have e3 : (((lc * 256 + (a.toNat : Int)) % 65536 * 256 + (b.toNat : Int)) % 65536 * 256 + (c.toNat : Int)) % 65536 / 64 % 64 = (b.toNat : Int) % 16 * 4 + (c.toNat : Int) / 64 := by omega
    have e4 : (((lc * 256 + (a.toNat : Int)) % 65536 * 256 + (b.toNat : Int)) % 65536 * 256 + (c.toNat : Int)) % 65536 % 64 = (c.toNat : Int) % 64 := by omega
    have key : encStep (encStep (encStep (lc, 0, out) (a.toNat : Int)) (b.toNat : Int)) (c.toNat : Int) = ((((lc * 256 + (a.toNat : Int)) % 65536 * 256 + (b.toNat : Int)) % 65536 * 256 + (c.toNat : Int)) % 65536, 0,
        out ++ [b64At ((a.toNat : Int) / 4), b64At ((a.toNat : Int) % 4 * 16 + (b.toNat : Int) / 16), b64At ((b.toNat : Int) % 16 * 4 + (c.toNat : Int) / 64), b64At ((c.toNat : Int) % 64)]) := by
      simp only [encStep, if_true, n20, n42, n40, if_false, e1, e2, e3, e4, List.append_assoc, List.cons_append, List.nil_append]
    rw [key, enc_run r _ _, List.append_assoc]; rfl
theorem encTail_eq (l : List UInt8) : encTail (encRun l) = encE l := by
  have := enc_run l 0 []
  simpa [encRun] using this

/-- the sixes that the bits tell -/
def sixes6 (l : List UInt8) : List Int := (List.range ((bitsP l).length / 6)).map fun j => sixAt (bitsP l) j
theorem bitsOf_len (l : List UInt8) : (bitsOf l).length = 8 * l.length := by
  unfold bitsOf
  induction l with
  | nil => rfl
  | cons a r ih => rw [List.flatMap_cons, List.length_append, ih]; simp only [List.length_map, List.length_range, List.length_cons]; omega
theorem bits8 (c : UInt8) : ((List.range 8).map fun k => ((c.toNat : Int).fdiv (2 ^ (7 - k))).fmod 2) =
    [(c.toNat : Int) / 128 % 2, (c.toNat : Int) / 64 % 2, (c.toNat : Int) / 32 % 2, (c.toNat : Int) / 16 % 2, (c.toNat : Int) / 8 % 2, (c.toNat : Int) / 4 % 2, (c.toNat : Int) / 2 % 2, (c.toNat : Int) % 2] := by
  have e : List.range 8 = [0, 1, 2, 3, 4, 5, 6, 7] := rfl
  rw [e]
  simp only [List.map_cons, List.map_nil]
  have f : ∀ (x y : Int), 0 ≤ y → x.fdiv y = x / y := fun x y h => Int.fdiv_eq_ediv_of_nonneg _ h
  have g : ∀ (x : Int), x.fmod 2 = x % 2 := fun x => Int.fmod_eq_emod_of_nonneg _ (by decide)
  simp only [g]
  rw [f _ _ (by decide), f _ _ (by decide), f _ _ (by decide), f _ _ (by decide), f _ _ (by decide), f _ _ (by decide), f _ _ (by decide), f _ _ (by decide)]
  have h0 : ((2 : Int) ^ (7 - 0)) = 128 := by decide
  have h1 : ((2 : Int) ^ (7 - 1)) = 64 := by decide
  have h2 : ((2 : Int) ^ (7 - 2)) = 32 := by decide
  have h3 : ((2 : Int) ^ (7 - 3)) = 16 := by decide
  have h4 : ((2 : Int) ^ (7 - 4)) = 8 := by decide
  have h5 : ((2 : Int) ^ (7 - 5)) = 4 := by decide
  have h6 : ((2 : Int) ^ (7 - 6)) = 2 := by decide
  have h7 : ((2 : Int) ^ (7 - 7)) = 1 := by decide
  rw [h0, h1, h2, h3, h4, h5, h6, h7, Int.ediv_one]
theorem bitsOf_cons (c : UInt8) (r : List UInt8) : bitsOf (c :: r) = [(c.toNat : Int) / 128 % 2, (c.toNat : Int) / 64 % 2, (c.toNat : Int) / 32 % 2, (c.toNat : Int) / 16 % 2, (c.toNat : Int) / 8 % 2, (c.toNat : Int) / 4 % 2, (c.toNat : Int) / 2 % 2, (c.toNat : Int) % 2] ++ bitsOf r := by
  unfold bitsOf
  rw [List.flatMap_cons, bits8]
theorem bitsP_eq (l : List UInt8) : bitsP l = bitsOf l ++ List.replicate ((-((8 * l.length : Nat) : Int)) % 6).toNat 0 := by
  unfold bitsP
  rw [flatten_rep, bitsOf_len, Int.fmod_eq_emod_of_nonneg _ (by decide)]
theorem six_of6 (x0 x1 x2 x3 x4 x5 : Int) (B : List Int) : sixAt (x0 :: x1 :: x2 :: x3 :: x4 :: x5 :: B) 0 = x0 * 32 + x1 * 16 + x2 * 8 + x3 * 4 + x4 * 2 + x5 := by
  unfold sixAt
  have e : List.range 6 = [0, 1, 2, 3, 4, 5] := rfl
  rw [e]
  simp [List.getD_cons_succ, List.getD_cons_zero]
  try omega
theorem six_shift (x0 x1 x2 x3 x4 x5 : Int) (B : List Int) (j : Nat) : sixAt (x0 :: x1 :: x2 :: x3 :: x4 :: x5 :: B) (j + 1) = sixAt B j := by
  unfold sixAt
  congr 1
  all_goals (
    apply List.map_congr_left
    intro k _
    have e : 6 * (j + 1) + k = (6 * j + k) + 6 := by omega
    rw [e]
    simp only [List.getD_cons_succ])
/-- the sixes of a list of bits -/
def sixesOf (B : List Int) : List Int := (List.range (B.length / 6)).map fun j => sixAt B j
theorem sixesOf_cons (x0 x1 x2 x3 x4 x5 : Int) (B : List Int) : sixesOf (x0 :: x1 :: x2 :: x3 :: x4 :: x5 :: B) = (x0 * 32 + x1 * 16 + x2 * 8 + x3 * 4 + x4 * 2 + x5) :: sixesOf B := by
  unfold sixesOf
  have e : (x0 :: x1 :: x2 :: x3 :: x4 :: x5 :: B).length / 6 = B.length / 6 + 1 := by simp only [List.length_cons]; omega
  rw [e, List.range_succ_eq_map, List.map_cons, six_of6, List.map_map]
  congr 1
  all_goals (
    apply List.map_congr_left
    intro j _
    exact six_shift x0 x1 x2 x3 x4 x5 B j)
theorem told_sixes : ∀ l : List UInt8, (sixes6 l).map b64At ++ List.replicate ((-((sixes6 l).length : Int)) % 4).toNat 61 = encE l ∧ ∀ x ∈ sixes6 l, 0 ≤ x ∧ x < 64
  | [] => by
    have e : sixes6 [] = [] := by decide
    rw [e]; exact ⟨rfl, by simp⟩
  | [a] => by
    have ha := a.toNat_lt
    have e : sixes6 [a] = [(a.toNat : Int) / 4, (a.toNat : Int) % 4 * 16] := by
      show sixesOf (bitsP [a]) = _
      rw [bitsP_eq, bitsOf_cons]
      show sixesOf (_ :: _ :: _ :: _ :: _ :: _ :: _ :: _ :: 0 :: 0 :: 0 :: 0 :: []) = _
      rw [sixesOf_cons, sixesOf_cons]
      have e0 : sixesOf [] = [] := rfl
      rw [e0]
      congr 1
      · omega
      · congr 1; omega
    rw [e]
    refine ⟨rfl, ?_⟩
    intro x hx
    simp only [List.mem_cons, List.not_mem_nil, or_false] at hx
    omega
  | [a, b] => by
    have ha := a.toNat_lt
    have hb := b.toNat_lt
    have e : sixes6 [a, b] = [(a.toNat : Int) / 4, (a.toNat : Int) % 4 * 16 + (b.toNat : Int) / 16, (b.toNat : Int) % 16 * 4] := by
      show sixesOf (bitsP [a, b]) = _
      rw [bitsP_eq, bitsOf_cons, bitsOf_cons]
      have eb : bitsOf [] = [] := rfl
      have er : List.replicate ((-((8 * [a, b].length : Nat) : Int)) % 6).toNat (0 : Int) = [0, 0] := by
        have e2 : ((-((8 * [a, b].length : Nat) : Int)) % 6).toNat = 2 := by simp only [List.length_cons, List.length_nil]; decide
        rw [e2]; rfl
      rw [eb, er]
      simp only [List.append_nil, List.cons_append, List.nil_append]
      rw [sixesOf_cons, sixesOf_cons, sixesOf_cons]
      have e0 : sixesOf [] = [] := rfl
      rw [e0]
      congr 1
      · omega
      · congr 1
        · omega
        · congr 1; omega
    rw [e]
    refine ⟨rfl, ?_⟩
    intro x hx
    simp only [List.mem_cons, List.not_mem_nil, or_false] at hx
    omega
  | a :: b :: c :: r => by
    have ha := a.toNat_lt
    have hb := b.toNat_lt
    have hc := c.toNat_lt
    obtain ⟨ih1, ih2⟩ := told_sixes r
    have e : sixes6 (a :: b :: c :: r) = (a.toNat : Int) / 4 :: ((a.toNat : Int) % 4 * 16 + (b.toNat : Int) / 16) :: ((b.toNat : Int) % 16 * 4 + (c.toNat : Int) / 64) :: ((c.toNat : Int) % 64) :: sixes6 r := by
      show sixesOf (bitsP (a :: b :: c :: r)) = _
      have ep : bitsP (a :: b :: c :: r) = bitsOf (a :: b :: c :: []) ++ bitsP r := by
        rw [bitsP_eq, bitsP_eq, bitsOf_cons, bitsOf_cons, bitsOf_cons, bitsOf_cons a, bitsOf_cons b, bitsOf_cons c]
        have e0 : bitsOf [] = [] := rfl
        have e1 : ((-((8 * (a :: b :: c :: r).length : Nat) : Int)) % 6).toNat = ((-((8 * r.length : Nat) : Int)) % 6).toNat := by simp only [List.length_cons]; omega
        rw [e0, e1]
        simp only [List.append_assoc, List.append_nil, List.cons_append, List.nil_append]
      rw [ep, bitsOf_cons, bitsOf_cons, bitsOf_cons]
      have e0 : bitsOf [] = [] := rfl
      rw [e0]
      simp only [List.append_assoc, List.append_nil, List.cons_append, List.nil_append]
      rw [sixesOf_cons, sixesOf_cons, sixesOf_cons, sixesOf_cons]
      congr 1
      · omega
      · congr 1
        · omega
        · congr 1
          · omega
          · congr 1; omega
    rw [e]
    refine ⟨?_, ?_⟩
    · have e1 : ((-(((a.toNat : Int) / 4 :: ((a.toNat : Int) % 4 * 16 + (b.toNat : Int) / 16) :: ((b.toNat : Int) % 16 * 4 + (c.toNat : Int) / 64) :: ((c.toNat : Int) % 64) :: sixes6 r).length : Int)) % 4).toNat = ((-((sixes6 r).length : Int)) % 4).toNat := by
        simp only [List.length_cons]; omega
      rw [e1]
      simp only [List.map_cons, List.cons_append, ih1, encE]
    · intro x hx
      rcases List.mem_cons.mp hx with rfl | hx
      · omega
      · rcases List.mem_cons.mp hx with rfl | hx
        · omega
        · rcases List.mem_cons.mp hx with rfl | hx
          · omega
          · rcases List.mem_cons.mp hx with rfl | hx
            · omega
            · exact ih2 x hx
end Mine

/-! Plain3 -/
namespace Mine
open PySem PySem.W PySem.Calls PyProof.Rows
/-- the code of an octet that the encoder wrote, turned by the table -/
def codeOf (n : Int) : Nat := (trTab.getD n.toNat.toUInt8.toNat n.toNat.toUInt8).toNat
theorem code_all : (List.range 64).all (fun k => codeOf (b64At (k : Int)) == (Txt.charAt alphT (k : Int)).getD 0 && decide (codeOf (b64At (k : Int)) < 128)) = true := by decide +kernel
theorem code_b64 {x : Int} (h0 : 0 ≤ x) (h1 : x < 64) : codeOf (b64At x) = (Txt.charAt alphT x).getD 0 ∧ codeOf (b64At x) < 128 := by
  have := List.all_eq_true.mp code_all x.toNat (List.mem_range.mpr (by omega))
  have e : ((x.toNat : Nat) : Int) = x := Int.toNat_of_nonneg h0
  rw [e, Bool.and_eq_true, beq_iff_eq, decide_eq_true_eq] at this
  exact this
theorem code_61 : codeOf 61 = 61 := by decide +kernel
theorem enc_list (l : List UInt8) : (transl trTab (byteArr (encTail (encRun l)))).toList = (encE l).map fun n => trTab.getD n.toNat.toUInt8.toNat n.toNat.toUInt8 := by
  rw [encTail_eq]
  unfold transl byteArr
  simp [List.map_map, Function.comp_def]
theorem enc_codes (l : List UInt8) : ((transl trTab (byteArr (encTail (encRun l)))).toList.map (·.toNat)) = (sixes6 l).map (fun x => (Txt.charAt alphT x).getD 0) ++ List.replicate ((-((sixes6 l).length : Int)) % 4).toNat 61 := by
  rw [enc_list, List.map_map]
  show (encE l).map codeOf = _
  obtain ⟨e, hr⟩ := told_sixes l
  rw [← e, List.map_append, List.map_map, List.map_replicate, code_61]
  congr 1
  apply List.map_congr_left
  intro x hx
  exact (code_b64 (hr x hx).1 (hr x hx).2).1
theorem join_singles : ∀ xs : List Int, (Str.join (Str.ofString "") (xs.map (Txt.item alphT))).cps.toList = xs.map fun x => (Txt.charAt alphT x).getD 0
  | [] => rfl
  | [x] => rfl
  | x :: y :: r => by
    have ih := join_singles (y :: r)
    show (Txt.item alphT x ++ Str.ofString "" ++ Str.join (Str.ofString "") ((y :: r).map (Txt.item alphT))).cps.toList = _
    rw [Str.cps_append, Str.cps_append, Array.toList_append, Array.toList_append, ih]
    rfl
theorem mul_pads {n : Int} (h0 : 0 ≤ n) (h1 : n < 4) : (Txt.mul (Str.ofString "=") n).cps.toList = List.replicate n.toNat 61 := by
  obtain rfl | rfl | rfl | rfl : n = 0 ∨ n = 1 ∨ n = 2 ∨ n = 3 := by omega
  · decide +kernel
  · decide +kernel
  · decide +kernel
  · decide +kernel
theorem enc_eq (l : List UInt8) : asText (transl trTab (byteArr (encTail (encRun l)))).toList = toldT l := by
  apply Str.ext'
  apply Array.toList_inj.mp
  show ((transl trTab (byteArr (encTail (encRun l)))).toList.map (·.toNat)) = _
  rw [enc_codes]
  have es : signsOf l = (sixes6 l).map (Txt.item alphT) := by
    unfold signsOf sixes6
    rw [List.map_map]
    rfl
  unfold toldT
  rw [Str.cps_append, Array.toList_append, es, List.length_map]
  show _ = (Builtin.Str.glued _ _).cps.toList ++ _
  rw [StrLaws.glued_eq_join, join_singles, Int.fmod_eq_emod_of_nonneg _ (by decide), mul_pads (by omega) (by omega)]
theorem enc_low (l : List UInt8) : ∀ c ∈ (transl trTab (byteArr (encTail (encRun l)))).toList, c.toNat < 128 := by
  intro c hc
  rw [enc_list] at hc
  obtain ⟨n, hn, rfl⟩ := List.mem_map.mp hc
  show codeOf n < 128
  obtain ⟨e, hr⟩ := told_sixes l
  rw [← e] at hn
  rcases List.mem_append.mp hn with hn | hn
  · obtain ⟨x, hx, rfl⟩ := List.mem_map.mp hn
    exact (code_b64 (hr x hx).1 (hr x hx).2).2
  · rw [(List.mem_replicate.mp hn).2, code_61]; decide
theorem enc_sz (l : List UInt8) : (transl trTab (byteArr (encTail (encRun l)))).size = (encE l).length := by
  rw [← Array.length_toList, enc_list, List.length_map]
theorem enc_pos {l : List UInt8} (h : 1 ≤ l.length) : 1 ≤ (transl trTab (byteArr (encTail (encRun l)))).size := by
  rw [enc_sz]
  match l, h with
  | [a], _ => simp [encE]
  | [a, b], _ => simp [encE]
  | a :: b :: c :: r, _ => simp [encE]
theorem enc_size {l : List UInt8} (h : l.length ≤ 9) : (transl trTab (byteArr (encTail (encRun l)))).size ≤ 1000 := by
  have := encTail_len l
  rw [encTail_eq] at this
  rw [enc_sz]
  omega
theorem told_len {l : List UInt8} (h : l.length ≤ 9) : (toldT l).length ≤ 1000 := by
  rw [← enc_eq]
  have := enc_size h
  rw [← Array.length_toList] at this
  show (List.toArray (List.map _ _)).size ≤ 1000
  rw [List.size_toArray, List.length_map]
  exact this
/-- a join's length -/
theorem join_len (ps : List Str) : (Str.join ⟨#[39]⟩ ps).length = (ps.map (·.length)).sum + (ps.length - 1) := by
  rw [← StrLaws.glued_eq_join, size_glued]
  have e : (⟨#[39]⟩ : Str).length = 1 := rfl
  rw [e, Nat.mul_one]
end Mine

/-! LawPre -/
namespace Mine
open PySem PySem.W PySem.Calls PyProof.Rows
theorem six_range (v : Int) : 0 ≤ (if v.fmod 3 = 0 then 62 else (v.fdiv 3).fmod 64) ∧ (if v.fmod 3 = 0 then 62 else (v.fdiv 3).fmod 64) < 64 := by
  split
  · omega
  · rw [Int.fmod_eq_emod_of_nonneg _ (by decide)]; omega
theorem sixes_facts {ns X : List Int} (hX : X = (ns.take 8 ++ [0, 5, 0, 9]).map fun (k' : Int) => if k'.fmod 3 = 0 then 62 else (k'.fdiv 3).fmod 64) :
    4 ≤ X.length ∧ X.length ≤ 12 ∧ ∀ x ∈ X, 0 ≤ x ∧ x < 64 := by
  subst hX
  refine ⟨?_, ?_, ?_⟩
  · simp only [List.length_map, List.length_append, List.length_cons, List.length_nil]; omega
  · simp only [List.length_map, List.length_append, List.length_take, List.length_cons, List.length_nil]; omega
  · intro x hx
    obtain ⟨v, _, rfl⟩ := List.mem_map.mp hx
    exact six_range v
theorem pad4 {X S : List Int} (h0 : 4 ≤ X.length) (h1 : X.length ≤ 12) (hx : ∀ x ∈ X, 0 ≤ x ∧ x < 64) (h : X ++ (List.replicate ((-(X.length : Int)).fmod 4).toNat [0]).flatten = S) :
    S.length % 4 = 0 ∧ 4 ≤ S.length ∧ S.length ≤ 12 ∧ ∀ x ∈ S, 0 ≤ x ∧ x < 64 := by
  rw [flatten_rep, Int.fmod_eq_emod_of_nonneg _ (by decide)] at h
  subst h
  refine ⟨?_, ?_, ?_, ?_⟩
  · rw [List.length_append, List.length_replicate]; omega
  · rw [List.length_append, List.length_replicate]; omega
  · rw [List.length_append, List.length_replicate]; omega
  · intro x hm
    rcases List.mem_append.mp hm with hm | hm
    · exact hx x hm
    · rw [(List.mem_replicate.mp hm).2]; omega

theorem news_nil_of {h₀ h : Heap} {L : Addr} {m : Str → Option Value} (_ : Fr h₀ L h m) : News h₀ L h [] := News.nil
section
variable {prog : Program} {w : World} {A : Around} {E : Value → Shared → Prop} {s : Shared} {h₀ : Heap} {L : Addr} {m : Str → Option Value} {news : List (Addr × Obj)} {Q : Value → Shared → Prop}
theorem cut_call {b : Array UInt8} {t tn : Tok} {n : Int} {value slice : Expr} (hF : Fr h₀ L s.heap m) (hN : News h₀ L s.heap news) (h0 : 0 ≤ n) (h1 : n ≤ (b.size : Int)) (hz : b.size ≤ 1000)
    (h : ∀ (P : Array UInt8) h' t' k, (P.size : Int) = n → Fr h₀ L h' m → News h₀ L h' news → Q (.bytes P t') { s with heap := h', toks := k })
    (hs : subscripted slice false (.bytes b t) (.ref s.heap.objs.size) = operate [.ref s.heap.objs.size, .bytes b t] (getItem (.bytes b t) (.ref s.heap.objs.size)))
    (ht : ∀ r, letTemporaryGo value (.bytes b t) r = pure ()) :
    wpAny (model prog w) A (subscriptTail value slice (.bytes b t) (.ref s.heap.objs.size)) Q E { s with heap := s.heap.push { cls := .type "slice", data := .fields #[.none, .int n tn, .none] } } := by
  refine KBc.slice_K (lo := none) (hi := some n) hF hN rfl (by constructor) (by constructor) (by rw [KBw.ints_length]; omega) (fun h' t' k F' N' hK => h _ h' t' k ?_ F' N') hs ht
  have e := congrArg List.length hK
  rw [KBw.ints_length] at e
  rw [e]
  simp only [Option.elim, List.drop_zero, Nat.sub_zero, List.length_take, KBw.ints_length]
  unfold clipAt
  split <;> omega
end

section
variable {prog : Program} {w : World} {A : Around} {E : Value → Shared → Prop} {s : Shared} {env : Env} {test : Expr} {body : List Stmt} {Q : Flow → Shared → Prop} {h₀ : Heap} {L : Addr}
/-- a turn's end of the law's while: fewer pieces, the invariant again -/
def PostW (h₀ : Heap) (L : Addr) (s : Shared) (J : List Str → (Str → Option Value) → List (Addr × Obj) → Prop) (n : Nat) (Q : Flow → Shared → Prop) (f : Flow) (s₃ : Shared) : Prop :=
  match f with
  | .ret v => Q (.ret v) s₃
  | .brk => Q .next s₃
  | _ => ∃ ps' m' news' h' tk', s₃ = { s with heap := h', toks := tk' } ∧ ps'.length < n ∧ J ps' m' news' ∧ Fr h₀ L h' m' ∧ News h₀ L h' news'
theorem while_ind (hE : PassesOwn (model prog w) A env E) (J : List Str → (Str → Option Value) → List (Addr × Obj) → Prop)
    (step : ∀ ps m₁ news h tk, J ps m₁ news → Fr h₀ L h m₁ → News h₀ L h news →
      wpAny (model prog w) A (isTrue test env (eval test env)) (fun b s₂ => WhlIf b (wpAny (model prog w) A (execs body env) (PostW h₀ L s J ps.length Q) E s₂) (wpAny (model prog w) A (execs [] env) Q E s₂)) E { s with heap := h, toks := tk }) :
    ∀ n ps m₁ news h tk, ps.length < n → J ps m₁ news → Fr h₀ L h m₁ → News h₀ L h news → WhlRest prog w A E env test body [] Q n { s with heap := h, toks := tk } := by
  intro n
  induction n with
  | zero => intro ps m₁ news h tk hl; omega
  | succ n ih =>
    intro ps m₁ news h tk hl hJ F N
    refine whl_turn hE (wpAny_mono (step ps m₁ news h tk hJ F N) (fun b s₂ hb => ?_) fun _ _ e => e)
    cases b with
    | false => exact hb
    | true =>
      refine WhlIf.yes rfl ?_
      have hb' : wpAny (model prog w) A (execs body env) (PostW h₀ L s J ps.length Q) E s₂ := by
        unfold WhlIf at hb
        rw [if_pos rfl] at hb
        exact hb
      refine wpAny_mono hb' (fun f s₃ hp => ?_) fun _ _ e => e
      have go : (∃ ps' m' news' h' tk', s₃ = { s with heap := h', toks := tk' } ∧ ps'.length < ps.length ∧ J ps' m' news' ∧ Fr h₀ L h' m' ∧ News h₀ L h' news') → WhlRest prog w A E env test body [] Q n s₃ := by
        rintro ⟨ps', m', news', h', tk', rfl, hlt, hJ', F', N'⟩
        exact ih ps' m' news' h' tk' (by omega) hJ' F' N'
      cases f with
      | next => exact go hp
      | cont => exact go hp
      | brk => exact hp
      | ret v => exact hp
def HoldW (P : Prop) : Prop := P
theorem while_stop {pos : Pos} (h : HoldW (∃ k, WhlRest prog w A E env test body [] Q k s)) : wpAny (model prog w) A (exec (.While test body [] pos) env) Q E s :=
  let ⟨k, h⟩ := h; whl_start k h
end
theorem split_facts {T : Str} {ps : List Str} (h : Txt.split T (Str.ofString "'") = ps) : ps ≠ [] ∧ (∀ p ∈ ps, 39 ∉ p.cps.toList) ∧ T = Str.join ⟨#[39]⟩ ps := by
  rw [tick_eq] at h
  subst h
  refine ⟨?_, StrLaws.split_free T 39, (StrLaws.join_split T ⟨#[39]⟩).symm⟩
  have := split_pos T ⟨#[39]⟩
  intro e
  rw [e] at this
  simp at this

theorem news_add {h₀ h h' : Heap} {L D : Addr} {m : Str → Option Value} {o : Obj} {news : List (Addr × Obj)} (st : h.StaysIn h') (F : Fr h₀ L h m) (N : News h₀ L h news) (hD : h.get? D = none) (ho : h'.get? D = some o) : News h₀ L h' ((D, o) :: news) := fun p hp => by
  rcases List.mem_cons.mp hp with rfl | hp
  · refine ⟨ho, fun e => ?_, ?_⟩
    · obtain ⟨oL, _, _, hL, _⟩ := F.ns
      have e' : D = L := e
      rw [e', hL] at hD; cases hD
    · cases q : h₀.get? D with
      | none => rfl
      | some o' => rw [F.keep _ _ q] at hD; cases hD
  · exact ⟨st _ _ (N p hp).1, (N p hp).2⟩
theorem strs3 {vs : List Value} {p q j : Str} (h : StrsAre vs [p, q, j]) : ∃ t0 t1 t2, vs = [.str p t0, .str q t1, .str j t2] := by
  obtain ⟨t0, v1, rfl, h1⟩ := h.cons_inv
  obtain ⟨t1, v2, rfl, h2⟩ := h1.cons_inv
  obtain ⟨t2, v3, rfl, h3⟩ := h2.cons_inv
  rw [h3.nil_inv]
  exact ⟨_, _, _, rfl⟩
section
variable {w : World} {sc : Scope} {s : Shared} {h₀ base : Heap} {L fa : Addr} {cd : Value} {m mg mb : Str → Option Value} {mean : ExcName → Option Value} {E : Value → Shared → Prop} {Q : Value → Shared → Prop} {t : Tok} {news : List (Addr × Obj)}
theorem rfc_many {p q : Str} {r : List Str} (hr : r ≠ []) (hfr : ∀ z ∈ p :: q :: r, 39 ∉ z.cps.toList) (hsc : sc.kind = .function) (B : Below callerA base [] h₀) (F : Fr h₀ L s.heap m) (N : News h₀ L s.heap news) (X : (hd.heap_39 w.params).In h₀) (Tp : theTop mean mg mb h₀) (hT : (Str.join ⟨#[39]⟩ (p :: q :: r)).length ≤ 1000)
    (h : ∀ D t0 t1 t2 n h' tk, Fr h₀ L h' m → News h₀ L h' ((D, listOf #[.str p t0, .str q t1, .str (Str.join ⟨#[39]⟩ r) t2] n) :: news) → Q (.ref D) { s with heap := h', toks := tk }) :
    wpAny (model Challenge.rw_mq0046_01.row.prog w) (lawA sc L fa cd) (call (.ref 58) [.str (Str.join ⟨#[39]⟩ (p :: q :: r)) t]) Q E s := by
  have e : Txt.splitMax (Str.join ⟨#[39]⟩ (p :: q :: r)) (Str.ofString "'") 2 = [p, q, Str.join ⟨#[39]⟩ r] := by rw [tick_eq]; exact split2_many hfr hr
  refine rfc_call hsc B F X Tp hT (fun hl => ?_) fun _ D vs n h' tk hs st hD ho => ?_
  · rw [e] at hl; simp at hl
  · rw [e] at hs
    obtain ⟨t0, t1, t2, rfl⟩ := strs3 hs
    exact h D t0 t1 t2 n h' tk (stays_fr st F) (news_add st F N hD ho)
theorem rfc_few {ps : List Str} (hne : ps ≠ []) (h2 : ps.length ≤ 2) (hfr : ∀ z ∈ ps, 39 ∉ z.cps.toList) (hsc : sc.kind = .function) (B : Below callerA base [] h₀) (F : Fr h₀ L s.heap m) (N : News h₀ L s.heap news) (X : (hd.heap_39 w.params).In h₀) (Tp : theTop mean mg mb h₀) (hT : (Str.join ⟨#[39]⟩ ps).length ≤ 1000)
    (h : ∀ D t' n h' tk, Fr h₀ L h' m → News h₀ L h' ((D, { cls := .type "tuple", data := .seq #[.none, .none, .str (Str.join ⟨#[39]⟩ ps) t'] n }) :: news) → Q (.ref D) { s with heap := h', toks := tk }) :
    wpAny (model Challenge.rw_mq0046_01.row.prog w) (lawA sc L fa cd) (call (.ref 58) [.str (Str.join ⟨#[39]⟩ ps) t]) Q E s := by
  have e : Txt.splitMax (Str.join ⟨#[39]⟩ ps) (Str.ofString "'") 2 = ps := by rw [tick_eq]; exact split2_few hfr hne h2
  refine rfc_call hsc B F X Tp hT (fun _ D n t' h' tk st hD ho => ?_) fun hl => ?_
  · exact h D t' n h' tk (stays_fr st F) (news_add st F N hD ho)
  · rw [e] at hl; omega
end
section
variable {prog : Program} {w : World} {A : Around} {E : Value → Shared → Prop} {s : Shared} {h₀ : Heap} {L l : Addr} {m : Str → Option Value} {news : List (Addr × Obj)} {Q : Value → Shared → Prop}
theorem cut2_call {x y : Value} {ws : List Value} {c : Nat} {tk : Tok} {value slice : Expr} (F : Fr h₀ L s.heap m) (N : News h₀ L s.heap news) (hm : (l, listOf (x :: y :: ws).toArray c) ∈ news) (hz : ws.length ≤ 2000)
    (h : ∀ D h', Fr h₀ L h' m → News h₀ L h' ((D, listOf ws.toArray 0) :: news) → Q (.ref D) { s with heap := h' })
    (hs : subscripted slice false (.ref l) (.ref s.heap.objs.size) = operate [.ref s.heap.objs.size, .ref l] (getItem (.ref l) (.ref s.heap.objs.size))) (ht : ∀ r, letTemporaryGo value (.ref l) r = pure ()) :
    wpAny (model prog w) A (subscriptTail value slice (.ref l) (.ref s.heap.objs.size)) Q E { s with heap := s.heap.push { cls := .type "slice", data := .fields #[.int 2 tk, .none, .none] } } := by
  refine kmk_slice_lit (lo := some 2) (hi := none) F N (News.isList N hm) (by constructor) (by constructor) (zs := ws) ?_ (fun D h' F' N' _ => h D h' F' N') hs ht (by rw [List.size_toArray, sizeLine_eq]; simp only [List.length_cons]; omega)
  have e := slicePick_from' (x :: y :: ws).toArray 2
  have e' : slicePick (x :: y :: ws).toArray (some 2) none none = ((x :: y :: ws).toArray.toList.drop 2).toArray := e
  rw [e']
  rfl
end
theorem three_up {ps : List Str} (h : 2 < ps.length) : ∃ p q r, ps = p :: q :: r ∧ r ≠ [] := by
  match ps, h with
  | p :: q :: r, h => exact ⟨p, q, r, rfl, by intro e; rw [e] at h; simp at h⟩
theorem strs_two {vs : List Value} {p q : Str} {r : List Str} (h : StrsAre vs (p :: q :: r)) : ∃ tp tq ws, vs = .str p tp :: .str q tq :: ws ∧ StrsAre ws r := by
  obtain ⟨tp, v1, rfl, hs8⟩ := h.cons_inv
  obtain ⟨tq, ws, rfl, hs9⟩ := hs8.cons_inv
  exact ⟨tp, tq, ws, rfl, hs9⟩
theorem join_tail_le (p q : Str) (r : List Str) : (Str.join ⟨#[39]⟩ r).length ≤ (Str.join ⟨#[39]⟩ (p :: q :: r)).length := by
  have h1 := join_len (p :: q :: r)
  have h2 := join_len r
  simp only [List.map_cons, List.sum_cons, List.length_cons] at h1
  omega
section
variable {prog : Program} {w : World} {A : Around} {E : Value → Shared → Prop} {s : Shared} {h₀ : Heap} {L D : Addr} {news : List (Addr × Obj)} {Q : Value → Shared → Prop}
theorem join_tick {vs : List Value} {ps : List Str} {c : Nat} {t : Tok} (N : News h₀ L s.heap news) (hm : (D, listOf vs.toArray c) ∈ news) (hs : StrsAre vs ps) (hT : (Str.join ⟨#[39]⟩ ps).length ≤ 1000)
    (h : ∀ t' k, Q (.str (Str.join ⟨#[39]⟩ ps) t') { s with toks := k }) : wpAny (model prog w) A (call (.builtin "str.join") [.str (Str.ofString "'") t, .ref D]) Q E s := by
  have h2 := join_len ps
  have e1 : (Str.ofString "'").length = 1 := by decide +kernel
  refine join_list (D := D) (items := vs.toArray) (News.isList N hm) hs (by rw [e1]; omega) fun t' k => ?_
  have e : Txt.join (Str.ofString "'") ps = Str.join ⟨#[39]⟩ ps := by
    show Builtin.Str.glued _ _ = _
    rw [StrLaws.glued_eq_join, tick_eq]
  rw [e]
  exact h t' k
end
end Mine

/-! LawEq -/
namespace Mine
open PySem PySem.W PySem.Calls PyProof.Rows
section
variable {prog : Program} {w : World} {A : Around} {E : Value → Shared → Prop} {s : Shared} {h₀ : Heap} {L a b : Addr} {news : List (Addr × Obj)} {Q : Value → Shared → Prop}
theorem eq_tup {X : Str} {t t' : Tok} {n n' : Nat} (hX : PyData.strOk X = true) (N : News h₀ L s.heap news) (ha : (a, ({ cls := .type "tuple", data := .seq #[.none, .none, .str X t] n } : Obj)) ∈ news) (hb : (b, ({ cls := .type "tuple", data := .seq #[.none, .none, .str X t'] n' } : Obj)) ∈ news)
    (hu : A.units + 64 < cLine) (h : Q (.bool true) s) : wpAny (model prog w) A (compareOp .Eq (.ref a) (.ref b)) Q E s := by
  refine eq_dataH (da := .tuple [.none, .none, .str X]) (db := .tuple [.none, .none, .str X]) (reads_tuple_at (News.get N ha) rfl rfl (ReadsAll.cons .none (.cons .none (.cons (.str _ _) .nil)))) (reads_tuple_at (News.get N hb) rfl rfl (ReadsAll.cons .none (.cons .none (.cons (.str _ _) .nil)))) ?_ ?_ hu ?_
  · simp [SeqAt.shaped, PyData.canLay0, PyData.canLayAll0, PyData.depth, PyData.depthAll, hX]
  · simp [SeqAt.shaped, PyData.canLay0, PyData.canLayAll0, PyData.depth, PyData.depthAll, hX]
  · have e : PyData.eqv (.tuple [.none, .none, .str X]) (.tuple [.none, .none, .str X]) = true := by simp [PyData.eqv, PyData.eqvAll]
    rw [e]; exact h
theorem ne_list3 {X Y Z : Str} {t0 t1 t2 u0 u1 u2 : Tok} {n n' : Nat} (hX : PyData.strOk X = true) (hY : PyData.strOk Y = true) (hZ : PyData.strOk Z = true) (N : News h₀ L s.heap news) (ha : (a, listOf #[.str X t0, .str Y t1, .str Z t2] n) ∈ news) (hb : (b, listOf #[.str X u0, .str Y u1, .str Z u2] n') ∈ news)
    (hu : A.units + 64 < cLine) (h : Q (.bool false) s) : wpAny (model prog w) A (compareOp .NotEq (.ref a) (.ref b)) Q E s := by
  refine ne_dataH (da := .list [.str X, .str Y, .str Z]) (db := .list [.str X, .str Y, .str Z]) (reads_list_at (News.get N ha) rfl rfl (ReadsAll.cons (.str _ _) (.cons (.str _ _) (.cons (.str _ _) .nil)))) (reads_list_at (News.get N hb) rfl rfl (ReadsAll.cons (.str _ _) (.cons (.str _ _) (.cons (.str _ _) .nil)))) ?_ ?_ hu ?_
  · simp [SeqAt.shaped, PyData.canLay0, PyData.canLayAll0, PyData.depth, PyData.depthAll, hX, hY, hZ]
  · simp [SeqAt.shaped, PyData.canLay0, PyData.canLayAll0, PyData.depth, PyData.depthAll, hX, hY, hZ]
  · have e : PyData.eqv (.list [.str X, .str Y, .str Z]) (.list [.str X, .str Y, .str Z]) = true := by simp [PyData.eqv, PyData.eqvAll]
    rw [e]; exact h
end
end Mine

/-! LawOk -/
namespace Mine
open PySem PySem.W PySem.Calls PyProof.Rows
theorem strOk_iff (x : Str) : PyData.strOk x = true ↔ ∀ c ∈ x.cps.toList, c < 0x110000 := by
  unfold PyData.strOk
  rw [← Array.all_toList, List.all_eq_true]
  simp
theorem join_ok : ∀ ps : List Str, PyData.strOk (Str.join ⟨#[39]⟩ ps) = true ↔ ∀ p ∈ ps, PyData.strOk p = true
  | [] => by simp [strOk_iff, Str.join, Str.empty]
  | [p] => by simp [Str.join]
  | p :: q :: r => by
    have ih := join_ok (q :: r)
    rw [strOk_iff] at ih ⊢
    rw [join_cons_toList]
    constructor
    · intro h z hz
      rcases List.mem_cons.mp hz with rfl | hz
      · exact (strOk_iff _).mpr fun c hc => h c (List.mem_append_left _ hc)
      · exact ih.mp (fun c hc => h c (List.mem_append_right _ (List.mem_cons_of_mem _ hc))) z hz
    · intro h c hc
      rcases List.mem_append.mp hc with hc | hc
      · exact (strOk_iff _).mp (h p List.mem_cons_self) c hc
      · rcases List.mem_cons.mp hc with rfl | hc
        · decide
        · exact ih.mpr (fun z hz => h z (List.mem_cons_of_mem _ hz)) c hc
theorem told_ok (l : List UInt8) : PyData.strOk (toldT l) = true := by
  rw [strOk_iff, ← enc_eq]
  intro c hc
  have hc' : c ∈ (transl trTab (byteArr (encTail (encRun l)))).toList.map (·.toNat) := hc
  obtain ⟨b, hb, rfl⟩ := List.mem_map.mp hc'
  have := enc_low l b hb
  omega
end Mine

/-! LawF -/
namespace Mine
open PySem PySem.W PySem.Calls PyProof.Rows
local macro_rules | `(tactic| walk_at "call ref") => `(tactic| (k_here; k_dflt (refine' oct_call ?b1 ?b2 ?b3 ?b4 ?b5 ?b6 ?b7 ?b8 ?b9 ?b10 ?_; (case b1 => exact rfl); (case b2 => k_asm); (case b3 => k_asm); (case b4 => k_asm); (case b5 => k_asm); (case b6 => kmk_list); (case b7 => assumption); (case b8 => assumption); (case b9 => assumption); (case b10 => exact PySem.Flt.Hid.out (by assumption))); intro O' t' h' tk' st' hO'; (have F' := stays_fr st' (by assumption)); (have N' := stays_news st' (by assumption)); clear st'; (try k_sweep)))
local macro_rules | `(tactic| walk_at "call ref") => `(tactic| (k_here; k_dflt (refine' told_call ?b1 ?b2 ?b3 ?b4 ?b5 ?b6 ?_; (case b1 => exact rfl); (case b2 => k_asm); (case b3 => k_asm); (case b4 => k_asm); (case b5 => k_asm); (case b6 => assumption)); intro t' h' tk' st'; (have F' := stays_fr st' (by assumption)); (have N' := stays_news st' (by assumption)); clear st'; (try k_sweep)))
local macro_rules | `(tactic| walk_at "call ref") => `(tactic| (k_here; k_dflt (refine' enc_call ?b1 ?b2 ?b3 ?b4 ?b5 ?b6 ?_; (case b1 => exact rfl); (case b2 => k_asm); (case b3 => k_asm); (case b4 => k_asm); (case b5 => k_asm); (case b6 => assumption)); intro t' h' tk' st'; (have F' := stays_fr st' (by assumption)); (have N' := stays_news st' (by assumption)); clear st'; (try k_sweep)))
local macro_rules | `(tactic| walk_at "getMethod bytes") => `(tactic| (k_here; k_dflt (refine method_decode ?_)))
local macro_rules | `(tactic| walk_at "call builtin:bytes.decode") => `(tactic| (k_here; k_dflt (show wpAny _ _ (call (Value.builtin "bytes.decode") [Value.bytes _ _, Value.str _ _]) _ _ _); k_dflt (refine' decode_call ?a1 ?a2 ?a3 ?_; (case a1 => assumption); (case a2 => exact enc_low _); (case a3 => assumption)); intro t' k'; rw [enc_eq]))
local macro_rules | `(tactic| walk_at "call builtin:str.split") => `(tactic| (k_here; k_dflt (show wpAny _ _ (call (Value.builtin "str.split") [Value.str _ _, Value.str _ _]) _ _ _); k_dflt (refine' split1_call ?a1 ?a2 ?a3 ?a5 ?_; (case a1 => k_asm); (case a2 => k_asm); (case a3 => decide); (case a5 => assumption)); intro D' vs' h' tk' a' F' N' l1; (try k_lt l1); (try k_sweep)))
local macro_rules | `(tactic| walk_at "exec While Compare cons nil") => `(tactic| (k_here; refine while_stop ?_))
local macro_rules | `(tactic| walk_at "call ref") => `(tactic| (k_here; k_dflt (first
  | (refine' rfc_many ?c1 ?c2 ?b1 ?b2 ?b3 ?b3n ?b4 ?b5 ?b6 ?_; (case c1 => assumption); (case c2 => exact PySem.Flt.Hid.out (by assumption)); (case b1 => exact rfl); (case b2 => k_asm); (case b3 => k_asm); (case b3n => k_asm); (case b4 => k_asm); (case b5 => k_asm); (case b6 => assumption); intro D' t0' t1' t2' n' h' tk' F' N')
  | (refine' rfc_few ?c1 ?c2 ?c3 ?b1 ?b2 ?b3 ?b3n ?b4 ?b5 ?b6 ?_; (case c1 => assumption); (case c2 => assumption); (case c3 => exact PySem.Flt.Hid.out (by assumption)); (case b1 => exact rfl); (case b2 => k_asm); (case b3 => k_asm); (case b3n => k_asm); (case b4 => k_asm); (case b5 => k_asm); (case b6 => assumption); intro D' t' n' h' tk' F' N')); (try k_sweep)))

local macro_rules | `(tactic| walk_at "call builtin:str.join") => `(tactic| (k_here; k_dflt (show wpAny _ _ (call (Value.builtin "str.join") [Value.str _ _, Value.ref _]) _ _ _); k_dflt (refine' join_tick ?a1 ?a2 ?a3 ?a4 ?_; (case a1 => k_asm); (case a2 => k_mem); (case a3 => assumption); (case a4 => assumption)); intro t' k'))
local macro_rules | `(tactic| walk_at "subscriptTail Name Slice ref ref") => `(tactic| (k_here; (with_reducible rename Fr _ _ _ _ => F'); (with_reducible rename News _ _ _ _ => N'); k_dflt (refine' cut2_call (s := ⟨_, _, _, _, _⟩) F' N' ?a2 ?a3 ?_ ?a4 ?a5; (case a2 => k_mem); (case a3 => omega); (case a4 => with_unfolding_all rfl); (case a5 => (intro _; with_unfolding_all rfl))); intro D' h' F' N'; (try k_sweep)))

section
variable {s : Shared} {Q : Flow → Shared → Prop} {h₀ : Heap} {L : Addr}
theorem postW_next {J : List Str → (Str → Option Value) → List (Addr × Obj) → Prop} {n : Nat} {r : List Str} {m' : Str → Option Value} {news' : List (Addr × Obj)} {h' : Heap} {tk' : Nat} (F : Fr h₀ L h' m') (N : News h₀ L h' news') (hlt : r.length < n) (hJ : J r m' news') :
    PostW h₀ L s J n Q .next { s with heap := h', toks := tk' } := ⟨r, m', news', h', tk', rfl, hlt, hJ, F, N⟩
theorem news_one {h : Heap} {p : Addr × Obj} {l : List (Addr × Obj)} (N : News h₀ L h (p :: l)) : News h₀ L h [p] := fun z hz => N z (by rw [List.mem_singleton.mp hz]; exact .head _)
end
theorem law_holds : PySem.Challenge.rw_mq0046_01.Holds := hd (by
  (w_strict (k_go0; (all_goals try k_fold); k_steps))
  rename IntsAre _ (List.map _ (List.take 8 _ ++ _)) => hX0
  generalize hX : List.map (fun (k' : Int) => if k'.fmod 3 = 0 then 62 else (k'.fdiv 3).fmod 64) _ = X at hX0
  obtain ⟨x0, x1, x2⟩ := sixes_facts hX.symm
  rename IntsAre (List.flatten _) (List.flatten _) => i1
  rename News _ _ _ _ => N1
  rw [hX] at i1 N1
  obtain ⟨S, hS⟩ : ∃ S, X ++ (List.replicate ((-(X.length : Int)).fmod 4).toNat [0]).flatten = S := ⟨_, rfl⟩
  obtain ⟨s0, s1, s2, s3⟩ := pad4 x0 x1 x2 hS
  refine' kmk_add_ints ?yF N1 ?ya ?yb hX0 i1 ?_ ?yz
  case yF => k_asm
  case ya => kmk_list
  case yb => kmk_list
  case yz =>
    rw [← List.length_append, hS, sizeLine_eq]; omega
  intro D2 ws2 h2 F2 N2 l2 hI2
  rw [hS] at hI2
  replace s3 := PySem.Flt.Hid.mk s3
  clear N1 i1 hX0 x2
  (try k_lt l2); (try k_sweep)
  k_steps
  rename Fr _ _ _ _ => F3
  rename News _ _ _ _ => N3
  rename (4 * _ = 3 * _) => hO3
  refine' cut_call (s := ⟨_, _, _, _, _⟩) F3 N3 ?c0 ?c1 ?c2 ?_ ?c3 ?c4
  case c3 => with_unfolding_all rfl
  case c4 => (intro _; with_unfolding_all rfl)
  case c0 => rw [Int.fmod_eq_emod_of_nonneg _ (by decide)]; omega
  case c1 => rw [Int.fmod_eq_emod_of_nonneg _ (by decide)]; omega
  case c2 => omega
  intro P h4 t4 k4 hP F4 N4
  have hP1 : 1 ≤ P.size ∧ P.size ≤ 9 := by
    rw [Int.fmod_eq_emod_of_nonneg _ (by decide)] at hP; omega
  clear hP F3 N3 hO3
  have p9 : P.size ≤ 9 := hP1.2
  have eP : P.toList.length = P.size := Array.length_toList
  have d1 := enc_pos (l := P.toList) (by omega)
  have d2 := enc_size (l := P.toList) (by omega)
  have d3 := told_len (l := P.toList) (by omega)
  have N5 := news_nil_of F4
  clear N4
  k_steps
  rename Fr _ _ _ _ => F6
  rename News _ _ _ _ => N6
  rename StrsAre _ _ => hs6
  obtain ⟨ps, hps⟩ : ∃ ps, Txt.split (toldT P.toList) (Str.ofString "'") = ps := ⟨_, rfl⟩
  obtain ⟨pn, pf, pj⟩ := split_facts hps
  rw [hps] at hs6
  refine ⟨_, while_ind (by passes_own) (fun ps m₁ news => ∃ T vs D c t, m₁ (Str.ofString "text") = some (Value.str T t) ∧ m₁ (Str.ofString "pieces") = some (Value.ref D) ∧ news = [(D, listOf (List.toArray vs) c)] ∧ StrsAre vs ps ∧ ps ≠ [] ∧ (∀ p ∈ ps, 39 ∉ p.cps.toList) ∧ T = Str.join ⟨#[39]⟩ ps ∧ T.length ≤ 1000 ∧ PySem.Flt.Hid (∀ p ∈ ps, PyData.strOk p = true)) ?step _ ps _ _ _ _ (Nat.lt_succ_self _) ⟨_, _, _, _, _, rfl, rfl, rfl, hs6, pn, pf, pj, d3, ⟨(join_ok ps).mp (pj ▸ told_ok P.toList)⟩⟩ F6 N6⟩
  clear F6 N6 hs6
  intro ps m₁ news h7 tk7 ⟨T, vs, D, c, t7, hmt, hmp, hnw, hs7, hne, hfr, hT, hT1, hok⟩ F7 N7
  subst hnw
  have F8 := fr_ext (m' := fun y => if y = Str.ofString "text" then some (Value.str T t7) else if y = Str.ofString "pieces" then some (Value.ref D) else m₁ y) F7 (by
        intro z
        by_cases e2 : z = Str.ofString "text"; · subst e2; simp only [if_true]; exact hmt
        by_cases e3 : z = Str.ofString "pieces"; · subst e3; simp only [e2, if_false, if_true]; exact hmp
        simp only [e2, e3, if_false])
  clear F7 hmt hmp
  have hpl : 1 ≤ ps.length := List.length_pos_iff.mpr hne
  subst hT
  replace hfr := PySem.Flt.Hid.mk hfr
  clear hps pn pf pj d1 d2 d3 hP1 p9 eP
  rcases Nat.lt_or_ge 2 ps.length with hlen | hlen
  · obtain ⟨p, q, r, hpq, hr⟩ := three_up hlen
    subst hpq
    obtain ⟨tp, tq, ws, hvs, hs9⟩ := strs_two hs7
    subst hvs
    have hwl := hs9.length
    have hjl := join_len (p :: q :: r)
    have hrj := join_len r
    have hvl := hs7.length
    iterate 11 walk1
    refine WhlIf.yes (by simp only [decide_eq_true_eq]; omega) ?_
    have hT2 := Nat.le_trans (join_tail_le p q r) hT1
    have hwz : ws.length ≤ 1001 := by omega
    clear hjl hrj
    k_steps
    rename Fr _ _ _ _ => F9
    rename News _ _ _ _ => N9
    refine' ne_list3 ?o1 ?o2 ?o3 N9 ?n1 ?n2 ?n3 ?_
    case o1 => exact hok.out p (.head _)
    case o2 => exact hok.out q (.tail _ (.head _))
    case o3 => exact (join_ok r).mpr fun z hz => hok.out z (.tail _ (.tail _ hz))
    case n1 => k_mem
    case n2 => k_mem
    case n3 => ke_room
    k_steps
    rename Fr _ _ _ _ => F10
    rename News _ _ _ _ => N10
    have hok' := hok.out
    have hfr' := hfr.out
    refine postW_next (r := r) F10 (news_one N10) (by simp only [List.length_cons]; omega) ⟨_, ws, _, 0, _, rfl, rfl, rfl, hs9, hr, fun z hz => hfr' z (.tail _ (.tail _ hz)), ?_, ?_, ⟨fun z hz => hok' z (.tail _ (.tail _ hz))⟩⟩
    · first | rfl | (rw [tick_eq])
    · first | exact hT2 | (rw [tick_eq]; exact hT2)
  · have hvl := hs7.length
    iterate 11 walk1
    refine WhlIf.no (by simp only [decide_eq_false_iff_not]; omega) ?_
    k_steps
    rename News _ _ _ _ => N9
    rw [tick_eq] at N9
    refine' eq_tup ?o1 N9 ?n1 ?n2 ?n3 ?_
    case o1 => exact (join_ok ps).mpr hok.out
    case n1 => k_mem
    case n2 => k_mem
    case n3 => ke_room
    k_steps)
end Mine

theorem PySem.Challenge.cw_mq0046_01_holds : PySem.Challenge.rw_mq0046_01.Holds :=
  Mine.law_holds
