import PyProof.Rows.All
import Wide.All
import OpenK.AllK
import Wide.FinOn
import PySem.Challenge.RW_aa0047_01
set_option Elab.async false
set_option linter.unusedVariables false
set_option rowWalk.seconds 0
set_option compiler.extract_closed false
namespace Mine
open PySem PySem.W PyProof.Rows
section
open PySem PySem.W PyProof.Rows
theorem beside {a b c : Prop} (_ : a) (_ : b) (h : c) : c := h
noncomputable def parts {a b c : Prop} (h : a → b → c) : {x : Prop × Prop // x.1 → x.2 → c} := ⟨(a, b), h⟩
set_option maxRecDepth 100000 in
set_option maxHeartbeats 8000000 in
noncomputable def hd : {x : Prop × Prop // x.1 → x.2 → PySem.Challenge.rw_aa0047_01.Holds} := by
  refine' parts (fun hl9 hc9 => ?main)
  rotate_left 2
  refine' beside ?hl ?hc ?all
  rotate_left 2
  exact hl9
  exact hc9
  w_on
  o_law
  k_head
  w_witness2
theorem left_of_top {p q : Program} {loose : List Str} {Xt : Shared → Bool} {α : Type} {Yf : Shared → α} {Ya : World → α} {N M : Nat} {g0 : Bool} {ann : Option Value} {n₀ : Nat}
    (e : opening p = plainProg p.main.scope.names) (hN : Nat.ble 600 N = true) (hM : Nat.ble M N = true) (f : ∀ s, fenceModules? p s = some s)
    (hb : ∀ w : World, ((boot_heap w.params).isNs mainGlobals, (boot_heap w.params).objs.size, (boot_heap w.params).nsMap mainGlobals "__annotations__") = (true, n₀, ann))
    (h : ∀ (w : World) (os : OsState), (topRun treeTable p w n₀ ann M ⟨boot_heap w.params, Array.mk [], boot_drawn, boot_toks, os⟩ (topStub p)).map
      (fun s => (staticsOk (importedModules p.main.body) (boot_heap w.params) s.heap && namesBound p s.heap && gensDone s && laidKept (boot_heap w.params) s.heap, openSeen q loose (importedModules p.main.body) Xt g0 s, Yf s)) = some (true, openGood q loose, Ya w)) :
    LeftO p q loose Xt Yf Ya N g0 := fun w => by
  obtain ⟨⟨hp, gs, d, k, os⟩, a, b⟩ := Option.map_eq_some_iff.mp (boot_open e hN f w)
  obtain ⟨rfl, rfl, rfl, rfl⟩ : hp = boot_heap w.params ∧ gs = Array.mk [] ∧ d = boot_drawn ∧ k = boot_toks := by simpa using b
  obtain ⟨z1, z2, z3⟩ : _ ∧ _ ∧ _ := by simpa only [Prod.mk.injEq] using hb w
  obtain ⟨s, r, l⟩ := Option.map_eq_some_iff.mp (h w os)
  obtain ⟨l1, l2⟩ := Prod.mk.inj l
  have r := topRun_mono (N - M) _ _ _ _ r
  rw [show M + (N - M) = N by have := Nat.le_of_ble_eq_true hM; (first | lia | omega)] at r
  have t : topFrom treeTable p w N ⟨boot_heap w.params, Array.mk [], boot_drawn, boot_toks, os⟩ = some s := by
    unfold topFrom
    dsimp only
    rw [z1, z2, z3, r]
    show (match staticsOk (importedModules p.main.body) (boot_heap w.params) s.heap && namesBound p s.heap && gensDone s && laidKept (boot_heap w.params) s.heap with | true => some s | false => none) = _
    rw [l1]
  unfold openEnds
  rw [a]
  show (topFrom treeTable p w N _).map _ = _
  rw [t]
  exact congrArg some l2
set_option maxRecDepth 100000 in
set_option maxHeartbeats 8000000 in
theorem left_ok : hd.val.1 := by
  refine left_of_top (M := 1200) (n₀ := 11) (ann := some (.ref 6)) rfl rfl rfl (fun _ => rfl) ?_ ?_
  · intro w
    kernel_rfl!
  intro w os
  try rw [PySem.W.Fast.te14082659384304107361]
  try rw [PySem.W.Fast.te14364793385576792824]
  try rw [PySem.W.Fast.te4187177175401517315]
  kernel_rfl!
theorem hd_of {a b c : Prop} {h : a → b → c} (x : b) : (parts h).val.2 := x
theorem hd_go (h : hd.val.2) : PySem.Challenge.rw_aa0047_01.Holds := hd.property left_ok h
end
theorem linesH : True := by
  w_on
  w_top off
  k_with_none
  trivial
local macro_rules | `(tactic| walk_at $s:str) => `(tactic| k_extra $s)
section
open PySem PySem.W PyProof.Rows PySem.Calls
noncomputable def IsTok : Option Str → Value → Prop
  | some x, v => ∃ t, v = .str x t
  | none, v => v = .none
noncomputable def inSet : Option Str → List Str → Bool
  | some x, ys => ys.any (· == x)
  | none, _ => false
section
variable {prog : Program} {w : World} {A : Around} {E : Value → Shared → Prop} {s : Shared}
theorem eqBool_str_none {x : Str} {t : Tok} {Q : Bool → Shared → Prop} (h : Q false s) : wpAny (model prog w) A (eqBool (.str x t) .none) Q E s := by
  unfold eqBool
  refine wpAny_holding ?_
  rw [if_neg (by simp)]
  exact wpAny_bind (EqNone.eq_str_none (Q := fun v s₁ => wpAny _ _ (truthOfDropped v) Q E s₁) (wpAny_truthy_bool h))
theorem notin_none {t : Addr} {items : Array Value} {ys : List Str} {Q : Value → Shared → Prop} (ht : IsTup s.heap t items) (hi : StrsAre items.toList ys)
    (h : Q (.bool true) s) : wpAny (model prog w) A (compareOp .NotIn .none (.ref t)) Q E s := by
  show wpAny _ _ (do return .bool (!(← contains (.ref t) .none))) Q E s
  refine wpAny_bind ?_
  unfold contains
  refine wpAny_holding ?_
  refine wpAny_bind (wpAny_specialOf ht.typeIs slot_tuple_contains.lookup ?_)
  rw [if_neg (by decide)]
  refine wpAny_bind (wpAny_callSpecialUnlessNone?_slot (name := Str.ofString "__contains__") ht.typeIs slot_tuple_contains
    (wpAny_call_entry slot_tuple_contains ht.typeIs entry_tuple_contains ?_ (args_tuple_contains _ _)))
  show wpAny _ _ (Builtin.Tuple.tupleItemsOf (.ref t) >>= _) _ _ s
  refine wpAny_bind (tupleItemsOf_ ht ?_)
  refine wpAny_bind (forIn_array_ _ (fun rest b s' => b.1 = none ∧ s' = s ∧ ∃ ms, StrsAre rest ms) _ ?_ ?_ items _ ⟨rfl, rfl, ys, hi⟩)
  · rintro y rest b s' ⟨hb, rfl, ms, hm⟩
    cases hm with
    | cons n tk hm' =>
      refine wpAny_bind (eqBool_str_none ?_)
      exact wpAny_pure ⟨rfl, rfl, _, hm'⟩
  · rintro ⟨b1, b2⟩ s' ⟨hb, rfl, ms, hm⟩
    simp only at hb
    subst hb
    exact wpAny_pure ⟨_, rfl, wpAny_truthy_bool (wpAny_pure h)⟩
theorem notin_tup {t : Addr} {items : Array Value} {ys : List Str} {o : Option Str} {v : Value} {Q : Value → Shared → Prop} (hv : IsTok o v) (ht : IsTup s.heap t items) (hi : StrsAre items.toList ys)
    (h : Q (.bool (!inSet o ys)) s) : wpAny (model prog w) A (compareOp .NotIn v (.ref t)) Q E s := by
  cases o with
  | some x => obtain ⟨u, rfl⟩ := hv; exact notin_tuple_strs ht hi h
  | none => obtain rfl := hv; exact notin_none ht hi h
theorem notin_some {t : Addr} {items : Array Value} {ys : List Str} {x : Str} {u : Tok} {Q : Value → Shared → Prop} (ht : IsTup s.heap t items) (hi : StrsAre items.toList ys)
    (h : Q (.bool (!inSet (some x) ys)) s) : wpAny (model prog w) A (compareOp .NotIn (.str x u) (.ref t)) Q E s := notin_tuple_strs ht hi h
theorem notin_no {t : Addr} {items : Array Value} {ys : List Str} {Q : Value → Shared → Prop} (ht : IsTup s.heap t items) (hi : StrsAre items.toList ys)
    (h : Q (.bool (!inSet none ys)) s) : wpAny (model prog w) A (compareOp .NotIn .none (.ref t)) Q E s := notin_none ht hi h
end

/-- a ledger less one entry -/
inductive Pick (p : Addr × Obj) : List (Addr × Obj) → List (Addr × Obj) → Prop
  | head {r} : Pick p (p :: r) r
  | tail {q r r'} : Pick p r r' → Pick p (q :: r) (q :: r')
theorem Pick.mem {p q : Addr × Obj} {l l' : List (Addr × Obj)} (h : Pick p l l') : q ∈ p :: l' → q ∈ l := by
  induction h with
  | head => exact id
  | tail h ih =>
    intro hq
    rcases List.mem_cons.mp hq with rfl | hq
    · exact List.mem_cons_of_mem _ (ih (.head _))
    · rcases List.mem_cons.mp hq with rfl | hq
      · exact .head _
      · exact List.mem_cons_of_mem _ (ih (.tail _ hq))
theorem news_sub {h₀ h : Heap} {L : Addr} {l l' : List (Addr × Obj)} (N : News h₀ L h l) (hs : ∀ q, q ∈ l' → q ∈ l) : News h₀ L h l' := fun p hp => N p (hs p hp)
theorem news_pick {h₀ h : Heap} {L : Addr} {p : Addr × Obj} {l l' : List (Addr × Obj)} (N : News h₀ L h l) (k : Pick p l l') : News h₀ L h (p :: l') := news_sub N fun _ => k.mem
theorem news_pick2 {h₀ h : Heap} {L : Addr} {p q : Addr × Obj} {l l₁ l₂ : List (Addr × Obj)} (N : News h₀ L h l) (k : Pick p l l₁) (k' : Pick q l₁ l₂) : News h₀ L h (p :: q :: l₂) :=
  news_sub N fun r hr => by
    rcases List.mem_cons.mp hr with rfl | hr
    · exact k.mem (.head _)
    · exact k.mem (.tail _ (k'.mem hr))
theorem off2 {own : List (Addr × Obj)} {d x : Addr} (h1 : ∀ p ∈ own, p.1 ≠ d) (h2 : ∀ p ∈ own, p.1 ≠ x) : OwnOff own [d, x] := fun p hp b hb => by
  rcases List.mem_cons.mp hb with rfl | hb
  · exact h1 p hp
  · rcases List.mem_cons.mp hb with rfl | hb
    · exact h2 p hp
    · exact nomatch hb
end
section
open PySem PySem.W PyProof.Rows PySem.Spec PySem.Calls
theorem memG {env : Env} {L b : Addr} {outer : List Env} (hf : env.frame = some L) (hm : b ∈ (env :: outer).filterMap (·.frame)) : b = L ∨ b ∈ outer.filterMap (·.frame) := by
  obtain ⟨e, he, hb⟩ := List.mem_filterMap.mp hm
  rcases List.mem_cons.mp he with rfl | he
  · rw [hf] at hb; exact .inl (Option.some.inj hb).symm
  · exact .inr (List.mem_filterMap.mpr ⟨e, he, hb⟩)

section
variable {prog : Program} {w : World} {A₀ A : Around} {s : Shared} {base h₀ g₀ : Heap} {outer : List Env} {L a : Addr} {m : Str → Option Value} {env : Env} {news : List (Addr × Obj)} {K : Frag} {p : Program} {loose : List Str} {mean : ExcName → Option Value} {mg mb : Str → Option Value}
    {R : Result → Shared → Prop} {name qual : Str} {params : Arguments} {body : List Stmt} {scope : Scope} {dV kV doc pm cdv ct oc : Value} {an od : Option Addr} {osl : Array (Option Value)} {f : Addr} {args : Args} {binds : List (Str × Value)}

theorem enterG (B : Below A₀ base outer h₀) (F : Fr h₀ L s.heap m) (N : News h₀ L s.heap news) (hA : A.frames = some (env :: outer)) (hf : env.frame = some L) (hke : env.scope.kind = .function) :
    ∃ oL es ep, (hideAll s.heap (news.map (·.1))).get? L = some oL ∧ oL.data = .dict es ep ∧ (∀ h', h'.get? L = some oL → Heap.Ns h' L m) ∧ (∀ (sl : Array (Option Value)) h', h'.get? L = some { oL with slots := sl } → Heap.Ns h' L m) ∧
      h₀.StaysIn (hideAll s.heap (news.map (·.1))) ∧ Below A base (env :: outer) (hideAll s.heap (news.map (·.1))) := by
  have nm : ∀ b o, h₀.get? b = some o → b ∉ news.map (·.1) := fun b o e q => by
    obtain ⟨p, hp, rfl⟩ := List.mem_map.mp q
    rw [(N p hp).2.2] at e; cases e
  have st : h₀.StaysIn (hideAll s.heap (news.map (·.1))) := fun b o e => hideAll_get _ (F.keep b o e) (nm b o e)
  obtain ⟨oL, es, ep, hL, hLd, hLk, hLf⟩ := F.ns
  have nL : L ∉ news.map (·.1) := fun q => by
    obtain ⟨p, hp, e⟩ := List.mem_map.mp q
    exact (N p hp).2.1 e
  have hLg := hideAll_get (news.map (·.1)) hL nL
  have B₁ := pushX B F hf hke
  refine ⟨oL, es, ep, hLg, hLd, fun h' e => ⟨oL, es, ep, e, hLd, hLk, hLf⟩, fun sl h' e => ⟨_, es, ep, e, hLd, hLk, hLf⟩, st, hA, fun b o e => st b o (B.stays b o e), funFrames_hideAll B₁.frames fun env' he b hb hf' => ?_⟩
  cases he with
  | head => exact nL ((Option.some.inj (hf.symm.trans hf') : L = b) ▸ hb)
  | tail _ he =>
    obtain ⟨L₁, o₁, hf₁, ho₁⟩ := funFrames_in B.frames env' he
    rw [hf₁] at hf'
    exact nm L₁ o₁ ho₁ ((Option.some.inj hf' : L₁ = b) ▸ hb)

theorem code_defSG (B : Below A₀ base outer h₀) (F : Fr h₀ L s.heap m) (X₀ : K.In h₀) (N : News h₀ L s.heap news) (T : Top p loose mean mg mb h₀) (XB : K.In base) (TB : Top p loose mean mg mb base) (D : KtsDicts (outer.filterMap (·.frame)) h₀)
    (T0 : KtsTurn (outer.filterMap (·.frame)) g₀ h₀) (hA : A.frames = some (env :: outer)) (hf : env.frame = some L) (hck : env.scope.kind = .function)
    (ho : K.lookup f = some ⟨oc, od, .func (fnOf name qual params body scope dV kV doc pm an cdv ct), osl⟩) (hcd : codeIn K cdv qual = true) (hroom : A.depth < recursionLimit)
    (hbind : BindsTo s (fnOf name qual params body scope dV kV doc pm an cdv ct) args binds) (hloc : ∀ y ∈ binds, scope.names.lookup y.1 = some .local)
    (h : ∀ g L' h₁, Fr h₀ L g m → Fr g L' h₁ (fun y => binds.reverse.lookup y) → News g L' h₁ news → Below A base (env :: outer) g → K.In g → Top p loose mean mg mb g → KtsDicts ((env :: outer).filterMap (·.frame)) g → (∀ p ∈ news, p.1 < L') →
      wpAny (model prog w) (A.deeper (envOf qual scope L' f cdv)) (execs body (envOf qual scope L' f cdv))
        (fun fl s' => LeaveS ((env :: outer).filterMap (·.frame)) A₀ base outer K p loose mean mg mb g₀ h₀ L m g R (match fl with | .ret v => v | _ => .none) s')
        (fun e s' => wpAny (model prog w) (A.deeper (envOf qual scope L' f cdv)) (leaving (envOf qual scope L' f cdv) e) (fun _ s'' => R (.error e) s'') (fun e' s'' => R (.error e') s'') s')
        { s with heap := h₁, toks := s.toks + binds.length })
    (hco : scope.isCoroutine = false) (hgen : scope.isGenerator = false) (hk : scope.kind = .function)
    (hcell : ∀ x ∈ scope.names, x.2 ≠ .cell) : codeAny (model prog w) A (.call (.ref f) args) R s := by
  have X := X₀.keeps F.keep
  refine codeAny_call_def (fd := fnOf name qual params body scope dV kV doc pm an cdv ct) (body := body) (binds := binds) hroom (X _ _ ho) rfl (T.nolimit.keeps F.keep) (codeRec_of X hcd) rfl hbind hcell hloc (fun h₁ hns hk₁ => ?_) hco hgen hk
  obtain ⟨oL, es, ep, hLg, hLd, hN, hNs, st, B₂⟩ := enterG B F N hA hf hck
  refine wpAny_mono (h _ s.heap.objs.size h₁ ⟨hN _ hLg, st, F.above⟩ ⟨hns, fun b o e => hk₁ b o (of_hideAll _ e), Nat.le_of_eq (hideAll_size _ _)⟩
    (fun p hp => ⟨hk₁ _ _ (N p hp).1, Nat.ne_of_lt (Heap.lt_size (N p hp).1), hideAll_none _ (List.mem_map_of_mem hp)⟩) B₂ (X₀.keeps st) (T.keeps st) (fun b hb => by
      rcases memG hf hb with rfl | hb
      · exact ⟨oL, es, ep, hLg, hLd⟩
      · obtain ⟨o, es', n', ho', hd'⟩ := D b hb
        exact ⟨o, es', n', st b o ho', hd'⟩) (fun p hp => Heap.lt_size (N p hp).1)) (fun fl s' hl => ?_) fun _ _ y => y
  have nL₀ : h₀.get? L = none := kts_self F
  rcases hl with ⟨L', m', news', F', N', k⟩ | ⟨g', L', m', news', T', F', N', k⟩
  · refine k ⟨hN _ (F'.keep _ _ hLg), fun b o e => F'.keep b o (st b o e), F.above⟩ fun p hp => ⟨(N' p hp).1, fun q => ?_, ?_⟩
    · have := (N' p hp).2.2; rw [q, hLg] at this; cases this
    · cases q : h₀.get? p.1 with
      | none => rfl
      | some o => have := (N' p hp).2.2; rw [st _ _ q] at this; cases this
  obtain ⟨sl, hs⟩ := T'.up hLg
  obtain ⟨T₁, S₁⟩ := kts_turn_at (h := s'.heap) (fs := outer.filterMap (·.frame)) (g := h₀)
    (fun b hb => by
      obtain ⟨_, o, ho', _⟩ := B.frames.mem hb
      exact ⟨o, ho'⟩)
    (fun b o e nmem => F'.keep b o (T'.other b o (st b o e) (fun q => by
      rcases memG hf q with z | z
      · rw [z, nL₀] at e
        cases e
      · exact nmem z)))
    (fun b o e hm => by
      obtain ⟨sl', hs'⟩ := T'.up (st b o e)
      exact ⟨sl', F'.keep _ _ hs'⟩)
  have B₃ : Below A₀ base outer (ktsHeap s'.heap (outer.filterMap (·.frame)) h₀) := ⟨B.stack, fun b o e => T₁.other b o (B.stays b o e) (fun hm => by
    rw [(B.frames.mem hm).1] at e
    cases e), B.frames.of_keeps fun b o e _ => by
    obtain ⟨sl', hs'⟩ := T₁.up e
    exact ⟨_, hs', rfl⟩⟩
  refine k _ (T0.trans T₁) ⟨hNs sl _ (F'.keep _ _ hs), S₁, by rw [T₁.size]; exact F.above⟩ (fun p hp => ⟨(N' p hp).1, fun q => ?_, ?_⟩) B₃ (XB.keeps B₃.stays) (TB.keeps B₃.stays) (D.turn T₁)
  · have := (N' p hp).2.2; rw [q, hs] at this; cases this
  · refine T₁.none_ _ ?_
    cases q : h₀.get? p.1 with
    | none => rfl
    | some o =>
      obtain ⟨sl', hs'⟩ := T'.up (st _ _ q)
      have := (N' p hp).2.2
      rw [hs'] at this
      cases this

/-- no outer frames: the base stays -/
theorem turn_nil_fr {h₀ h₁ h : Heap} {L : Addr} {m : Str → Option Value} (T : KtsTurn [] h₀ h₁) (F : Fr h₁ L h m) : Fr h₀ L h m :=
  ⟨F.ns, fun b o e => F.keep b o (T.other b o e (fun q => nomatch q)), by rw [← T.size]; exact F.above⟩
theorem turn_nil_news {h₀ h₁ h : Heap} {L : Addr} {news : List (Addr × Obj)} (T : KtsTurn [] h₀ h₁) (N : News h₁ L h news) : News h₀ L h news :=
  fun p hp => ⟨(N p hp).1, (N p hp).2.1, by
    cases q : h₀.get? p.1 with
    | none => rfl
    | some o => have := (N p hp).2.2; rw [T.other _ _ q (fun q => nomatch q)] at this; cases this⟩
end
end
section
open PySem PySem.W PyProof.Rows PySem.Calls
open PySem.Sem (wp)
/-- what a tree that writes tracebacks alone keeps of an object -/
noncomputable def sg (o : Obj) : Option Addr × Option Value × Option Value := (o.dict, match o.data with | .fields vs => (vs[0]?, vs[2]?) | _ => (none, none))
/-- a tree that turns no object's dict pointer -/
noncomputable def KD {α : Type} : Sem α → Prop
  | .pure _ => True
  | .raise _ => True
  | .unsupported _ => True
  | .finish _ => True
  | .rule _ k => KD (k ())
  | .at _ k => KD (k ())
  | .load _ _ k => ∀ o, KD (k o)
  | .update _ _ f k => (∀ o, sg (f o) = sg o) ∧ KD (k ())
  | .alloc _ k => ∀ a, KD (k a)
  | .loadIfAlive _ k => ∀ o, KD (k o)
  | .point _ k => KD (k ())
  | .fresh k => ∀ t, KD (k t)
  | .ask k => ∀ g, KD (k g)
  | .stack k => ∀ st, KD (k st)
  | .handled _ k => ∀ v, KD (k v)
  | _ => False

noncomputable def SameD (h h' : Heap) : Prop := ∀ (b : Nat) (d : Option Addr × Option Value × Option Value), (h.objs[b]?).map sg = some d → (h'.objs[b]?).map sg = some d
theorem SameD.refl {h : Heap} : SameD h h := fun _ _ e => e
theorem SameD.trans {h₁ h₂ h₃ : Heap} (x : SameD h₁ h₂) (y : SameD h₂ h₃) : SameD h₁ h₃ := fun b d e => y b d (x b d e)
theorem SameD.push {h : Heap} (o : Obj) : SameD h (h.push o) := fun b d e => by
  obtain ⟨objs, l⟩ := h
  have e' : (objs[b]?).map sg = some d := e
  show ((objs.push o)[b]?).map sg = some d
  cases q : objs[b]? with
  | none => rw [q] at e'; cases e'
  | some x =>
    have hb : b < objs.size := by
      rcases Nat.lt_or_ge b objs.size with h | h
      · exact h
      · rw [Array.getElem?_eq_none h] at q; cases q
    rw [Array.getElem?_push_lt hb]
    rw [q] at e'
    rw [Array.getElem?_eq_getElem hb] at q
    rw [Option.some.inj q]
    exact e'
theorem SameD.update {h : Heap} {a : Addr} {f : Obj → Obj} (hf : ∀ o, sg (f o) = sg o) : SameD h (h.update a f) := fun b d e => by
  obtain ⟨objs, l⟩ := h
  have e' : (objs[b]?).map sg = some d := e
  show ((objs.modify a f)[b]?).map sg = some d
  rw [Array.getElem?_modify]
  split
  · rw [Option.map_map]
    cases q : objs[b]? with
    | none => rw [q] at e'; cases e'
    | some x => rw [q] at e'; simp only [Option.map_some, Function.comp] at e' ⊢; rw [hf]; exact e'
  · exact e'
theorem SameD.get {h h' : Heap} (x : SameD h h') {b : Addr} {o o' : Obj} (e : h.get? b = some o) (e' : h'.get? b = some o') : sg o' = sg o := by
  have e1 := (Heap.get?_some_iff.mp e).1
  have e2 := (Heap.get?_some_iff.mp e').1
  have := x b (sg o) (by rw [e1]; rfl)
  rw [e2] at this
  exact Option.some.inj this

theorem wp_KD {α : Type} {M : Model} {Γ : Ctx} {h₀ : Heap} : ∀ (t : Sem α), KD t → ∀ (Q : α → Pos → Shared → Prop) (E : Value → Pos → Shared → Prop) (p : Pos) (s : Shared), SameD h₀ s.heap → wp M Γ t Q E p s →
    wp M Γ t (fun a p s' => Q a p s' ∧ SameD h₀ s'.heap) (fun e p s' => E e p s' ∧ SameD h₀ s'.heap) p s := by
  intro t
  induction t with
  | pure a => intro _ Q E p s hs h; exact ⟨h, hs⟩
  | raise e => intro _ Q E p s hs h; exact ⟨h, hs⟩
  | unsupported _ => intro _ Q E p s hs h; exact h
  | finish _ => intro _ Q E p s hs h; exact h
  | rule _ k ih => intro hk Q E p s hs h; exact ih () hk Q E p s hs h
  | «at» q k ih => intro hk Q E p s hs h; exact ih () hk Q E q s hs h
  | load a q k ih => intro hk Q E p s hs h; obtain ⟨o, ho, h⟩ := h; exact ⟨o, ho, ih o (hk o) Q E p s hs h⟩
  | update a q f k ih => intro hk Q E p s hs h; exact ⟨h.1, ih () hk.2 Q E p _ (hs.trans (SameD.update hk.1)) h.2⟩
  | alloc o k ih => intro hk Q E p s hs h; exact ih _ (hk _) Q E p _ (hs.trans (SameD.push o)) h
  | loadIfAlive a k ih => intro hk Q E p s hs h; exact ih _ (hk _) Q E p s hs h
  | point _ k ih => intro hk Q E p s hs h; exact ih () hk Q E p s hs h
  | fresh k ih => intro hk Q E p s hs h; exact ih _ (hk _) Q E p _ hs h
  | ask k ih => intro hk Q E p s hs h; exact ih _ (hk _) Q E p s hs h
  | stack k ih => intro hk Q E p s hs h; exact ih _ (hk _) Q E p s hs h
  | handled o k ih => intro hk Q E p s hs h; exact ih _ (hk _) Q E p s hs h
  | _ => intro hk; exact hk.elim

theorem KD.bind {α β : Type} {m : Sem α} {f : α → Sem β} (h : KD m) (hf : ∀ a, KD (f a)) : KD (m >>= f) := by
  show KD (Sem.bind m f)
  induction m with
  | pure a => exact hf a
  | raise e => trivial
  | unsupported _ => trivial
  | finish _ => trivial
  | rule _ k ih => exact ih () h
  | «at» q k ih => exact ih () h
  | load a q k ih => exact fun o => ih o (h o)
  | update a q f k ih => exact ⟨h.1, ih () h.2⟩
  | alloc o k ih => exact fun a => ih a (h a)
  | loadIfAlive a k ih => exact fun a => ih a (h a)
  | point _ k ih => exact ih () h
  | fresh k ih => exact fun a => ih a (h a)
  | ask k ih => exact fun a => ih a (h a)
  | stack k ih => exact fun a => ih a (h a)
  | handled o k ih => exact fun a => ih a (h a)
  | _ => exact h.elim
theorem KD.pure {α : Type} (a : α) : KD (Pure.pure a : Sem α) := trivial
theorem KD.uns {α : Type} (x : String) : KD (unsupported x : Sem α) := trivial
theorem KD.ite {α : Type} {c : Prop} [Decidable c] {a b : Sem α} (ha : KD a) (hb : KD b) : KD (if c then a else b) := by split <;> assumption

theorem any_KD {α : Type} {M : Model} {A : Around} {t : Sem α} {Q : α → Shared → Prop} {E : Value → Shared → Prop} {s : Shared} (hk : KD t) (h : wpAny M A t Q E s) :
    wpAny M A t (fun a s' => Q a s' ∧ SameD s.heap s'.heap) (fun e s' => E e s' ∧ SameD s.heap s'.heap) s := fun Γ p hΓ => wp_KD t hk _ _ p s SameD.refl (h Γ p hΓ)
end
section
open PySem PySem.W PyProof.Rows PySem.Calls
open PySem.Sem (wp)
theorem mapFields_sg (i : Nat) (x : Value) (h0 : i ≠ 0) (h2 : i ≠ 2) (o : Obj) : sg (Obj.mapFields (·.setIfInBounds i x) o) = sg o := by
  obtain ⟨c, d, dt, sl⟩ := o
  cases dt with
  | fields vs =>
    show (d, (vs.setIfInBounds i x)[0]?, (vs.setIfInBounds i x)[2]?) = (d, vs[0]?, vs[2]?)
    rw [Array.getElem?_setIfInBounds_ne (Ne.symm h0.symm), Array.getElem?_setIfInBounds_ne (Ne.symm h2.symm)]
  | _ => rfl
theorem kd_load (a : Addr) : KD (load a) := fun _ => trivial
theorem kd_fieldsOf (v : Value) : KD (fieldsOf v) := by
  unfold fieldsOf
  split
  · refine KD.bind (kd_load _) fun o => ?_
    split <;> trivial
  · trivial
theorem kd_field (v : Value) (i : Nat) : KD (field v i) := by
  unfold field
  refine KD.bind (kd_fieldsOf v) fun o => ?_
  split <;> trivial
theorem kd_updateField (a : Addr) (i : Nat) (v : Value) (h0 : i ≠ 0) (h2 : i ≠ 2) : KD (updateField a i v) := by
  unfold updateField
  refine KD.bind (kd_load _) fun o => ?_
  split
  · exact KD.ite ⟨fun o => mapFields_sg _ _ h0 h2 o, trivial⟩ trivial
  · trivial
theorem kd_setField (v : Value) (i : Nat) (x : Value) (h0 : i ≠ 0) (h2 : i ≠ 2) : KD (setField v i x) := by
  unfold setField
  split
  · exact kd_updateField _ _ _ h0 h2
  · trivial
theorem kd_setFlight (e : Value) (f : Option Addr) : KD (setFlight e f) := by
  unfold setFlight
  refine KD.bind (kd_field _ _) fun tb => KD.ite (kd_setField _ _ _ (by decide) (by decide)) trivial
theorem kd_newFields (ty : String) (vs : List Value) : KD (newFields ty vs) := by
  unfold newFields newObj newObjAsIs
  dsimp only
  refine KD.ite (KD.bind trivial fun _ => ?_) (KD.bind (fun _ => trivial) fun _ => trivial)
  exact KD.bind (fun _ => trivial) fun _ => trivial
theorem kd_behind (env : Env) (outer : List Env) : KD (PySem.behindIsImport env outer) := by
  unfold behindIsImport
  refine KD.ite trivial (KD.ite trivial (KD.bind (kd_field _ _) fun _ => trivial))
theorem kd_kept (env : Env) (i : Bool) (outer : List Env) : KD (PySem.keptBack env i outer) := by
  unfold keptBack
  split
  · refine KD.ite trivial (KD.bind ?_ fun _ => trivial)
    unfold underTheClaimsCaller
    refine KD.bind (fun _ => trivial) fun _ => trivial
  · trivial
theorem kd_ready : ∀ l : List Env, KD (readyFrames l)
  | [] => trivial
  | env :: outer => by
    unfold readyFrames
    split
    · refine KD.bind (kd_load _) fun o => KD.ite trivial (KD.bind (kd_behind _ _) fun i => KD.bind (kd_kept _ _ _) fun b => KD.bind ⟨fun _ => rfl, trivial⟩ fun _ => kd_ready outer)
    · trivial
theorem kd_frameOf (env : Env) : KD (PySem.frameOf env) := by
  unfold PySem.frameOf frameEnvs
  refine KD.bind (KD.bind (fun _ => trivial) fun _ => trivial) fun l => KD.bind ?_ fun r => by split <;> trivial
  unfold frameObject
  split
  · trivial
  · exact KD.bind (kd_ready _) fun _ => trivial
theorem kd_place (f : Addr) (b : Bool) : KD (entryPlaceOf f b) := by
  unfold entryPlaceOf
  refine KD.bind (fun _ => trivial) fun l => ?_
  split <;> trivial
theorem kd_noteFrame (e : Value) (env : Env) : KD (noteFrame e env) := by
  unfold noteFrame
  split
  · refine KD.bind (kd_field _ _) fun hd => ?_
    have fin : KD (do setField e 1 (← EntryCells.newEntry hd (← PySem.frameOf env) .none (rawInt ‹Addr›) .none (← entryPlaceOf ‹Addr› (hd != .none)))) :=
      KD.bind (kd_frameOf _) fun _ => KD.bind (kd_place _ _) fun _ => KD.bind (kd_newFields _ _) fun _ => kd_setField _ _ _ (by decide) (by decide)
    exact KD.ite (KD.bind (kd_field _ _) fun _ => KD.ite trivial (KD.bind (kd_setField _ _ _ (by decide) (by decide)) fun _ => fin)) fin
  · trivial
theorem kd_leaving (env : Env) (e : Value) : KD (leaving env e) := by
  unfold leaving
  exact KD.bind (kd_noteFrame _ _) fun _ => kd_setFlight _ _
end
section
open PySem PySem.W PyProof.Rows PySem.Calls
section
variable {M : Model} {A A₀ : Around} {E : Value → Shared → Prop} {s' : Shared} {base g g₀ h : Heap} {outer : List Env} {L a e t : Addr} {m : Str → Option Value} {name : Str} {scope : Scope} {cd : Value} {news : List (Addr × Obj)}

/-- what lies in the ghost part that hides the frames and some more addresses -/
theorem hide_part (as : List Addr) (K : Below A base outer g) (F : Fr g L h m) (hk : scope.kind = .function)
    (has : ∀ b ∈ as, g.get? b = none) :
    base.StaysIn (hideAll h (as ++ (envOf name scope L a cd :: outer).filterMap (·.frame))) ∧
    (∀ b o, g.get? b = some o → b ∉ outer.filterMap (·.frame) → (hideAll h (as ++ (envOf name scope L a cd :: outer).filterMap (·.frame))).get? b = some o) ∧
    (hideAll h (as ++ (envOf name scope L a cd :: outer).filterMap (·.frame))).StaysIn h ∧
    h.FunFrames (hideAll h (as ++ (envOf name scope L a cd :: outer).filterMap (·.frame))) (envOf name scope L a cd :: outer) := by
  have K' := K.push (name := name) (a := a) (cd := cd) F hk
  refine ⟨fun b o q => hideAll_get _ (K'.stays b o q) fun hm => ?_, fun b o q nm => hideAll_get _ (F.keep b o q) fun hm => ?_, fun b o q => of_hideAll _ q, ?_⟩
  · rcases List.mem_append.mp hm with hm | hm
    · have := has b hm; rw [K.stays b o q] at this; cases this
    · rw [(K'.frames.mem hm).1] at q; cases q
  · rcases List.mem_append.mp hm with hm | hm
    · rw [has b hm] at q; cases q
    · rcases memG (env := envOf name scope L a cd) rfl hm with z | z
      · rw [z, kts_self F] at q; cases q
      · exact nm z
  · exact funFrames_hide K'.frames fun env he b hb => List.mem_append_right _ (List.mem_filterMap.mpr ⟨env, he, hb⟩)

theorem hide_news (as : List Addr) (K : Below A base outer g) (F : Fr g L h m) (N : News g L h news) (hn : ∀ q ∈ news, q.1 ∉ as) :
    ∀ q ∈ news, (hideAll h (as ++ (envOf name scope L a cd :: outer).filterMap (·.frame))).get? q.1 = some q.2 ∧ g.get? q.1 = none ∧ base.get? q.1 = none := fun q hq => by
  refine ⟨hideAll_get _ (N q hq).1 fun hm => ?_, (N q hq).2.2, fresh_of_stays K.stays (N q hq).2.2⟩
  rcases List.mem_append.mp hm with hm | hm
  · exact hn q hq hm
  · rcases memG (env := envOf name scope L a cd) rfl hm with z | z
    · exact (N q hq).2.1 z
    · obtain ⟨o, ho, _⟩ := (K.frames.mem z).2
      rw [(N q hq).2.2] at ho; cases ho
end

section
variable {prog : Program} {w : World} {A₀ : Around} {E : Value → Shared → Prop} {s' : Shared} {base g g₀ G : Heap} {outer : List Env} {L a e : Addr} {m : Str → Option Value} {name : Str} {scope : Scope} {cd : Value}
  {b₀ : Stmt} {suite : List Stmt} {pos np : Pos} {rest : List ExceptHandler} {Q : Flow → Shared → Prop} {news : List (Addr × Obj)} {KF : Frag}
  {p : Program} {loose : List Str} {mean : ExcName → Option Value} {mg mb : Str → Option Value} {x : Str} {X T' : String}

/-- a built-in exception that the frame's own statement raises, caught by the frame's own clause -/
theorem sameD_of {α : Type} {M : Model} {A : Around} {E : Value → Shared → Prop} {s : Shared} {tr : Sem α} {P : α → Heap → Prop} {Q : α → Shared → Prop} (hk : KD tr)
    (h : ∀ {Q' : α → Shared → Prop}, (∀ a h', P a h' → Q' a { s with heap := h' }) → wpAny M A tr Q' E s) (hQ : ∀ a h', P a h' → SameD s.heap h' → Q a { s with heap := h' }) : wpAny M A tr Q E s := by
  refine wpAny_mono (any_KD hk (h (Q' := fun a s' => ∃ h', s' = { s with heap := h' } ∧ P a h') fun a h' p => ⟨h', rfl, p⟩)) (fun a s' z => ?_) fun _ _ z => z.1
  obtain ⟨⟨h', rfl, p⟩, c⟩ := z
  exact hQ a h' p c
theorem caughtHere (hx : Heap.NewExc G s'.heap e X) (F : Fr g L G m) (K : Below A₀ base outer g) (N : News g L G news) (XB : KF.In base) (TB : Top p loose mean mg mb base)
    (D : KtsDicts (outer.filterMap (·.frame)) g) (T0 : KtsTurn (outer.filterMap (·.frame)) g₀ g)
    (ex : nsIn KF mainGlobals x = some none) (hv : bootBuiltins x = some (.type T')) (hn' : x ≠ "__name__")
    (hexc : isSubtype (.type T') (.type "BaseException") = pure true) (hnt : isSubtype (.type ((Manifest.find? T').elim "type" fun y => y.metatype)) (.type "tuple") = pure false) (hsub : isSubtype (.type X) (.type T') = pure true)
    (k : ∀ h' g' oe, KtsTurn (outer.filterMap (·.frame)) g₀ g' → Fr g' L h' m → News g' L h' ((e, oe) :: news) → oe.cls = .type X → (∃ vs, oe.data = .fields vs ∧ vs[2]? = some .none) → Below A₀ base outer g' → KF.In g' → Top p loose mean mg mb g' → KtsDicts (outer.filterMap (·.frame)) g' →
      wpAny (model prog w) ((A₀.deeper (envOf name scope L a cd)).mark (some (.ref e))) (execs (b₀ :: suite) (envOf name scope L a cd)) Q E { s' with heap := h' })
    (hk : scope.kind = .function := by rfl) (hxk : (envOf name scope L a cd).kindOf x = some .globalImplicit := by rfl) (hd : (x == ("__debug__" : Str)) = false := by decide)
    (hE : PassesOwnAt (model prog w) ((A₀.deeper (envOf name scope L a cd)).mark (some (.ref e))) (A₀.deeper (envOf name scope L a cd)) (envOf name scope L a cd) E := by passes_own) :
    wpAny (model prog w) (A₀.deeper (envOf name scope L a cd)) (noteFrame (.ref e) (envOf name scope L a cd))
      (fun _ s₂ => wpAny (model prog w) (A₀.deeper (envOf name scope L a cd)) (setFlight (.ref e) none) (fun _ s₃ =>
        wpAny (model prog w) (A₀.deeper (envOf name scope L a cd)) (handleBy (.ref e) (envOf name scope L a cd) (.ExceptHandler (some (.Name x np)) none (b₀ :: suite) pos :: rest)) Q E s₃) E s₂) E s' := by
  obtain ⟨hkeep, hnew, ob, tp, hob, hcls, hdat⟩ := hx
  obtain ⟨hB, hBG, hBh, hFF⟩ := hide_part (h := G) (a := a) (cd := cd) [] K F hk (fun _ hm => nomatch hm)
  have hl := hide_news (name := name) (scope := scope) (a := a) (cd := cd) [] K F N (fun _ _ hm => nomatch hm)
  simp only [List.nil_append] at hB hBG hBh hFF hl
  have hen : (hideAll G ((envOf name scope L a cd :: outer).filterMap (·.frame))).get? e = none := by
    cases q : (hideAll G ((envOf name scope L a cd :: outer).filterMap (·.frame))).get? e with
    | none => rfl
    | some o => have := of_hideAll _ q; rw [hnew] at this; cases this
  have hL : (hideAll G ((envOf name scope L a cd :: outer).filterMap (·.frame))).get? L = none := by
    obtain ⟨_, ⟨L', _, hf, hn', _⟩, _⟩ := hFF
    obtain rfl : L = L' := Option.some.inj hf
    exact hn'
  have hge : g.get? e = none := by
    cases q : g.get? e with
    | none => rfl
    | some o => have := F.keep _ _ q; rw [hnew] at this; cases this
  have hBG : ∀ b o, G.get? b = some o → b ∉ (envOf name scope L a cd :: outer).filterMap (·.frame) → (hideAll G ((envOf name scope L a cd :: outer).filterMap (·.frame))).get? b = some o := fun b o q nm => hideAll_get _ q nm
  generalize hBdef : hideAll G ((envOf name scope L a cd :: outer).filterMap (·.frame)) = B at hB hBG hBh hFF hl hen hL
  have hsm : G.UpToSlots s'.heap := Heap.UpToSlots.of_keeps hkeep
  have first : ∀ {Q : Unit → Shared → Prop}, (∀ h', Heap.HeldW B (envOf name scope L a cd :: outer) e (.type X) tp L h' → s'.heap.UpToSlots h' → SameD s'.heap h' → Q () { s' with heap := h' }) →
      wpAny (model prog w) (A₀.deeper (envOf name scope L a cd)) (noteFrame (.ref e) (envOf name scope L a cd)) Q E s' := fun hQ => by
    refine sameD_of (P := fun _ h' => Heap.HeldW B (envOf name scope L a cd :: outer) e (.type X) tp L h' ∧ s'.heap.UpToSlots h') (kd_noteFrame _ _) (fun {Q'} hQ' => ?_) fun _ h' p c => hQ h' p.1 p.2 c
    replace hQ' : ∀ h', Heap.HeldW B (envOf name scope L a cd :: outer) e (.type X) tp L h' → s'.heap.UpToSlots h' → Q' () { s' with heap := h' } := fun h' p q => hQ' () h' ⟨p, q⟩
    unfold noteFrame
    dsimp only
    refine wpAny_bind (wpAny_field hob hdat (x := .none) rfl ?_)
    rw [if_neg (by decide)]
    refine wpAny_entryW (a0 := tp) (Around.frames_deeper K.stack) (hFF.of_keeps fun b o hb _ => ⟨o, hkeep b o hb, rfl⟩) rfl hob (fun b o hb => hkeep b o (hBh b o hb)) hen hdat (by simp) rfl fun h' hN => ?_
    obtain ⟨k1, k2, k3, k4⟩ := hN
    exact hQ' h' ⟨k1, hen, k2, by rw [← hcls]; exact k3⟩ k4
  refine first fun h₄ hheld₄ hsm₄ hs₄ => ?_
  refine sameD_of (P := fun _ h' => Heap.FlyingW B (envOf name scope L a cd :: outer) e (.type X) tp h' ∧ h₄.UpToSlots h') (kd_setFlight _ _) (fun hQ' => wpAny_landsW hheld₄ fun h' p q => hQ' () h' ⟨p, q⟩) fun _ h₅ p5 hs₅ => ?_
  obtain ⟨hfl₅, hsm₅'⟩ := p5
  have hsm₅ := hsm₄.trans hsm₅'
  obtain ⟨g₅, T₅, F₅, K₅⟩ := kts_ground K F hBG hfl₅.1 (hsm.trans hsm₅)
  have X₅ : KF.In g₅ := XB.keeps K₅.stays
  have P₅ : TopRead p loose mg mb g₅ := topRead_of (TB.keeps K₅.stays)
  obtain ⟨ob₅, hob₅, hobc₅⟩ := hfl₅.there
  refine wpAny_handleBy_builtin (X := X) (T := T') (b := true) hexc hnt hsub (name_B F₅ X₅ P₅ ex hv hn' ⟨rfl, ⟨ob₅, hob₅, hobc₅⟩, ?_⟩ hk hxk hd)
  refine sameD_of (P := fun _ h' => Heap.FlyingW B (envOf name scope L a cd :: outer) e (.type X) tp h' ∧ h₅.UpToSlots h') (kd_setFlight _ _) (fun hQ' => lands_againW hfl₅ fun h' p q => hQ' () h' ⟨p, q⟩) fun _ h₆ p6 hs₆ => ?_
  obtain ⟨hfl₆, hsm₆⟩ := p6
  obtain ⟨g₆, T₆, F₆, K₆⟩ := kts_ground K F hBG hfl₆.1 ((hsm.trans hsm₅).trans hsm₆)
  have Nl : News g₆ L h₆ news := fun q hq => ⟨hfl₆.1 _ _ (hl q hq).1, (fun z => by have := (hl q hq).1; rw [z, hL] at this; cases this), T₆.none_ _ (hl q hq).2.1⟩
  obtain ⟨oe, ws, hoe, hoec, hoed, hoe0⟩ := hfl₆.first
  have N₆ := News.more F₆ Nl hoe (fun es n q => by rw [hoed] at q; cases q) (T₆.none_ _ hge)
  have hsg := ((hs₄.trans hs₅).trans hs₆).get hob hoe
  have hws : ws[2]? = some .none := by
    unfold sg at hsg
    rw [hoed, hdat] at hsg
    exact congrArg (fun z => z.2.2) hsg
  exact wpAny_passesOwnAt hE (k h₆ g₆ oe (T0.trans T₆) F₆ N₆ hoec ⟨ws, hoed, hws⟩ K₆ (XB.keeps K₆.stays) (TB.keeps K₆.stays) (D.turn T₆))
end
end
section
open PySem PySem.W PyProof.Rows PySem.Calls
/-- an iterator of n items whose own object is io i before the i-th step -/
structure It (prog : Program) (w : World) (A : Around) (I : Addr) (n : Nat) (P : Nat → Value → Prop) (io : Nat → Obj) : Prop where
  item : ∀ i (s : Shared) (Q : Option Value → Shared → Prop) (E : Value → Shared → Prop), i < n → s.heap.get? I = some (io i) →
    (∀ v h' tk, P i v → h'.get? I = some (io (i + 1)) → (∀ b o, b ≠ I → s.heap.get? b = some o → h'.get? b = some o) → Q (some v) { s with heap := h', toks := tk }) → wpAny (model prog w) A (pyNext (.ref I)) Q E s
  done : ∀ (s : Shared) (Q : Option Value → Shared → Prop) (E : Value → Shared → Prop), s.heap.get? I = some (io n) →
    (∀ h' tk, (∀ b o, b ≠ I → s.heap.get? b = some o → h'.get? b = some o) → Q none { s with heap := h', toks := tk }) → wpAny (model prog w) A (pyNext (.ref I)) Q E s

noncomputable def rIt (a c : Int) (n : Nat) (i : Nat) : Obj := { cls := .type "range_iterator", dict := none, data := .fields #[rawInt (a + (i : Nat) * c), rawInt ((n : Int) - (i : Nat)), rawInt c], slots := #[] }
theorem It.range {prog : Program} {w : World} {A : Around} (hh : A.handled = none) (I : Addr) (a c : Int) (n : Nat) : It prog w A I n (fun i v => ∃ t, v = .int (a + i * c) t) (rIt a c n) where
  item := fun i s Q E hi ho hQ => (Walks.range hh I a c n).item i s Q E hi ho fun v h' tk hP hst hk => hQ v h' tk hP hst fun b o hb => hk b o (by simpa using hb)
  done := fun s Q E ho hQ => (Walks.range hh I a c n).done s Q E ho fun h' tk hk => hQ h' tk fun b o hb => hk b o (by simpa using hb)

noncomputable def LoopPost (s : Shared) (L I : Addr) (io : Obj) (Jn : Heap → (Str → Option Value) → List (Addr × Obj) → Prop) (Q : Flow → Shared → Prop) (f : Flow) (s₂ : Shared) : Prop :=
  match f with
  | .ret v => Q (.ret v) s₂
  | .brk => Q .next s₂
  | _ => ∃ g m news h tk, s₂ = { s with heap := h, toks := tk } ∧ Fr g L h m ∧ News g L h ((I, io) :: news) ∧ Jn g m news

section
variable {prog : Program} {w : World} {A : Around} {E : Value → Shared → Prop} {s : Shared} {env : Env} {I : Addr} {n : Nat} {P : Nat → Value → Prop} {io : Nat → Obj}
theorem fr_step {g h h' : Heap} {L : Addr} {m : Str → Option Value} {news : List (Addr × Obj)} {o o' : Obj} (F : Fr g L h m) (N : News g L h ((I, o) :: news)) (hI : ∀ p ∈ news, p.1 ≠ I) (hn : h'.get? I = some o')
    (hk : ∀ b o, b ≠ I → h.get? b = some o → h'.get? b = some o) : Fr g L h' m ∧ News g L h' ((I, o') :: news) := by
  have h1 := N (I, o) (.head _)
  refine ⟨⟨F.ns.at' fun o e => hk _ o (Ne.symm h1.2.1) e, fun b o e => hk b o (fun z => by rw [z, h1.2.2] at e; cases e) (F.keep b o e), F.above⟩, fun p hp => ?_⟩
  rcases List.mem_cons.mp hp with rfl | hp
  · exact ⟨hn, h1.2⟩
  · have := N p (.tail _ hp)
    exact ⟨hk _ _ (hI p hp) this.1, this.2⟩
theorem fr_step' {g h h' : Heap} {L : Addr} {m : Str → Option Value} {news : List (Addr × Obj)} {o : Obj} (F : Fr g L h m) (N : News g L h ((I, o) :: news)) (hI : ∀ p ∈ news, p.1 ≠ I)
    (hk : ∀ b o, b ≠ I → h.get? b = some o → h'.get? b = some o) : Fr g L h' m ∧ News g L h' news := by
  have h1 := N (I, o) (.head _)
  refine ⟨⟨F.ns.at' fun o e => hk _ o (Ne.symm h1.2.1) e, fun b o e => hk b o (fun z => by rw [z, h1.2.2] at e; cases e) (F.keep b o e), F.above⟩, fun p hp => ?_⟩
  have := N p (.tail _ hp)
  exact ⟨hk _ _ (hI p hp) this.1, this.2⟩

/-- a for over any such iterator, its target one local name; the ghost base may turn from turn to turn -/
theorem for_inv {x : Str} {px : Pos} {body : List Stmt} {g₀ : Heap} {m₀ : Str → Option Value} {news₀ : List (Addr × Obj)} {R : Result → Shared → Prop} {E' : Value → Shared → Prop}
    (J : Nat → Heap → (Str → Option Value) → List (Addr × Obj) → Prop) (W : It prog w A I n P io) (hx : env.kindOf x = some .local)
    (hp : (env.scope.kind == .class || (env.scope.kind == .module && env.locals != env.globals)) = false)
    (F : Fr g₀ env.locals s.heap m₀) (N : News g₀ env.locals s.heap ((I, io 0) :: news₀)) (hI : ∀ i g m news, J i g m news → ∀ p ∈ news, p.1 ≠ I) (h0 : J 0 g₀ m₀ news₀)
    (hE' : ∀ e s', E' e s' → notedBy (model prog w) A env (fun e s' => R (.error e) s') e s')
    (turn : ∀ i g m news h tk v, i < n → P i v → J i g m news → Fr g env.locals h (fun y => if y = x then some v else m y) → News g env.locals h ((I, io (i + 1)) :: news) →
      wpAny (model prog w) A (execs body env) (LoopPost s env.locals I (io (i + 1)) (J (i + 1)) (fun f s' => R (.ok f) s')) E' { s with heap := h, toks := tk })
    (done : ∀ g m news h tk, J n g m news → Fr g env.locals h m → News g env.locals h news → R (.ok .next) { s with heap := h, toks := tk }) :
    codeAny (model prog w) A (.forLoop (.Name x px) (.ref I) body [] env) R s := by
  refine codeAny_forLoop (fun k s' => ∃ i g m news h tk, s' = { s with heap := h, toks := tk } ∧ Fr g env.locals h m ∧ News g env.locals h ((I, io i) :: news) ∧ J i g m news ∧ i ≤ n ∧ k = n - i) ?_ (n - 0)
    ⟨0, g₀, m₀, news₀, s.heap, s.toks, rfl, F, N, h0, Nat.zero_le _, rfl⟩
  rintro k s' ⟨i, g, m, news, h, tk, rfl, F, N, hJ, hi, rfl⟩
  by_cases hlt : i < n
  · refine W.item i _ _ _ hlt (N (I, io i) (.head _)).1 fun v h₁ tk₁ hP hn hk => ?_
    obtain ⟨F₁, N₁⟩ := fr_step F N (hI i g m news hJ) hn hk
    refine wpAny_assign_Name (wpAny_storeName_local hx F₁.ns (fun h₂ hn₂ hs₂ => ?_) hp)
    refine wpAny_mono (turn i g m news h₂ _ v hlt hP hJ (F₁.set hn₂ hs₂) (N₁.set hs₂)) (fun f s₃ h₃ => ?_) hE'
    cases f with
    | ret v => exact h₃
    | brk => exact h₃
    | cont => obtain ⟨g', m', news', h', tk', e, F', N', hJ'⟩ := h₃; exact ⟨n - (i + 1), by (first | lia | omega), i + 1, g', m', news', h', tk', e, F', N', hJ', hlt, rfl⟩
    | next => obtain ⟨g', m', news', h', tk', e, F', N', hJ'⟩ := h₃; exact ⟨n - (i + 1), by (first | lia | omega), i + 1, g', m', news', h', tk', e, F', N', hJ', hlt, rfl⟩
  · have hin : i = n := by (first | lia | omega)
    subst hin
    refine W.done _ _ _ (N (I, io i) (.head _)).1 fun h₁ tk₁ hk => wpAny_execs_nil ?_
    obtain ⟨F₁, N₁⟩ := fr_step' F N (hI i g m news hJ) hk
    exact done g m news h₁ tk₁ hJ F₁ N₁

/-- what is asked of the value that a for's head gives: a range, an invariant, the turn, the end -/
noncomputable def ForAt (prog : Program) (w : World) (A : Around) (E : Value → Shared → Prop) (env : Env) (L : Addr) (x : Str) (body : List Stmt) (Q : Flow → Shared → Prop) (xv : Value) (s₁ : Shared) : Prop :=
  ∃ r a₀ b₀ c t₀ u₀ v₀, ∃ n : Nat, xv = .ref r ∧ IsRange s₁.heap r a₀ b₀ c t₀ u₀ v₀ ∧ Builtin.Range.small a₀ b₀ c = true ∧ Builtin.Range.rangeSize a₀ b₀ c = (n : Int) ∧
      ∃ J : Nat → Heap → (Str → Option Value) → List (Addr × Obj) → Prop, ∃ g₀ m₀ news₀, Fr g₀ L s₁.heap m₀ ∧ News g₀ L s₁.heap news₀ ∧ J 0 g₀ m₀ news₀ ∧ (∀ i g m news, J i g m news → ∀ p ∈ news, p.1 < s₁.heap.objs.size) ∧
      (∀ I, s₁.heap.objs.size = I → ∀ i g m news h tk t, i < n → J i g m news → Fr g L h (fun y => if y = x then some (.int (a₀ + i * c) t) else m y) → News g L h ((I, rIt a₀ c n (i + 1)) :: news) →
        wpAny (model prog w) A (execs body env) (LoopPost s₁ L I (rIt a₀ c n (i + 1)) (J (i + 1)) Q) E { s₁ with heap := h, toks := tk }) ∧
      (∀ g m news h tk, J n g m news → Fr g L h m → News g L h news → Q .next { s₁ with heap := h, toks := tk })
theorem ForAt.intro {prog : Program} {w : World} {A : Around} {E : Value → Shared → Prop} {env : Env} {L r : Addr} {x : Str} {body : List Stmt} {Q : Flow → Shared → Prop} {s₁ : Shared} {a₀ b₀ c : Int} {t₀ u₀ v₀ : Tok} {g₀ : Heap} {m₀ : Str → Option Value} {news₀ : List (Addr × Obj)}
    (n : Nat) (J : Nat → Heap → (Str → Option Value) → List (Addr × Obj) → Prop) (hr : IsRange s₁.heap r a₀ b₀ c t₀ u₀ v₀) (hsm : Builtin.Range.small a₀ b₀ c = true) (hn : Builtin.Range.rangeSize a₀ b₀ c = (n : Int))
    (F : Fr g₀ L s₁.heap m₀) (N : News g₀ L s₁.heap news₀) (h0 : J 0 g₀ m₀ news₀) (hlt : ∀ i g m news, J i g m news → ∀ p ∈ news, p.1 < s₁.heap.objs.size)
    (turn : ∀ I, s₁.heap.objs.size = I → ∀ i g m news h tk t, i < n → J i g m news → Fr g L h (fun y => if y = x then some (.int (a₀ + i * c) t) else m y) → News g L h ((I, rIt a₀ c n (i + 1)) :: news) →
        wpAny (model prog w) A (execs body env) (LoopPost s₁ L I (rIt a₀ c n (i + 1)) (J (i + 1)) Q) E { s₁ with heap := h, toks := tk })
    (done : ∀ g m news h tk, J n g m news → Fr g L h m → News g L h news → Q .next { s₁ with heap := h, toks := tk }) : ForAt prog w A E env L x body Q (.ref r) s₁ :=
  ⟨r, a₀, b₀, c, t₀, u₀, v₀, n, rfl, hr, hsm, hn, J, g₀, m₀, news₀, F, N, h0, hlt, turn, done⟩
/-- the statement, over range(n) as the callee reckons it -/
theorem For_range {x : Str} {px pos : Pos} {iter : Expr} {body : List Stmt} {Q : Flow → Shared → Prop} {L : Addr} (hL : env.locals = L)
    (hx : env.kindOf x = some .local) (hp : (env.scope.kind == .class || (env.scope.kind == .module && env.locals != env.globals)) = false) (hh : A.handled = none)
    (h : wpAny (model prog w) A (eval iter env) (ForAt prog w A E env L x body Q) E s)
    (hs : ∀ x, foldedSetIterable iter env x = pure x := by intro _; rfl)
    (hE : PassesOwn (model prog w) A env E := by passes_own) :
    wpAny (model prog w) A (exec (.For (.Name x px) iter body [] pos) env) Q E s := by
  subst hL
  refine wpAny_For (wpAny_mono h (fun xv s₁ h₁ => ?_) fun _ _ e => e) hs
  obtain ⟨r, a₀, b₀, c, t₀, u₀, v₀, n, rfl, hr, hsm, hn, J, g₀, m₀, news₀, F, N, hJ, hlt, turn, done⟩ := h₁
  refine wpAny_pyIter_range hr hsm ?_
  have hio : (s₁.heap.push (rIt a₀ c n 0)).get? s₁.heap.objs.size = some (rIt a₀ c n 0) := Heap.get?_push_size _ rfl
  have e0 : ({ cls := .type "range_iterator", dict := none, data := .fields #[rawInt a₀, rawInt (Builtin.Range.rangeSize a₀ b₀ c), rawInt c] } : Obj) = rIt a₀ c n 0 := by
    unfold rIt; rw [hn]; simp
  refine for_inv (s := { s₁ with heap := _ }) (io := rIt a₀ c n) (E' := notedBy (model prog w) A env (cameBackBy (model prog w) A env E)) J (It.range hh s₁.heap.objs.size a₀ c n) hx hp (F.push _) ?_ (fun i g m news hj p hp => Nat.ne_of_lt (hlt i g m news hj p hp)) hJ (fun _ _ h => h) ?_ ?_
  · rw [← e0]; exact N.push F _
  · rintro i g m news h tk v hi ⟨t, rfl⟩ hj F' N'
    exact wpAny_passesOwn hE (turn _ rfl i g m news h tk t hi hj F' N')
  · exact done
end

/-- an invariant beside the standing facts of a ghost base that may turn -/
structure JS (K : Frag) (p : Program) (loose : List Str) (mean : ExcName → Option Value) (mg mb : Str → Option Value) (A₀ : Around) (base : Heap) (outer : List Env) (g₀ : Heap) (m₀ : Str → Option Value) (names : List Str)
    (JJ : Nat → (Str → Option Value) → List (Addr × Obj) → Prop) (i : Nat) (g : Heap) (m : Str → Option Value) (news : List (Addr × Obj)) : Prop where
  turn : KtsTurn (outer.filterMap (·.frame)) g₀ g
  below : Below A₀ base outer g
  inn : K.In g
  top : Top p loose mean mg mb g
  dicts : KtsDicts (outer.filterMap (·.frame)) g
  same : ∀ y, names.contains y = false → m y = m₀ y
  inv : JJ i m news
theorem ForAt.introS {prog : Program} {w : World} {A A₀ : Around} {E : Value → Shared → Prop} {env : Env} {L r : Addr} {x : Str} {body : List Stmt} {Q : Flow → Shared → Prop} {s₁ : Shared} {a₀ b₀ c : Int} {t₀ u₀ v₀ : Tok} {g₀ : Heap} {m₀ : Str → Option Value} {news₀ : List (Addr × Obj)}
    {K : Frag} {p : Program} {loose : List Str} {mean : ExcName → Option Value} {mg mb : Str → Option Value} {base : Heap} {outer : List Env}
    (n : Nat) (names : List Str) (JJ : Nat → (Str → Option Value) → List (Addr × Obj) → Prop) (hr : IsRange s₁.heap r a₀ b₀ c t₀ u₀ v₀) (hsm : Builtin.Range.small a₀ b₀ c = true) (hn : Builtin.Range.rangeSize a₀ b₀ c = (n : Int))
    (B : Below A₀ base outer g₀) (X : K.In g₀) (T : Top p loose mean mg mb g₀) (D : KtsDicts (outer.filterMap (·.frame)) g₀)
    (F : Fr g₀ L s₁.heap m₀) (N : News g₀ L s₁.heap news₀) (h0 : JJ 0 m₀ news₀) (hlt : ∀ i m news, JJ i m news → ∀ p ∈ news, p.1 < s₁.heap.objs.size)
    (turn : ∀ I, s₁.heap.objs.size = I → ∀ i g m news h tk t, i < n → KtsTurn (outer.filterMap (·.frame)) g₀ g → Below A₀ base outer g → K.In g → Top p loose mean mg mb g → KtsDicts (outer.filterMap (·.frame)) g → (∀ y, names.contains y = false → m y = m₀ y) → JJ i m news →
        Fr g L h (fun y => if y = x then some (.int (a₀ + i * c) t) else m y) → News g L h ((I, rIt a₀ c n (i + 1)) :: news) →
        wpAny (model prog w) A (execs body env) (LoopPost s₁ L I (rIt a₀ c n (i + 1)) (JS K p loose mean mg mb A₀ base outer g₀ m₀ names JJ (i + 1)) Q) E { s₁ with heap := h, toks := tk })
    (done : ∀ g m news h tk, KtsTurn (outer.filterMap (·.frame)) g₀ g → Below A₀ base outer g → K.In g → Top p loose mean mg mb g → KtsDicts (outer.filterMap (·.frame)) g → (∀ y, names.contains y = false → m y = m₀ y) → JJ n m news →
        Fr g L h m → News g L h news → Q .next { s₁ with heap := h, toks := tk }) : ForAt prog w A E env L x body Q (.ref r) s₁ :=
  ForAt.intro n (JS K p loose mean mg mb A₀ base outer g₀ m₀ names JJ) hr hsm hn F N ⟨KtsTurn.refl, B, X, T, D, fun _ _ => rfl, h0⟩ (fun i g m news j => hlt i m news j.inv)
    (fun I hI i g m news h tk t hi j F' N' => turn I hI i g m news h tk t hi j.turn j.below j.inn j.top j.dicts j.same j.inv F' N')
    (fun g m news h tk j F' N' => done g m news h tk j.turn j.below j.inn j.top j.dicts j.same j.inv F' N')
theorem LoopPost.next {s : Shared} {L I : Addr} {io : Obj} {Jn : Heap → (Str → Option Value) → List (Addr × Obj) → Prop} {Q : Flow → Shared → Prop} {g h : Heap} {m : Str → Option Value} {news : List (Addr × Obj)} {tk : Nat}
    (F : Fr g L h m) (N : News g L h ((I, io) :: news)) (j : Jn g m news) : LoopPost s L I io Jn Q .next { s with heap := h, toks := tk } := ⟨g, m, news, h, tk, rfl, F, N, j⟩
end
section
open PySem PySem.W PyProof.Rows
theorem linesC1 : True := by
  w_on
  w_top off
  k_with_none
  k_with "mine pick" => ((with_reducible (repeat (first | exact Pick.head | apply Pick.tail))))
  k_with "mine enter" => ((refine' code_defSG (by k_asm) (by k_asm) (by k_asm) (by k_asm) (by k_asm) (by assumption) (by assumption) (by assumption) (by exact KtsTurn.refl) (by exact rfl) (by exact rfl) (by first | exact rfl | assumption) (by k_is) (by k_is) (by ktr_room) (by first | exact BindsTo.of_eq rfl | exact binds_K (by k_in) rfl (by k_is) rfl rfl rfl) (by exact locs rfl) ?_ (by exact rfl) (by exact rfl) (by exact rfl) (by decide); k_whole; intro g'9z L'9z h'9z FG'9z F'9z N'9z B'9z X'9z T'9z D'9z l19z; (try dsimp only); (try k_lift B'9z); (try k_fold)))
  k_with "noteFrame ref" => ((k_here; (with_reducible rename Heap.NewExc _ _ _ _ => nxX9z); k_dflt (refine' caughtHere (T' := "IndexError") nxX9z (by k_asm) (by k_asm) (by k_asm) (by assumption) (by assumption) (by assumption) (by first | assumption | exact KtsTurn.refl) (by k_is) PyProof.Rows.Boot.«IndexError» (by decide) PySem.F.isExc_IndexError PySem.F.notTuple_IndexError (by (rw [isSubtype_type]; kernel_rfl)) ?_; k_whole); intro h'9z g'9z oe'9z T'9z F'9z N'9z c'9z v'9z K'9z X'9z P'9z D'9z; (replace N'9z := fun p hp => N'9z p (List.mem_cons_of_mem _ hp)); (try k_lift K'9z); (try k_sweep)))
  trivial
noncomputable abbrev tokD (w : World) (t1 t2 t3 t4 t5 : Tok) (b : Bool) (sv : Value) (txt : Str) (tt : Tok) (i : Int) (ti : Tok) (nv : Value) : Obj :=
  PySem.W.dictOf [⟨PyData.keyHash w.params (Str.ofString "istext"), .str (Str.ofString "istext") t1, .bool b⟩,
    ⟨PyData.keyHash w.params (Str.ofString "string"), .str (Str.ofString "string") t2, sv⟩,
    ⟨PyData.keyHash w.params (Str.ofString "decoded_string"), .str (Str.ofString "decoded_string") t3, .str txt tt⟩,
    ⟨PyData.keyHash w.params (Str.ofString "index"), .str (Str.ofString "index") t4, .int i ti⟩,
    ⟨PyData.keyHash w.params (Str.ofString "next"), .str (Str.ofString "next") t5, nv⟩] 5

/-- what __next does at index i: the next sign, the next index -/
inductive StepAt (txt : Str) (i : Int) : Option Str → Int → Prop
  | plain : i < (txt.length : Int) → (Txt.item txt i == Str.ofString "\\") = false → StepAt txt i (some (Txt.item txt i)) (i + 1)
  | esc : i + 1 < (txt.length : Int) → (Txt.item txt i == Str.ofString "\\") = true → StepAt txt i (some (Txt.item txt i ++ Txt.item txt (i + 1))) (i + 1 + 1)
  | stop : i = (txt.length : Int) → StepAt txt i none i
section
variable {w : World} {mg mb : Str → Option Value} {p : Program} {loose : List Str} {mean : ExcName → Option Value}
    {dp un : Nat} {gd : Option (List Code)} {cn : Str} {cs : Scope} {a : Addr} {ccd : Value} {cl : List (Str × Addr)} {outer : List Env} {A₀ : Around} {base h₀ : Heap} {L : Addr} {m : Str → Option Value} {s : Shared}
    {Q E : Value → Shared → Prop} {x d : Addr} {rest : List (Addr × Obj)} {t1 t2 t3 t4 t5 : Tok} {b : Bool} {sv : Value} {txt : Str} {tt : Tok} {i : Int} {ti : Tok} {nv : Value}
set_option maxRecDepth 100000 in
set_option maxHeartbeats 8000000 in
theorem next_ok {o : Option Str} {i' : Int}
    (B : Below A₀ base outer h₀) (F : Fr h₀ L s.heap m) (X : (Mine.hd.heap_39 w.params).In h₀)
    (N : News h₀ L s.heap ((d, tokD w t1 t2 t3 t4 t5 b sv txt tt i ti nv) :: (x, instObj 133 d) :: rest)) (hoff : OwnOff rest [d, x]) (hdx : @LT.lt Nat _ d x)
    (T : Top p loose mean mg mb h₀) (XB : (Mine.hd.heap_39 w.params).In base) (TB : Top p loose mean mg mb base) (D : KtsDicts (outer.filterMap (·.frame)) h₀)
    (hk : cs.kind = .function) (hdp : dp + 4 < recursionLimit) (hun : un + 40 < cLine)
    (h0 : 0 ≤ i) (hst : StepAt txt i o i') (hsz : txt.length < 1000)
    (hret : ∀ h₀' h' tk' t6 v, KtsTurn (outer.filterMap (·.frame)) h₀ h₀' → IsTok o v → Fr h₀' L h' m → News h₀' L h' ((d, tokD w t1 t2 t3 t4 t5 b sv txt tt i' t6 v) :: (x, instObj 133 d) :: rest) →
      Below A₀ base outer h₀' → (Mine.hd.heap_39 w.params).In h₀' → Top p loose mean mg mb h₀' → KtsDicts (outer.filterMap (·.frame)) h₀' → Q .none { s with heap := h', toks := tk' }) :
    wpAny (model PySem.Challenge.rw_aa0047_01.row.prog w) (ktrTop dp un gd cn cs L a ccd cl outer) (call (.ref 65) [.ref x]) Q E s := by
  revert X; k_fill; intro X
  cases hst with
  | plain hlt hns =>
    refine wpAny_call ?_
    k_dflt walk_at "mine enter"
    k_steps
    exact hret _ _ _ _ _ KtsTurn.refl ⟨_, rfl⟩ (by k_asm) (by k_asm) B X T D
  | esc hlt hns =>
    refine wpAny_call ?_
    k_dflt walk_at "mine enter"
    k_steps
    exact hret _ _ _ _ _ KtsTurn.refl ⟨_, rfl⟩ (by k_asm) (by k_asm) B X T D
  | stop hlt =>
    refine wpAny_call ?_
    k_dflt walk_at "mine enter"
    k_steps
    · exact hret _ _ _ _ _ (by assumption) rfl (by k_asm) (by k_asm) (by assumption) (by assumption) (by assumption) (by assumption)
    · exfalso; (first | lia | omega)
end
end
section
open PySem PySem.W PyProof.Rows
theorem ite_in {o : Option Str} {ys : List Str} {P R : Prop} (h : inSet o ys = true) (k : R) : if (!inSet o ys) = true then P else R := by rw [h]; exact k
theorem ite_out {o : Option Str} {ys : List Str} {P R : Prop} (h : inSet o ys = false) (k : P) : if (!inSet o ys) = true then P else R := by rw [h]; exact k
theorem linesC2 : True := by
  w_on
  w_top off
  k_with_none
  k_with "mine pick" => ((with_reducible (repeat (first | exact Pick.head | apply Pick.tail))))
  k_with "mine enter" => ((refine' code_defSG (by k_asm) (by k_asm) (by k_asm) (by k_asm) (by k_asm) (by assumption) (by assumption) (by assumption) (by exact KtsTurn.refl) (by exact rfl) (by exact rfl) (by first | exact rfl | assumption) (by k_is) (by k_is) (by ktr_room) (by first | exact BindsTo.of_eq rfl | exact binds_K (by k_in) rfl (by k_is) rfl rfl rfl) (by exact locs rfl) ?_ (by exact rfl) (by exact rfl) (by exact rfl) (by decide); k_whole; intro g'9z L'9z h'9z FG'9z F'9z N'9z B'9z X'9z T'9z D'9z l19z; (try dsimp only); (try k_lift B'9z); (try k_fold)))
  k_with "compareOp NotIn str ref" => ((k_here; k_dflt (refine' notin_some (by exact News.isTup (by k_asm) (by k_mem)) (by assumption) ?_)))
  k_with "compareOp NotIn none ref" => ((k_here; k_dflt (refine' notin_no (by exact News.isTup (by k_asm) (by k_mem)) (by assumption) ?_)))
  k_with "ite" => (first | refine ite_in (by with_reducible assumption) ?_ | refine ite_out (by with_reducible assumption) ?_)
  k_with "call ref" => ((k_here; (k_dflt (show wpAny _ _ (PySem.call (Value.ref 65) [Value.ref _]) _ _ _)); k_dflt (refine' next_ok (by k_asm) (by k_asm) (by k_asm) (by refine' news_pick2 (by k_asm) (by walk_at "mine pick") (by walk_at "mine pick")) (by exact off2 (by k_all) (by k_all)) (by assumption) (by k_asm) (by assumption) (by assumption) (by assumption) (by first | exact rfl | assumption) (by ktr_room) (by ktr_units) (by first | assumption | (first | lia | omega)) (by assumption) (by assumption) ?_; k_whole); intro g'9z h'9z tk'9z t69z v9z kT9z hv9z F'9z N'9z B'9z X'9z T'9z D'9z; (first | (replace kT9z := KtsTurn.trans (by with_reducible assumption) kT9z) | skip); (first | (obtain ⟨tv9z, ev9z⟩ := hv9z; subst ev9z) | (have ev9z := hv9z; change _ = Value.none at ev9z; subst ev9z) | skip); (try dsimp only); (try k_fold)))
  k_with "exec For Name Call cons nil" => ((k_here; k_dflt (refine' For_range (L := _) rfl rfl rfl rfl ?_)))
  trivial
theorem m_form3 {m m₀ : Str → Option Value} {a b c : Str} {v : Value} (h1 : m a = some v) (h2 : ∀ y, y ≠ a → y ≠ b → y ≠ c → m y = m₀ y) : m = fun y => if y = a then some v else if y = b then m y else if y = c then m y else m₀ y := by
  funext y
  by_cases e1 : y = a
  · rw [if_pos e1, e1, h1]
  · rw [if_neg e1]
    by_cases e2 : y = b
    · rw [if_pos e2]
    · rw [if_neg e2]
      by_cases e3 : y = c
      · rw [if_pos e3]
      · rw [if_neg e3]; exact h2 y e1 e2 e3
theorem linesC2x2 : True := by
  k_with "LoopPost" => (first | ((with_reducible show LoopPost _ _ _ _ _ _ Flow.brk _); dsimp only [LoopPost]) | ((with_reducible show LoopPost _ _ _ _ _ _ (Flow.ret _) _); dsimp only [LoopPost]))
  trivial
/-- from (next = c, index i), the signs c :: cs are read; then next = o, index i' -/
noncomputable def Run (txt : Str) : Int → List Str → Option Str → Int → Prop
  | i, [], o, i' => StepAt txt i o i'
  | i, c :: cs, o, i' => ∃ j, StepAt txt i (some c) j ∧ Run txt j cs o i'
theorem StepAt.nonneg {txt : Str} {i i' : Int} {o : Option Str} (h : StepAt txt i o i') (h0 : 0 ≤ i) : 0 ≤ i' := by cases h <;> (first | lia | omega)
noncomputable def catS (l : List Str) : Str := l.foldl (· ++ ·) (Str.ofString "")
noncomputable def Rem (txt : Str) (o : Option Str) (i' : Int) : List Str → Option Str → Int → Prop
  | [], nx, idx => nx = o ∧ idx = i'
  | c :: l, nx, idx => nx = some c ∧ Run txt idx l o i'
theorem run_step {txt : Str} {idx i' : Int} {r : List Str} {o : Option Str} (h : Run txt idx r o i') : ∃ nx2 idx2, StepAt txt idx nx2 idx2 ∧ Rem txt o i' r nx2 idx2 := by
  cases r with
  | nil => exact ⟨o, i', h, rfl, rfl⟩
  | cons y r => obtain ⟨j, h1, h2⟩ := h; exact ⟨some y, j, h1, rfl, h2⟩
theorem foldl_len (l : List Str) : ∀ (a : Str), (∀ y ∈ l, y.length ≤ 2) → (l.foldl (· ++ ·) a).length ≤ a.length + 2 * l.length := by
  induction l with
  | nil => intro a _; simp
  | cons y r ih =>
    intro a h
    have h1 := ih (a ++ y) (fun z hz => h z (.tail _ hz))
    have h2 := h y (.head _)
    rw [Str.length_append] at h1
    simp only [List.foldl_cons, List.length_cons]
    (first | lia | omega)
theorem catS_len (l : List Str) (h : ∀ y ∈ l, y.length ≤ 2) : (catS l).length ≤ 2 * l.length := by
  have := foldl_len l (Str.ofString "") h
  have e : (Str.ofString "").length = 0 := by decide
  unfold catS
  (first | lia | omega)
theorem catS_snoc (l : List Str) (y : Str) : catS (l ++ [y]) = catS l ++ y := by
  unfold catS
  rw [List.foldl_append]; rfl
theorem take_snoc {l : List Str} {k : Nat} {y : Str} {r : List Str} (h : l.drop k = y :: r) : l.take (k + 1) = l.take k ++ [y] ∧ l.drop (k + 1) = r := by
  constructor
  · have h1 : l[k]? = some y := by
      have := congrArg (fun z => z[0]?) h
      simpa using this
    rw [List.take_add_one, h1]; rfl
  · have := congrArg List.tail h
    simpa using this
theorem news_rot {h₀ h : Heap} {L : Addr} {a b c : Addr × Obj} {r : List (Addr × Obj)} (N : News h₀ L h (a :: b :: c :: r)) : News h₀ L h (c :: a :: b :: r) :=
  news_sub N fun q hq => by
    simp only [List.mem_cons] at hq ⊢
    rcases hq with h | h | h | h
    · exact .inr (.inr (.inl h))
    · exact .inl h
    · exact .inr (.inl h)
    · exact .inr (.inr (.inr h))
theorem range_small {n : Int} (h : 1 ≤ n) (h' : n ≤ 63) : Builtin.Range.small 0 n 1 = true := by
  unfold Builtin.Range.small Builtin.Range.rangeFitsLong Builtin.Range.rangeSize
  simp
  (first | lia | omega)
theorem range_size {n : Int} (h : 1 ≤ n) : Builtin.Range.rangeSize 0 n 1 = ((n.toNat : Nat) : Int) := by
  unfold Builtin.Range.rangeSize
  simp
  (first | lia | omega)
section
variable {w : World} {mg mb : Str → Option Value} {p : Program} {loose : List Str} {mean : ExcName → Option Value}
    {dp un : Nat} {gd : Option (List Code)} {cn : Str} {cs : Scope} {a : Addr} {ccd : Value} {cl : List (Str × Addr)} {outer : List Env} {A₀ : Around} {base h₀ : Heap} {L : Addr} {m : Str → Option Value} {s : Shared}
    {Q E : Value → Shared → Prop} {x d kt : Addr} {rest : List (Addr × Obj)} {t1 t2 t3 t4 t5 : Tok} {b : Bool} {sv : Value} {txt : Str} {tt : Tok} {i : Int} {ti : Tok} {vs : List Value} {ys : List Str}
set_option maxRecDepth 100000 in
set_option maxHeartbeats 8000000 in
theorem gw_ok {n : Int} {tn : Tok} {c : Str} {tc : Tok} {l : List Str} {o : Option Str} {i' : Int}
    (B : Below A₀ base outer h₀) (F : Fr h₀ L s.heap m) (X : (Mine.hd.heap_39 w.params).In h₀)
    (N : News h₀ L s.heap ((d, tokD w t1 t2 t3 t4 t5 b sv txt tt i ti (.str c tc)) :: (x, instObj 133 d) :: (kt, { cls := .type "tuple", data := .seq vs.toArray }) :: rest)) (hoff : OwnOff rest [d, x]) (hdx : @LT.lt Nat _ d x) (hxk : @LT.lt Nat _ kt d)
    (T : Top p loose mean mg mb h₀) (XB : (Mine.hd.heap_39 w.params).In base) (TB : Top p loose mean mg mb base) (D : KtsDicts (outer.filterMap (·.frame)) h₀)
    (hk : cs.kind = .function) (hdp : dp + 8 < recursionLimit) (hun : un + 80 < cLine) (hst : StrsAre vs ys)
    (h0 : 0 ≤ i) (hrun : Run txt i l o i') (hsz : txt.length < 1000) (hin : ∀ x ∈ c :: l, inSet (some x) ys = true ∧ x.length ≤ 2)
    (hn : n ≤ 63) (hln : (l.length : Int) + 1 = n ∨ ((l.length : Int) + 1 < n ∧ inSet o ys = false))
    (hret : ∀ h₀' h' tk' t6 v tr, KtsTurn (outer.filterMap (·.frame)) h₀ h₀' → IsTok o v → Fr h₀' L h' m → News h₀' L h' ((d, tokD w t1 t2 t3 t4 t5 b sv txt tt i' t6 v) :: (x, instObj 133 d) :: (kt, { cls := .type "tuple", data := .seq vs.toArray }) :: rest) →
      Below A₀ base outer h₀' → (Mine.hd.heap_39 w.params).In h₀' → Top p loose mean mg mb h₀' → KtsDicts (outer.filterMap (·.frame)) h₀' → Q (.str (catS (c :: l)) tr) { s with heap := h', toks := tk' }) :
    wpAny (model PySem.Challenge.rw_aa0047_01.row.prog w) (ktrTop dp un gd cn cs L a ccd cl outer) (call (.ref 86) [.ref x, .int n tn, .ref kt]) Q E s := by
  revert X; k_fill; intro X
  refine wpAny_call ?_
  k_dflt walk_at "mine enter"
  k_steps
  (with_reducible rename IsRange _ _ _ _ _ _ _ _ => hR)
  (with_reducible rename Fr _ _ _ _ => hF)
  (with_reducible rename News _ _ _ _ => hN)
  have hn1 : 1 ≤ n := by (first | lia | omega)
  have hsz0 := fun p hp => Heap.lt_size (hN p hp).1
  have hszd : @LT.lt Nat _ d _ := hsz0 _ (.head _)
  k_dflt (refine' ForAt.introS n.toNat [Str.ofString "result", Str.ofString "c", Str.ofString "_"] (fun k m news => ∃ nx idx v t6 tr, Rem txt o i' ((c :: l).drop k) nx idx ∧ IsTok nx v ∧ k ≤ (c :: l).length ∧ 0 ≤ idx ∧
    m (Str.ofString "result") = some (.str (catS ((c :: l).take k)) tr) ∧
    news = (d, tokD w t1 t2 t3 t4 t5 b sv txt tt idx t6 v) :: (x, instObj 133 d) :: (kt, { cls := .type "tuple", data := .seq vs.toArray }) :: rest) hR (range_small hn1 hn) (range_size hn1) ?B ?X ?T ?D hF hN ?h0 ?hlt ?turn ?done; (case B => assumption); (case X => assumption); (case T => assumption); (case D => assumption))
  · exact ⟨some c, i, .str c tc, ti, _, ⟨rfl, hrun⟩, ⟨tc, rfl⟩, Nat.zero_le _, h0, rfl, rfl⟩
  · rintro k m news ⟨nx, idx, v, t6, tr, _, _, _, _, _, rfl⟩ p hp
    rcases List.mem_cons.mp hp with rfl | hp
    · exact hszd
    · exact hsz0 p (.tail _ hp)
  · intro I hI k g m news h tk t hk kT kB kX kTop kD same hJ F' N'
    obtain ⟨nx, idx, v, t6, tr, hrem, htok, hkl, hidx, hres, rfl⟩ := hJ
    have em := m_form3 hres (fun y h1 h2 h3 => same y (by simp; exact ⟨h1, h2, h3⟩))
    rw [em] at F'
    have hId : @LT.lt Nat _ d I := hI ▸ hsz0 _ (.head _)
    have hIx : @LT.lt Nat _ x I := hI ▸ hsz0 _ (.tail _ (.head _))
    have hIk : @LT.lt Nat _ kt I := hI ▸ hsz0 _ (.tail _ (.tail _ (.head _)))
    have hlenR := catS_len ((c :: l).take k) (fun y hy => (hin y (List.mem_of_mem_take hy)).2)
    have hlenk : ((c :: l).take k).length ≤ 63 := by rw [List.length_take]; (first | lia | omega)
    cases hdr : (c :: l).drop k with
    | nil =>
      rw [hdr] at hrem
      obtain ⟨rfl, rfl⟩ := hrem
      have hkk : (c :: l).length ≤ k := List.drop_eq_nil_iff.mp hdr
      have hout : inSet nx ys = false := by
        rcases hln with h | h
        · exfalso; simp only [List.length_cons] at hkk; (first | lia | omega)
        · exact h.2
      have etk : (c :: l).take k = c :: l := List.take_of_length_le hkk
      cases nx with
      | none =>
        obtain rfl : v = Value.none := htok
        all_goals (try k_fold)
        k_steps
        rw [etk]
        exact hret _ _ _ _ _ _ (by assumption) rfl (by k_asm) (news_sub (by k_asm) fun q hq => .tail _ hq) (by assumption) (by assumption) (by assumption) (by assumption)
      | some y =>
        obtain ⟨ty, rfl⟩ := htok
        all_goals (try k_fold)
        k_steps
        rw [etk]
        exact hret _ _ _ _ _ _ (by assumption) ⟨_, rfl⟩ (by k_asm) (news_sub (by k_asm) fun q hq => .tail _ hq) (by assumption) (by assumption) (by assumption) (by assumption)
    | cons y r =>
      rw [hdr] at hrem
      obtain ⟨rfl, hrun'⟩ := hrem
      obtain ⟨ty, rfl⟩ := htok
      obtain ⟨nx2, idx2, hs2, hrem2⟩ := run_step hrun'
      have hmem : y ∈ c :: l := List.mem_of_mem_drop (by rw [hdr]; exact .head _)
      have hiny := (hin y hmem).1
      have hleny := (hin y hmem).2
      obtain ⟨etk, edr⟩ := take_snoc hdr
      all_goals (try k_fold)
      k_steps
      refine LoopPost.next (by k_asm) (news_rot (by k_asm)) ⟨by assumption, by assumption, by assumption, by assumption, by assumption, ?_, nx2, idx2, _, _, _, ?_, by assumption, ?_, hs2.nonneg hidx, by rw [etk, catS_snoc]; rfl, rfl⟩
      · intro y hy
        simp at hy
        obtain ⟨h1, h2, h3⟩ := hy
        simp [h1, h2, h3]
      · rw [edr]; exact hrem2
      · have := congrArg List.length hdr
        simp only [List.length_drop, List.length_cons] at this ⊢
        (first | lia | omega)
  · intro g m news h tk kT kB kX kTop kD same hJ F' N'
    obtain ⟨nx, idx, v, t6, tr, hrem, htok, hkl, hidx, hres, rfl⟩ := hJ
    have em := m_form3 hres (fun y h1 h2 h3 => same y (by simp; exact ⟨h1, h2, h3⟩))
    rw [em] at F'
    have hkk : (c :: l).length ≤ n.toNat := by
      simp only [List.length_cons] at hkl ⊢
      (first | lia | omega)
    rw [List.drop_of_length_le hkk] at hrem
    obtain ⟨rfl, rfl⟩ := hrem
    have etk : (c :: l).take n.toNat = c :: l := List.take_of_length_le hkk
    all_goals (try k_fold)
    k_steps
    rw [etk]
    exact hret _ _ _ _ _ _ (by assumption) htok (by k_asm) (by k_asm) (by assumption) (by assumption) (by assumption) (by assumption)
end
end
section
open PySem PySem.W PyProof.Rows
theorem linesC3 : True := by
  w_on
  w_top off
  k_with_none
  k_with "mine pick" => ((with_reducible (repeat (first | exact Pick.head | apply Pick.tail))))
  k_with "mine enter" => ((refine' code_defSG (by k_asm) (by k_asm) (by k_asm) (by k_asm) (by k_asm) (by assumption) (by assumption) (by assumption) (by exact KtsTurn.refl) (by exact rfl) (by exact rfl) (by first | exact rfl | assumption) (by k_is) (by k_is) (by ktr_room) (by first | exact BindsTo.of_eq rfl | exact binds_K (by k_in) rfl (by k_is) rfl rfl rfl) (by exact locs rfl) ?_ (by exact rfl) (by exact rfl) (by exact rfl) (by decide); k_whole; intro g'9z L'9z h'9z FG'9z F'9z N'9z B'9z X'9z T'9z D'9z l19z; (try dsimp only); (try k_lift B'9z); (try k_fold)))
  k_with "compareOp NotIn str ref" => ((k_here; k_dflt (refine' notin_some (by exact News.isTup (by k_asm) (by k_mem)) (by assumption) ?_)))
  k_with "compareOp NotIn none ref" => ((k_here; k_dflt (refine' notin_no (by exact News.isTup (by k_asm) (by k_mem)) (by assumption) ?_)))
  k_with "ite" => (first | refine ite_in (by with_reducible assumption) ?_ | refine ite_out (by with_reducible assumption) ?_)
  k_with "call ref" => ((k_here; (k_dflt (show wpAny _ _ (PySem.call (Value.ref 65) [Value.ref _]) _ _ _)); k_dflt (refine' next_ok (by k_asm) (by k_asm) (by k_asm) (by refine' news_pick2 (by k_asm) (by walk_at "mine pick") (by walk_at "mine pick")) (by exact off2 (by k_all) (by k_all)) (by assumption) (by k_asm) (by assumption) (by assumption) (by assumption) (by first | exact rfl | assumption) (by ktr_room) (by ktr_units) (by first | assumption | (first | lia | omega)) (by assumption) (by assumption) ?_; k_whole); intro g'9z h'9z tk'9z t69z v9z kT9z hv9z F'9z N'9z B'9z X'9z T'9z D'9z; (first | (replace kT9z := KtsTurn.trans (by with_reducible assumption) kT9z) | skip); (first | (obtain ⟨tv9z, ev9z⟩ := hv9z; subst ev9z) | (have ev9z := hv9z; change _ = Value.none at ev9z; subst ev9z) | skip); (try dsimp only); (try k_fold)))
  k_with "exec For Name Call cons nil" => ((k_here; k_dflt (refine' For_range (L := _) rfl rfl rfl rfl ?_)))
  k_with "LoopPost" => (first | ((with_reducible show LoopPost _ _ _ _ _ _ Flow.brk _); dsimp only [LoopPost]) | ((with_reducible show LoopPost _ _ _ _ _ _ (Flow.ret _) _); dsimp only [LoopPost]))
  trivial
section
variable {w : World} {mg mb : Str → Option Value} {p : Program} {loose : List Str} {mean : ExcName → Option Value}
    {dp un : Nat} {gd : Option (List Code)} {cn : Str} {cs : Scope} {a : Addr} {ccd : Value} {cl : List (Str × Addr)} {outer : List Env} {A₀ : Around} {base h₀ : Heap} {L : Addr} {m : Str → Option Value} {s : Shared}
    {Q E : Value → Shared → Prop} {x d kt : Addr} {rest : List (Addr × Obj)} {t1 t2 t3 t4 t5 : Tok} {b : Bool} {sv : Value} {txt : Str} {tt : Tok} {i : Int} {ti : Tok} {vs : List Value} {ys : List Str}
theorem range_small' {n : Int} (h : -63 ≤ n) (h' : n ≤ 63) : Builtin.Range.small 0 n 1 = true := by
  unfold Builtin.Range.small Builtin.Range.rangeFitsLong Builtin.Range.rangeSize
  by_cases q : 0 < n
  · simp [q]; (first | lia | omega)
  · simp [q]; (first | lia | omega)
theorem range_size' {n : Int} : Builtin.Range.rangeSize 0 n 1 = ((n.toNat : Nat) : Int) := by
  unfold Builtin.Range.rangeSize
  by_cases q : 0 < n
  · simp [q]; (first | lia | omega)
  · simp [q]; (first | lia | omega)
set_option maxRecDepth 100000 in
set_option maxHeartbeats 8000000 in
theorem gw_none0 {n : Int} {tn : Tok} {o : Option Str} {v : Value}
    (B : Below A₀ base outer h₀) (F : Fr h₀ L s.heap m) (X : (Mine.hd.heap_39 w.params).In h₀)
    (N : News h₀ L s.heap ((d, tokD w t1 t2 t3 t4 t5 b sv txt tt i ti v) :: (x, instObj 133 d) :: (kt, { cls := .type "tuple", data := .seq vs.toArray }) :: rest)) (hdx : @LT.lt Nat _ d x)
    (T : Top p loose mean mg mb h₀) (XB : (Mine.hd.heap_39 w.params).In base) (TB : Top p loose mean mg mb base) (D : KtsDicts (outer.filterMap (·.frame)) h₀)
    (hk : cs.kind = .function) (hdp : dp + 8 < recursionLimit) (hun : un + 80 < cLine) (hst : StrsAre vs ys)
    (hn0 : -63 ≤ n) (hn : n ≤ 63) (hv : IsTok o v) (hin : n ≤ 0 ∨ inSet o ys = false)
    (hret : ∀ h₀' h' tk' tr, KtsTurn (outer.filterMap (·.frame)) h₀ h₀' → Fr h₀' L h' m → News h₀' L h' ((d, tokD w t1 t2 t3 t4 t5 b sv txt tt i ti v) :: (x, instObj 133 d) :: (kt, { cls := .type "tuple", data := .seq vs.toArray }) :: rest) →
      Below A₀ base outer h₀' → (Mine.hd.heap_39 w.params).In h₀' → Top p loose mean mg mb h₀' → KtsDicts (outer.filterMap (·.frame)) h₀' → Q (.str (Str.ofString "") tr) { s with heap := h', toks := tk' }) :
    wpAny (model PySem.Challenge.rw_aa0047_01.row.prog w) (ktrTop dp un gd cn cs L a ccd cl outer) (call (.ref 86) [.ref x, .int n tn, .ref kt]) Q E s := by
  revert X; k_fill; intro X
  refine wpAny_call ?_
  k_dflt walk_at "mine enter"
  k_steps
  (with_reducible rename IsRange _ _ _ _ _ _ _ _ => hR)
  (with_reducible rename Fr _ _ _ _ => hF)
  (with_reducible rename News _ _ _ _ => hN)
  have hsz0 := fun p hp => Heap.lt_size (hN p hp).1
  k_dflt (refine' ForAt.introS n.toNat [Str.ofString "result", Str.ofString "c", Str.ofString "_"] (fun k m news => k = 0 ∧ (∃ tr, m (Str.ofString "result") = some (.str (Str.ofString "") tr)) ∧
    news = (d, tokD w t1 t2 t3 t4 t5 b sv txt tt i ti v) :: (x, instObj 133 d) :: (kt, { cls := .type "tuple", data := .seq vs.toArray }) :: rest) hR (range_small' hn0 hn) range_size' ?B ?X ?T ?D hF hN ?h0 ?hlt ?turn ?done; (case B => assumption); (case X => assumption); (case T => assumption); (case D => assumption))
  · exact ⟨rfl, ⟨_, rfl⟩, rfl⟩
  · rintro i m news ⟨_, _, rfl⟩ p hp
    exact hsz0 p hp
  · intro I hI k g m news h tk t hk kT kB kX kTop kD same hJ F' N'
    obtain ⟨rfl, ⟨tr, hres⟩, rfl⟩ := hJ
    have em := m_form3 hres (fun y h1 h2 h3 => same y (by simp; exact ⟨h1, h2, h3⟩))
    rw [em] at F'
    have hout : inSet o ys = false := hin.resolve_left (by (first | lia | omega))
    cases o with
    | none =>
      obtain rfl : v = Value.none := hv
      all_goals (try k_fold)
      k_steps
      exact hret _ _ _ _ (by assumption) (by k_asm) (news_sub (by k_asm) fun q hq => .tail _ hq) (by assumption) (by assumption) (by assumption) (by assumption)
    | some y =>
      obtain ⟨ty, rfl⟩ := hv
      all_goals (try k_fold)
      k_steps
      exact hret _ _ _ _ (by assumption) (by k_asm) (news_sub (by k_asm) fun q hq => .tail _ hq) (by assumption) (by assumption) (by assumption) (by assumption)
  · intro g m news h tk kT kB kX kTop kD same hJ F' N'
    obtain ⟨h0, ⟨tr, hres⟩, rfl⟩ := hJ
    have em := m_form3 hres (fun y h1 h2 h3 => same y (by simp; exact ⟨h1, h2, h3⟩))
    rw [em] at F'
    all_goals (try k_fold)
    k_steps
    exact hret _ _ _ _ (by assumption) (by k_asm) (by k_asm) (by assumption) (by assumption) (by assumption) (by assumption)
theorem gw_none {n : Int} {tn : Tok} {o : Option Str} {v : Value}
    (B : Below A₀ base outer h₀) (F : Fr h₀ L s.heap m) (X : (Mine.hd.heap_39 w.params).In h₀)
    (N : News h₀ L s.heap ((d, tokD w t1 t2 t3 t4 t5 b sv txt tt i ti v) :: (x, instObj 133 d) :: (kt, { cls := .type "tuple", data := .seq vs.toArray }) :: rest)) (hdx : @LT.lt Nat _ d x) (hxk : @LT.lt Nat _ kt d)
    (T : Top p loose mean mg mb h₀) (XB : (Mine.hd.heap_39 w.params).In base) (TB : Top p loose mean mg mb base) (D : KtsDicts (outer.filterMap (·.frame)) h₀)
    (hk : cs.kind = .function) (hdp : dp + 8 < recursionLimit) (hun : un + 80 < cLine) (hst : StrsAre vs ys)
    (hn0 : -63 ≤ n) (hn : n ≤ 63) (hv : IsTok o v) (hin : n ≤ 0 ∨ inSet o ys = false)
    (hret : ∀ h₀' h' tk' tr, KtsTurn (outer.filterMap (·.frame)) h₀ h₀' → Fr h₀' L h' m → News h₀' L h' ((d, tokD w t1 t2 t3 t4 t5 b sv txt tt i ti v) :: (x, instObj 133 d) :: (kt, { cls := .type "tuple", data := .seq vs.toArray }) :: rest) →
      Below A₀ base outer h₀' → (Mine.hd.heap_39 w.params).In h₀' → Top p loose mean mg mb h₀' → KtsDicts (outer.filterMap (·.frame)) h₀' → Q (.str (Str.ofString "") tr) { s with heap := h', toks := tk' }) :
    wpAny (model PySem.Challenge.rw_aa0047_01.row.prog w) (ktrTop dp un gd cn cs L a ccd cl outer) (call (.ref 86) [.ref x, .int n tn, .ref kt]) Q E s :=
  gw_none0 B F X N hdx T XB TB D hk hdp hun hst hn0 hn hv hin hret
end
end
section
open PySem PySem.W PyProof.Rows PySem.Calls Builtin Builtin.ObjectAttr
set_option maxRecDepth 100000
/-- what the written part says of a class right under Exception -/
structure ExcCls (K : Frag) (C : Addr) (cd : ClassData) : Prop where
  cls : clsIn K C = some cd
  mro : cd.mro = [.ref C, .type "Exception", .type "BaseException", .type "object"]
  hd : cd.hasDict = true
  ga : findIn K (.ref C) "__getattribute__" = some (some (.builtin "BaseException.__getattribute__"))
  gah : findIn K (.ref C) "__getattr__" = some none
  sa : findIn K (.ref C) "__setattr__" = some (some (.builtin "object.__setattr__"))
theorem ExcCls.mroIn {K : Frag} {C : Addr} {cd : ClassData} (H : ExcCls K C cd) (b : Value) (hb : cd.mro.contains b = true) : PySem.W.mroIn K C b = some true := by
  unfold PySem.W.mroIn
  rw [H.cls, Option.bind_some, if_neg (by rw [H.mro]; simp), hb]
theorem ExcCls.hasDict {K : Frag} {C : Addr} {cd : ClassData} (H : ExcCls K C cd) : hasDictIn K C = true := by
  unfold hasDictIn; rw [H.cls]; exact H.hd

section
variable {prog : Program} {w : World} {A : Around} {E : Value → Shared → Prop} {s : Shared} {K : Frag} {C : Addr} {cd : ClassData} {e ed L : Addr} {h₀ : Heap} {m : Str → Option Value} {oe od : Obj} {name : Str} {v : Value} {rest : List (Addr × Obj)}

theorem getE {expr : Bool} {Q : Value → Shared → Prop} (X : K.In s.heap) (H : ExcCls K C cd) (I : InstAt s.heap e oe C (some od)) (ha : findIn K (.ref C) name = some none) (hl : lookIn name od = some (some v)) (hv : handedIn v = true)
    (h : Q v { s with toks := s.toks + 1 }) : wpAny (model prog w) A (getAttr (.ref e) name expr) Q E s := by
  have FX := PySem.F.attr_Exception
  have L0 := I.type (M := model prog w)
  have L1 := looks_findIn (M := model prog w) X H.ga
  have L2 := looks_findIn (M := model prog w) X H.gah
  have LB : Looks (model prog w) s.heap (isInstance (.ref e) (.type "BaseException")) true := L0.andThen (looks_mroIn X (H.mroIn _ (by rw [H.mro]; simp)))
  have LF := looks_find (M := model prog w) X I (findObj_own H.hasDict ha (by rfl) hl)
  have hx2 : (Value.builtin "BaseException.__getattribute__" == Value.builtin "object.__getattribute__") = false := by decide +kernel
  unfold getAttr getAttrBy
  refine wpAny_bind (wpAny_mkText (wpAny_holding (wpAny_bind (Looks.here (s := { s with toks := s.toks + 1 }) L0 (wpAny_bind (Looks.here (s := { s with toks := s.toks + 1 }) L1 ?_))))))
  show wpAny _ _ (if (onTheHeap (Value.ref C) && Value.builtin "BaseException.__getattribute__" == Value.builtin "object.__getattribute__") = true then _ else getAttrByItsOwn _ _ _ _ _ _) _ _ _
  rw [hx2, Bool.and_false, if_neg (by decide)]
  unfold getAttrByItsOwn hookBefore
  rw [if_pos (by rfl)]
  refine wpAny_bind (Looks.here (s := { s with toks := s.toks + 1 }) L2 (wpAny_bind (wpAny_attempt (wpAny_holding ?_))))
  unfold callGetattribute
  rw [if_neg (by cases expr <;> simp [onTheHeap])]
  unfold boundAndCalled
  rw [FX.ga.bind]
  refine wpAny_bind (wpAny_pure (wpAny_call (codeAny_call_builtin FX.ga.plain F.entry_bexc_ga
    (@check_slot (model prog w) _ _ { s with toks := s.toks + 1 } "BaseException.__getattribute__" "BaseException" "__getattribute__" (.ref e) [.str name s.toks] [] _ (by decide +kernel) (by decide +kernel) LB (F.args_bexc_ga _ _) ?_))))
  unfold Builtin.«object.__getattribute__»
  refine wpAny_bind (wpAny_pure (wpAny_bind (wpAny_pure (wpAny_bind (Looks.here (s := { s with toks := s.toks + 1 }) L0 (wpAny_bind (Looks.here (s := { s with toks := s.toks + 1 }) LF ?_)))))))
  refine wpAny_pure ?_
  show wpAny _ _ (handedOut v) _ _ _
  rw [handedOut_of hv]
  exact wpAny_pure h

/-- the way into object.__setattr__ for a class right under Exception -/
theorem osaE {tk : Tok} {R : Result → Shared → Prop} {odo : Option Obj} (X : K.In s.heap) (H : ExcCls K C cd) (I : InstAt s.heap e oe C odo) (ha : findIn K (.ref C) name = some none)
    (h : wpAny (model prog w) A.in1 (storeInOwnDict (.ref e) (.ref C) (.str name tk) name v false)
      (fun fin s' => match fin with | .done f => R (.ok f) s' | .again c' => c'.quiet = true ∧ codeAny (model prog w) A c' R s') (fun e s' => R (.error e) s') s) :
    codeAny (model prog w) A (.call (.builtin "object.__setattr__") ⟨[.ref e, .str name tk, v], []⟩) R s := by
  have SF := PySem.F.store_object
  have SE := PySem.F.store_Exception
  have L0 := I.type (M := model prog w)
  have sub : Looks (model prog w) s.heap (isInstance (.ref e) (.type "object")) true := L0.andThen (looks_mroIn X (H.mroIn _ (by rw [H.mro]; simp)))
  refine codeAny_call_builtin SF.slot.plain SF.entry (@check_slot (model prog w) _ _ s "object.__setattr__" "object" "__setattr__" (.ref e) [.str name tk, v] [] _ SF.kind SF.split sub (SF.args (.ref e) (.str name tk) v) ?_)
  have hm : Looks (model prog w) s.heap (mroOf (.ref C)) cd.mro := (looks_clsIn X H.cls).andThen .now
  rw [osa_eq, refuse_eq]
  refine wpAny_bind (wpAny_bind (L0.here (wpAny_bind (hm.here ?_))))
  rw [H.mro, refuseLoop_ref, SE.passes]
  exact wpAny_pure (wpAny_bind (L0.here (wpAny_bind ((looks_findIn X ha).here (wpAny_bind (wpAny_pure h))))))

/-- the dict of an object as a map -/
noncomputable def fnd (x : Str) (es : List DictEntry) : Option Value := (es.find? (·.key.isStr x)).map (·.val)
noncomputable def AllStr (es : List DictEntry) : Prop := ∀ en ∈ es, ∃ k t, en.key = .str k t
noncomputable def DMap (od : Obj) (mA : Str → Option Value) (n : Nat) : Prop := ∃ es : List DictEntry, ∃ k, od = dictOf es k ∧ es.length ≤ n ∧ AllStr es ∧ ∀ name, fnd name es = mA name
theorem AllStr.noRef : ∀ {es : List DictEntry}, AllStr es → es.any (·.refKey) = false
  | [], _ => rfl
  | en :: r, h => by
    obtain ⟨k, t, hk⟩ := h en (.head _)
    rw [List.any_cons, AllStr.noRef fun x hx => h x (.tail _ hx), Bool.or_false]
    unfold DictEntry.refKey
    rw [hk]
theorem getL_fnd {es : List DictEntry} (h : AllStr es) (x : Str) : getL x es = some (fnd x es) := by
  unfold getL fnd
  cases q : es.find? (·.key.isStr x) with
  | some en => rfl
  | none => simp [h.noRef]
theorem DMap.look {od : Obj} {mA : Str → Option Value} {n : Nat} (D : DMap od mA n) (name : Str) : lookIn name od = some (mA name) := by
  obtain ⟨es, k, rfl, _, hs, h⟩ := D
  rw [lookIn_dict, getL_fnd hs, h]
theorem put_all {name : Str} {hsh : Int} {t : Tok} {v : Value} : ∀ {es : List DictEntry}, AllStr es → AllStr (putL name hsh (.str name t) v es)
  | [], _ => fun en hen => by
    unfold putL at hen
    rcases List.mem_singleton.mp hen with rfl
    exact ⟨name, t, rfl⟩
  | x :: r, h => fun en hen => by
    unfold putL at hen
    split at hen
    · rcases List.mem_cons.mp hen with rfl | hen
      · exact h x (.head _)
      · exact h en (.tail _ hen)
    · rcases List.mem_cons.mp hen with rfl | hen
      · exact h en (.head _)
      · exact put_all (fun y hy => h y (.tail _ hy)) en hen
theorem put_len {name : Str} {hsh : Int} {t : Tok} {v : Value} : ∀ {es : List DictEntry}, (putL name hsh (.str name t) v es).length ≤ es.length + 1
  | [] => by unfold putL; exact Nat.le_refl _
  | x :: r => by
    unfold putL
    split
    · exact Nat.le_succ _
    · rw [List.length_cons, List.length_cons]; exact Nat.succ_le_succ put_len
theorem fnd_put {name x : Str} {hsh : Int} {t : Tok} {v : Value} : ∀ {es : List DictEntry}, AllStr es → fnd x (putL name hsh (.str name t) v es) = if x = name then some v else fnd x es
  | [], _ => by
    unfold putL fnd
    by_cases q : x = name
    · subst q; simp [Value.isStr]
    · have : (name == x) = false := by rw [beq_eq_false_iff_ne]; exact fun z => q z.symm
      simp [Value.isStr, this, q]
  | en :: r, h => by
    obtain ⟨k, tk, hk⟩ := h en (.head _)
    unfold putL
    by_cases hkn : k = name
    · subst hkn
      have e1 : en.key.isStr k = true := by rw [hk]; simp [Value.isStr]
      rw [if_pos e1]
      unfold fnd
      by_cases q : x = k
      · subst q; simp [List.find?_cons, e1]
      · have e2 : en.key.isStr x = false := by rw [hk]; simp only [Value.isStr, beq_eq_false_iff_ne]; exact fun z => q z.symm
        simp [List.find?_cons, e2, q]
    · have e1 : en.key.isStr name = false := by rw [hk]; simp only [Value.isStr, beq_eq_false_iff_ne]; exact hkn
      rw [if_neg (by rw [e1]; decide)]
      have ih := fnd_put (name := name) (x := x) (hsh := hsh) (t := t) (v := v) (es := r) fun y hy => h y (.tail _ hy)
      unfold fnd at ih ⊢
      by_cases q : k = x
      · have e2 : en.key.isStr x = true := by rw [hk]; simp [Value.isStr, q]
        simp [List.find?_cons, e2, show ¬ x = name from fun z => hkn (q.trans z)]
      · have e2 : en.key.isStr x = false := by rw [hk]; simp only [Value.isStr, beq_eq_false_iff_ne]; exact q
        simp only [List.find?_cons, e2]
        exact ih
theorem DMap.put {od : Obj} {mA : Str → Option Value} {n : Nat} (D : DMap od mA n) (name : Str) (hsh : Int) (t : Tok) (v : Value) :
    DMap (Obj.putName name hsh (.str name t) v od) (fun y => if y = name then some v else mA y) (n + 1) ∧ ∃ es k, Obj.putName name hsh (.str name t) v od = dictOf es k ∧ es.length ≤ n + 1 := by
  obtain ⟨es, k, rfl, hl, hs, h⟩ := D
  rw [putName_dict]
  have hl' : (putL name hsh (.str name t) v es).length ≤ n + 1 := Nat.le_trans put_len (Nat.succ_le_succ hl)
  exact ⟨⟨_, _, rfl, hl', put_all hs, fun y => by rw [fnd_put hs, h]⟩, _, _, rfl, hl'⟩

theorem nsSet_dmap {M : Model} {A : Around} {E : Value → Shared → Prop} {s : Shared} {ed L : Addr} {h₀ : Heap} {m : Str → Option Value} {od : Obj} {name : Str} {v : Value} {pre post : List (Addr × Obj)} {n : Nat} {mA : Str → Option Value} {Q : Unit → Shared → Prop}
    (F : Fr h₀ L s.heap m) (N : News h₀ L s.heap (pre ++ (ed, od) :: post)) (h1 : ∀ p ∈ pre, p.1 ≠ ed) (h2 : ∀ p ∈ post, p.1 ≠ ed) (D : DMap od mA n)
    (h : ∀ od' h' tk', DMap od' (fun y => if y = name then some v else mA y) (n + 1) → Fr h₀ L h' m → News h₀ L h' (pre ++ (ed, od') :: post) → Q () { s with heap := h', toks := tk' }) :
    wpAny M A (nsSet ed name v) Q E s := by
  obtain ⟨D', es', k', e', hl'⟩ := D.put name (PyData.keyHash M.w.params name) s.toks v
  obtain ⟨U1, U2⟩ := news_upd (f := Obj.putName name (PyData.keyHash M.w.params name) (.str name s.toks) v) F N h1 h2 rfl (by rw [e']; rfl)
  have hD := (N (ed, od) (by simp)).1
  obtain ⟨es, k, rfl, hl, hs, hm⟩ := D
  unfold nsSet
  refine wpAny_bind (wpAny_bind (wpAny_askSetting (wpAny_pure (wpAny_bind (wpAny_mkText (wpAny_bind (wpAny_loadPart hD ?_)))))))
  have c : (!es.toArray.any (·.key.isStr name) && es.toArray.any (·.refKey)) = false := by
    rw [← Array.any_toList, ← Array.any_toList]
    have := hs.noRef
    rw [List.toList_toArray, this, Bool.and_false]
  dsimp only [dictOf]
  rw [aRefKeyMayBeTheName_at, c]
  refine wpAny_updatePart hD ?_
  exact h _ _ _ D' U1 U2

theorem setE {n : Nat} {mA : Str → Option Value} {Q : Unit → Shared → Prop} (F : Fr h₀ L s.heap m) (X₀ : K.In h₀) (N : News h₀ L s.heap ((ed, od) :: (e, oe) :: rest)) (hoff : OwnOff rest [ed]) (hne : e ≠ ed)
    (H : ExcCls K C cd) (I : InstAt s.heap e oe C (some od)) (hd : oe.dict = some ed) (D : DMap od mA n) (hn : n ≤ 900) (ha : findIn K (.ref C) name = some none)
    (h : ∀ od' h' tk', DMap od' (fun y => if y = name then some v else mA y) (n + 1) → Fr h₀ L h' m → News h₀ L h' ((ed, od') :: (e, oe) :: rest) → Q () { s with heap := h', toks := tk' }) :
    wpAny (model prog w) A (setAttr (.ref e) name v) Q E s := by
  have X := X₀.keeps F.keep
  refine set_plain X I H.sa (osaE (s := { s with toks := s.toks + 1 }) X H I ha ?_)
  have hx := I.at_
  have hcl := I.cls
  have h2 : ∀ p ∈ (e, oe) :: rest, p.1 ≠ ed := fun p hp => by
    rcases List.mem_cons.mp hp with rfl | hp
    · exact hne
    · exact hoff p hp ed (.head _)
  unfold storeInOwnDict
  refine wpAny_bind (wpAny_pure (wpAny_bind (wpAny_bind (wpAny_loadPart hx ?_))))
  rw [hcl]
  refine wpAny_bind (Looks.here (s := { s with toks := s.toks + 1 }) (looks_clsIn X H.cls) ?_)
  rw [H.hd, hd]
  refine wpAny_pure (a := some ed) ?_
  show wpAny _ _ (storeInDict ed (.str name s.toks) name v) _ _ _
  unfold storeInDict newKeyGuard
  refine wpAny_bind (wpAny_pure (wpAny_bind (nsSet_dmap (s := { s with toks := s.toks + 1 }) (pre := []) F N (by simp) h2 D fun od' h' tk' D' F' N' => ?_)))
  obtain ⟨es', k', rfl, hl', hs', hm'⟩ := id D'
  refine wpAny_bind (wpAny_lookBehind (N' (ed, _) (.head _)).1 (by exact pastItsLine_dict (by rw [List.size_toArray, sizeLine_eq]; (first | lia | omega))) ?_)
  exact wpAny_pure (h _ _ _ D' F' N')

theorem dmap_empty : DMap emptyDict (fun _ => none) 0 := ⟨[], 0, rfl, Nat.le_refl _, (fun _ h => by cases h), fun _ => rfl⟩
theorem setE0 {Q : Unit → Shared → Prop} {vs : Array Value} (F : Fr h₀ L s.heap m) (X₀ : K.In h₀) (N : News h₀ L s.heap ((e, oe) :: rest)) (hoff : OwnOff rest [e])
    (H : ExcCls K C cd) (I : InstAt s.heap e oe C none) (hf : oe = { cls := .ref C, dict := none, data := .fields vs }) (ha : findIn K (.ref C) name = some none)
    (h : ∀ ed' od' h' tk', DMap od' (fun y => if y = name then some v else none) 1 → Fr h₀ L h' m → News h₀ L h' ((ed', od') :: (e, { oe with dict := some ed' }) :: rest) → @LT.lt Nat _ e ed' → e ≠ ed' → OwnOff rest [ed'] → Q () { s with heap := h', toks := tk' }) :
    wpAny (model prog w) A (setAttr (.ref e) name v) Q E s := by
  have X := X₀.keeps F.keep
  refine set_plain X I H.sa (osaE (s := { s with toks := s.toks + 1 }) X H I ha ?_)
  have hx := I.at_
  subst hf
  have N1 := N.push F emptyDict
  have F1 := F.push (o := emptyDict)
  have hlt : ∀ p ∈ (e, _) :: rest, @LT.lt Nat _ p.1 s.heap.objs.size := fun p hp => Heap.lt_size (N p hp).1
  obtain ⟨F2, N2⟩ := news_upd (pre := [(s.heap.objs.size, emptyDict)]) (post := rest) (d := e) (f := fun o => { o with dict := some s.heap.objs.size }) F1 N1 (fun p hp => by
      rcases List.mem_singleton.mp hp with rfl
      exact Nat.ne_of_gt (hlt (e, _) (.head _))) (fun p hp => hoff p hp e (.head _)) rfl rfl
  unfold storeInOwnDict
  refine wpAny_bind (wpAny_pure (wpAny_bind (wpAny_bind (wpAny_loadPart hx ?_))))
  refine wpAny_bind (Looks.here (s := { s with toks := s.toks + 1 }) (looks_clsIn X H.cls) ?_)
  rw [H.hd]
  refine wpAny_bind (wpAny_alloc ?_)
  refine wpAny_bind (wpAny_update (N1 (e, _) (.tail _ (.head _))).1 ?_)
  refine wpAny_pure (a := some s.heap.objs.size) ?_
  show wpAny _ _ (storeInDict s.heap.objs.size (.str name s.toks) name v) _ _ _
  unfold storeInDict newKeyGuard
  refine wpAny_bind (wpAny_pure (wpAny_bind (nsSet_dmap (s := { s with heap := (s.heap.push emptyDict).update e fun o => { o with dict := some s.heap.objs.size }, toks := s.toks + 1 }) (pre := []) F2 N2 (by simp) (fun p hp => ?_) dmap_empty fun od' h' tk' D' F' N' => ?_)))
  · rcases List.mem_cons.mp hp with rfl | hp
    · exact Nat.ne_of_lt (hlt (e, { cls := .ref C, dict := none, data := .fields vs }) (.head _))
    · exact Nat.ne_of_lt (hlt _ (.tail _ hp))
  obtain ⟨es', k', rfl, hl', hs', hm'⟩ := id D'
  refine wpAny_bind (wpAny_lookBehind (N' (s.heap.objs.size, _) (.head _)).1 (by exact pastItsLine_dict (by rw [List.size_toArray, sizeLine_eq]; (first | lia | omega))) ?_)
  have hle : @LT.lt Nat _ e s.heap.objs.size := hlt (e, { cls := .ref C, dict := none, data := .fields vs }) (.head _)
  exact wpAny_pure (h s.heap.objs.size _ _ _ D' F' N' hle (Nat.ne_of_lt hle) fun p hp b hb => by
    rw [List.mem_singleton.mp hb]
    exact Nat.ne_of_lt (hlt _ (.tail _ hp)))
end
end
section
open PySem PySem.W PyProof.Rows PySem.Calls Builtin Builtin.ObjectAttr
set_option maxRecDepth 100000
set_option maxHeartbeats 4000000
noncomputable abbrev tupObj (vs : List Value) : Obj := { cls := .type "tuple", data := .seq vs.toArray }
noncomputable abbrev excObj (C t : Addr) : Obj := { cls := .ref C, data := .fields #[.ref t, .none, .none, .none, .bool false, .none] }
section
variable {prog : Program} {w : World} {A : Around} {E : Value → Shared → Prop} {s : Shared} {K : Frag} {C : Addr} {cd : ClassData} {L : Addr} {h₀ : Heap} {m : Str → Option Value} {news : List (Addr × Obj)} {R : Result → Shared → Prop}
variable {nm q : Str} {Nn : Addr} {bs : List Value} {sn : List Str} {sub : List Value} {ab : Bool} {col : Option Bool} {dd : Option Addr} {k0 k1 k2 k3 k5 : Option Value}

/-- an exception of a class with an __init__ of its own is made -/
theorem makeE {rest : List Value} {fI : Addr} (F : Fr h₀ L s.heap m) (N : News h₀ L s.heap news) (X : K.In s.heap)
    (hC : K.lookup C = some (excClassObj nm q C Nn bs [.type "Exception", .type "BaseException", .type "object"] true sn sub ab col dd k0 k1 k2 k3 k5 "Exception.__new__"))
    (hi : findIn K (.ref C) "__init__" = some (some (.ref fI))) (hf : typeIn K (.ref fI) = some (.type "function")) (hrest : rest.length ≤ sizeLine)
    (h : ∀ t e h', Fr h₀ L h' m → News h₀ L h' ((e, excObj C t) :: (t, tupObj rest) :: news) → (∀ p ∈ news, @LT.lt Nat _ p.1 t) → @LT.lt Nat _ t e →
      codeAny (model prog w) (A.under (.builtin "type.__call__" ⟨.ref C :: rest, []⟩)) (.call (.ref fI) ⟨.ref e :: rest, []⟩) (InitBack e R) { s with heap := h' }) :
    codeAny (model prog w) A (.call (.ref C) ⟨rest, []⟩) R s := by
  obtain ⟨hh, g, d, t, os⟩ := s
  have XF := PySem.F.excBase_Exception
  have hC := X _ _ hC
  have N' := (N.push F (tupObj rest)).push (F.push _) (excObj C hh.objs.size)
  rw [Heap.size_push] at N'
  have z := h hh.objs.size (hh.objs.size + 1) _ ((F.push _).push _) N' (fun p hp => Heap.lt_size (N p hp).1) (Nat.lt_succ_self _)
  have f1 := tc_lookup
  have f2 := tc_bind (.ref C)
  have hT : (⟨hh, g, d, t, os⟩ : Shared).TypeIs (.ref C) "type" := ⟨_, hC, rfl⟩
  refine codeAny_of_tree ?_
  show wpAny _ _ (callAny (.ref C) _) _ _ _
  repeat (any_goals (first | assumption | with_reducible refine wpAny_loadPart_at hC ?_ | wp_step))
  refine ⟨rfl, ?_⟩
  refine codeAny_call_builtin_at (Code.quiet_builtin _ (by decide +kernel)) entry_typeCall (wpAny_check_type_call_sub hC ?_)
  repeat (first | with_reducible refine wpAny_loadPart_at hC ?_ | with_reducible refine wpAny_madeBy_exc hC ?_ | wp_step)
  refine codeAny_call_builtin_code (Code.quiet_builtin _ XF.quiet) (wpAny_check_new_sub XF hC ?_)
  refine codeAny_exc_new_sub XF hC ?_ hrest
  show wpAny _ _ _ _ _ _
  have k : ∀ b o, hh.get? b = some o → ((hh.push (tupObj rest)).push (excObj C hh.objs.size)).get? b = some o := fun b o e => Heap.get?_push_of_some _ (Heap.get?_push_of_some _ e)
  have hC₁ := k _ _ hC
  have hget : ((hh.push (tupObj rest)).push (excObj C hh.objs.size)).get? (hh.objs.size + 1) = some (excObj C hh.objs.size) := (N' _ (.head _)).1
  have hcC : (Value.ref C :: [.type "Exception", .type "BaseException", .type "object"]).contains (.ref C) = true := by simp
  have X' := X.keeps k
  unfold isInstance
  repeat (first | (with_reducible refine wpAny_loadPart_at hget ?_; dsimp only) | (with_reducible refine wpAny_isSubtype_exc hC₁ ?_; rw [hcC]) | wp_step)
  show wpAny _ _ (isSubtype (.ref C) (.ref C)) _ _ _
  refine wpAny_isSubtype_exc hC₁ ?_
  rw [hcC]
  repeat (first | (with_reducible refine wpAny_loadPart_at hget ?_; dsimp only) | wp_step)
  show wpAny _ _ (typeLookup (.ref C) _) _ _ _
  refine (looks_findIn X' hi).at ?_
  refine wpAny_holding (wpAny_bind ((bind_fn X' _ hf).at ?_))
  refine wpAny_bind (wpAny_call (codeAny_mono z fun r s' z' => ?_))
  rcases r with e | (v | _ | _ | _) <;> first | exact z' | exact z'.elim | skip
  obtain ⟨rfl, z'⟩ := z'
  exact wpAny_pure (wpAny_pure z')
end
end
section
open PySem PySem.W PyProof.Rows PySem.Calls Builtin
set_option maxRecDepth 100000
set_option maxHeartbeats 400000
theorem wd_slot : Slot "wrapper_descriptor" "__get__" "wrapper_descriptor.__get__" := .of (owner := "wrapper_descriptor") (n := "__get__") (by rw [typeLookup_type, builtinLookup_eq_fast]; kernel_rfl) (by decide +kernel) (by decide +kernel) (by decide +kernel)
  (by first | exact .inl (by decide +kernel) | exact .inr (by decide +kernel)) (by rw [isSubtype_type]; kernel_rfl)
theorem wd_entry : entryFor table "wrapper_descriptor.__get__" = some Builtin.«wrapper_descriptor.__get__» := entryFor_of_tree (by kernel_rfl)
theorem wd_args (a b c : Value) : argsOk "wrapper_descriptor.__get__" ⟨[a, b, c], []⟩ := by unfold argsOk; kernel_rfl
theorem ei_type : typeOf (.builtin "Exception.__init__") = pure (.type "wrapper_descriptor") := by show builtinType _ = _; rw [builtinType_eq_fast]; kernel_rfl
noncomputable abbrev mwObj (e : Addr) : Obj := { cls := .type "method-wrapper", data := .fields #[.builtin "Exception.__init__", .ref e] }
section
variable {prog : Program} {w : World} {A : Around} {E : Value → Shared → Prop} {h : Heap} {g : Array GenState} {d : Drawn} {t : Nat} {os : OsState}

theorem wd_run {e C : Addr} {Q : Fin → Shared → Prop} (hi : Looks (model prog w) h (isInstance (.ref e) (.type "Exception")) true)
    (hq : Q (.done (.ret (.ref h.objs.size))) ⟨h.push (mwObj e), g, d, t, os⟩) :
    wpAny (model prog w) A (Builtin.«wrapper_descriptor.__get__» ⟨[.builtin "Exception.__init__", .ref e, .ref C], []⟩) Q E ⟨h, g, d, t, os⟩ := by
  unfold Builtin.«wrapper_descriptor.__get__»
  refine wpAny_bind (wpAny_pure (wpAny_bind (wpAny_bind (wpAny_pure (wpAny_bind (hi.here (s := ⟨h, g, d, t, os⟩) (wpAny_pure ?_)))))))
  unfold newFields
  repeat (first | (with_reducible refine wpAny_newObj_type ?_ (by size_fits)) | wp_step)
  exact hq

theorem super_ga {so D e C : Addr} {l₀ l : List Value} {K : Frag} {name : Str} {tk : Tok} {Q : Fin → Shared → Prop}
    (hso : h.get? so = some (ks_superObj D e C)) (hno : Looks (model prog w) h (opaqueClassAbove (.ref C)) none)
    (hC : Looks (model prog w) h (mroOf (.ref C)) l₀) (hl : (l₀.dropWhile (· != .ref D)).drop 1 = l) (X : K.In h)
    (hf : alongIn K name l = some (some (.builtin "Exception.__init__"))) (hxC : e ≠ C) (hn : (name == ("__class__" : Str)) = false)
    (hi : Looks (model prog w) h (isInstance (.ref e) (.type "Exception")) true)
    (hq : Q (.done (.ret (.ref h.objs.size))) ⟨h.push (mwObj e), g, d, t, os⟩) :
    wpAny (model prog w) A (Builtin.«super.__getattribute__» ⟨[.ref so, .str name tk], []⟩) Q E ⟨h, g, d, t, os⟩ := by
  have hwl := wd_slot.lookup
  have hne : (Value.ref e == Value.ref C) = false := by simp [hxC]
  have hTf : (⟨h, g, d, t, os⟩ : Shared).TypeIs (.builtin "Exception.__init__") "wrapper_descriptor" := ei_type
  have hdt : (ks_superObj D e C).data = .fields #[.ref D, .ref e, .ref C] := rfl
  have f0 : (#[.ref D, .ref e, .ref C] : Array Value)[0]? = some (.ref D) := rfl
  have f1 : (#[.ref D, .ref e, .ref C] : Array Value)[1]? = some (.ref e) := rfl
  have f2 : (#[.ref D, .ref e, .ref C] : Array Value)[2]? = some (.ref C) := rfl
  unfold Builtin.«super.__getattribute__»
  repeat (first
    | (with_reducible refine wpAny_field hso hdt f0 ?_) | (with_reducible refine wpAny_field hso hdt f1 ?_) | (with_reducible refine wpAny_field hso hdt f2 ?_)
    | (with_reducible refine ks_wpAny_notOpaque hno ?_)
    | (with_reducible refine Looks.at hC ?_; rw [hl])
    | (refine ks_forIn_along X (fun _ _ => rfl) rfl ?_ hf)
    | (with_reducible refine wpAny_typeOf hTf ?_)
    | (with_reducible refine wpAny_call_entry wd_slot hTf wd_entry ?_ (wd_args _ _ _))
    | (with_reducible refine wd_run hi ?_)
    | (with_reducible refine ⟨_, rfl, ?_⟩)
    | (simp only [hn, hne, Bool.or_false, Bool.false_eq_true, if_false])
    | wp_step
    | dsimp only)
  all_goals exact hq

theorem super_get {so D e C : Addr} {l₀ l : List Value} {K : Frag} {name : Str} {pl : Sem Bool} {Q : Value × List Value → Shared → Prop}
    (hso : h.get? so = some (ks_superObj D e C)) (hno : Looks (model prog w) h (opaqueClassAbove (.ref C)) none)
    (hC : Looks (model prog w) h (mroOf (.ref C)) l₀) (hl : (l₀.dropWhile (· != .ref D)).drop 1 = l) (X : K.In h)
    (hf : alongIn K name l = some (some (.builtin "Exception.__init__"))) (hxC : e ≠ C) (hn : (name == ("__class__" : Str)) = false)
    (hi : Looks (model prog w) h (isInstance (.ref e) (.type "Exception")) true)
    (hq : Q (.ref h.objs.size, []) ⟨h.push (mwObj e), g, d, t + 1, os⟩) :
    wpAny (model prog w) A (getMethod (.ref so) name pl) Q E ⟨h, g, d, t, os⟩ := by
  have hlk := PySem.F.ks_slot_super_ga.lookup
  have hcan := PySem.F.ks_canon_super_ga
  have hT : ∀ t', (⟨h, g, d, t', os⟩ : Shared).TypeIs (.ref so) "super" := fun _ => ⟨_, hso, rfl⟩
  unfold getMethod
  refine wpAny_bind (wpAny_specialOf (hT _) hlk ?_)
  show wpAny _ _ (if (Manifest.canonical "super.__getattribute__" != "object.__getattribute__") = true then _ else _) _ _ _
  rw [if_pos hcan]
  unfold getAttr getAttrBy
  refine wpAny_bind (wpAny_bind (wpAny_mkText (wpAny_holding (wpAny_bind (wpAny_typeOf (hT _) (wpAny_bind (wpAny_of_eq hlk ?_)))))))
  show wpAny _ _ (getAttrByItsOwn (.ref so) (.str name t) (.type "super") (.builtin "super.__getattribute__") true false) _ _ _
  unfold getAttrByItsOwn hookBefore callGetattribute boundAndCalled
  refine wpAny_bind (wpAny_of_eq (show (if onTheHeap (.type "super") then typeLookup (.type "super") "__getattr__" else pure none) = pure none from rfl) ?_)
  refine wpAny_bind (wpAny_attempt (wpAny_holding ?_))
  show wpAny _ _ (bindSpecial (.builtin "super.__getattribute__") (.ref so) >>= _) _ _ _
  refine wpAny_bind (wpAny_of_eq (PySem.F.ks_slot_super_ga.bind _) ?_)
  refine wpAny_mono (Q := fun v s' => v = .ref h.objs.size ∧ s' = ⟨h.push (mwObj e), g, d, t + 1, os⟩) (E := fun _ _ => False)
    (wpAny_call_entry PySem.F.ks_slot_super_ga (hT _) PySem.F.ks_entry_super_ga (super_ga hso hno hC hl X hf hxC hn hi ⟨_, rfl, rfl, rfl⟩) (PySem.F.ks_gaArgs_super _ _)) (fun v s' hv => ?_) fun _ _ z => z.elim
  obtain ⟨rfl, rfl⟩ := hv
  exact wpAny_pure (wpAny_pure hq)
end
end
section
open PySem PySem.W PyProof.Rows PySem.Calls Builtin Builtin.BaseException
set_option maxRecDepth 100000
set_option maxHeartbeats 4000000
noncomputable abbrev excObjD (C t : Addr) (dd : Option Addr) : Obj := { cls := .ref C, dict := dd, data := .fields #[.ref t, .none, .none, .none, .bool false, .none] }
section
variable {prog : Program} {w : World} {A : Around} {E : Value → Shared → Prop} {h : Heap} {g : Array GenState} {d : Drawn} {t : Nat} {os : OsState}

theorem ei_run {e C t0 : Addr} {dd : Option Addr} {v : Value} {Q : Fin → Shared → Prop} (he : h.get? e = some (excObjD C t0 dd))
    (hq : Q (.done (.ret .none)) ⟨(h.push (tupObj [v])).update e (Obj.mapFields (·.setIfInBounds 0 (.ref h.objs.size))), g, d, t, os⟩) :
    wpAny (model prog w) A (Builtin.«BaseException.__init__» ⟨[.ref e, v], []⟩) Q E ⟨h, g, d, t, os⟩ := by
  unfold Builtin.«BaseException.__init__» bexcPut
  have he' : (h.push (tupObj [v])).get? e = some (excObjD C t0 dd) := Heap.get?_push_of_some _ he
  refine wpAny_bind (wpAny_newTuple (items := [v]) ?_ (by size_fits))
  refine wpAny_bind (wpAny_bind (wpAny_field (s := ⟨h.push (tupObj [v]), g, d, t, os⟩) he' rfl rfl ?_))
  refine wpAny_bind (wpAny_setField (s := ⟨h.push (tupObj [v]), g, d, t, os⟩) he' rfl (by simp) ?_)
  refine wpAny_letGo (wpAny_pure ?_)
  exact hq

theorem mw_call {mw e C t0 : Addr} {oc : Value} {od dd : Option Addr} {cd : ClassData} {sl : Array (Option Value)} {v : Value} {Q : Value → Shared → Prop} (hm : h.get? mw = some (mwObj e)) (he : h.get? e = some (excObjD C t0 dd))
    (hC : h.get? C = some ⟨oc, od, .cls cd, sl⟩)
    (hq : Q .none ⟨(h.push (tupObj [v])).update e (Obj.mapFields (·.setIfInBounds 0 (.ref h.objs.size))), g, d, t, os⟩) :
    wpAny (model prog w) A (call (.ref mw) [v]) Q E ⟨h, g, d, t, os⟩ := by
  have XF := PySem.F.excBase_Exception
  refine wpAny_call (codeAny_of_tree ?_)
  show wpAny _ _ (callAny (.ref mw) _) _ _ _
  unfold callAny
  refine wpAny_bind (wpAny_load hm ?_)
  refine wpAny_bind ?_
  show wpAny _ _ (checkBoundCall "Exception.__init__" ⟨[.ref e, v], []⟩) _ _ _
  unfold checkBoundCall
  have hstar := XF.noStar
  rw [XF.initKind, XF.initRow]
  unfold Bind.checkArgs
  repeat (first | (with_reducible refine wpAny_loadPart_at he ?_; dsimp only) | with_reducible refine wpAny_loadPart_at hC ?_ | wp_step)
  refine ⟨plainId_quiet XF.init.plain _, codeAny_builtin XF.initEntry ?_⟩
  exact ei_run he hq
end
end
section
open PySem PySem.W PyProof.Rows PySem.Calls Builtin PySem.Builtin.Str
set_option maxRecDepth 100000
/-- the places of the line end in a list of signs -/
noncomputable def nlAt : List Nat → Nat → List Nat
  | [], _ => []
  | c :: r, i => if c = 10 then i :: nlAt r (i + 1) else nlAt r (i + 1)
theorem nlAt_snoc : ∀ (l : List Nat) (c i : Nat), nlAt (l ++ [c]) i = nlAt l i ++ (if c = 10 then [i + l.length] else [])
  | [], c, i => by simp only [List.nil_append, nlAt, List.length_nil, Nat.add_zero]
  | a :: l, c, i => by
    simp only [List.cons_append, nlAt, nlAt_snoc l c (i + 1), List.length_cons]
    rw [show i + 1 + l.length = i + (l.length + 1) by (first | lia | omega)]
    split <;> rfl
theorem nlAt_lt : ∀ (l : List Nat) (i j : Nat), j ∈ nlAt l i → j < i + l.length
  | [], i, j, h => by cases h
  | a :: l, i, j, h => by
    unfold nlAt at h
    rw [List.length_cons]
    split at h
    · rcases List.mem_cons.mp h with rfl | h
      · (first | lia | omega)
      · have := nlAt_lt l _ _ h; (first | lia | omega)
    · have := nlAt_lt l _ _ h; (first | lia | omega)
theorem take_at {α : Type} (l : List α) (n : Nat) (h : n < l.length) : l.take (n + 1) = l.take n ++ [l[n]] := by
  rw [List.take_add_one, List.getElem?_eq_getElem h]; rfl
theorem nlAt_take (l : List Nat) (n : Nat) (h : n < l.length) : nlAt (l.take (n + 1)) 0 = nlAt (l.take n) 0 ++ (if l[n] = 10 then [n] else []) := by
  rw [take_at l n h, nlAt_snoc, Nat.zero_add, List.length_take, Nat.min_eq_left (Nat.le_of_lt h)]

noncomputable abbrev nl : Str := Str.ofString "\n"
theorem nl_len : nl.length = 1 := by decide
theorem sub_nl (x : Str) (n : Nat) (h : n < x.cps.toList.length) : subAt x nl n = decide (x.cps.toList[n] = 10) := by
  unfold subAt
  have h' : n < x.cps.size := by rw [Array.length_toList] at h; exact h
  have e : x.cps.extract n (n + nl.length) = #[x.cps[n]] := by
    rw [nl_len]
    apply Array.ext
    · simp; (first | lia | omega)
    · intro i h1 h2
      simp at h2
      subst h2
      simp
  rw [e]
  have e2 : nl.cps = #[10] := by decide
  rw [e2, Array.getElem_toList]
  by_cases q : x.cps[n] = 10
  · simp [q]
  · simp [q]
theorem idFor {α β : Type} (f : α → β → Id (ForInStep β)) (g : β → α → β) (h : ∀ a b, f a b = pure (ForInStep.yield (g b a))) : ∀ (l : List α) (b : β), (forIn l b f : Id β) = pure (l.foldl g b)
  | [], b => rfl
  | a :: l, b => by
    rw [List.forIn_cons, h]
    exact idFor f g h l (g b a)
noncomputable def occStep (x : Str) (k lim : Nat) (r : Array Nat × Nat) (i : Nat) : Array Nat × Nat := if ((r.1.size < lim ∧ r.2 ≤ i) ∧ i + nl.length ≤ k) ∧ subAt x nl i = true then (r.1.push i, i + nl.length) else (r.1, r.2)
theorem occ_eq (x : Str) (k lim : Nat) : occurrences x nl 0 k lim = ((List.range' 0 (k + 1)).foldl (occStep x k lim) (#[], 0)).1.toList := by
  unfold occurrences
  simp [Id.run]
  rw [idFor (g := occStep x k lim) (h := fun i r => by unfold occStep; split <;> rfl)]
  rfl
theorem occ_inv (x : Str) (k lim : Nat) (hk : k ≤ x.cps.toList.length) : ∀ n, n ≤ k → ∃ f, (List.range' 0 n).foldl (occStep x k lim) (#[], 0) = (((nlAt (x.cps.toList.take n) 0).take lim).toArray, f) ∧ f ≤ n
  | 0, _ => ⟨0, by simp [nlAt], Nat.le_refl _⟩
  | n + 1, h => by
    obtain ⟨f, e, hf⟩ := occ_inv x k lim hk n (by (first | lia | omega))
    have hn : n < x.cps.toList.length := by (first | lia | omega)
    rw [List.range'_concat, List.foldl_append, e, nlAt_take _ _ hn]
    simp only [List.foldl_cons, List.foldl_nil, Nat.zero_add, Nat.one_mul]
    unfold occStep
    rw [sub_nl x n hn, nl_len]
    by_cases q : x.cps.toList[n] = 10
    · rw [if_pos q]
      by_cases z : (nlAt (x.cps.toList.take n) 0).length < lim
      · refine ⟨n + 1, ?_, Nat.le_refl _⟩
        rw [List.take_of_length_le (show (nlAt (x.cps.toList.take n) 0).length ≤ lim by (first | lia | omega)), List.take_of_length_le (show (nlAt (x.cps.toList.take n) 0 ++ [n]).length ≤ lim by rw [List.length_append, List.length_singleton]; (first | lia | omega))]
        rw [if_pos ⟨⟨⟨by rw [List.size_toArray]; exact z, hf⟩, h⟩, decide_eq_true q⟩, List.push_toArray]
      · refine ⟨f, ?_, by (first | lia | omega)⟩
        rw [if_neg (fun y => by have := y.1.1.1; rw [List.size_toArray, List.length_take] at this; (first | lia | omega))]
        rw [List.take_append_of_le_length (by (first | lia | omega))]
    · rw [if_neg q, List.append_nil, if_neg (fun y => q (of_decide_eq_true y.2))]
      exact ⟨f, rfl, by (first | lia | omega)⟩
theorem occ_nl (x : Str) (k lim : Nat) (hk : k ≤ x.length) : occurrences x nl 0 k lim = (nlAt (x.cps.toList.take k) 0).take lim := by
  obtain ⟨f, e, hf⟩ := occ_inv x k lim (by rw [Array.length_toList]; exact hk) k (Nat.le_refl _)
  rw [occ_eq, List.range'_concat, List.foldl_append, e]
  simp only [List.foldl_cons, List.foldl_nil, Nat.zero_add, Nat.one_mul]
  unfold occStep
  rw [if_neg (by rw [nl_len]; (first | lia | omega))]
noncomputable def lastStep (x : Str) (k : Nat) (r : Option Nat) (i : Nat) : Option Nat := if i + nl.length ≤ k ∧ subAt x nl i = true then some i else r
theorem last_inv (x : Str) (k : Nat) (hk : k ≤ x.cps.toList.length) : ∀ n, n ≤ k → (List.range' 0 n).foldl (lastStep x k) none = (nlAt (x.cps.toList.take n) 0).getLast?
  | 0, _ => rfl
  | n + 1, h => by
    have hn : n < x.cps.toList.length := by (first | lia | omega)
    rw [List.range'_concat, List.foldl_append, last_inv x k hk n (by (first | lia | omega)), nlAt_take _ _ hn]
    simp only [List.foldl_cons, List.foldl_nil, Nat.zero_add, Nat.one_mul]
    unfold lastStep
    rw [sub_nl x n hn, nl_len]
    by_cases q : x.cps.toList[n] = 10
    · rw [if_pos q, if_pos ⟨h, decide_eq_true q⟩, List.getLast?_concat]
    · rw [if_neg q, List.append_nil, if_neg (fun y => q (of_decide_eq_true y.2))]
theorem last_nl (x : Str) (k : Nat) (hk : k ≤ x.length) : lastOccurrence x nl 0 k = (nlAt (x.cps.toList.take k) 0).getLast? := by
  have e : lastOccurrence x nl 0 k = (List.range' 0 (k + 1)).foldl (lastStep x k) none := by
    unfold lastOccurrence
    simp [Id.run]
    rw [idFor (g := lastStep x k) (h := fun i r => by unfold lastStep; split <;> rfl)]
    rfl
  rw [e, List.range'_concat, List.foldl_append, last_inv x k (by rw [Array.length_toList]; exact hk) k (Nat.le_refl _)]
  simp only [List.foldl_cons, List.foldl_nil, Nat.zero_add, Nat.one_mul]
  unfold lastStep
  rw [if_neg (by rw [nl_len]; (first | lia | omega))]
theorem nlAt_len : ∀ (l : List Nat) (i : Nat), (nlAt l i).length ≤ l.length
  | [], _ => Nat.le_refl _
  | a :: l, i => by
    unfold nlAt
    have := nlAt_len l (i + 1)
    split <;> simp only [List.length_cons] <;> (first | lia | omega)
/-- the signs of a text as numbers -/
noncomputable abbrev cps (x : Str) : List Nat := x.cps.toList
theorem cps_len (x : Str) : (cps x).length = x.length := Array.length_toList
theorem count_nl (x : Str) (k : Nat) (hk : k ≤ x.length) : (occurrences x nl 0 k (x.length + 1)).length = (nlAt ((cps x).take k) 0).length := by
  rw [occ_nl x k _ hk, List.take_of_length_le]
  have := nlAt_len ((cps x).take k) 0
  rw [List.length_take] at this
  show (nlAt ((cps x).take k) 0).length ≤ _
  (first | lia | omega)
theorem in_nl (x : Str) : (!(occurrences x nl 0 x.length 1).isEmpty) = !(nlAt (cps x) 0).isEmpty := by
  rw [occ_nl x _ _ (Nat.le_refl _), List.take_of_length_le (Nat.le_of_eq (cps_len x))]
  cases nlAt (cps x) 0 <;> rfl
/-- the place where the last line begins -/
noncomputable def lineBegin (l : List Nat) : Nat := match (nlAt l 0).getLast? with | some i => i + 1 | none => 0
theorem split_nl (x : Str) : (Txt.split x nl).length = (nlAt (cps x) 0).length + 1 ∧ ∃ y, (Txt.split x nl).getLast? = some y ∧ y.length = x.length - lineBegin (cps x) := by
  have ho : occurrences x nl 0 x.length (x.length + 1) = nlAt (cps x) 0 := by
    rw [occ_nl x _ _ (Nat.le_refl _), List.take_of_length_le (Nat.le_of_eq (cps_len x)), List.take_of_length_le]
    have := nlAt_len (cps x) 0
    rw [cps_len] at this
    (first | lia | omega)
  have e : Str.strKind nl = 1 := by
    show (if (#[10] : Array Nat).all (· < 256) then 1 else if (#[10] : Array Nat).all (· < 65536) then 2 else 4) = 1
    simp
  have hk : (Str.strKind x < Str.strKind nl) = False := by
    rw [e, eq_iff_iff, iff_false]
    unfold Str.strKind
    split
    · (first | lia | omega)
    · split <;> (first | lia | omega)
  unfold Txt.split
  rw [ho]
  by_cases h0 : x.length < nl.length
  · have hx : x.length = 0 := by rw [nl_len] at h0; (first | lia | omega)
    have hc : cps x = [] := List.eq_nil_of_length_eq_zero (by rw [cps_len, hx])
    rw [if_pos (by simp [h0])]
    refine ⟨by rw [hc]; rfl, x, rfl, by rw [hx]; (first | lia | omega)⟩
  · rw [if_neg (by simp [h0, hk])]
    split
    · rename_i q
      rw [List.isEmpty_iff] at q
      refine ⟨by rw [q]; rfl, x, rfl, ?_⟩
      unfold lineBegin
      rw [q]
      rfl
    · rename_i q
      rw [len_partsBetween]
      refine ⟨rfl, ?_⟩
      obtain ⟨l', c, hc⟩ : ∃ l' c, nlAt (cps x) 0 = l' ++ [c] := by
        exact ⟨_, _, (List.dropLast_concat_getLast (fun z => q (by rw [z]; rfl))).symm⟩
      have hb : lineBegin (cps x) = c + 1 := by unfold lineBegin; rw [hc, List.getLast?_concat]
      rw [hb, hc]
      unfold partsBetween
      refine ⟨strSub x (c + nl.length) x.length, ?_, ?_⟩
      · rw [List.map_append, List.map_cons, List.map_nil, ← List.cons_append]
        show (List.map (fun y : Nat × Nat => strSub x y.1 y.2) (List.zip ((0 :: List.map (fun x => x + nl.length) l') ++ [c + nl.length]) ((l' ++ [c]) ++ [x.length]))).getLast? = _
        rw [List.zip_append (by simp), List.map_append]
        simp
      · show ((⟨x.cps.extract (c + nl.length) x.length⟩ : Str)).length = _
        rw [nl_len]
        show (x.cps.extract (c + 1) x.cps.size).size = _
        rw [Array.size_extract, Nat.min_self]
        rfl
end
section
open PySem PySem.W PyProof.Rows PySem.Calls Builtin PySem.Builtin.Bytes
set_option maxRecDepth 100000
noncomputable abbrev bNs (b : Array UInt8) : List Nat := b.toList.map (·.toNat)
noncomputable abbrev bnl : Array UInt8 := #[10]
theorem bNs_len (b : Array UInt8) : (bNs b).length = b.size := by rw [List.length_map, Array.length_toList]
theorem sub_bnl (b : Array UInt8) (n : Nat) (h : n < (bNs b).length) : (b.extract n (n + bnl.size) == bnl) = decide ((bNs b)[n] = 10) := by
  have h' : n < b.size := by rw [bNs_len] at h; exact h
  have e : b.extract n (n + bnl.size) = #[b[n]] := by
    apply Array.ext
    · simp; (first | lia | omega)
    · intro i h1 h2
      simp at h2
      subst h2
      simp
  rw [e]
  have e2 : (bNs b)[n] = b[n].toNat := by simp
  rw [e2]
  by_cases q : b[n] = 10
  · simp [q]
  · have : ¬ b[n].toNat = 10 := fun z => q (UInt8.toNat_inj.mp z)
    simp [q, this]
noncomputable def bStep (b : Array UInt8) (acc : List Nat × Nat) (i : Nat) : List Nat × Nat := if i ≥ acc.2 && b.extract i (i + bnl.size) == bnl then (i :: acc.1, i + bnl.size) else acc
theorem b_inv (b : Array UInt8) : ∀ n, n ≤ (bNs b).length → ∃ f, (List.range n).foldl (bStep b) ([], 0) = ((nlAt ((bNs b).take n) 0).reverse, f) ∧ f ≤ n
  | 0, _ => ⟨0, rfl, Nat.le_refl _⟩
  | n + 1, h => by
    obtain ⟨f, e, hf⟩ := b_inv b n (by (first | lia | omega))
    rw [List.range_succ, List.foldl_append, e, nlAt_take _ _ h]
    simp only [List.foldl_cons, List.foldl_nil]
    unfold bStep
    rw [sub_bnl b n h]
    by_cases q : (bNs b)[n] = 10
    · rw [if_pos q, if_pos (by rw [decide_eq_true q, Bool.and_true]; exact decide_eq_true hf)]
      exact ⟨n + 1, by rw [List.reverse_append]; rfl, Nat.le_refl _⟩
    · rw [if_neg q, if_neg (by rw [decide_eq_false q, Bool.and_false]; decide), List.append_nil]
      exact ⟨f, rfl, by (first | lia | omega)⟩
theorem bocc_nl (b : Array UInt8) (k : Nat) (hk : k ≤ b.size) : Bytes.occurrences b bnl 0 k = nlAt ((bNs b).take k) 0 := by
  have hk' : k ≤ (bNs b).length := by rw [bNs_len]; exact hk
  obtain ⟨f, e, hf⟩ := b_inv b k hk'
  unfold Bytes.occurrences
  show ((((List.range (k + 1 - (0 + 1))).map (· + 0)).foldl (bStep b) ([], 0)).1).reverse = _
  rw [show k + 1 - (0 + 1) = k by (first | lia | omega), show ((List.range k).map (· + 0)) = List.range k from List.map_id _, e, List.reverse_reverse]
theorem brf_inv (b : Array UInt8) : ∀ n, n ≤ (bNs b).length → (List.range n).reverse.find? (fun i => b.extract i (i + bnl.size) == bnl) = (nlAt ((bNs b).take n) 0).getLast?
  | 0, _ => rfl
  | n + 1, h => by
    rw [List.range_succ, List.reverse_append, nlAt_take _ _ h]
    show List.find? _ (n :: (List.range n).reverse) = _
    rw [List.find?_cons, sub_bnl b n h]
    by_cases q : (bNs b)[n] = 10
    · rw [if_pos q, decide_eq_true q, List.getLast?_concat]
    · rw [if_neg q, decide_eq_false q, List.append_nil]
      exact brf_inv b n (by (first | lia | omega))
theorem brfind_nl (b : Array UInt8) (k : Nat) (hk : k ≤ b.size) : rfind? b bnl 0 k = (nlAt ((bNs b).take k) 0).getLast? := by
  unfold rfind?
  show ((List.range (k + 1 - (0 + 1))).map (· + 0)).reverse.find? _ = _
  rw [show k + 1 - (0 + 1) = k by (first | lia | omega), show ((List.range k).map (· + 0)) = List.range k from List.map_id _]
  exact brf_inv b k (by rw [bNs_len]; exact hk)
theorem find_rev {p : Nat → Bool} (l : List Nat) : (l.find? p).isSome = (l.reverse.find? p).isSome := by
  rw [Bool.eq_iff_iff, List.find?_isSome, List.find?_isSome]
  simp
theorem bfind_nl (b : Array UInt8) : (Bytes.find? b bnl 0 b.size).isSome = !(nlAt (bNs b) 0).isEmpty := by
  unfold Bytes.find?
  rw [find_rev]
  have := brfind_nl b b.size (Nat.le_refl _)
  unfold rfind? at this
  rw [this, List.take_of_length_le (Nat.le_of_eq (bNs_len b))]
  cases nlAt (bNs b) 0 with
  | nil => rfl
  | cons a r => rw [List.getLast?_cons]; rfl
noncomputable def betStep (b : Array UInt8) (r : Array (Array UInt8) × Nat) (p : Nat) : Array (Array UInt8) × Nat := (r.1.push (b.extract r.2 p), p + 1)
theorem bet_inv (b : Array UInt8) : ∀ (l : List Nat) (r : Array (Array UInt8) × Nat), (l.foldl (betStep b) r).1.size = r.1.size + l.length ∧ (l.foldl (betStep b) r).2 = (match l.getLast? with | some i => i + 1 | none => r.2)
  | [], r => ⟨rfl, rfl⟩
  | a :: l, r => by
    rw [List.foldl_cons]
    obtain ⟨h1, h2⟩ := bet_inv b l (betStep b r a)
    rw [h1, h2]
    unfold betStep
    rw [Array.size_push, List.length_cons, List.getLast?_cons]
    refine ⟨by (first | lia | omega), ?_⟩
    cases l.getLast? <;> rfl
theorem between_nl (b : Array UInt8) : (between b 1 (nlAt (bNs b) 0)).length = (nlAt (bNs b) 0).length + 1 ∧ (between b 1 (nlAt (bNs b) 0)).getLast? = some (b.extract (lineBegin (bNs b)) b.size) := by
  have e : between b 1 (nlAt (bNs b) 0) = (((nlAt (bNs b) 0).foldl (betStep b) (#[], 0)).1.push (b.extract ((nlAt (bNs b) 0).foldl (betStep b) (#[], 0)).2 b.size)).toList := rfl
  obtain ⟨h1, h2⟩ := bet_inv b (nlAt (bNs b) 0) (#[], 0)
  rw [e, h2, Array.length_toList, Array.size_push, h1]
  refine ⟨by simp, ?_⟩
  rw [Array.toList_push, List.getLast?_concat]
  rfl
end
section
open PySem PySem.W PyProof.Rows PySem.Calls Builtin
set_option maxRecDepth 100000
theorem sargs4 (i : String) (a b c d : Value) (h : i = "str.count" ∨ i = "str.rfind") : argsOk i ⟨[a, b, c, d], []⟩ := by
  rcases h with rfl | rfl
  · exact PySem.F.args_str_count_4 a b c d
  · exact PySem.F.args_str_rfind_4 a b c d
theorem slot_bc : Slot "bytes" "count" "bytes.count" := .of (owner := "bytes") (n := "count") (by rw [typeLookup_type, builtinLookup_eq_fast]; kernel_rfl) (by decide +kernel) (by decide +kernel) (by decide +kernel)
    (by first | exact .inl (by decide +kernel) | exact .inr (by decide +kernel)) (by rw [isSubtype_type]; kernel_rfl)
theorem type_bc : typeOf (.builtin "bytes.count") = pure (.type "method_descriptor") := by show builtinType _ = _; rw [builtinType_eq_fast]; kernel_rfl
theorem entry_bc : entryFor table "bytes.count" = some Builtin.«bytes.count» := entryFor_of_tree (by kernel_rfl)
theorem args_bc (a b c d : Value) : argsOk "bytes.count" ⟨[a, b, c, d], []⟩ := by unfold argsOk; kernel_rfl
theorem slot_brf : Slot "bytes" "rfind" "bytes.rfind" := .of (owner := "bytes") (n := "rfind") (by rw [typeLookup_type, builtinLookup_eq_fast]; kernel_rfl) (by decide +kernel) (by decide +kernel) (by decide +kernel)
    (by first | exact .inl (by decide +kernel) | exact .inr (by decide +kernel)) (by rw [isSubtype_type]; kernel_rfl)
theorem type_brf : typeOf (.builtin "bytes.rfind") = pure (.type "method_descriptor") := by show builtinType _ = _; rw [builtinType_eq_fast]; kernel_rfl
theorem entry_brf : entryFor table "bytes.rfind" = some Builtin.«bytes.rfind» := entryFor_of_tree (by kernel_rfl)
theorem args_brf (a b c d : Value) : argsOk "bytes.rfind" ⟨[a, b, c, d], []⟩ := by unfold argsOk; kernel_rfl
theorem slot_bsp : Slot "bytes" "split" "bytes.split" := .of (owner := "bytes") (n := "split") (by rw [typeLookup_type, builtinLookup_eq_fast]; kernel_rfl) (by decide +kernel) (by decide +kernel) (by decide +kernel)
    (by first | exact .inl (by decide +kernel) | exact .inr (by decide +kernel)) (by rw [isSubtype_type]; kernel_rfl)
theorem type_bsp : typeOf (.builtin "bytes.split") = pure (.type "method_descriptor") := by show builtinType _ = _; rw [builtinType_eq_fast]; kernel_rfl
theorem entry_bsp : entryFor table "bytes.split" = some Builtin.«bytes.split» := entryFor_of_tree (by kernel_rfl)
theorem args_bsp (a b : Value) : argsOk "bytes.split" ⟨[a, b], []⟩ := by unfold argsOk; kernel_rfl
/-- the answer of rfind for the line end, in a list of signs -/
noncomputable def rf (l : List Nat) : Int := match (nlAt l 0).getLast? with | some i => (i : Int) | none => -1
section
variable {prog : Program} {w : World} {A : Around} {E : Value → Shared → Prop} {s : Shared} {x : Str} {b : Array UInt8} {t u v v' : Tok} {k : Int} {Q : Value → Shared → Prop}
theorem range4 (n : Nat) (hk : 0 ≤ k) (hn : k ≤ n) : Str.searchRange n [.int 0 v, .int k v'] = pure (0, k.toNat) := by
  show (pure ((max 0 (if (0 : Int) < 0 then 0 + (n : Int) else 0)).toNat, min (max 0 (if k < 0 then k + n else k)).toNat n) : Sem (Nat × Nat)) = _
  rw [if_neg (by (first | lia | omega)), if_neg (by (first | lia | omega))]
  congr 2
  (first | lia | omega)
theorem s_count (hk : 0 ≤ k) (hn : k ≤ x.length) (hq : ∀ t', Q (.int ((nlAt ((cps x).take k.toNat) 0).length : Nat) t') { s with toks := s.toks + 1 }) :
    wpAny (model prog w) A (call (.builtin "str.count") [.str x t, .str nl u, .int 0 v, .int k v']) Q E s := by
  refine call_gives PySem.F.slot_str_count (typeIs_str _ _ _) PySem.F.entry_str_count (sargs4 _ _ _ _ _ (.inl rfl)) (m := .int ((nlAt ((cps x).take k.toNat) 0).length : Nat)) ?_ (hq _)
  show Gives (Str.searchRange x.length [.int 0 v, .int k v'] >>= fun r => retInt (Str.occurrences x nl r.1 r.2 (x.length + 1)).length) _
  rw [range4 _ hk hn]
  show Gives (retInt (Str.occurrences x nl 0 k.toNat (x.length + 1)).length) _
  rw [count_nl x _ (by (first | lia | omega))]
  exact .of_eq rfl
theorem s_rfind (hk : 0 ≤ k) (hn : k ≤ x.length) (hq : ∀ t', Q (.int (rf ((cps x).take k.toNat)) t') { s with toks := s.toks + 1 }) :
    wpAny (model prog w) A (call (.builtin "str.rfind") [.str x t, .str nl u, .int 0 v, .int k v']) Q E s := by
  refine call_gives PySem.F.slot_str_rfind (typeIs_str _ _ _) PySem.F.entry_str_rfind (sargs4 _ _ _ _ _ (.inr rfl)) (m := .int (rf ((cps x).take k.toNat))) ?_ (hq _)
  show Gives (Str.searchRange x.length [.int 0 v, .int k v'] >>= fun r => match Str.lastOccurrence x nl r.1 r.2 with | some i => retInt i | none => (do rule "str.rfind.not-found"; retInt (-1))) _
  rw [range4 _ hk hn]
  show Gives (match Str.lastOccurrence x nl 0 k.toNat with | some i => retInt i | none => (do rule "str.rfind.not-found"; retInt (-1))) _
  rw [last_nl x _ (by (first | lia | omega))]
  unfold rf
  cases (nlAt ((cps x).take k.toNat) 0).getLast? with
  | none => exact .rule (.of_eq rfl)
  | some i => exact .of_eq rfl
theorem bargs4 (name : String) (hk : 0 ≤ k) (hn : k ≤ b.size) : Bytes.searchArgs .bytes name ⟨[.bytes b t, .bytes bnl u, .int 0 v, .int k v'], []⟩ = pure (b, bnl, if k < 1 then none else some (0, k.toNat)) := by
  unfold Bytes.searchArgs
  have e : Bytes.window b.size (some 0) (some k) = (0, k) := by
    unfold Bytes.window
    simp only [Option.getD_some]
    rw [if_neg (by (first | lia | omega)), if_neg (by (first | lia | omega))]
    congr 1
    (first | lia | omega)
  show (Bytes.buffer? _ (.bytes bnl u) >>= fun r => _) = _
  rw [KBy.buffer_eq]
  show (let (lo, hi) := Bytes.window b.size (some 0) (some k); (pure (b, bnl, if hi - lo < bnl.size then none else some (lo.toNat, hi.toNat)) : Sem _)) = _
  rw [e]
  show (pure (b, bnl, if k - 0 < ((1 : Nat) : Int) then none else some (0, k.toNat)) : Sem _) = _
  rw [Int.sub_zero]
  rfl
theorem b_count (hk : 0 ≤ k) (hn : k ≤ b.size) (hq : ∀ t', Q (.int ((nlAt ((bNs b).take k.toNat) 0).length : Nat) t') { s with toks := s.toks + 1 }) :
    wpAny (model prog w) A (call (.builtin "bytes.count") [.bytes b t, .bytes bnl u, .int 0 v, .int k v']) Q E s := by
  refine call_gives slot_bc (typeIs_bytes _ _ _) entry_bc (args_bc _ _ _ _) (m := .int ((nlAt ((bNs b).take k.toNat) 0).length : Nat)) ?_ (hq _)
  show Gives (Bytes.searchArgs .bytes "count" ⟨[.bytes b t, .bytes bnl u, .int 0 v, .int k v'], []⟩ >>= fun r => match r.2.2 with | none => retInt 0 | some (lo, hi) => if r.2.1.isEmpty then (do rule "bytes.count.empty-sub"; retInt (hi - lo + 1 : Nat)) else retInt (Bytes.occurrences r.1 r.2.1 lo hi).length) _
  rw [bargs4 "count" hk hn]
  by_cases z : k < 1
  · rw [if_pos z]
    have : k.toNat = 0 := by (first | lia | omega)
    rw [this]
    exact .of_eq rfl
  · rw [if_neg z]
    show Gives (retInt (Bytes.occurrences b bnl 0 k.toNat).length) _
    rw [bocc_nl b _ (by (first | lia | omega))]
    exact .of_eq rfl
theorem b_rfind (hk : 0 ≤ k) (hn : k ≤ b.size) (hq : ∀ t', Q (.int (rf ((bNs b).take k.toNat)) t') { s with toks := s.toks + 1 }) :
    wpAny (model prog w) A (call (.builtin "bytes.rfind") [.bytes b t, .bytes bnl u, .int 0 v, .int k v']) Q E s := by
  refine call_gives slot_brf (typeIs_bytes _ _ _) entry_brf (args_brf _ _ _ _) (m := .int (rf ((bNs b).take k.toNat))) ?_ (hq _)
  show Gives (Bytes.searchArgs .bytes "rfind" ⟨[.bytes b t, .bytes bnl u, .int 0 v, .int k v'], []⟩ >>= fun r => match r.2.2.bind fun (lo, hi) => Bytes.rfind? r.1 r.2.1 lo hi with | some i => retInt i | none => (do rule "bytes.rfind.not-found"; retInt (-1))) _
  rw [bargs4 "rfind" hk hn]
  by_cases z : k < 1
  · rw [if_pos z]
    have : k.toNat = 0 := by (first | lia | omega)
    rw [this]
    exact .rule (.of_eq rfl)
  · rw [if_neg z]
    show Gives (match Bytes.rfind? b bnl 0 k.toNat with | some i => retInt i | none => (do rule "bytes.rfind.not-found"; retInt (-1))) _
    rw [brfind_nl b _ (by (first | lia | omega))]
    unfold rf
    cases (nlAt ((bNs b).take k.toNat) 0).getLast? with
    | none => exact .rule (.of_eq rfl)
    | some i => exact .of_eq rfl
theorem b_gm {name : Str} {i : String} {pl : Sem Bool} {Q : Value × List Value → Shared → Prop} (sl : Slot "bytes" name i) (ty : typeOf (.builtin i) = pure (.type "method_descriptor")) (h : Q (.builtin i, [.bytes b t]) s) :
    wpAny (model prog w) A (getMethod (.bytes b t) name pl) Q E s := KBd.method_of (.bytes b t) (typeIs_bytes _ _ _) sl ty KBd.noRef h
end
end
section
open PySem PySem.W PyProof.Rows PySem.Calls Builtin
set_option maxRecDepth 100000
inductive BAre : List Value → List (Array UInt8) → Prop
  | nil : BAre [] []
  | cons {v l b r} (t : Tok) : v = .bytes b t → BAre l r → BAre (v :: l) (b :: r)
theorem BAre.len : ∀ {vs ps}, BAre vs ps → vs.length = ps.length
  | _, _, .nil => rfl
  | _, _, .cons _ _ h => by rw [List.length_cons, List.length_cons, h.len]
theorem BAre.last : ∀ {vs ps} {p : Array UInt8}, BAre vs ps → ps.getLast? = some p → ∃ t, vs.getLast? = some (.bytes p t)
  | _, _, _, .nil, e => by cases e
  | _, _, _, .cons (l := l) (r := r) t q h, e => by
    subst q
    rw [List.getLast?_cons] at e ⊢
    cases hr : r.getLast? with
    | none =>
      rw [hr] at e
      have : r = [] := List.getLast?_eq_none_iff.mp hr
      subst this
      cases h
      cases e
      exact ⟨t, rfl⟩
    | some z =>
      rw [hr] at e
      cases e
      obtain ⟨t', ht⟩ := h.last hr
      rw [ht]
      exact ⟨t', rfl⟩
section
variable {prog : Program} {w : World} {A : Around} {E : Value → Shared → Prop} {s : Shared} {b : Array UInt8} {t u : Tok} {Q : Value → Shared → Prop} {h₀ : Heap} {L : Addr} {m : Str → Option Value} {news : List (Addr × Obj)}
theorem mapM_new {M : Model} {Q : List Value → Shared → Prop} : ∀ {l : List (Array UInt8)} {s : Shared}, (∀ p ∈ l, p.size ≤ sizeLine) → (∀ vs tk, BAre vs l → Q vs { s with toks := tk }) → wpAny M A (l.mapM (Bytes.Kind.new .bytes)) Q E s
  | [], s, _, h => by rw [List.mapM_nil]; exact wpAny_pure (h [] s.toks .nil)
  | p :: l, s, hs, h => by
    rw [List.mapM_cons]
    refine wpAny_bind (wpAny_mkBytes ?_ (hs p (.head _)))
    refine wpAny_bind (mapM_new (fun q hq => hs q (.tail _ hq)) fun vs tk hb => ?_)
    exact wpAny_pure (h _ _ (.cons _ rfl hb))
theorem b_split (F : Fr h₀ L s.heap m) (N : News h₀ L s.heap news) (hsz : b.size ≤ 1000)
    (h : ∀ (D : Addr) (vs : List Value) c h' k t', vs.length = (nlAt (bNs b) 0).length + 1 → vs.getLast? = some (.bytes (b.extract (lineBegin (bNs b)) b.size) t') → Fr h₀ L h' m → News h₀ L h' ((D, listOf vs.toArray c) :: news) → (∀ p ∈ news, @LT.lt Nat _ p.1 D) → Q (.ref D) { s with heap := h', toks := k }) :
    wpAny (model prog w) A (call (.builtin "bytes.split") [.bytes b t, .bytes bnl u]) Q E s := by
  have hsl : 2000 ≤ sizeLine := by rw [sizeLine_eq]; (first | lia | omega)
  refine wpAny_call (codeAny_call_builtin slot_bsp.plain entry_bsp (slot_bsp.check _ _ _ _ _ _ _ _ (typeIs_bytes _ _ _) (args_bsp _ _) ?_))
  show wpAny _ _ (Bytes.bytesLike _ (.bytes bnl u) >>= fun r => _) _ _ s
  refine wpAny_bind (wpAny_of_eq KBd.like_eq ?_)
  show wpAny _ _ (if ((Bytes.occurrences b bnl 0 b.size).take (b.size + 1)).isEmpty = true then (do rule "bytes.split.no-separator"; ret (← newList [← Bytes.Kind.same .bytes (.bytes b t)])) else (do ret (← newList (← (Bytes.between b 1 ((Bytes.occurrences b bnl 0 b.size).take (b.size + 1))).mapM (Bytes.Kind.new .bytes))))) _ _ s
  have ho : (Bytes.occurrences b bnl 0 b.size).take (b.size + 1) = nlAt (bNs b) 0 := by
    rw [bocc_nl b _ (Nat.le_refl _), List.take_of_length_le (Nat.le_of_eq (bNs_len b)), List.take_of_length_le]
    have := nlAt_len (bNs b) 0
    rw [bNs_len] at this
    (first | lia | omega)
  rw [ho]
  have lt : ∀ p ∈ news, @LT.lt Nat _ p.1 s.heap.objs.size := fun p hp => Heap.lt_size (N p hp).1
  split
  · rename_i q
    rw [List.isEmpty_iff] at q
    have z := h s.heap.objs.size [.bytes b t] 0 _ s.toks t (by rw [q]; rfl) ?_ (F.push _) (N.push F _) lt
    · show wpAny _ _ (rule "bytes.split.no-separator" >>= fun _ => newList [.bytes b t] >>= fun v => ret v) _ _ s
      have one : [Value.bytes b t].length ≤ sizeLine := by rw [sizeLine_eq]; exact Nat.le_of_ble_eq_true rfl
      refine wpAny_bind (wpAny_rule ?_)
      refine wpAny_bind (wpAny_newList ?_ one)
      exact wpAny_pure z
    have : lineBegin (bNs b) = 0 := by unfold lineBegin; rw [q]; rfl
    rw [this, Array.extract_size]
    rfl
  · obtain ⟨b1, b2⟩ := between_nl b
    refine wpAny_bind (mapM_new (fun p hp => ?_) fun vs tk hv => ?_)
    · have h1 : ∀ (l : List Nat) (r : Array (Array UInt8) × Nat), (∀ p ∈ r.1.toList, p.size ≤ b.size) → ∀ p ∈ (l.foldl (betStep b) r).1.toList, p.size ≤ b.size := by
        intro l
        induction l with
        | nil => exact fun r hr => hr
        | cons a l ih =>
          intro r hr
          refine ih _ fun p hp => ?_
          unfold betStep at hp
          rw [Array.toList_push] at hp
          rcases List.mem_append.mp hp with hp | hp
          · exact hr p hp
          · rw [List.mem_singleton.mp hp, Array.size_extract]; (first | lia | omega)
      have e : Bytes.between b 1 (nlAt (bNs b) 0) = (((nlAt (bNs b) 0).foldl (betStep b) (#[], 0)).1.push (b.extract ((nlAt (bNs b) 0).foldl (betStep b) (#[], 0)).2 b.size)).toList := rfl
      rw [e, Array.toList_push] at hp
      have : p.size ≤ b.size := by
        rcases List.mem_append.mp hp with hp | hp
        · exact h1 _ _ (fun p hp => by cases hp) p hp
        · rw [List.mem_singleton.mp hp, Array.size_extract]; (first | lia | omega)
      (first | lia | omega)
    · refine wpAny_bind (wpAny_newList ?_ ?_)
      · obtain ⟨t', ht⟩ := hv.last b2
        exact wpAny_pure (h _ vs _ _ _ t' (by rw [hv.len, b1]) ht (F.push _) (N.push F _) lt)
      · rw [hv.len, b1]
        have := nlAt_len (bNs b) 0
        rw [bNs_len] at this
        (first | lia | omega)
end
end
section
open PySem PySem.W PyProof.Rows PySem.Calls Builtin
set_option maxRecDepth 100000
set_option maxHeartbeats 1000000
theorem un_kind : builtinKind "proto.unchain" = none := by decide +kernel
theorem un_plain : plainId "proto.unchain" = true := by decide +kernel
theorem un_entry : entryFor table "proto.unchain" = some Builtin.«proto.unchain» := entryFor_of_tree (by kernel_rfl)
/-- the exception in flight, raised from None in a handler of another one -/
noncomputable abbrev excFl (C t eI : Addr) (dd : Option Addr) : Obj := { cls := .ref C, dict := dd, data := .fields #[.ref t, .none, .ref eI, .none, .bool true, .none] }
section
variable {prog : Program} {w : World} {A : Around} {E : Value → Shared → Prop} {env : Env}
variable {nm q : Str} {C Nn eI L : Addr} {bs bm : List Value} {hdct : Bool} {sn : List Str} {sub : List Value} {ab : Bool} {col : Option Bool} {dd : Option Addr} {k0 k1 k2 k3 k5 : Option Value} {newId : String}

theorem unchain_none {s : Shared} {a b : Value} {oI : Obj} {vs : Array Value} {Q : Value → Shared → Prop} (hI : s.heap.get? eI = some oI) (hd : oI.data = .fields vs) (hv : vs[2]? = some .none) (hq : Q .none s) :
    wpAny (model prog w) A (runValue (.builtin "proto.unchain" ⟨[a, .ref eI, b, .bool false], []⟩)) Q E s := by
  refine wpAny_runValue (codeAny_builtin un_entry ?_)
  unfold Builtin.«proto.unchain»
  refine wpAny_bind (wpAny_field hI hd hv ?_)
  exact wpAny_pure hq

theorem raise_from {s : Shared} {x : Expr} {np : Nat} {cp pos : Pos} {Q : Flow → Shared → Prop} (hbase : bm.contains (.type "BaseException") = true) (hh : A.handled = some (.ref eI))
    (h : wpAny (model prog w) A (eval x env) (fun v s₁ => ∃ e t od g L m rest oI vs, v = .ref e ∧ s₁.heap.get? C = some (excClassObj nm q C Nn bs bm hdct sn sub ab col dd k0 k1 k2 k3 k5 newId) ∧
      Fr g L s₁.heap m ∧ News g L s₁.heap ((e, excObjD C t od) :: rest) ∧ OwnOff rest [e] ∧ s₁.heap.get? eI = some oI ∧ oI.data = .fields vs ∧ vs[2]? = some .none ∧ eI ≠ e ∧
      ∀ h', Fr g L h' m → News g L h' ((e, excFl C t eI od) :: rest) → E (.ref e) { s₁ with heap := h' }) E s) :
    wpAny (model prog w) A (exec (.Raise (some x) (some (.Constant .none np cp)) pos) env) Q E s := by
  have hcB : (Value.ref C :: bm).contains (.type "BaseException") = true := by rw [List.contains_cons, hbase, Bool.or_true]
  show wpAny _ _ (do standAt pos; raiseStmt env (some (do let v ← eval x env; standAt pos; pure v)) (some (do let c ← eval (.Constant .none np cp) env; standAt pos; pure c))) _ _ _
  unfold raiseStmt
  refine wpAny_bind (wpAny_standAt (wpAny_bind (wpAny_bind (wpAny_mono h (fun v s₁ h₁ => ?_) fun _ _ x => x))))
  obtain ⟨e, t, od, g', L, m, rest, oI, vs, rfl, hC, F, N, hoff, hI, hd, hv, hne, hE⟩ := h₁
  obtain ⟨hp, g, d, tk, os⟩ := s₁
  have he := (N _ (.head _)).1
  refine wpAny_bind (wpAny_standAt (wpAny_pure ?_))
  refine wpAny_bind (wpAny_holding (wpAny_bind ?_))
  show wpAny _ _ (pure Value.none) _ _ _
  refine wpAny_pure (wpAny_bind (wpAny_standAt (wpAny_pure (wpAny_bind (wpAny_pure ?_)))))
  repeat (first | (with_reducible refine wpAny_loadPart_at he ?_; dsimp only) | with_reducible refine wpAny_loadPart_at hC ?_ | (with_reducible refine wpAny_isSubtype_exc hC ?_; rw [hcB]) | with_reducible refine wpAny_standAt ?_ | wp_step)
  have h2 : ∀ p ∈ rest, p.1 ≠ e := fun p hp => hoff p hp e (.head _)
  obtain ⟨F1, N1⟩ := news_upd (pre := []) (o' := { cls := .ref C, dict := od, data := .fields #[.ref t, .none, .none, .none, .bool false, .none] }) (f := Obj.mapFields (·.setIfInBounds 3 Value.none)) F N (fun _ z => by cases z) h2 rfl rfl
  obtain ⟨F2, N2⟩ := news_upd (pre := []) (o' := { cls := .ref C, dict := od, data := .fields #[.ref t, .none, .none, .none, .bool true, .none] }) (f := Obj.mapFields (·.setIfInBounds 4 (Value.bool true))) F1 N1 (fun _ z => by cases z) h2 rfl rfl
  obtain ⟨F3, N3⟩ := news_upd (pre := []) (o' := excFl C t eI od) (f := Obj.mapFields (·.setIfInBounds 2 (Value.ref eI))) F2 N2 (fun _ z => by cases z) h2 rfl rfl
  have hCe : C ≠ e := fun z => by rw [z, he] at hC; cases hC
  have up : ∀ {b o}, b ≠ e → hp.get? b = some o → ((hp.update e (Obj.mapFields fun x => x.setIfInBounds 3 Value.none)).update e (Obj.mapFields fun x => x.setIfInBounds 4 (Value.bool true))).get? b = some o := fun hb q =>
    (Heap.get?_update_ne _ _ _ _ hb).trans ((Heap.get?_update_ne _ _ _ _ hb).trans q)
  have hC2 := up hCe hC
  have hI2 := up hne hI
  have he2 := (N2 _ (.head _)).1
  refine wpAny_loadPart_at hC2 ?_
  repeat (first | (with_reducible refine wpAny_loadPart_at he2 ?_; dsimp only) | with_reducible refine wpAny_loadPart_at hC2 ?_ | wp_step)
  unfold raiseNew
  refine wpAny_bind (wpAny_bind (wpAny_handled ?_))
  rw [hh]
  refine wpAny_pure ?_
  show wpAny _ _ (if (Value.ref eI != Value.ref e) = true then _ else _) _ _ _
  have hbe : (Value.ref eI != Value.ref e) = true := by
    rw [bne_iff_ne]
    exact fun z => hne (Value.ref.inj z)
  rw [if_pos hbe]
  refine wpAny_bind (wpAny_holding (unchain_none hI2 hd hv ?_))
  have hu : ∀ {Q' : Unit → Shared → Prop} {E' : Value → Shared → Prop} {s' : Shared}, s'.heap.get? e = some { cls := .ref C, dict := od, data := .fields #[.ref t, .none, .none, .none, .bool true, .none] } →
      Q' () { s' with heap := s'.heap.update e (Obj.mapFields (·.setIfInBounds 2 (Value.ref eI))) } → wpAny (model prog w) A (updateField e 2 (.ref eI)) Q' E' s' := fun q z => by
    unfold updateField
    refine wpAny_bind (wpAny_load q ?_)
    dsimp only
    rw [if_pos (by simp)]
    exact wpAny_update q z
  refine wpAny_bind (hu he2 (wpAny_throw (hE _ F3 N3)))
end
end
section
open PySem PySem.W PyProof.Rows PySem.Calls Builtin
set_option maxRecDepth 100000
section
variable {prog : Program} {w : World} {A : Around} {E : Value → Shared → Prop} {s : Shared} {Q : Value → Shared → Prop} {b L : Addr} {h₀ : Heap} {news : List (Addr × Obj)} {msg : Str} {x y : Int} {t tm tx ty : Tok} {n : Nat}
set_option maxHeartbeats 2000000 in
theorem fmt2 (N : News h₀ L s.heap news) (hb : (b, ({ cls := .type "tuple", data := .seq #[.str msg tm, .int x tx] n } : Obj)) ∈ news) (hm : msg.length ≤ 200) (hx1 : 0 ≤ x) (hx2 : x ≤ 100000)
    (h : ∀ t' k, Q (.str (msg ++ Str.ofString " at position " ++ Str.ofString (toString x)) t') { s with toks := k }) : wpAny (model prog w) A (binaryOp .Mod (.str (Str.ofString "%s at position %d") t) (.ref b)) Q E s := by
  refine' KPt.mod_tuple ?kptN ?kptb ?kptF ?kptm ?_
  case kptN => exact N
  case kptb => exact hb
  case kptF => kpt_eq
  case kptm => kpt_run
  exact h
set_option maxHeartbeats 3000000 in
theorem fmt3 (N : News h₀ L s.heap news) (hb : (b, ({ cls := .type "tuple", data := .seq #[.str msg tm, .int x tx, .int y ty] n } : Obj)) ∈ news) (hm : msg.length ≤ 200) (hx1 : 0 ≤ x) (hx2 : x ≤ 100000) (hy1 : 0 ≤ y) (hy2 : y ≤ 100000)
    (h : ∀ t' k, Q (.str (msg ++ Str.ofString " (line " ++ Str.ofString (toString x) ++ Str.ofString ", column " ++ Str.ofString (toString y) ++ Str.ofString ")") t') { s with toks := k }) : wpAny (model prog w) A (binaryOp .Mod (.str (Str.ofString "%s (line %d, column %d)") t) (.ref b)) Q E s := by
  refine' KPt.mod_tuple ?kptN ?kptb ?kptF ?kptm ?_
  case kptN => exact N
  case kptb => exact hb
  case kptF => kpt_eq
  case kptm => kpt_run
  exact h
theorem rf_lt (l : List Nat) : -1 ≤ rf l ∧ rf l < (l.length : Int) ∨ l = [] ∧ rf l = -1 := by
  unfold rf
  cases q : (nlAt l 0).getLast? with
  | none =>
    cases l with
    | nil => exact .inr ⟨rfl, rfl⟩
    | cons a r => left; simp only [List.length_cons]; (first | lia | omega)
  | some i =>
    left
    have := nlAt_lt l 0 i (List.mem_of_getLast? q)
    simp only
    (first | lia | omega)
end
end
section
open PySem PySem.W PyProof.Rows PySem.Calls Builtin
set_option maxRecDepth 100000
section
variable {prog : Program} {w : World} {A : Around} {E : Value → Shared → Prop} {s : Shared} {K : Frag} {C D : Addr} {cd : ClassData} {e ed so u t0 L : Addr} {h₀ : Heap} {m : Str → Option Value} {oe od : Obj} {v : Value} {l l1 l2 : List (Addr × Obj)} {n : Nat} {mA : Str → Option Value}
theorem instP (N : News h₀ L s.heap l) (D : DMap od mA n) (p : Pick (ed, od) l l1) (p' : Pick (e, oe) l1 l2) (hc : oe.cls = .ref C) (hnc : notCls oe = true) (hd : oe.dict = some ed) : InstAt s.heap e oe C (some od) := by
  have N2 := news_pick2 N p p'
  exact ⟨(N2 _ (.tail _ (.head _))).1, hc, hnc, by rw [hd]; exact (N2 _ (.head _)).1⟩
theorem callWith_mw {M : Model} {pos : Pos} {first : List Value} {env : Env} {x : Expr} {rest : List Expr} {Q : Value → Shared → Prop}
    (h : wpAny M A (spliced (backTo pos (starEach (x :: rest) env))) (fun vs s₁ => s₁.heap.get? u = some (mwObj e) ∧ wpAny M A (call (.ref u) (first ++ vs)) Q E s₁) E s)
    (he : starEach (x :: rest) env = (false, eval x env) :: starEach rest env := by rfl) (hplain : (backTo pos (starEach rest env)).any (·.1) = false := by rfl) :
    wpAny M A (callWith pos (.ref u) first (backTo pos (starEach (x :: rest) env)) []) Q E s := by
  have hp : (backTo pos (starEach (x :: rest) env)).any (·.1) = false := by
    rw [he]
    show (false || (backTo pos (starEach rest env)).any (·.1)) = false
    rw [hplain]; rfl
  have h2 : wpAny M A (evalArgs (.ref u) true (backTo pos (starEach (x :: rest) env)) []) (fun a s₁ => s₁.heap.get? u = some (mwObj e) ∧ wpAny M A (call (.ref u) (first ++ a.pos) a.kw) Q E s₁) E s := by
    rw [he] at h ⊢
    exact evalArgs_plain h
  unfold callWith
  refine wpAny_bind (wpAny_holding (wpAny_mono h2 (fun a s₁ h₁ => wpAny_bind (wpAny_standAt ?_)) fun _ _ x => x))
  obtain ⟨ho, hcall⟩ := h₁
  simp only [hp, List.any_nil, Bool.or_false]
  refine wpAny_bind (m := keeperOf (.ref u)) ?_
  unfold keeperOf
  refine wpAny_bind (wpAny_load ho ?_)
  simp only [show (Value.type "method-wrapper" != Value.type "method") = true by decide, show (Value.type "method-wrapper" == Value.type "builtin_function_or_method" || Value.type "method-wrapper" == Value.type "method-wrapper") = true by decide, if_true]
  refine wpAny_pure ?_
  exact wpAny_bind (wpAny_mono hcall (fun r s₂ hr => wpAny_bind (wpAny_holding (wpAny_point (wpAny_pure hr)))) fun _ _ x => x)

/-- super().__init__ of an exception finds the built-in one -/
theorem superP {pl : Sem Bool} {Q : Value × List Value → Shared → Prop} (F : Fr h₀ L s.heap m) (X₀ : K.In h₀) (N : News h₀ L s.heap ((so, ks_superObj C e C) :: l)) (H : ExcCls K C cd) (I : InstAt s.heap e oe C (some od)) (ho : nsIn K cStatics "thirdparty.any" = some none)
    (h : ∀ q h', Fr h₀ L h' m → News h₀ L h' ((q, mwObj e) :: (so, ks_superObj C e C) :: l) → (∀ p ∈ (so, ks_superObj C e C) :: l, @LT.lt Nat _ p.1 q) → Q (.ref q, []) { s with heap := h', toks := s.toks + 1 }) :
    wpAny (model prog w) A (getMethod (.ref so) "__init__" pl) Q E s := by
  have X : K.In s.heap := X₀.keeps F.keep
  obtain ⟨hh, g, d, t, os⟩ := s
  refine super_get (N _ (.head _)).1 (looks_opaque X ho) ((looks_clsIn X H.cls).andThen .now) (l := [.type "Exception", .type "BaseException", .type "object"]) ?_ X ?_ (ks_ne X I H.cls) (by decide) (I.type.andThen (looks_mroIn X (H.mroIn _ (by rw [H.mro]; simp)))) ?_
  · rw [H.mro]
    simp
  · kernel_rfl
  · exact h _ _ (F.push _) (N.push F _) fun p hp => Heap.lt_size (N p hp).1
/-- the built-in __init__ takes its words -/
theorem initP {Q : Value → Shared → Prop} (F : Fr h₀ L s.heap m) (X₀ : K.In h₀) (N : News h₀ L s.heap ((u, mwObj e) :: l)) (p : Pick (e, excObjD C t0 (some ed)) l l1) (off : OwnOff l1 [e]) (hue : u ≠ e)
    {oc : Value} {od' : Option Addr} {sl : Array (Option Value)} (hC : K.lookup C = some ⟨oc, od', .cls cd, sl⟩)
    (h : ∀ t1 h', Fr h₀ L h' m → News h₀ L h' ((e, excObjD C t1 (some ed)) :: (t1, tupObj [v]) :: l1) → (∀ p ∈ (e, excObjD C t1 (some ed)) :: l1, @LT.lt Nat _ p.1 t1) → Q .none { s with heap := h' }) :
    wpAny (model prog w) A (call (.ref u) [v]) Q E s := by
  have X : K.In s.heap := X₀.keeps F.keep
  have Ne := news_pick (news_sub N fun q hq => .tail _ hq) p
  obtain ⟨hh, g, d, t, os⟩ := s
  refine mw_call (N _ (.head _)).1 (Ne _ (.head _)).1 (X _ _ hC) ?_
  have N1 := Ne.push F (tupObj [v])
  obtain ⟨F2, N2⟩ := news_upd (pre := [(hh.objs.size, tupObj [v])]) (post := l1) (d := e) (o' := excObjD C hh.objs.size (some ed)) (f := Obj.mapFields (·.setIfInBounds 0 (.ref hh.objs.size))) (F.push (o := tupObj [v])) N1 (fun p hp => by
      rcases List.mem_singleton.mp hp with rfl
      exact Nat.ne_of_gt (Heap.lt_size (Ne _ (.head _)).1)) (fun p hp => off p hp e (.head _)) rfl rfl
  exact h _ _ F2 (news_sub N2 fun q hq => by
    rcases List.mem_cons.mp hq with rfl | hq
    · exact .tail _ (.head _)
    · rcases List.mem_cons.mp hq with rfl | hq
      · exact .head _
      · exact .tail _ (.tail _ hq)) fun p hp => by
    rcases List.mem_cons.mp hp with rfl | hp
    · exact Heap.lt_size (Ne _ (.head _)).1
    · exact Heap.lt_size (Ne p (.tail _ hp)).1
end
end
section
open PySem PySem.W PyProof.Rows PySem.Calls Builtin
set_option maxRecDepth 100000
theorem bytesNoIndex : typeLookup (.type "bytes") "__index__" = pure none := by rw [typeLookup_type, builtinLookup_eq_fast]; kernel_rfl
section
variable {prog : Program} {w : World} {A : Around} {E : Value → Shared → Prop} {s : Shared} {eI : Addr} {oI : Obj} {vs : Array Value}
/-- a built-in refusal while another exception is handled -/
theorem raise_handled {α : Type} {cls msg : String} {Q : α → Shared → Prop} (hp : PlainExc cls) (hH : A.handled = some (.ref eI)) (hI : s.heap.get? eI = some oI) (hd : oI.data = .fields vs) (hv : vs[2]? = some .none) (hm : (msg : Str).length ≤ sizeLine)
    (h : ∀ h' tk e, (∀ b o, s.heap.get? b = some o → h'.get? b = some o) → E (.ref e) { s with heap := h', toks := tk }) :
    wpAny (model prog w) A (raiseErrorMade cls msg : Sem α) Q E s := by
  obtain ⟨hh, g, d, t, os⟩ := s
  have one : ∀ v : Value, [v].toArray.size ≤ sizeLine := fun v => by rw [sizeLine_eq]; exact Nat.le_of_ble_eq_true rfl
  unfold raiseErrorMade
  refine wpAny_bind (wpAny_mkStr (wpAny_bind ?_) hm)
  unfold newExc newTuple
  refine wpAny_bind (wpAny_newObj_type ?_ (one _))
  refine wpAny_bind (m := firstArgMember _ _) (wpAny_of_eq (a := Value.none) (by simp only [firstArgMember, hp.first]; rfl) ?_)
  rw [hp.own]
  refine wpAny_newObj_type ?_
  have k : ∀ b o, hh.get? b = some o → ((hh.push (tupObj [Value.str (msg : Str) t])).push { cls := .type cls, data := .fields #[.ref hh.objs.size, .none, .none, .none, .bool false, .none] }).get? b = some o := fun b o q => Heap.get?_push_of_some _ (Heap.get?_push_of_some _ q)
  have hI2 := k _ _ hI
  have hlt := Heap.lt_size hI
  unfold raiseNew
  refine wpAny_bind (wpAny_bind (wpAny_handled ?_))
  rw [hH]
  refine wpAny_pure ?_
  have hsz : (hh.push (tupObj [Value.str (msg : Str) t])).objs.size = hh.objs.size + 1 := Heap.size_push _ _
  have hne : eI ≠ (hh.push (tupObj [Value.str (msg : Str) t])).objs.size := by
    rw [hsz]
    have : @LT.lt Nat _ eI hh.objs.size := hlt
    exact Nat.ne_of_lt (Nat.lt_succ_of_lt this)
  show wpAny _ _ (if (Value.ref eI != Value.ref (hh.push (tupObj [Value.str (msg : Str) t])).objs.size) = true then _ else _) _ _ _
  have hbe : (Value.ref eI != Value.ref (hh.push (tupObj [Value.str (msg : Str) t])).objs.size) = true := by
    rw [bne_iff_ne]
    exact fun z => hne (Value.ref.inj z)
  rw [if_pos hbe]
  refine wpAny_bind (wpAny_holding (unchain_none hI2 hd hv ?_))
  have he2 : ((hh.push (tupObj [Value.str (msg : Str) t])).push { cls := .type cls, data := .fields #[.ref hh.objs.size, .none, .none, .none, .bool false, .none] }).get? (hh.push (tupObj [Value.str (msg : Str) t])).objs.size = some { cls := .type cls, data := .fields #[.ref hh.objs.size, .none, .none, .none, .bool false, .none] } := Heap.get?_push_at rfl rfl
  have hu : ∀ {Q' : Unit → Shared → Prop} {E' : Value → Shared → Prop} {s' : Shared} {a : Addr}, s'.heap.get? a = some { cls := .type cls, data := .fields #[.ref hh.objs.size, .none, .none, .none, .bool false, .none] } →
      Q' () { s' with heap := s'.heap.update a (Obj.mapFields (·.setIfInBounds 2 (Value.ref eI))) } → wpAny (model prog w) A (updateField a 2 (.ref eI)) Q' E' s' := fun q z => by
    unfold updateField
    refine wpAny_bind (wpAny_load q ?_)
    dsimp only
    rw [if_pos (by simp)]
    exact wpAny_update q z
  refine wpAny_bind (hu he2 (wpAny_throw (h _ _ _ fun b o q => ?_)))
  have hb : @LT.lt Nat _ b hh.objs.size := Heap.lt_size q
  refine (Heap.get?_update_ne _ _ _ _ ?_).trans (k b o q)
  show b ≠ (hh.push (tupObj [Value.str (msg : Str) t])).objs.size
  rw [hsz]
  exact Nat.ne_of_lt (Nat.lt_succ_of_lt hb)
theorem in_bytes_nl {b : Array UInt8} {t u : Tok} {bb : Bool} {Q : Value → Shared → Prop} (hH : A.handled = some (.ref eI)) (hI : s.heap.get? eI = some oI) (hd : oI.data = .fields vs) (hv : vs[2]? = some .none) (hb : (!(nlAt (bNs b) 0).isEmpty) = bb)
    (h : ∀ h' k', (∀ a o, s.heap.get? a = some o → h'.get? a = some o) → Q (.bool bb) { s with heap := h', toks := k' }) :
    wpAny (model prog w) A (compareOp .In (.bytes bnl u) (.bytes b t)) Q E s := by
  refine In_slot (typeIs_bytes _ _ _) FB.slot_bytes_contains (wpAny_call_entry FB.slot_bytes_contains (typeIs_bytes _ _ _) FB.entry_bytes_contains ?_ (FB.args_bytes_contains_2 _ _))
  show wpAny _ _ (Bytes.containsIn "bytes.__contains__" (.bytes b t) (.bytes bnl u) >>= fun r => ret (.bool r)) _ _ _
  unfold Bytes.containsIn
  refine wpAny_bind (wpAny_bind (wpAny_attempt ?_))
  unfold asIndex callSpecial? specialOf
  refine wpAny_bind (wpAny_pure (a := none) ?_)
  refine wpAny_bind (wpAny_bind (wpAny_bind (wpAny_pure (a := Value.type "bytes") (wpAny_of_eq bytesNoIndex ?_))))
  refine wpAny_pure ?_
  have tn : typeNameOfCut 200 (Value.bytes bnl u) = pure "bytes" := by kernel_rfl
  refine wpAny_bind (wpAny_of_eq tn ?_)
  refine raise_handled plainExc_TypeError hH hI hd hv (by rw [sizeLine_eq]; exact Nat.le_of_ble_eq_true rfl) fun h' tk e k => ?_
  refine wpAny_bind (wpAny_of_eq KBy.buffer_eq ?_)
  refine wpAny_bind (wpAny_of_eq KBy.buffer_eq ?_)
  refine wpAny_bind (wpAny_rule (wpAny_pure (wpAny_pure ⟨_, rfl, ?_⟩)))
  rw [bfind_nl, hb]
  exact wpAny_pure (h h' tk k)
/-- the exception that is handled, with no context of its own, stands in the ledger -/
noncomputable def HandledAt (A : Around) (eI : Addr) (oI : Obj) (r : List (Addr × Obj)) : Prop := A.handled = some (.ref eI) ∧ (eI, oI) ∈ r ∧ ∃ vs, oI.data = .fields vs ∧ vs[2]? = some .none
theorem in_bytes_K {A₁ : Around} {b : Array UInt8} {t u : Tok} {bb : Bool} {Q : Value → Shared → Prop} {h₀ : Heap} {L : Addr} {m : Str → Option Value} {l r : List (Addr × Obj)} (F : Fr h₀ L s.heap m) (N : News h₀ L s.heap l) (H : HandledAt A₁ eI oI r) (hA : A.handled = A₁.handled) (hr : ∀ q, q ∈ r → q ∈ l) (hb : (!(nlAt (bNs b) 0).isEmpty) = bb)
    (h : ∀ h' k', Fr h₀ L h' m → News h₀ L h' l → Q (.bool bb) { s with heap := h', toks := k' }) :
    wpAny (model prog w) A (compareOp .In (.bytes bnl u) (.bytes b t)) Q E s := by
  obtain ⟨hH, hm, vs, hd, hv⟩ := H
  exact in_bytes_nl (hA.trans hH) (N.get (hr _ hm)) hd hv hb fun h' k' k => h h' k' (F.keeps k) fun p hp => ⟨k _ _ (N p hp).1, (N p hp).2⟩
end
end
section
open PySem PySem.W PyProof.Rows
theorem off1_cons {q : Addr × Obj} {r : List (Addr × Obj)} {d : Addr} (h1 : q.1 ≠ d) (h : OwnOff r [d]) : OwnOff (q :: r) [d] := fun p hp b hb => by
  rcases List.mem_cons.mp hp with rfl | hp
  · rw [List.mem_singleton.mp hb]; exact h1
  · exact h p hp b hb
section
variable {prog : Program} {w : World} {A : Around} {E : Value → Shared → Prop} {s : Shared} {K : Frag} {C : Addr} {cd : ClassData} {e ed L : Addr} {h₀ : Heap} {m : Str → Option Value} {oe od : Obj} {name : Str} {v : Value} {l l1 l2 : List (Addr × Obj)} {n : Nat} {mA : Str → Option Value}
theorem setEP {Q : Unit → Shared → Prop} (F : Fr h₀ L s.heap m) (X₀ : K.In h₀) (N : News h₀ L s.heap l) (p : Pick (ed, od) l l1) (p' : Pick (e, oe) l1 l2) (off : OwnOff l2 [ed]) (ne : e ≠ ed)
    (H : ExcCls K C cd) (hc : oe.cls = .ref C) (hnc : notCls oe = true) (hd : oe.dict = some ed) (D : DMap od mA n) (hn : n ≤ 900) (ha : findIn K (.ref C) name = some none)
    (h : ∀ od' h' tk', DMap od' (fun y => if y = name then some v else mA y) (n + 1) → Fr h₀ L h' m → News h₀ L h' ((ed, od') :: (e, oe) :: l2) → Q () { s with heap := h', toks := tk' }) :
    wpAny (model prog w) A (setAttr (.ref e) name v) Q E s := by
  have N2 := news_pick2 N p p'
  exact setE F X₀ N2 off ne H ⟨(N2 _ (.tail _ (.head _))).1, hc, hnc, by rw [hd]; exact (N2 _ (.head _)).1⟩ hd D hn ha h
theorem getEP {Q : Value → Shared → Prop} {expr : Bool} (F : Fr h₀ L s.heap m) (X₀ : K.In h₀) (N : News h₀ L s.heap l) (p : Pick (ed, od) l l1) (p' : Pick (e, oe) l1 l2)
    (H : ExcCls K C cd) (hc : oe.cls = .ref C) (hnc : notCls oe = true) (hd : oe.dict = some ed) (D : DMap od mA n) (ha : findIn K (.ref C) name = some none) (hm : mA name = some v) (hv : handedIn v = true)
    (h : Q v { s with toks := s.toks + 1 }) :
    wpAny (model prog w) A (getAttr (.ref e) name expr) Q E s := by
  have N2 := news_pick2 N p p'
  exact getE (X₀.keeps F.keep) H ⟨(N2 _ (.tail _ (.head _))).1, hc, hnc, by rw [hd]; exact (N2 _ (.head _)).1⟩ ha (by rw [D.look, hm]) hv h
end
theorem linesC4 : True := by
  w_on
  w_top off
  k_with_none
  k_with "mine pick" => ((with_reducible (repeat (first | exact Pick.head | apply Pick.tail))))
  k_with "mine nne" => (first | assumption | exact Nat.ne_of_lt (by assumption) | exact Nat.ne_of_gt (by assumption) | exact Nat.ne_of_lt (Nat.lt_trans (by assumption) (by assumption)) | ((rename _ ∧ _ => gl99z); first | exact Nat.ne_of_gt gl99z.1 | exact Nat.ne_of_gt gl99z.2.1 | exact Nat.ne_of_gt gl99z.2.2.1 | exact Nat.ne_of_lt gl99z.1 | exact Nat.ne_of_lt gl99z.2.1) | exact (show @Ne Nat _ _ from by (first | lia | omega)) | (dsimp only; exact (show @Ne Nat _ _ from by (first | lia | omega))))
  k_with "mine offt" => ((repeat (first | assumption | refine off1_cons (by walk_at "mine nne") ?_)))
  k_with "mine pick" => ((with_reducible (repeat (first | exact Pick.head | apply Pick.tail))))
  k_with "setAttr ref" => ((k_here; (with_reducible rename ExcCls _ _ _ => hxC9z); (with_reducible rename DMap _ _ _ => dX9z); k_dflt (refine' setEP (by k_asm) (by k_asm) (by k_asm) (by walk_at "mine pick") (by walk_at "mine pick") (by walk_at "mine offt") (by walk_at "mine nne") hxC9z (by rfl) (by rfl) (by rfl) dX9z (by decide) (by k_is) ?_); intro od'9z h'9z tk'9z D'9z F'9z N'9z; clear dX9z; (try dsimp only); (try k_sweep)))
  k_with "getAttr ref" => ((k_here; (with_reducible rename ExcCls _ _ _ => hxC9z); (with_reducible rename DMap _ _ _ => dX9z); k_dflt (refine' getEP (by k_asm) (by k_asm) (by k_asm) (by walk_at "mine pick") (by walk_at "mine pick") hxC9z (by rfl) (by rfl) (by rfl) dX9z (by k_is) (by rfl) (by rfl) ?_)))
  k_with "setAttr ref" => ((k_here; (with_reducible rename ExcCls _ _ _ => hxC9z); (fail_if_success (with_reducible rename DMap _ _ _ => dX9z)); k_dflt (refine' setE0 (by k_asm) (by k_asm) (news_pick (by k_asm) (by walk_at "mine pick")) (by first | assumption | walk_at "mine offt") hxC9z (by exact ⟨News.get (by k_asm) (by k_mem), rfl, rfl, trivial⟩) (by rfl) (by k_is) ?_); intro ed'9z od'9z h'9z tk'9z D'9z F'9z N'9z l19z l29z l39z; (try dsimp only); (try k_sweep)))
  k_with "call builtin:str.count" => ((k_here; (with_reducible show wpAny _ _ (call (Value.builtin "str.count") [Value.str _ _, Value.str _ _, Value.int _ _, Value.int _ _]) _ _ _); k_dflt (refine' s_count (by assumption) (by assumption) ?_); intro tk'9z))
  k_with "call builtin:str.rfind" => ((k_here; (with_reducible show wpAny _ _ (call (Value.builtin "str.rfind") [Value.str _ _, Value.str _ _, Value.int _ _, Value.int _ _]) _ _ _); k_dflt (refine' s_rfind (by assumption) (by assumption) ?_); intro tk'9z))
  trivial
theorem in_str_nl {prog : Program} {w : World} {A : Around} {E : Value → Shared → Prop} {s : Shared} {x : Str} {t u : Tok} {bb : Bool} {Q : Value → Shared → Prop} (hb : (!(nlAt (cps x) 0).isEmpty) = bb) (h : Q (.bool bb) s) : wpAny (model prog w) A (compareOp .In (.str nl u) (.str x t)) Q E s := by
  refine in_str ?_
  rw [in_nl, hb]
  exact h
theorem linesC4x2 : True := by
  k_with "compareOp In str str" => ((k_here; k_dflt (refine' in_str_nl (by assumption) ?_)))
  k_with "binaryOp Mod str ref" => ((k_here; (with_reducible show wpAny _ _ (binaryOp Operator.Mod (Value.str (Str.ofString "%s at position %d") _) (Value.ref _)) _ _ _); k_dflt (refine' fmt2 (by k_asm) (by k_mem) (by first | assumption | decide +kernel) (by (first | lia | omega)) (by (first | lia | omega)) ?_); intro _ _))
  k_with "binaryOp Mod str ref" => ((k_here; (with_reducible show wpAny _ _ (binaryOp Operator.Mod (Value.str (Str.ofString "%s (line %d, column %d)") _) (Value.ref _)) _ _ _); k_dflt (refine' fmt3 (by k_asm) (by k_mem) (by first | assumption | decide +kernel) (by (first | lia | omega)) (by (first | lia | omega)) (by (first | lia | omega)) (by (first | lia | omega)) ?_); intro _ _))
  k_with "wpAt" => (((try dsimp only); ks_step "execs cons"; refine ks_wpAt_execs_cons ?_))
  trivial
theorem sub3 {a b c : Addr × Obj} {r l : List (Addr × Obj)} (ha : a ∈ l) (hb : b ∈ l) (hc : c ∈ l) (hr : ∀ q, q ∈ r → q ∈ l) : ∀ q, q ∈ a :: b :: c :: r → q ∈ l := fun q hq => by
  rcases List.mem_cons.mp hq with rfl | hq
  · exact ha
  · rcases List.mem_cons.mp hq with rfl | hq
    · exact hb
    · rcases List.mem_cons.mp hq with rfl | hq
      · exact hc
      · exact hr q hq
noncomputable def Stop (p : Prop) : Prop := p
theorem Stop.mk {p : Prop} (h : Stop p) : p := h
theorem linesC4x3 : True := by
  k_with "wpAt" => (((try dsimp only); ks_step "exec Expr"; refine Stop.mk ?_))
  trivial
theorem excC (w : World) {h : Heap} : (Mine.hd.heap_39 w.params).In h → PySem.Challenge.rw_aa0047_01.prog = PySem.Challenge.rw_aa0047_01.prog → ∃ cd, ExcCls (Mine.hd.heap_39 w.params) 41 cd := by
  k_fill
  intro _ _
  exact ⟨_, by k_is, rfl, rfl, by k_is, by k_is, by k_is⟩
theorem excL (w : World) {h : Heap} : (Mine.hd.heap_39 w.params).In h → PySem.Challenge.rw_aa0047_01.prog = PySem.Challenge.rw_aa0047_01.prog → ∃ nm q Nn bs sn sub ab col dd k0 k1 k2 k3 k5, (Mine.hd.heap_39 w.params).lookup 41 = some (excClassObj nm q 41 Nn bs [.type "Exception", .type "BaseException", .type "object"] true sn sub ab col dd k0 k1 k2 k3 k5 "Exception.__new__") := by
  k_fill
  intro _ _
  exact ⟨_, _, _, _, _, _, _, _, _, _, _, _, _, _, by k_is⟩
/-- what the attributes of a PatternError hold -/
noncomputable def ExcSaid (od : Obj) (msgV patV posV lineV colV : Value) : Prop := ∃ mA n, DMap od mA n ∧ mA (Str.ofString "msg") = some msgV ∧ mA (Str.ofString "pattern") = some patV ∧ mA (Str.ofString "pos") = some posV ∧
  mA (Str.ofString "lineno") = some lineV ∧ mA (Str.ofString "colno") = some colV
noncomputable abbrev badEsc : Str := Str.ofString "bad escape (end of pattern)"
noncomputable def words0 (k : Int) : Str := badEsc ++ Str.ofString " at position " ++ Str.ofString (toString k)
/-- the words of the refusal -/
noncomputable def words (k ln cl : Int) (inn : Bool) : Str := if inn then words0 k ++ Str.ofString " (line " ++ Str.ofString (toString ln) ++ Str.ofString ", column " ++ Str.ofString (toString cl) ++ Str.ofString ")" else words0 k
section
variable {w : World} {mg mb : Str → Option Value} {p : Program} {loose : List Str} {mean : ExcName → Option Value}
    {outer : List Env} {env : Env} {A₀ A : Around} {base h₀ : Heap} {L e t : Addr} {m : Str → Option Value} {s : Shared}
    {R : Result → Shared → Prop} {rest : List (Addr × Obj)}  {x : Str} {tm tx tk : Tok} {k : Int} {tv : List Value} {cd : ClassData} {inn : Bool}
set_option maxRecDepth 100000 in
set_option maxHeartbeats 1500000 in
theorem init_s (B : Below A₀ base outer h₀) (F : Fr h₀ L s.heap m) (X : (Mine.hd.heap_39 w.params).In h₀)
    (N : News h₀ L s.heap ((e, excObj 41 t) :: (t, tupObj tv) :: rest)) (hoff : OwnOff rest [e, t]) (hte : @LT.lt Nat _ t e)
    (T : Top p loose mean mg mb h₀) (HX : ExcCls (Mine.hd.heap_39 w.params) 41 cd) (hA : A.frames = some (env :: outer)) (hf : env.frame = some L) (hck : env.scope.kind = .function) (hroom : A.depth < recursionLimit)
    (h0 : 0 ≤ k) (hk : k ≤ x.length) (hsz : x.length < 1000) (hin : (!(nlAt (cps x) 0).isEmpty) = inn)
    (hml : (badEsc ++ Str.ofString " at position " ++ Str.ofString (toString k)).length ≤ 200)
    (hln : (nlAt ((cps x).take k.toNat) 0).length ≤ 1000) (hr1 : -1 ≤ rf ((cps x).take k.toNat)) (hr2 : rf ((cps x).take k.toNat) ≤ k)
    (hret : ∀ h' tk' ed od t1 tw a b, ExcSaid od (.str badEsc tm) (.str x tx) (.int k tk) (.int (((nlAt ((cps x).take k.toNat) 0).length : Nat) + 1 : Int) a) (.int (k - rf ((cps x).take k.toNat)) b) →
      Fr h₀ L h' m → News h₀ L h' ((e, excObjD 41 t1 (some ed)) :: (ed, od) :: (t1, tupObj [.str (words k (((nlAt ((cps x).take k.toNat) 0).length : Nat) + 1 : Int) (k - rf ((cps x).take k.toNat)) inn) tw]) :: rest) → @LT.lt Nat _ e ed → @LT.lt Nat _ e t1 →
      R (.ok (.ret .none)) { s with heap := h', toks := tk' }) :
    codeAny (model PySem.Challenge.rw_aa0047_01.row.prog w) A (.call (.ref 38) ⟨[.ref e, .str badEsc tm, .str x tx, .int k tk], []⟩) R s := by
  revert X; k_fill; intro X
  have hoff1 : OwnOff rest [e] := fun p hp b hb => hoff p hp b (by rw [List.mem_singleton.mp hb]; exact .head _)
  refine' ks_code_super B F X N T hA hf hck ?k6 ?k7 hroom ?k9 ?kB ?_ ?c1 ?c2 ?c3 ?c4
  case k6 => k_is
  case k7 => k_is
  case k9 => first | exact BindsTo.of_eq rfl | exact binds_K (by k_in) rfl (by k_is) rfl rfl rfl
  case kB => exact locs rfl
  case c1 => decide
  case c2 => exact rfl
  case c3 => exact rfl
  case c4 => exact rfl
  intro g' L' h' FG' F' N' B' X' T' l1
  (try dsimp only)
  (try k_lift B')
  (try k_fold)
  k_steps
  all_goals (
    (with_reducible rename (inn = _) => hb9)
    subst hb9
    unfold Stop
    refine ks_wpAt_Expr_any ?_
    refine ks_wpAt_MethodCall ?_
    (with_reducible rename DMap _ _ _ => dX)
    (with_reducible rename ExcCls _ _ _ => HX)
    refine' ks_node ?zF ?zX ?zN ?zT ?zf ?zp ?zv ?zI ?zcode ?zvs ?zfile ?zcell ?zD ?zsub ?zsuper ?zat ?zks ?zkc ?zka ?zk ?ztop ?zboot ?_
    case zF => k_asm
    case zX => k_asm
    case zN => k_asm
    case zT => k_asm
    case zf => k_is
    case zp => rfl
    case zv => rfl
    case zI => exact instP (by k_asm) dX (by walk_at "mine pick") (by walk_at "mine pick") rfl rfl rfl
    case zcode => k_is
    case zvs => rfl
    case zfile => first | rfl | decide +kernel
    case zcell => k_is
    case zD => k_is
    case zsub => k_is
    case zsuper => k_is
    case zat => decide
    case zks => rfl
    case zkc => rfl
    case zka => rfl
    case zk => rfl
    case ztop => decide +kernel
    case zboot => first | boot_by_name | rfl | kernel_rfl
    intro so h1 F1 N1 l5
    refine superP F1 X' N1 HX (instP (news_sub N1 fun q hq => .tail _ hq) dX (by walk_at "mine pick") (by walk_at "mine pick") rfl rfl rfl) (by k_is) ?_
    intro q h2 F2 N2 l6
    k_lt l5
    k_lt l6
    refine callWith_mw (e := e) ?_
    k_steps
    any_goals (try exact N2.get (.head _))
    refine' initP (e := e) (C := 41) F2 X' N2 ?zp1 ?zoff ?zne ?zC ?_
    case zp1 => walk_at "mine pick"
    case zoff => walk_at "mine offt"
    case zne => walk_at "mine nne"
    case zC => k_is
    intro t1 h3 F3 N3 l7
    k_lt l7
    k_steps
    refine' hret _ _ _ _ _ _ _ _ ⟨_, _, dX, rfl, rfl, rfl, rfl, rfl⟩ ?zF (news_sub ?zN (sub3 ?za ?zb ?zc ?zr)) ?z1 ?z2
    case zF => k_asm
    case zN => k_asm
    case za => exact .head _
    case zb => k_mem
    case zc => k_mem
    case zr =>
      intro q hq
      repeat (first | exact hq | apply List.mem_cons_of_mem)
    case z1 => assumption
    case z2 => exact l7.1)
end
end
section
open PySem PySem.W PyProof.Rows
theorem linesC5 : True := by
  w_on
  w_top off
  k_with_none
  k_with "mine pick" => ((with_reducible (repeat (first | exact Pick.head | apply Pick.tail))))
  k_with "mine nne" => (first | assumption | exact Nat.ne_of_lt (by assumption) | exact Nat.ne_of_gt (by assumption) | exact Nat.ne_of_lt (Nat.lt_trans (by assumption) (by assumption)) | ((rename _ ∧ _ => gl99z); first | exact Nat.ne_of_gt gl99z.1 | exact Nat.ne_of_gt gl99z.2.1 | exact Nat.ne_of_gt gl99z.2.2.1 | exact Nat.ne_of_lt gl99z.1 | exact Nat.ne_of_lt gl99z.2.1) | exact (show @Ne Nat _ _ from by (first | lia | omega)) | (dsimp only; exact (show @Ne Nat _ _ from by (first | lia | omega))))
  k_with "mine offt" => ((repeat (first | assumption | refine off1_cons (by walk_at "mine nne") ?_)))
  k_with "mine pick" => ((with_reducible (repeat (first | exact Pick.head | apply Pick.tail))))
  k_with "setAttr ref" => ((k_here; (with_reducible rename ExcCls _ _ _ => hxC9z); (with_reducible rename DMap _ _ _ => dX9z); k_dflt (refine' setEP (by k_asm) (by k_asm) (by k_asm) (by walk_at "mine pick") (by walk_at "mine pick") (by walk_at "mine offt") (by walk_at "mine nne") hxC9z (by rfl) (by rfl) (by rfl) dX9z (by decide) (by k_is) ?_); intro od'9z h'9z tk'9z D'9z F'9z N'9z; clear dX9z; (try dsimp only); (try k_sweep)))
  k_with "getAttr ref" => ((k_here; (with_reducible rename ExcCls _ _ _ => hxC9z); (with_reducible rename DMap _ _ _ => dX9z); k_dflt (refine' getEP (by k_asm) (by k_asm) (by k_asm) (by walk_at "mine pick") (by walk_at "mine pick") hxC9z (by rfl) (by rfl) (by rfl) dX9z (by k_is) (by rfl) (by rfl) ?_)))
  k_with "setAttr ref" => ((k_here; (with_reducible rename ExcCls _ _ _ => hxC9z); (fail_if_success (with_reducible rename DMap _ _ _ => dX9z)); k_dflt (refine' setE0 (by k_asm) (by k_asm) (news_pick (by k_asm) (by walk_at "mine pick")) (by first | assumption | walk_at "mine offt") hxC9z (by exact ⟨News.get (by k_asm) (by k_mem), rfl, rfl, trivial⟩) (by rfl) (by k_is) ?_); intro ed'9z od'9z h'9z tk'9z D'9z F'9z N'9z l19z l29z l39z; (try dsimp only); (try k_sweep)))
  k_with "call builtin:str.count" => ((k_here; (with_reducible show wpAny _ _ (call (Value.builtin "str.count") [Value.str _ _, Value.str _ _, Value.int _ _, Value.int _ _]) _ _ _); k_dflt (refine' s_count (by assumption) (by assumption) ?_); intro tk'9z))
  k_with "call builtin:str.rfind" => ((k_here; (with_reducible show wpAny _ _ (call (Value.builtin "str.rfind") [Value.str _ _, Value.str _ _, Value.int _ _, Value.int _ _]) _ _ _); k_dflt (refine' s_rfind (by assumption) (by assumption) ?_); intro tk'9z))
  k_with "compareOp In str str" => ((k_here; k_dflt (refine' in_str_nl (by assumption) ?_)))
  k_with "binaryOp Mod str ref" => ((k_here; (with_reducible show wpAny _ _ (binaryOp Operator.Mod (Value.str (Str.ofString "%s at position %d") _) (Value.ref _)) _ _ _); k_dflt (refine' fmt2 (by k_asm) (by k_mem) (by first | assumption | decide +kernel) (by (first | lia | omega)) (by (first | lia | omega)) ?_); intro _ _))
  k_with "binaryOp Mod str ref" => ((k_here; (with_reducible show wpAny _ _ (binaryOp Operator.Mod (Value.str (Str.ofString "%s (line %d, column %d)") _) (Value.ref _)) _ _ _); k_dflt (refine' fmt3 (by k_asm) (by k_mem) (by first | assumption | decide +kernel) (by (first | lia | omega)) (by (first | lia | omega)) (by (first | lia | omega)) (by (first | lia | omega)) ?_); intro _ _))
  k_with "wpAt" => (((try dsimp only); ks_step "execs cons"; refine ks_wpAt_execs_cons ?_))
  k_with "wpAt" => (((try dsimp only); ks_step "exec Expr"; refine Stop.mk ?_))
  k_with "getMethod bytes" => ((k_here; (with_reducible show wpAny _ _ (getMethod (Value.bytes _ _) (Str.ofString "count") _) _ _ _); k_dflt (refine b_gm slot_bc type_bc ?_)))
  k_with "getMethod bytes" => ((k_here; (with_reducible show wpAny _ _ (getMethod (Value.bytes _ _) (Str.ofString "rfind") _) _ _ _); k_dflt (refine b_gm slot_brf type_brf ?_)))
  k_with "call builtin:bytes.count" => ((k_here; k_dflt (refine' b_count (by assumption) (by assumption) ?_); intro tk'9z))
  k_with "call builtin:bytes.rfind" => ((k_here; k_dflt (refine' b_rfind (by assumption) (by assumption) ?_); intro tk'9z))
  k_with "compareOp In bytes bytes" => ((k_here; (with_reducible rename HandledAt _ _ _ _ => hhX9z); k_dflt (refine' in_bytes_K (by k_asm) (by k_asm) hhX9z (by rfl) (by (intro q9z hq9z; (repeat (first | assumption | apply List.mem_cons_of_mem)))) (by assumption) ?_); intro h'9z k'9z F'9z N'9z; (try k_sweep)))
  trivial
section
variable {w : World} {mg mb : Str → Option Value} {p : Program} {loose : List Str} {mean : ExcName → Option Value}
    {outer : List Env} {env : Env} {A₀ A : Around} {base h₀ : Heap} {L e t : Addr} {m : Str → Option Value} {s : Shared}
    {R : Result → Shared → Prop} {rest : List (Addr × Obj)}  {x : Array UInt8} {eI : Addr} {oI : Obj} {tm tx tk : Tok} {k : Int} {tv : List Value} {cd : ClassData} {inn : Bool}
set_option maxRecDepth 100000 in
set_option maxHeartbeats 1500000 in
theorem init_b (B : Below A₀ base outer h₀) (F : Fr h₀ L s.heap m) (X : (Mine.hd.heap_39 w.params).In h₀)
    (N : News h₀ L s.heap ((e, excObj 41 t) :: (t, tupObj tv) :: rest)) (hoff : OwnOff rest [e, t]) (hte : @LT.lt Nat _ t e)
    (T : Top p loose mean mg mb h₀) (HX : ExcCls (Mine.hd.heap_39 w.params) 41 cd) (hA : A.frames = some (env :: outer)) (hf : env.frame = some L) (hck : env.scope.kind = .function) (hroom : A.depth < recursionLimit) (HH : HandledAt A eI oI rest)
    (h0 : 0 ≤ k) (hk : k ≤ x.size) (hsz : x.size < 1000) (hin : (!(nlAt (bNs x) 0).isEmpty) = inn)
    (hml : (badEsc ++ Str.ofString " at position " ++ Str.ofString (toString k)).length ≤ 200)
    (hln : (nlAt ((bNs x).take k.toNat) 0).length ≤ 1000) (hr1 : -1 ≤ rf ((bNs x).take k.toNat)) (hr2 : rf ((bNs x).take k.toNat) ≤ k)
    (hret : ∀ h' tk' ed od t1 tw a b, ExcSaid od (.str badEsc tm) (.bytes x tx) (.int k tk) (.int (((nlAt ((bNs x).take k.toNat) 0).length : Nat) + 1 : Int) a) (.int (k - rf ((bNs x).take k.toNat)) b) →
      Fr h₀ L h' m → News h₀ L h' ((e, excObjD 41 t1 (some ed)) :: (ed, od) :: (t1, tupObj [.str (words k (((nlAt ((bNs x).take k.toNat) 0).length : Nat) + 1 : Int) (k - rf ((bNs x).take k.toNat)) inn) tw]) :: rest) → @LT.lt Nat _ e ed → @LT.lt Nat _ e t1 →
      R (.ok (.ret .none)) { s with heap := h', toks := tk' }) :
    codeAny (model PySem.Challenge.rw_aa0047_01.row.prog w) A (.call (.ref 38) ⟨[.ref e, .str badEsc tm, .bytes x tx, .int k tk], []⟩) R s := by
  revert X; k_fill; intro X
  have hoff1 : OwnOff rest [e] := fun p hp b hb => hoff p hp b (by rw [List.mem_singleton.mp hb]; exact .head _)
  refine' ks_code_super B F X N T hA hf hck ?k6 ?k7 hroom ?k9 ?kB ?_ ?c1 ?c2 ?c3 ?c4
  case k6 => k_is
  case k7 => k_is
  case k9 => first | exact BindsTo.of_eq rfl | exact binds_K (by k_in) rfl (by k_is) rfl rfl rfl
  case kB => exact locs rfl
  case c1 => decide
  case c2 => exact rfl
  case c3 => exact rfl
  case c4 => exact rfl
  intro g' L' h' FG' F' N' B' X' T' l1
  (try dsimp only)
  (try k_lift B')
  (try k_fold)
  k_steps
  all_goals (
    (with_reducible rename (inn = _) => hb9)
    subst hb9
    unfold Stop
    refine ks_wpAt_Expr_any ?_
    refine ks_wpAt_MethodCall ?_
    (with_reducible rename DMap _ _ _ => dX)
    (with_reducible rename ExcCls _ _ _ => HX)
    refine' ks_node ?zF ?zX ?zN ?zT ?zf ?zp ?zv ?zI ?zcode ?zvs ?zfile ?zcell ?zD ?zsub ?zsuper ?zat ?zks ?zkc ?zka ?zk ?ztop ?zboot ?_
    case zF => k_asm
    case zX => k_asm
    case zN => k_asm
    case zT => k_asm
    case zf => k_is
    case zp => rfl
    case zv => rfl
    case zI => exact instP (by k_asm) dX (by walk_at "mine pick") (by walk_at "mine pick") rfl rfl rfl
    case zcode => k_is
    case zvs => rfl
    case zfile => first | rfl | decide +kernel
    case zcell => k_is
    case zD => k_is
    case zsub => k_is
    case zsuper => k_is
    case zat => decide
    case zks => rfl
    case zkc => rfl
    case zka => rfl
    case zk => rfl
    case ztop => decide +kernel
    case zboot => first | boot_by_name | rfl | kernel_rfl
    intro so h1 F1 N1 l5
    refine superP F1 X' N1 HX (instP (news_sub N1 fun q hq => .tail _ hq) dX (by walk_at "mine pick") (by walk_at "mine pick") rfl rfl rfl) (by k_is) ?_
    intro q h2 F2 N2 l6
    k_lt l5
    k_lt l6
    refine callWith_mw (e := e) ?_
    k_steps
    any_goals (try exact N2.get (.head _))
    refine' initP (e := e) (C := 41) F2 X' N2 ?zp1 ?zoff ?zne ?zC ?_
    case zp1 => walk_at "mine pick"
    case zoff => walk_at "mine offt"
    case zne => walk_at "mine nne"
    case zC => k_is
    intro t1 h3 F3 N3 l7
    k_lt l7
    k_steps
    refine' hret _ _ _ _ _ _ _ _ ⟨_, _, dX, rfl, rfl, rfl, rfl, rfl⟩ ?zF (news_sub ?zN (sub3 ?za ?zb ?zc ?zr)) ?z1 ?z2
    case zF => k_asm
    case zN => k_asm
    case za => exact .head _
    case zb => k_mem
    case zc => k_mem
    case zr =>
      intro q hq
      repeat (first | exact hq | apply List.mem_cons_of_mem)
    case z1 => assumption
    case z2 => exact l7.1)
end
end
section
open PySem PySem.W PyProof.Rows PySem.Calls
set_option maxRecDepth 100000
/-- an exception on its way through the frames l: what is kept of it, and the ledger beside it -/
noncomputable def Fly (base G : Heap) (l : List Env) (e : Addr) (cls : Value) (S : Option Addr × Option Value × Option Value) (news : List (Addr × Obj)) (h : Heap) : Prop :=
  (∃ B a0, base.StaysIn B ∧ (∀ b o, G.get? b = some o → b ∉ l.filterMap (·.frame) → B.get? b = some o) ∧ (∀ q ∈ news, B.get? q.1 = some q.2 ∧ G.get? q.1 = none ∧ base.get? q.1 = none) ∧ Heap.FlyingW B l e cls a0 h) ∧
  ∃ oe, h.get? e = some oe ∧ sg oe = S
theorem Fly.sub {base G : Heap} {l : List Env} {e : Addr} {cls : Value} {S : Option Addr × Option Value × Option Value} {news news' : List (Addr × Obj)} {h : Heap} (x : Fly base G l e cls S news h) (hs : ∀ q, q ∈ news' → q ∈ news) : Fly base G l e cls S news' h := by
  obtain ⟨⟨B, a0, h1, h2, h3, h4⟩, h5⟩ := x
  exact ⟨⟨B, a0, h1, h2, fun q hq => h3 q (hs q hq), h4⟩, h5⟩
section
variable {M : Model} {A : Around} {E : Value → Shared → Prop} {s' : Shared} {base g g₂ : Heap} {outer : List Env} {L a e : Addr} {m : Str → Option Value} {name : Str} {scope : Scope} {cd : Value} {Q : Unit → Shared → Prop} {news : List (Addr × Obj)} {oe : Obj} {vs : Array Value} {a0 cls : Value} {S : Option Addr × Option Value × Option Value}
/-- the frame of the raise is left -/
theorem leave_firstE (K : Below A base outer g) (F : Fr g L s'.heap m) (N : News g L s'.heap ((e, oe) :: news)) (hoff : OwnOff news [e]) (hc : oe.cls = cls) (hd : oe.data = .fields vs) (h1 : vs[1]? = some .none) (h0 : vs[0]? = some a0) (hS : sg oe = S)
    (hQ : ∀ h', Fly base g outer e cls S news h' → g.UpToSlots h' → Q () { s' with heap := h' }) (hk : scope.kind = .function := by rfl) :
    wpAny M (A.deeper (envOf name scope L a cd)) (leaving (envOf name scope L a cd) (.ref e)) Q E s' := by
  have he := N (e, oe) (.head _)
  obtain ⟨p1, p2, p3, p4⟩ := hide_part (h := s'.heap) (a := a) (cd := cd) (name := name) (scope := scope) [e] K F hk (fun b hb => by rw [List.mem_singleton.mp hb]; exact he.2.2)
  have hl := hide_news (name := name) (scope := scope) (a := a) (cd := cd) [e] K F (fun q hq => N q (.tail _ hq)) (fun q hq hm => hoff q hq e (.head _) (List.mem_singleton.mp hm))
  have hen : (hideAll s'.heap ([e] ++ (envOf name scope L a cd :: outer).filterMap (·.frame))).get? e = none := hideAll_none _ (List.mem_append_left _ (.head _))
  generalize hideAll s'.heap ([e] ++ (envOf name scope L a cd :: outer).filterMap (·.frame)) = B at p1 p2 p3 p4 hl hen
  refine sameD_of (P := fun _ h' => Heap.LeftW B (envOf name scope L a cd :: outer) e oe.cls a0 s'.heap h') (kd_leaving _ _) (fun hQ' => wpAny_leaving_firstW (a0 := a0) (Around.frames_deeper K.stack) p4 rfl he.1 p3 hen hd h1 h0 fun h' z => hQ' () h' z) fun _ h' z c => ?_
  obtain ⟨k1, ⟨_, _, k2⟩, k3, k4⟩ := z
  have k3' : h'.TracedW B e cls a0 := by rw [← hc]; exact k3
  refine hQ h' ⟨⟨B, a0, p1, p2, hl, k1, hen, k2, k3'⟩, ?_⟩ ((Heap.UpToSlots.of_keeps F.keep).trans k4)
  obtain ⟨oe', _, _, _, _, he', _⟩ := k3'
  exact ⟨oe', he', (c.get he.1 he').trans hS⟩
/-- a frame that the exception goes through is left -/
theorem leave_onE (K : Below A base outer g) (F : Fr g L g₂ m) (R : Fly base g₂ (envOf name scope L a cd :: outer) e cls S news s'.heap) (hsm : g₂.UpToSlots s'.heap)
    (hQ : ∀ h', Fly base g outer e cls S news h' → g.UpToSlots h' → Q () { s' with heap := h' }) :
    wpAny M (A.deeper (envOf name scope L a cd)) (leaving (envOf name scope L a cd) (.ref e)) Q E s' := by
  obtain ⟨⟨B, a0, hB, hBG, hl, hfl⟩, oe, hoe, hS⟩ := R
  refine sameD_of (P := fun _ h' => Heap.FlyingW B outer e cls a0 h' ∧ s'.heap.UpToSlots h') (kd_leaving _ _) (fun hQ' => wpAny_leaves_onW (Around.frames_deeper K.stack) rfl hfl fun h' x1 x2 => hQ' () h' ⟨x1, x2⟩) fun _ h' z c => ?_
  obtain ⟨x1, x2⟩ := z
  refine hQ h' ⟨⟨B, a0, hB, fun b o q nm => hBG b o (F.keep b o q) (fun hm => ?_), fun q hq => ⟨(hl q hq).1, ?_, (hl q hq).2.2⟩, x1⟩, ?_⟩ ((Heap.UpToSlots.of_keeps F.keep).trans (hsm.trans x2))
  · rcases memG (env := envOf name scope L a cd) rfl hm with z | z
    · rw [z, kts_self F] at q; cases q
    · exact nm z
  · cases z : g.get? q.1 with
    | none => rfl
    | some o => have := F.keep _ _ z; rw [(hl q hq).2.1] at this; cases this
  · obtain ⟨oe', he', _⟩ := x1.there
    exact ⟨oe', he', (c.get hoe he').trans hS⟩
end
section
variable {prog : Program} {w : World} {A₀ : Around} {E : Value → Shared → Prop} {s' : Shared} {base g g₀ G : Heap} {outer : List Env} {L a e C : Addr} {m : Str → Option Value} {name : Str} {scope : Scope} {cd : Value}
  {n : Str} {b₀ : Stmt} {suite : List Stmt} {pos np : Pos} {rest : List ExceptHandler} {Q : Flow → Shared → Prop} {news : List (Addr × Obj)} {KF : Frag} {S : Option Addr × Option Value × Option Value}
  {p : Program} {loose : List Str} {mean : ExcName → Option Value} {mg mb : Str → Option Value} {x : Str}
/-- the exception is caught by its own class, with a name for it -/
theorem caughtE (R : Fly base G (envOf name scope L a cd :: outer) e (.ref C) S news s'.heap) (F : Fr g L G m) (K : Below A₀ base outer g) (hsm : G.UpToSlots s'.heap) (XB : KF.In base) (TB : Top p loose mean mg mb base)
    (D : KtsDicts (outer.filterMap (·.frame)) g) (T0 : KtsTurn (outer.filterMap (·.frame)) g₀ g)
    (ex : nsIn KF mainGlobals x = some (some (.ref C))) (q : ktsIn KF C "BaseException" = true)
    (k : ∀ h' g' oe tk, KtsTurn (outer.filterMap (·.frame)) g₀ g' → Fr g' L h' (fun y => if y = n then some (.ref e) else m y) → News g' L h' ((e, oe) :: news) → oe.cls = .ref C → sg oe = S → (∃ vs, oe.data = .fields vs) → Below A₀ base outer g' → KF.In g' → Top p loose mean mg mb g' → KtsDicts (outer.filterMap (·.frame)) g' →
      wpAny (model prog w) ((A₀.deeper (envOf name scope L a cd)).mark (some (.ref e))) (execs (b₀ :: suite) (envOf name scope L a cd))
        (fun f s₄ => wpAny (model prog w) (A₀.deeper (envOf name scope L a cd)) (do bindName (envOf name scope L a cd) n .none; unbindBehindTheSuite (envOf name scope L a cd) n pos) (fun _ s₅ => Q f s₅) E s₄)
        (AsSuiteRaised (model prog w) ((A₀.deeper (envOf name scope L a cd)).mark (some (.ref e))) (envOf name scope L a cd) n pos (notedBy (model prog w) ((A₀.deeper (envOf name scope L a cd)).mark (some (.ref e))) (envOf name scope L a cd) (cameBackBy (model prog w) (A₀.deeper (envOf name scope L a cd)) (envOf name scope L a cd) E)))
        { s' with heap := h', toks := tk })
    (hk : scope.kind = .function := by rfl) (hlo : (envOf name scope L a cd).kindOf n = some .local := by rfl) (hx : (envOf name scope L a cd).kindOf x = some .globalImplicit := by rfl) (hd : (x == ("__debug__" : Str)) = false := by decide) :
    wpAny (model prog w) (A₀.deeper (envOf name scope L a cd)) (noteFrame (.ref e) (envOf name scope L a cd))
      (fun _ s₂ => wpAny (model prog w) (A₀.deeper (envOf name scope L a cd)) (setFlight (.ref e) none) (fun _ s₃ =>
        wpAny (model prog w) (A₀.deeper (envOf name scope L a cd)) (handleBy (.ref e) (envOf name scope L a cd) (.ExceptHandler (some (.Name x np)) (some n) (b₀ :: suite) pos :: rest)) Q E s₃) E s₂) E s' := by
  obtain ⟨⟨B, a0, hB, hBG, hl, hfl⟩, oe₀, hoe₀, hS⟩ := R
  have hL : B.get? L = none := by
    obtain ⟨_, ⟨L', _, hf, hn', _⟩, _⟩ := hfl.2.2.1
    obtain rfl : L = L' := Option.some.inj hf
    exact hn'
  refine sameD_of (P := fun _ h' => Heap.HeldW B (envOf name scope L a cd :: outer) e (.ref C) a0 L h' ∧ s'.heap.UpToSlots h') (kd_noteFrame _ _) (fun hQ' => wpAny_looks_onW (Around.frames_deeper K.stack) rfl hfl fun h' x1 x2 => hQ' () h' ⟨x1, x2⟩) fun _ h₄ p4 hs₄ => ?_
  obtain ⟨hheld₄, hsm₄⟩ := p4
  refine sameD_of (P := fun _ h' => Heap.FlyingW B (envOf name scope L a cd :: outer) e (.ref C) a0 h' ∧ h₄.UpToSlots h') (kd_setFlight _ _) (fun hQ' => wpAny_landsW hheld₄ fun h' x1 x2 => hQ' () h' ⟨x1, x2⟩) fun _ h₅ p5 hs₅ => ?_
  obtain ⟨hheld, hsm₅'⟩ := p5
  have hsm₅ := hsm₄.trans hsm₅'
  obtain ⟨g₅, T₅, F₅, K₅⟩ := kts_ground K F hBG hheld.1 (hsm.trans hsm₅)
  have X₅ : KF.In g₅ := XB.keeps K₅.stays
  have P₅ : TopRead p loose mg mb g₅ := topRead_of (TB.keeps K₅.stays)
  obtain ⟨ob, hob, hobc⟩ := hheld.there
  obtain ⟨nm, q', N, bs, bm, hdct, sn, sub, ab, col, dd, k0, k1, k2, k3, k5, newId, hC, hbase, hbT⟩ := kts_cls X₅ q
  have hC₅ := F₅.keep _ _ hC
  refine wpAny_handleBy_cons (codeAny_handlers_test (name_K F₅ X₅ P₅ ex ?_ hk hx hd)) (by intro q; cases q)
  refine wpAny_excMatches_sub_self hC₅ hob hobc hbase (codeAny_handlers_suite_as ?_)
  refine sameD_of (P := fun _ h' => Heap.FlyingW B (envOf name scope L a cd :: outer) e (.ref C) a0 h' ∧ h₅.UpToSlots h') (kd_setFlight _ _) (fun hQ' => lands_againW hheld fun h' x1 x2 => hQ' () h' ⟨x1, x2⟩) fun _ h₆ p6 hs₆ => ?_
  obtain ⟨hfl₆, hsm₆⟩ := p6
  obtain ⟨g₆, T₆, F₆, K₆⟩ := kts_ground K F hBG hfl₆.1 ((hsm.trans hsm₅).trans hsm₆)
  obtain ⟨oe, ws, hoe, hoec, hoed, hoe0⟩ := hfl₆.first
  have ne₆ : g₆.get? e = none := T₆.none_ _ (kts_fresh F hBG hfl₆.2.1 fun o ho m => by
    obtain ⟨_, o', ho', hd⟩ := K.frames.mem m
    rw [ho] at ho'
    cases ho'
    obtain ⟨sl, hs⟩ := ((hsm.trans hsm₅).trans hsm₆) _ _ (F.keep _ _ ho) hd
    rw [hoe] at hs
    cases hs
    exact hd _ hoed)
  have Nl : News g₆ L h₆ news := fun q hq => ⟨hfl₆.1 _ _ (hl q hq).1, (fun z => by have := (hl q hq).1; rw [z, hL] at this; cases this), T₆.none_ _ (kts_none F.keep (hl q hq).2.1)⟩
  have N₆ := News.more F₆ Nl hoe (fun es n q => by rw [hoed] at q; cases q) ne₆
  have hsg := (((hs₄.trans hs₅).trans hs₆).get hoe₀ hoe).trans hS
  refine stN F₆ N₆ (fun h₇ F₇ N₇ => ?_) hk hlo
  exact k h₇ g₆ oe _ (T0.trans T₆) F₇ N₇ hoec hsg ⟨ws, hoed⟩ K₆ (XB.keeps K₆.stays) (TB.keeps K₆.stays) (D.turn T₆)
end
end
section
open PySem PySem.W PyProof.Rows PySem.Calls
set_option maxRecDepth 100000
/-- the base of a caller, turned with the base of its callee -/
theorem turn_up {A₀ : Around} {base h₀ g g' : Heap} {outer : List Env} {L a : Addr} {m : Str → Option Value} {name : Str} {scope : Scope} {cd : Value} (K : Below A₀ base outer h₀) (FG : Fr h₀ L g m)
    (T : KtsTurn ((envOf name scope L a cd :: outer).filterMap (·.frame)) g g') : ∃ h₀', KtsTurn (outer.filterMap (·.frame)) h₀ h₀' ∧ Fr h₀' L g' m ∧ Below A₀ base outer h₀' := by
  refine kts_ground (B := hideAll g ((envOf name scope L a cd :: outer).filterMap (·.frame))) (name := name) (scope := scope) (a := a) (cd := cd) K FG (fun b o q nm => hideAll_get _ q nm) (fun b o q => ?_) (fun b o q _ => T.up q)
  refine T.other b o (of_hideAll _ q) fun hm => ?_
  rw [hideAll_none _ hm] at q
  cases q
end
section
open PySem PySem.W PyProof.Rows
theorem linesC6 : True := by
  w_on
  w_top off
  k_with_none
  k_with "mine pick" => ((with_reducible (repeat (first | exact Pick.head | apply Pick.tail))))
  k_with "mine enter" => ((refine' code_defSG (by k_asm) (by k_asm) (by k_asm) (by k_asm) (by k_asm) (by assumption) (by assumption) (by assumption) (by exact KtsTurn.refl) (by exact rfl) (by exact rfl) (by first | exact rfl | assumption) (by k_is) (by k_is) (by ktr_room) (by first | exact BindsTo.of_eq rfl | exact binds_K (by k_in) rfl (by k_is) rfl rfl rfl) (by exact locs rfl) ?_ (by exact rfl) (by exact rfl) (by exact rfl) (by decide); k_whole; intro g'9z L'9z h'9z FG'9z F'9z N'9z B'9z X'9z T'9z D'9z l19z; (try dsimp only); (try k_lift B'9z); (try k_fold)))
  k_with "noteFrame ref" => ((k_here; (with_reducible rename Heap.NewExc _ _ _ _ => nxX9z); k_dflt (refine' caughtHere (T' := "IndexError") nxX9z (by k_asm) (by k_asm) (by k_asm) (by assumption) (by assumption) (by assumption) (by first | assumption | exact KtsTurn.refl) (by k_is) PyProof.Rows.Boot.«IndexError» (by decide) PySem.F.isExc_IndexError PySem.F.notTuple_IndexError (by (rw [isSubtype_type]; kernel_rfl)) ?_; k_whole); intro h'9z g'9z oe'9z T'9z F'9z N'9z c'9z v'9z K'9z X'9z P'9z D'9z; (try k_lift K'9z); (try k_sweep)))
  k_with "call ref" => (((with_reducible show wpAny _ _ (call (Value.ref 41) _) _ _ _); refine Stop.mk ?_))
  k_with "exec Raise some some" => ((refine Stop.mk ?_))
  trivial
theorem hml_of {k : Int} (h0 : 0 ≤ k) (h : k < 1000) : (badEsc ++ Str.ofString " at position " ++ Str.ofString (toString k)).length ≤ 200 := by
  have h1 := toString_length_le (k := 10) h0 (by decide) (by (first | lia | omega))
  have e1 : badEsc.length = 27 := by decide
  have e2 : (Str.ofString " at position ").length = 13 := by decide
  rw [Str.length_append, Str.length_append, e1, e2]
  (first | lia | omega)
noncomputable def lnOf (l : List Nat) (k : Int) : Int := ((nlAt (l.take k.toNat) 0).length : Nat) + 1
noncomputable def clOf (l : List Nat) (k : Int) : Int := k - rf (l.take k.toNat)
noncomputable def inOf (l : List Nat) : Bool := !(nlAt l 0).isEmpty
/-- what the exception says: its attributes and its words -/
noncomputable def Refused (l : List Nat) (patV : Value) (k : Int) (od tup : Obj) : Prop := ∃ tm tp a b tw, tup = tupObj [.str (words k (lnOf l k) (clOf l k) (inOf l)) tw] ∧ ExcSaid od (.str badEsc tm) patV (.int k tp) (.int (lnOf l k) a) (.int (clOf l k) b)
theorem off_of_lt {r : List (Addr × Obj)} {d e : Addr} (h : ∀ p ∈ r, @LT.lt Nat _ p.1 d) (hd : @LT.lt Nat _ d e) : OwnOff r [e] := fun p hp bb hb => by
  rw [List.mem_singleton.mp hb]
  exact Nat.ne_of_lt (Nat.lt_trans (h p hp) hd)
theorem rf_bounds (l : List Nat) {k : Int} (h0 : 0 ≤ k) (hk : k ≤ l.length) : -1 ≤ rf (l.take k.toNat) ∧ rf (l.take k.toNat) ≤ k := by
  have h := rf_lt (l.take k.toNat)
  rw [List.length_take] at h
  rcases h with h | h <;> (first | lia | omega)
theorem ln_bound (l : List Nat) (k : Int) (h : l.length < 1000) : (nlAt (l.take k.toNat) 0).length ≤ 1000 := by
  have := nlAt_len (l.take k.toNat) 0
  rw [List.length_take] at this
  (first | lia | omega)
section
variable {w : World} {mg mb : Str → Option Value} {p : Program} {loose : List Str} {mean : ExcName → Option Value}
    {dp un : Nat} {gd : Option (List Code)} {cn : Str} {cs : Scope} {a : Addr} {ccd : Value} {outer : List Env} {A₀ : Around} {base h₀ : Heap} {L : Addr} {m : Str → Option Value} {s : Shared}
    {Q E : Value → Shared → Prop} {x d : Addr} {rest : List (Addr × Obj)} {t1 t2 t3 t4 t5 : Tok} {b : Bool} {ts : Tok} {txt : Str} {tt : Tok} {i : Int} {ti : Tok} {nv : Value}
set_option maxRecDepth 100000 in
set_option maxHeartbeats 4000000 in
theorem next_bad_s
    (B : Below A₀ base outer h₀) (F : Fr h₀ L s.heap m) (X : (Mine.hd.heap_39 w.params).In h₀)
    (N : News h₀ L s.heap ((d, tokD w t1 t2 t3 t4 t5 b (.str txt ts) txt tt i ti nv) :: (x, instObj 133 d) :: rest)) (hoff : OwnOff rest [d, x]) (hdx : @LT.lt Nat _ d x)
    (T : Top p loose mean mg mb h₀) (XB : (Mine.hd.heap_39 w.params).In base) (TB : Top p loose mean mg mb base) (D : KtsDicts (outer.filterMap (·.frame)) h₀)
    (hk : cs.kind = .function) (hdp : dp + 8 < recursionLimit) (hun : un + 60 < cLine)
    (h0 : 0 ≤ i) (hend : i + 1 = (txt.length : Int)) (hbs : (Txt.item txt i == Str.ofString "\\") = true) (hsz : txt.length < 1000)
    (hraise : ∀ g' h₀' h' tk' e ed od tq tup eI, KtsTurn (outer.filterMap (·.frame)) h₀ h₀' → Fr h₀' L g' m → Below A₀ base outer h₀' →
      Fly base g' (envX cn cs L a ccd [] :: outer) e (.ref 41) (some ed, some (.ref tq), some (.ref eI)) ((ed, od) :: (tq, tup) :: (d, tokD w t1 t2 t3 t4 t5 b (.str txt ts) txt tt i ti nv) :: (x, instObj 133 d) :: rest) h' → g'.UpToSlots h' →
      Refused (cps txt) (.str txt ts) ((txt.length : Int) - 1) od tup → E (.ref e) { s with heap := h', toks := tk' }) :
    wpAny (model PySem.Challenge.rw_aa0047_01.row.prog w) (ktrTop dp un gd cn cs L a ccd [] outer) (call (.ref 65) [.ref x]) Q E s := by
  obtain ⟨cd, HX⟩ := excC w X rfl
  obtain ⟨nm, q, Nn, bs, sn, sub, ab, col, dd, k0, k1, k2, k3, k5, hL⟩ := excL w X rfl
  revert X; k_fill; intro X
  refine wpAny_call ?_
  k_dflt walk_at "mine enter"
  k_steps
  rotate_left
  · exfalso; (first | lia | omega)
  unfold Stop
  (with_reducible rename KtsTurn _ _ _ => TT)
  (with_reducible rename (∃ _, _) => vI)
  (with_reducible rename Below (ktrTop _ _ _ _ _ _ _ _ _ _) _ _ _ => KK)
  refine raise_from (C := 41) (nm := nm) (q := q) (Nn := Nn) (bs := bs) (bm := [.type "Exception", .type "BaseException", .type "object"]) (hdct := true) (sn := sn) (sub := sub) (ab := ab) (col := col) (dd := dd) (k0 := k0) (k1 := k1) (k2 := k2) (k3 := k3) (k5 := k5) (newId := "Exception.__new__") rfl rfl ?_
  k_steps
  unfold Stop
  refine' wpAny_call (makeE ?zF ?zN ?zX hL ?zi ?zf ?zr ?_)
  case zF => k_asm
  case zN => k_asm
  case zX => k_in
  case zi => k_is
  case zf => k_is
  case zr => (rw [sizeLine_eq]; exact Nat.le_of_ble_eq_true rfl)
  intro te e he1 Fe Ne le1 le2
  obtain ⟨vs, hvd, hvv⟩ := vI
  have hrb := rf_bounds (cps txt) (k := (txt.length : Int) - 1) (by (first | lia | omega)) (by rw [cps_len]; (first | lia | omega))
  refine' init_s KK Fe ?zX Ne ?zo le2 ?zT HX rfl rfl rfl ?zroom ?z0 ?z1 hsz rfl (hml_of ?z0 ?z2) (ln_bound _ _ ?z3) hrb.1 hrb.2 ?_
  case zX => assumption
  case zT => assumption
  case zroom => (rw [depth_under_make]; (show dp + 1 + 1 < recursionLimit); (first | lia | omega))
  case z0 => (first | lia | omega)
  case z1 => (first | lia | omega)
  case z2 => (first | lia | omega)
  case z3 => (rw [cps_len]; (first | lia | omega))
  case zo =>
    intro p hp bb hb
    have h3 : @LT.lt Nat _ p.1 te := le1 p hp
    rcases List.mem_cons.mp hb with rfl | hb
    · exact Nat.ne_of_lt (Nat.lt_trans h3 le2)
    · rw [List.mem_singleton.mp hb]; exact Nat.ne_of_lt h3
  intro h2 tk2 ed od tq tw a1 b1 said F2 N2 lt1 lt2
  have off0 := off_of_lt le1 le2
  refine ⟨rfl, e, tq, some ed, _, _, _, _, _, vs, rfl, ?_, F2, N2, off1_cons (Nat.ne_of_gt lt1) (off1_cons (Nat.ne_of_gt lt2) off0), (N2 _ (.tail _ (.tail _ (.tail _ (.head _))))).1, hvd, hvv, ?_, fun h3 F3 N3 => ?_⟩
  · exact Frag.In.keeps (by assumption) (Fr.keep F2) _ _ hL
  · exact Nat.ne_of_lt (Nat.lt_trans (le1 _ (.head _)) le2)
  refine leave_firstE KK F3 N3 (off1_cons (Nat.ne_of_gt lt1) (off1_cons (Nat.ne_of_gt lt2) off0)) rfl rfl rfl rfl rfl fun h4 fly up => ?_
  obtain ⟨h₀', T1, F1, B1⟩ := turn_up B (by assumption) TT
  refine hraise _ h₀' h4 _ e ed od tq _ _ T1 F1 B1 (fly.sub fun z hz => ?_) up ⟨_, _, _, _, tw, rfl, said⟩
  rcases List.mem_cons.mp hz with rfl | hz
  · exact .head _
  · rcases List.mem_cons.mp hz with rfl | hz
    · exact .tail _ (.head _)
    · exact .tail _ (.tail _ (.tail _ hz))
end
end
section
open PySem PySem.W PyProof.Rows
theorem linesC7 : True := by
  w_on
  w_top off
  k_with_none
  k_with "mine pick" => ((with_reducible (repeat (first | exact Pick.head | apply Pick.tail))))
  k_with "mine enter" => ((refine' code_defSG (by k_asm) (by k_asm) (by k_asm) (by k_asm) (by k_asm) (by assumption) (by assumption) (by assumption) (by exact KtsTurn.refl) (by exact rfl) (by exact rfl) (by first | exact rfl | assumption) (by k_is) (by k_is) (by ktr_room) (by first | exact BindsTo.of_eq rfl | exact binds_K (by k_in) rfl (by k_is) rfl rfl rfl) (by exact locs rfl) ?_ (by exact rfl) (by exact rfl) (by exact rfl) (by decide); k_whole; intro g'9z L'9z h'9z FG'9z F'9z N'9z B'9z X'9z T'9z D'9z l19z; (try dsimp only); (try k_lift B'9z); (try k_fold)))
  k_with "noteFrame ref" => ((k_here; (with_reducible rename Heap.NewExc _ _ _ _ => nxX9z); k_dflt (refine' caughtHere (T' := "IndexError") nxX9z (by k_asm) (by k_asm) (by k_asm) (by assumption) (by assumption) (by assumption) (by first | assumption | exact KtsTurn.refl) (by k_is) PyProof.Rows.Boot.«IndexError» (by decide) PySem.F.isExc_IndexError PySem.F.notTuple_IndexError (by (rw [isSubtype_type]; kernel_rfl)) ?_; k_whole); intro h'9z g'9z oe'9z T'9z F'9z N'9z c'9z v'9z K'9z X'9z P'9z D'9z; (try k_lift K'9z); (try k_sweep)))
  k_with "call ref" => (((with_reducible show wpAny _ _ (call (Value.ref 41) _) _ _ _); refine Stop.mk ?_))
  k_with "exec Raise some some" => ((refine Stop.mk ?_))
  trivial
section
variable {w : World} {mg mb : Str → Option Value} {p : Program} {loose : List Str} {mean : ExcName → Option Value}
    {dp un : Nat} {gd : Option (List Code)} {cn : Str} {cs : Scope} {a : Addr} {ccd : Value} {outer : List Env} {A₀ : Around} {base h₀ : Heap} {L : Addr} {m : Str → Option Value} {s : Shared}
    {Q E : Value → Shared → Prop} {x d : Addr} {rest : List (Addr × Obj)} {t1 t2 t3 t4 t5 : Tok} {b : Bool} {ts : Tok} {txt : Str} {ob : Array UInt8} {tt : Tok} {i : Int} {ti : Tok} {nv : Value}
set_option maxRecDepth 100000 in
set_option maxHeartbeats 4000000 in
theorem next_bad_b
    (B : Below A₀ base outer h₀) (F : Fr h₀ L s.heap m) (X : (Mine.hd.heap_39 w.params).In h₀)
    (N : News h₀ L s.heap ((d, tokD w t1 t2 t3 t4 t5 b (.bytes ob ts) txt tt i ti nv) :: (x, instObj 133 d) :: rest)) (hoff : OwnOff rest [d, x]) (hdx : @LT.lt Nat _ d x)
    (T : Top p loose mean mg mb h₀) (XB : (Mine.hd.heap_39 w.params).In base) (TB : Top p loose mean mg mb base) (D : KtsDicts (outer.filterMap (·.frame)) h₀)
    (hk : cs.kind = .function) (hdp : dp + 8 < recursionLimit) (hun : un + 60 < cLine)
    (h0 : 0 ≤ i) (hend : i + 1 = (txt.length : Int)) (hbs : (Txt.item txt i == Str.ofString "\\") = true) (hsz : txt.length < 1000) (hob : ob.size = txt.length)
    (hraise : ∀ g' h₀' h' tk' e ed od tq tup eI, KtsTurn (outer.filterMap (·.frame)) h₀ h₀' → Fr h₀' L g' m → Below A₀ base outer h₀' →
      Fly base g' (envX cn cs L a ccd [] :: outer) e (.ref 41) (some ed, some (.ref tq), some (.ref eI)) ((ed, od) :: (tq, tup) :: (d, tokD w t1 t2 t3 t4 t5 b (.bytes ob ts) txt tt i ti nv) :: (x, instObj 133 d) :: rest) h' → g'.UpToSlots h' →
      Refused (bNs ob) (.bytes ob ts) ((ob.size : Int) - 1) od tup → E (.ref e) { s with heap := h', toks := tk' }) :
    wpAny (model PySem.Challenge.rw_aa0047_01.row.prog w) (ktrTop dp un gd cn cs L a ccd [] outer) (call (.ref 65) [.ref x]) Q E s := by
  obtain ⟨cd, HX⟩ := excC w X rfl
  obtain ⟨nm, q, Nn, bs, sn, sub, ab, col, dd, k0, k1, k2, k3, k5, hL⟩ := excL w X rfl
  revert X; k_fill; intro X
  refine wpAny_call ?_
  k_dflt walk_at "mine enter"
  k_steps
  rotate_left
  · exfalso; (first | lia | omega)
  unfold Stop
  (with_reducible rename KtsTurn _ _ _ => TT)
  (with_reducible rename (∃ _, _) => vI)
  (with_reducible rename Below (ktrTop _ _ _ _ _ _ _ _ _ _) _ _ _ => KK)
  refine raise_from (C := 41) (nm := nm) (q := q) (Nn := Nn) (bs := bs) (bm := [.type "Exception", .type "BaseException", .type "object"]) (hdct := true) (sn := sn) (sub := sub) (ab := ab) (col := col) (dd := dd) (k0 := k0) (k1 := k1) (k2 := k2) (k3 := k3) (k5 := k5) (newId := "Exception.__new__") rfl rfl ?_
  k_steps
  unfold Stop
  refine' wpAny_call (makeE ?zF ?zN ?zX hL ?zi ?zf ?zr ?_)
  case zF => k_asm
  case zN => k_asm
  case zX => k_in
  case zi => k_is
  case zf => k_is
  case zr => (rw [sizeLine_eq]; exact Nat.le_of_ble_eq_true rfl)
  intro te e he1 Fe Ne le1 le2
  obtain ⟨vs, hvd, hvv⟩ := vI
  have hrb := rf_bounds (bNs ob) (k := (ob.size : Int) - 1) (by (first | lia | omega)) (by rw [bNs_len]; (first | lia | omega))
  refine' init_b KK Fe ?zX Ne ?zo le2 ?zT HX rfl rfl rfl ?zroom ⟨rfl, .head _, vs, hvd, hvv⟩ ?z0 ?z1 ?z4 rfl (hml_of ?z0 ?z2) (ln_bound _ _ ?z3) hrb.1 hrb.2 ?_
  case zX => assumption
  case zT => assumption
  case zroom => (rw [depth_under_make]; (show dp + 1 + 1 < recursionLimit); (first | lia | omega))
  case z0 => (first | lia | omega)
  case z1 => (first | lia | omega)
  case z4 => (first | lia | omega)
  case z2 => (first | lia | omega)
  case z3 => (rw [bNs_len]; (first | lia | omega))
  case zo =>
    intro p hp bb hb
    have h3 : @LT.lt Nat _ p.1 te := le1 p hp
    rcases List.mem_cons.mp hb with rfl | hb
    · exact Nat.ne_of_lt (Nat.lt_trans h3 le2)
    · rw [List.mem_singleton.mp hb]; exact Nat.ne_of_lt h3
  intro h2 tk2 ed od tq tw a1 b1 said F2 N2 lt1 lt2
  have off0 := off_of_lt le1 le2
  refine ⟨rfl, e, tq, some ed, _, _, _, _, _, vs, rfl, ?_, F2, N2, off1_cons (Nat.ne_of_gt lt1) (off1_cons (Nat.ne_of_gt lt2) off0), (N2 _ (.tail _ (.tail _ (.tail _ (.head _))))).1, hvd, hvv, ?_, fun h3 F3 N3 => ?_⟩
  · exact Frag.In.keeps (by assumption) (Fr.keep F2) _ _ hL
  · exact Nat.ne_of_lt (Nat.lt_trans (le1 _ (.head _)) le2)
  refine leave_firstE KK F3 N3 (off1_cons (Nat.ne_of_gt lt1) (off1_cons (Nat.ne_of_gt lt2) off0)) rfl rfl rfl rfl rfl fun h4 fly up => ?_
  obtain ⟨h₀', T1, F1, B1⟩ := turn_up B (by assumption) TT
  refine hraise _ h₀' h4 _ e ed od tq _ _ T1 F1 B1 (fly.sub fun z hz => ?_) up ⟨_, _, _, _, tw, rfl, said⟩
  rcases List.mem_cons.mp hz with rfl | hz
  · exact .head _
  · rcases List.mem_cons.mp hz with rfl | hz
    · exact .tail _ (.head _)
    · exact .tail _ (.tail _ (.tail _ hz))
end
end
section
open PySem PySem.W PyProof.Rows PySem.Calls Builtin Builtin.BaseException
set_option maxRecDepth 100000
section
variable {prog : Program} {w : World} {A : Around} {E : Value → Shared → Prop} {s : Shared} {K : Frag} {C : Addr} {cd : ClassData} {e tq : Addr} {oe : Obj} {odo : Option Obj} {vs : Array Value} {msg : Str} {u : Tok}
theorem strOf_exc {Q : Value → Shared → Prop} (hu : A.units < cLine) (X : K.In s.heap) (H : ExcCls K C cd) (I : InstAt s.heap e oe C odo) (hs : findIn K (.ref C) "__str__" = some (some (.builtin "BaseException.__str__")))
    (hd : oe.data = .fields vs) (h0 : vs[0]? = some (.ref tq)) (ht : s.heap.TupAt tq [.str msg u]) (hq : Q (.str msg u) s) : wpAny (model prog w) A (PySem.Builtin.Str.strOf (.ref e)) Q E s := by
  have FX := PySem.F.excStr_Exception
  have LB : Looks (model prog w) s.heap (isInstance (.ref e) (.type "BaseException")) true := I.type.andThen (looks_mroIn X (H.mroIn _ (by rw [H.mro]; simp)))
  unfold PySem.Builtin.Str.strOf
  rw [show Str.isExactStr (.ref e) = false from rfl]
  refine wpAny_bind (m := cRoomFor _ _) (wpAny_cRoomFor hu ?_)
  refine wpAny_bind (m := callSpecial? (.ref e) (Str.ofString "__str__")) ?_
  unfold callSpecial? specialOf
  refine wpAny_bind (wpAny_bind (I.type.here ((looks_findIn X hs).here (wpAny_holding ?_))))
  rw [FX.str.bind]
  refine wpAny_bind (wpAny_pure (wpAny_bind (wpAny_call (codeAny_call_builtin FX.str.plain PySem.F.entry_bexc_str
    (@check_slot (model prog w) _ _ s "BaseException.__str__" "BaseException" "__str__" (.ref e) [] [] _ (by decide +kernel) (by decide +kernel) LB (PySem.F.args_bexc_str _) ?_)))))
  obtain ⟨ot, k, hto, _, htd⟩ := ht
  unfold Builtin.«BaseException.__str__»
  refine wpAny_bind (wpAny_pure (a := (Value.ref e, ([] : List Value))) ?_)
  refine wpAny_bind ?_
  unfold bexcArgs
  refine wpAny_bind (wpAny_field I.at_ hd h0 (wpAny_bind (wpAny_seqItems hto htd (wpAny_pure ?_))))
  show wpAny _ _ (rule "BaseException.__str__.one-argument" >>= fun _ => bexcText "__str__" (.str msg u) >>= fun r => ret r) _ _ _
  refine wpAny_bind (wpAny_rule (wpAny_bind ?_))
  show wpAny _ _ (pure (Value.str msg u)) _ _ _
  refine wpAny_pure (wpAny_pure ?_)
  show wpAny _ _ _ _ _ _
  exact wpAny_pure (wpAny_pure hq)
theorem str_exc {Q : Value → Shared → Prop} (hu : A.in1.in1.units < cLine) (X : K.In s.heap) (H : ExcCls K C cd) (I : InstAt s.heap e oe C odo) (hs : findIn K (.ref C) "__str__" = some (some (.builtin "BaseException.__str__")))
    (hd : oe.data = .fields vs) (h0 : vs[0]? = some (.ref tq)) (ht : s.heap.TupAt tq [.str msg u]) (hq : Q (.str msg u) s) : wpAny (model prog w) A (call (.type "str") [.ref e]) Q E s := by
  refine callType_codes (T := "str") (Bi := Builtin.«object.__init__») (Q₁ := fun r s₁ => ∃ y u, r = .str y u ∧ Q r s₁) PySem.F.called_str (PySem.F.typeCall_str_1 _) PySem.F.entry_object_init ?_ ?_
  · refine codeAny_of_tree ?_
    show wpAny _ A.in1.in1 (do checkBuiltinCall "str.__new__" ⟨[.type "str", .ref e], []⟩; again (.builtin "str.__new__" ⟨[.type "str", .ref e], []⟩)) _ _ s
    refine wpAny_bind (wpAny_of_eq (PySem.F.newCall_str_1 _) (wpAny_pure ⟨plainId_quiet (by decide +kernel) _, codeAny_builtin PySem.F.entry_str_new ?_⟩))
    rw [Around.under_plainId (by decide +kernel) _]
    rw [str_new_tree]
    refine wpAny_bind (wpAny_pure ?_)
    refine wpAny_bind (wpAny_of_eq isSubtype_str_str ?_)
    exact wpAny_bind (strOf_exc hu X H I hs hd h0 ht (wpAny_pure ⟨_, _, rfl, hq⟩))
  · rintro obj s₁ ⟨y, u, rfl, hq⟩
    exact ⟨typeIs_str _ _ _, PySem.F.args_object_init_2 _ _, object_init_meets PySem.F.called_str.init.lookup PySem.F.called_str.made (by decide) prog w A.in1 _ s₁ ⟨typeIs_str _ _ _, rfl, hq⟩⟩
end
end
section
open PySem PySem.W PyProof.Rows
theorem linesC8 : True := by
  w_on
  w_top off
  k_with_none
  k_with "mine pick" => ((with_reducible (repeat (first | exact Pick.head | apply Pick.tail))))
  k_with "mine enter" => ((refine' code_defSG (by k_asm) (by k_asm) (by k_asm) (by k_asm) (by k_asm) (by assumption) (by assumption) (by assumption) (by exact KtsTurn.refl) (by exact rfl) (by exact rfl) (by first | exact rfl | assumption) (by k_is) (by k_is) (by ktr_room) (by first | exact BindsTo.of_eq rfl | exact binds_K (by k_in) rfl (by k_is) rfl rfl rfl) (by exact locs rfl) ?_ (by exact rfl) (by exact rfl) (by exact rfl) (by decide); k_whole; intro g'9z L'9z h'9z FG'9z F'9z N'9z B'9z X'9z T'9z D'9z l19z; (try dsimp only); (try k_lift B'9z); (try k_fold)))
  k_with "compareOp NotIn str ref" => ((k_here; k_dflt (refine' notin_some (by exact News.isTup (by k_asm) (by k_mem)) (by assumption) ?_)))
  k_with "compareOp NotIn none ref" => ((k_here; k_dflt (refine' notin_no (by exact News.isTup (by k_asm) (by k_mem)) (by assumption) ?_)))
  k_with "ite" => (first | refine ite_in (by with_reducible assumption) ?_ | refine ite_out (by with_reducible assumption) ?_)
  k_with "call ref" => ((k_here; (k_dflt (show wpAny _ _ (PySem.call (Value.ref 65) [Value.ref _]) _ _ _)); k_dflt (refine' next_ok (by k_asm) (by k_asm) (by k_asm) (by refine' news_pick2 (by k_asm) (by walk_at "mine pick") (by walk_at "mine pick")) (by exact off2 (by k_all) (by k_all)) (by assumption) (by k_asm) (by assumption) (by assumption) (by assumption) (by first | exact rfl | assumption) (by ktr_room) (by ktr_units) (by first | assumption | (first | lia | omega)) (by assumption) (by assumption) ?_; k_whole); intro g'9z h'9z tk'9z t69z v9z kT9z hv9z F'9z N'9z B'9z X'9z T'9z D'9z; (first | (replace kT9z := KtsTurn.trans (by with_reducible assumption) kT9z) | skip); (first | (obtain ⟨tv9z, ev9z⟩ := hv9z; subst ev9z) | (have ev9z := hv9z; change _ = Value.none at ev9z; subst ev9z) | skip); (try dsimp only); (try k_fold)))
  k_with "exec For Name Call cons nil" => ((k_here; k_dflt (refine' For_range (L := _) rfl rfl rfl rfl ?_)))
  k_with "LoopPost" => (first | ((with_reducible show LoopPost _ _ _ _ _ _ Flow.brk _); dsimp only [LoopPost]) | ((with_reducible show LoopPost _ _ _ _ _ _ (Flow.ret _) _); dsimp only [LoopPost]))
  trivial
/-- what the tokenizer was made of, as a list of signs -/
inductive PatIs (txt : Str) : Value → List Nat → Prop
  | text (ts : Tok) : PatIs txt (.str txt ts) (cps txt)
  | octets (ob : Array UInt8) (ts : Tok) : ob.size = txt.length → PatIs txt (.bytes ob ts) (bNs ob)
/-- a lone backslash stands at the end -/
noncomputable def Lone (txt : Str) (i : Int) : Prop := i + 1 = (txt.length : Int) ∧ (Txt.item txt i == Str.ofString "\\") = true
/-- the signs that follow, up to the last one, whose successor is the lone backslash -/
noncomputable def BRun (txt : Str) : Int → List Str → Str → Str → Int → Prop
  | i, [], c, z, il => i = il ∧ c = z
  | i, y :: cs, c, z, il => ∃ j, StepAt txt i (some y) j ∧ BRun txt j cs y z il
noncomputable def Last : Prop := True
section
variable {w : World} {mg mb : Str → Option Value} {p : Program} {loose : List Str} {mean : ExcName → Option Value}
    {dp un : Nat} {gd : Option (List Code)} {cn : Str} {cs : Scope} {a : Addr} {ccd : Value} {outer : List Env} {A₀ : Around} {base h₀ : Heap} {L : Addr} {m : Str → Option Value} {s : Shared}
    {Q E : Value → Shared → Prop} {x d kt : Addr} {rest : List (Addr × Obj)} {t1 t2 t3 t4 t5 : Tok} {b : Bool} {sv : Value} {txt : Str} {tt : Tok} {i : Int} {ti : Tok} {nv : Value} {vs : List Value} {ys : List Str} {pl : List Nat}
theorem next_bad (hpat : PatIs txt sv pl)
    (B : Below A₀ base outer h₀) (F : Fr h₀ L s.heap m) (X : (Mine.hd.heap_39 w.params).In h₀)
    (N : News h₀ L s.heap ((d, tokD w t1 t2 t3 t4 t5 b sv txt tt i ti nv) :: (x, instObj 133 d) :: rest)) (hoff : OwnOff rest [d, x]) (hdx : @LT.lt Nat _ d x)
    (T : Top p loose mean mg mb h₀) (XB : (Mine.hd.heap_39 w.params).In base) (TB : Top p loose mean mg mb base) (D : KtsDicts (outer.filterMap (·.frame)) h₀)
    (hk : cs.kind = .function) (hdp : dp + 8 < recursionLimit) (hun : un + 60 < cLine)
    (h0 : 0 ≤ i) (hlone : Lone txt i) (hsz : txt.length < 1000)
    (hraise : ∀ g' h₀' h' tk' e ed od tq tup eI, KtsTurn (outer.filterMap (·.frame)) h₀ h₀' → Fr h₀' L g' m → Below A₀ base outer h₀' →
      Fly base g' (envX cn cs L a ccd [] :: outer) e (.ref 41) (some ed, some (.ref tq), some (.ref eI)) ((ed, od) :: (tq, tup) :: (d, tokD w t1 t2 t3 t4 t5 b sv txt tt i ti nv) :: (x, instObj 133 d) :: rest) h' → g'.UpToSlots h' →
      Refused pl sv ((txt.length : Int) - 1) od tup → E (.ref e) { s with heap := h', toks := tk' }) :
    wpAny (model PySem.Challenge.rw_aa0047_01.row.prog w) (ktrTop dp un gd cn cs L a ccd [] outer) (call (.ref 65) [.ref x]) Q E s := by
  cases hpat with
  | text ts => exact next_bad_s B F X N hoff hdx T XB TB D hk hdp hun h0 hlone.1 hlone.2 hsz hraise
  | octets ob ts hob =>
    refine next_bad_b B F X N hoff hdx T XB TB D hk hdp hun h0 hlone.1 hlone.2 hsz hob ?_
    rw [hob]
    exact hraise
theorem linesC8x2 : True := by
  k_with "call ref" => (((with_reducible rename Last => hlX9z); (with_reducible show wpAny _ _ (call (Value.ref 65) _) _ _ _); refine Stop.mk ?_))
  trivial
set_option maxRecDepth 100000 in
set_option maxHeartbeats 4000000 in
theorem gw_bad {n : Int} {tn : Tok} {c z : Str} {tc : Tok} {l : List Str} {il : Int} (hpat : PatIs txt sv pl)
    (B : Below A₀ base outer h₀) (F : Fr h₀ L s.heap m) (X : (Mine.hd.heap_39 w.params).In h₀)
    (N : News h₀ L s.heap ((d, tokD w t1 t2 t3 t4 t5 b sv txt tt i ti (.str c tc)) :: (x, instObj 133 d) :: (kt, { cls := .type "tuple", data := .seq vs.toArray }) :: rest)) (hoff : OwnOff rest [d, x]) (hdx : @LT.lt Nat _ d x) (hxk : @LT.lt Nat _ kt d)
    (T : Top p loose mean mg mb h₀) (XB : (Mine.hd.heap_39 w.params).In base) (TB : Top p loose mean mg mb base) (D : KtsDicts (outer.filterMap (·.frame)) h₀)
    (hk : cs.kind = .function) (hdp : dp + 16 < recursionLimit) (hun : un + 160 < cLine) (hst : StrsAre vs ys)
    (h0 : 0 ≤ i) (hrun : BRun txt i l c z il) (hlone : Lone txt il) (hsz : txt.length < 1000) (hin : ∀ x ∈ c :: l, inSet (some x) ys = true ∧ x.length ≤ 2)
    (hn : n ≤ 63) (hln : (l.length : Int) + 1 ≤ n)
    (hraise : ∀ g' h₀' h' tk' e ed od tq tup eI t6 v, KtsTurn (outer.filterMap (·.frame)) h₀ h₀' → Fr h₀' L g' m → Below A₀ base outer h₀' → IsTok (some z) v →
      Fly base g' (envX cn cs L a ccd [] :: outer) e (.ref 41) (some ed, some (.ref tq), some (.ref eI)) ((ed, od) :: (tq, tup) :: (d, tokD w t1 t2 t3 t4 t5 b sv txt tt il t6 v) :: (x, instObj 133 d) :: (kt, { cls := .type "tuple", data := .seq vs.toArray }) :: rest) h' → g'.UpToSlots h' →
      Refused pl sv ((txt.length : Int) - 1) od tup → E (.ref e) { s with heap := h', toks := tk' }) :
    wpAny (model PySem.Challenge.rw_aa0047_01.row.prog w) (ktrTop dp un gd cn cs L a ccd [] outer) (call (.ref 86) [.ref x, .int n tn, .ref kt]) Q E s := by
  revert X; k_fill; intro X
  refine wpAny_call ?_
  k_dflt walk_at "mine enter"
  k_steps
  (with_reducible rename IsRange _ _ _ _ _ _ _ _ => hR)
  (with_reducible rename Fr _ _ _ _ => hF)
  (with_reducible rename News _ _ _ _ => hN)
  have hn1 : 1 ≤ n := by (first | lia | omega)
  have hsz0 := fun p hp => Heap.lt_size (hN p hp).1
  have hszd : @LT.lt Nat _ d _ := hsz0 _ (.head _)
  k_dflt (refine' ForAt.introS n.toNat [Str.ofString "result", Str.ofString "c", Str.ofString "_"] (fun k m news => ∃ y r idx t6 tr ty, (c :: l).drop k = y :: r ∧ BRun txt idx r y z il ∧ 0 ≤ idx ∧
    m (Str.ofString "result") = some (.str (catS ((c :: l).take k)) tr) ∧
    news = (d, tokD w t1 t2 t3 t4 t5 b sv txt tt idx t6 (.str y ty)) :: (x, instObj 133 d) :: (kt, { cls := .type "tuple", data := .seq vs.toArray }) :: rest) hR (range_small hn1 hn) (range_size hn1) ?B ?X ?T ?D hF hN ?h0 ?hlt ?turn ?done; (case B => assumption); (case X => assumption); (case T => assumption); (case D => assumption))
  · exact ⟨c, l, i, ti, _, tc, rfl, hrun, h0, rfl, rfl⟩
  · rintro k m news ⟨y, r, idx, t6, tr, ty, _, _, _, _, rfl⟩ p hp
    rcases List.mem_cons.mp hp with rfl | hp
    · exact hszd
    · exact hsz0 p (.tail _ hp)
  · intro I hI k g m news h tk t hk kT kB kX kTop kD same hJ F' N'
    obtain ⟨y, r, idx, t6, tr, ty, hdr, hrun', hidx, hres, rfl⟩ := hJ
    have em := m_form3 hres (fun y h1 h2 h3 => same y (by simp; exact ⟨h1, h2, h3⟩))
    rw [em] at F'
    have hId : @LT.lt Nat _ d I := hI ▸ hsz0 _ (.head _)
    have hIx : @LT.lt Nat _ x I := hI ▸ hsz0 _ (.tail _ (.head _))
    have hIk : @LT.lt Nat _ kt I := hI ▸ hsz0 _ (.tail _ (.tail _ (.head _)))
    have hlenR := catS_len ((c :: l).take k) (fun y hy => (hin y (List.mem_of_mem_take hy)).2)
    have hlenk : ((c :: l).take k).length ≤ 63 := by rw [List.length_take]; (first | lia | omega)
    have hmem : y ∈ c :: l := List.mem_of_mem_drop (by rw [hdr]; exact .head _)
    have hiny := (hin y hmem).1
    have hleny := (hin y hmem).2
    obtain ⟨etk, edr⟩ := take_snoc hdr
    cases r with
    | nil =>
      obtain ⟨rfl, rfl⟩ := hrun'
      have hlast : Last := True.intro
      all_goals (try k_fold)
      k_steps
      unfold Stop
      k_dflt (show wpAny _ _ (call (Value.ref 65) [Value.ref x]) _ _ _)
      k_dflt (refine' next_bad hpat ?zB ?zF ?zX ?zN ?zo hdx ?zT XB TB ?zD ?zk ?zdp ?zun hidx hlone hsz ?_)
      case zB => k_asm
      case zF => k_asm
      case zX => k_asm
      case zN =>
        refine' news_pick2 ?n1 ?n2 ?n3
        case n1 => k_asm
        case n2 => walk_at "mine pick"
        case n3 => walk_at "mine pick"
      case zo => exact off2 (by k_all) (by k_all)
      case zT => k_asm
      case zD => assumption
      case zk => exact rfl
      case zdp => (show dp + 1 + 8 < recursionLimit; (first | lia | omega))
      case zun => (show un + 3 + 60 < cLine; (first | lia | omega))
      intro g' h₀' h2 tk2 e ed od tq tup eI T1 F1 B1 fly up said
      refine leave_onE B1 F1 fly up fun h3 fly3 up3 => ?_
      obtain ⟨h₀'', T2, F2, B2⟩ := turn_up B (by assumption) (kT.trans T1)
      refine hraise _ h₀'' h3 _ e ed od tq tup eI t6 (.str y ty) T2 F2 B2 ⟨ty, rfl⟩ (fly3.sub fun q hq => ?_) up3 said
      simp only [List.mem_cons] at hq ⊢
      rcases hq with hq | hq | hq | hq | hq | hq <;> simp [hq]
    | cons y2 r =>
      obtain ⟨j, hs2, hrem2⟩ := hrun'
      all_goals (try k_fold)
      k_steps
      (with_reducible rename IsTok _ _ => htX)
      obtain ⟨ty2, rfl⟩ := htX
      refine LoopPost.next (by k_asm) (news_rot (by k_asm)) ⟨by assumption, by assumption, by assumption, by assumption, by assumption, ?_, y2, r, j, _, _, ty2, edr, hrem2, hs2.nonneg hidx, by rw [etk, catS_snoc]; rfl, rfl⟩
      · intro y hy
        simp at hy
        obtain ⟨h1, h2, h3⟩ := hy
        simp [h1, h2, h3]
  · intro g m news h tk kT kB kX kTop kD same hJ F' N'
    exfalso
    obtain ⟨y, r, idx, t6, tr, ty, hdr, _⟩ := hJ
    have := congrArg List.length hdr
    simp only [List.length_drop, List.length_cons] at this
    (first | lia | omega)
end
end
section
open PySem PySem.W PyProof.Rows
theorem linesC9 : True := by
  w_on
  w_top off
  k_with_none
  k_with "mine pick" => ((with_reducible (repeat (first | exact Pick.head | apply Pick.tail))))
  k_with "mine enter" => ((refine' code_defSG (by k_asm) (by k_asm) (by k_asm) (by k_asm) (by k_asm) (by assumption) (by assumption) (by assumption) (by exact KtsTurn.refl) (by exact rfl) (by exact rfl) (by first | exact rfl | assumption) (by k_is) (by k_is) (by ktr_room) (by first | exact BindsTo.of_eq rfl | exact binds_K (by k_in) rfl (by k_is) rfl rfl rfl) (by exact locs rfl) ?_ (by exact rfl) (by exact rfl) (by exact rfl) (by decide); k_whole; intro g'9z L'9z h'9z FG'9z F'9z N'9z B'9z X'9z T'9z D'9z l19z; (try dsimp only); (try k_lift B'9z); (try k_fold)))
  k_with "compareOp NotIn str ref" => ((k_here; k_dflt (refine' notin_some (by exact News.isTup (by k_asm) (by k_mem)) (by assumption) ?_)))
  k_with "compareOp NotIn none ref" => ((k_here; k_dflt (refine' notin_no (by exact News.isTup (by k_asm) (by k_mem)) (by assumption) ?_)))
  k_with "ite" => (first | refine ite_in (by with_reducible assumption) ?_ | refine ite_out (by with_reducible assumption) ?_)
  k_with "call ref" => ((k_here; (k_dflt (show wpAny _ _ (PySem.call (Value.ref 65) [Value.ref _]) _ _ _)); k_dflt (refine' next_ok (by k_asm) (by k_asm) (by k_asm) (by refine' news_pick2 (by k_asm) (by walk_at "mine pick") (by walk_at "mine pick")) (by exact off2 (by k_all) (by k_all)) (by assumption) (by k_asm) (by assumption) (by assumption) (by assumption) (by first | exact rfl | assumption) (by ktr_room) (by ktr_units) (by first | assumption | (first | lia | omega)) (by assumption) (by assumption) ?_; k_whole); intro g'9z h'9z tk'9z t69z v9z kT9z hv9z F'9z N'9z B'9z X'9z T'9z D'9z; (first | (replace kT9z := KtsTurn.trans (by with_reducible assumption) kT9z) | skip); (first | (obtain ⟨tv9z, ev9z⟩ := hv9z; subst ev9z) | (have ev9z := hv9z; change _ = Value.none at ev9z; subst ev9z) | skip); (try dsimp only); (try k_fold)))
  k_with "exec For Name Call cons nil" => ((k_here; k_dflt (refine' For_range (L := _) rfl rfl rfl rfl ?_)))
  k_with "LoopPost" => (first | ((with_reducible show LoopPost _ _ _ _ _ _ Flow.brk _); dsimp only [LoopPost]) | ((with_reducible show LoopPost _ _ _ _ _ _ (Flow.ret _) _); dsimp only [LoopPost]))
  k_with "mine nne" => (first | assumption | exact Nat.ne_of_lt (by assumption) | exact Nat.ne_of_gt (by assumption) | exact Nat.ne_of_lt (Nat.lt_trans (by assumption) (by assumption)) | ((rename _ ∧ _ => gl99z); first | exact Nat.ne_of_gt gl99z.1 | exact Nat.ne_of_gt gl99z.2.1 | exact Nat.ne_of_gt gl99z.2.2.1 | exact Nat.ne_of_lt gl99z.1 | exact Nat.ne_of_lt gl99z.2.1) | exact (show @Ne Nat _ _ from by (first | lia | omega)) | (dsimp only; exact (show @Ne Nat _ _ from by (first | lia | omega))))
  k_with "mine offt" => ((repeat (first | assumption | refine off1_cons (by walk_at "mine nne") ?_)))
  k_with "mine pick" => ((with_reducible (repeat (first | exact Pick.head | apply Pick.tail))))
  k_with "call ref" => (((with_reducible show wpAny _ _ (call (Value.ref 86) _) _ _ _); refine Stop.mk ?_))
  k_with "getAttr ref" => ((k_here; (with_reducible rename ExcCls _ _ _ => hxC9z); (with_reducible rename DMap _ _ _ => dX9z); k_dflt (refine' getEP (by k_asm) (by k_asm) (by k_asm) (by walk_at "mine pick") (by walk_at "mine pick") hxC9z (by assumption) (by assumption) (by assumption) dX9z (by k_is) (by assumption) (by first | rfl | assumption) ?_)))
  k_with "call type:str" => ((k_here; (with_reducible rename ExcCls _ _ _ => hxC9z); (with_reducible rename DMap _ _ _ => dX9z); k_dflt (refine' str_exc (by k_units) (by k_in) hxC9z (by exact instP (by k_asm) dX9z (by walk_at "mine pick") (by walk_at "mine pick") (by assumption) (by assumption) (by assumption)) (by k_is) (by assumption) (by assumption) (by exact ⟨_, _, News.get (by k_asm) (by k_mem), rfl, rfl⟩) ?_)))
  trivial
/-- the list that tells of the refusal -/
noncomputable def Told (pl : List Nat) (sv : Value) (k : Int) (lst : List Value) : Prop := ∃ tm tp a b tw, lst = [.str badEsc tm, sv, .int k tp, .int (lnOf pl k) a, .int (clOf pl k) b, .str (words k (lnOf pl k) (clOf pl k) (inOf pl)) tw]
theorem allLt3 {a b c d e f D : Nat} {r : List (Addr × Obj)} {oa ob oc : Obj} (h : a < D ∧ b < D ∧ c < D ∧ d < D ∧ e < D ∧ f < D ∧ AllLt D r) : AllLt D ((d, oa) :: (e, ob) :: (f, oc) :: r) := h.2.2.2
section
variable {w : World} {mg mb : Str → Option Value} {p : Program} {loose : List Str} {mean : ExcName → Option Value}
    {dp un : Nat} {gd : Option (List Code)} {cn : Str} {cs : Scope} {a : Addr} {ccd : Value} {cl : List (Str × Addr)} {outer : List Env} {A₀ : Around} {base h₀ : Heap} {L : Addr} {m : Str → Option Value} {s : Shared}
    {Q E : Value → Shared → Prop} {x d kt : Addr} {rest : List (Addr × Obj)} {t1 t2 t3 t4 t5 : Tok} {b : Bool} {sv : Value} {txt : Str} {tt : Tok} {i : Int} {ti : Tok} {nv : Value} {vs : List Value} {ys : List Str} {pl : List Nat}
set_option maxRecDepth 100000 in
set_option maxHeartbeats 4000000 in
theorem refusal_ok {n : Int} {tn : Tok} {c z : Str} {tc : Tok} {l : List Str} {il : Int} (hpat : PatIs txt sv pl)
    (B : Below A₀ base outer h₀) (F : Fr h₀ L s.heap m) (X : (Mine.hd.heap_39 w.params).In h₀)
    (N : News h₀ L s.heap ((d, tokD w t1 t2 t3 t4 t5 b sv txt tt i ti (.str c tc)) :: (x, instObj 133 d) :: (kt, { cls := .type "tuple", data := .seq vs.toArray }) :: rest)) (hoff : OwnOff rest [d, x]) (hdx : @LT.lt Nat _ d x) (hxk : @LT.lt Nat _ kt d)
    (T : Top p loose mean mg mb h₀) (XB : (Mine.hd.heap_39 w.params).In base) (TB : Top p loose mean mg mb base) (D : KtsDicts (outer.filterMap (·.frame)) h₀)
    (hk : cs.kind = .function) (hdp : dp + 24 < recursionLimit) (hun : un + 240 < cLine) (hst : StrsAre vs ys)
    (h0 : 0 ≤ i) (hrun : BRun txt i l c z il) (hlone : Lone txt il) (hsz : txt.length < 1000) (hin : ∀ x ∈ c :: l, inSet (some x) ys = true ∧ x.length ≤ 2)
    (hn : n ≤ 63) (hln : (l.length : Int) + 1 ≤ n)
    (hret : ∀ h₀' h' tk' t6 v D lst, KtsTurn (outer.filterMap (·.frame)) h₀ h₀' → IsTok (some z) v → Told pl sv ((txt.length : Int) - 1) lst → Fr h₀' L h' m →
      News h₀' L h' ((D, PySem.W.listOf lst.toArray 0) :: (d, tokD w t1 t2 t3 t4 t5 b sv txt tt il t6 v) :: (x, instObj 133 d) :: (kt, { cls := .type "tuple", data := .seq vs.toArray }) :: rest) →
      AllLt D ((d, tokD w t1 t2 t3 t4 t5 b sv txt tt il t6 v) :: (x, instObj 133 d) :: (kt, { cls := .type "tuple", data := .seq vs.toArray }) :: rest) →
      Below A₀ base outer h₀' → (Mine.hd.heap_39 w.params).In h₀' → Top p loose mean mg mb h₀' → KtsDicts (outer.filterMap (·.frame)) h₀' → Q (.ref D) { s with heap := h', toks := tk' }) :
    wpAny (model PySem.Challenge.rw_aa0047_01.row.prog w) (ktrTop dp un gd cn cs L a ccd cl outer) (call (.ref 163) [.ref x, .int n tn, .ref kt]) Q E s := by
  obtain ⟨cd, HX⟩ := excC w X rfl
  have hsv : handedIn sv = true := by cases hpat <;> rfl
  revert X; k_fill; intro X
  refine wpAny_call ?_
  k_dflt walk_at "mine enter"
  k_steps
  unfold Stop
  k_dflt (show wpAny _ _ (call (Value.ref 86) [Value.ref x, _, _]) _ _ _)
  k_dflt (refine' gw_bad hpat ?zB ?zF ?zX ?zN hoff hdx hxk ?zT XB TB ?zD ?zk ?zdp ?zun hst h0 hrun hlone hsz hin hn hln ?_)
  case zB => k_asm
  case zF => k_asm
  case zX => k_asm
  case zN => k_asm
  case zT => k_asm
  case zD => assumption
  case zk => exact rfl
  case zdp => (show dp + 1 + 16 < recursionLimit; (first | lia | omega))
  case zun => (show un + 3 + 160 < cLine; (first | lia | omega))
  intro g1 h1 h2 tk2 e ed od tq tup eI t6 v T1 F1 B1 hz fly up said
  obtain ⟨tm, tp, a1, b1, tw, rfl, mA, nA, hD, m1, m2, m3, m4, m5⟩ := said
  k_dflt (refine' caughtE fly F1 B1 up XB TB ?zD2 ?zT0 ?zex ?zq ?_)
  case zD2 => exact KtsDicts.turn (by assumption) T1
  case zT0 => exact T1
  case zex => k_is
  case zq => kts_isx
  intro h3 g3 oe tk3 T3 F3 N3 hc hsg hfl B3 X3 P3 D3
  obtain ⟨ws, hws⟩ := hfl
  have hdict : oe.dict = some ed := congrArg (·.1) hsg
  have hw0 : ws[0]? = some (.ref tq) := by
    unfold sg at hsg
    rw [hws] at hsg
    exact congrArg (fun z => z.2.1) hsg
  have hnc : notCls oe = true := by unfold notCls; rw [hws]
  (try k_lift B3)
  k_steps
  refine wpAny_call ?_
  k_dflt (refine' code_defSG ?k1 ?k2 ?k3 ?k4 ?k5 ?XB ?TB ?D ?T0 ?kA ?kF ?kK ?k6 ?k7 ?k8 ?k9 ?kB ?_ ?c2 ?c3 ?c4 ?c5; (case kA => exact rfl); (case kF => exact rfl); (case kK => first | exact rfl | assumption); (case k2 => k_asm); (case k1 => k_asm); (case XB => assumption); (case TB => assumption); (case D => assumption); (case T0 => exact KtsTurn.refl); (case k3 => k_asm); (case k4 => k_asm); (case k5 => k_asm); (case k6 => k_is); (case k7 => k_is); (case k8 => (show dp + 1 < recursionLimit; (first | lia | omega))); (case k9 => first | exact BindsTo.of_eq rfl | exact binds_K (by k_in) rfl (by k_is) rfl rfl rfl); (case kB => exact locs rfl); (case c2 => exact rfl); (case c3 => exact rfl); (case c4 => exact rfl); (case c5 => decide); k_whole; intro g' L' h' FG' F' N' B' X' T' D' l1; (try dsimp only); (try k_lift B'); (try k_fold))
  k_steps
  (with_reducible rename ExcCls _ _ _ => HX)
  (with_reducible rename DMap _ _ _ => hD)
  k_dflt (refine' str_exc (odo := some od) ?zu ?zX2 HX ?zI ?zs hws hw0 ?zt ?_)
  case zu => (show un + 3 + 3 + 1 + 1 < cLine; (first | lia | omega))
  case zX2 => k_in
  case zI => exact instP (by k_asm) hD (by walk_at "mine pick") (by walk_at "mine pick") hc hnc hdict
  case zs => k_is
  case zt => exact ⟨_, _, News.get (by k_asm) (by k_mem), rfl, rfl⟩
  k_steps
  (with_reducible rename _ ∧ _ => hlt)
  refine hret _ _ _ t6 v _ _ (by assumption) hz ⟨tm, tp, a1, b1, tw, rfl⟩ (by k_asm) (news_sub (by k_asm) fun q hq => ?_) (allLt3 hlt) (by assumption) (by assumption) (by assumption) (by assumption)
  simp only [List.mem_cons] at hq ⊢
  rcases hq with hq | hq | hq | hq | hq <;> simp [hq]
end
end
section
open PySem PySem.W PyProof.Rows
theorem linesCA : True := by
  w_on
  w_top off
  k_with_none
  k_with "mine pick" => ((with_reducible (repeat (first | exact Pick.head | apply Pick.tail))))
  k_with "mine enter" => ((refine' code_defSG (by k_asm) (by k_asm) (by k_asm) (by k_asm) (by k_asm) (by assumption) (by assumption) (by assumption) (by exact KtsTurn.refl) (by exact rfl) (by exact rfl) (by first | exact rfl | assumption) (by k_is) (by k_is) (by ktr_room) (by first | exact BindsTo.of_eq rfl | exact binds_K (by k_in) rfl (by k_is) rfl rfl rfl) (by exact locs rfl) ?_ (by exact rfl) (by exact rfl) (by exact rfl) (by decide); k_whole; intro g'9z L'9z h'9z FG'9z F'9z N'9z B'9z X'9z T'9z D'9z l19z; (try dsimp only); (try k_lift B'9z); (try k_fold)))
  k_with "compareOp NotIn str ref" => ((k_here; k_dflt (refine' notin_some (by exact News.isTup (by k_asm) (by k_mem)) (by assumption) ?_)))
  k_with "compareOp NotIn none ref" => ((k_here; k_dflt (refine' notin_no (by exact News.isTup (by k_asm) (by k_mem)) (by assumption) ?_)))
  k_with "ite" => (first | refine ite_in (by with_reducible assumption) ?_ | refine ite_out (by with_reducible assumption) ?_)
  k_with "call ref" => ((k_here; (k_dflt (show wpAny _ _ (PySem.call (Value.ref 65) [Value.ref _]) _ _ _)); k_dflt (refine' next_ok (by k_asm) (by k_asm) (by k_asm) (by refine' news_pick2 (by k_asm) (by walk_at "mine pick") (by walk_at "mine pick")) (by exact off2 (by k_all) (by k_all)) (by assumption) (by k_asm) (by assumption) (by assumption) (by assumption) (by first | exact rfl | assumption) (by ktr_room) (by ktr_units) (by first | assumption | (first | lia | omega)) (by assumption) (by assumption) ?_; k_whole); intro g'9z h'9z tk'9z t69z v9z kT9z hv9z F'9z N'9z B'9z X'9z T'9z D'9z; (first | (replace kT9z := KtsTurn.trans (by with_reducible assumption) kT9z) | skip); (first | (obtain ⟨tv9z, ev9z⟩ := hv9z; subst ev9z) | (have ev9z := hv9z; change _ = Value.none at ev9z; subst ev9z) | skip); (try dsimp only); (try k_fold)))
  k_with "exec For Name Call cons nil" => ((k_here; k_dflt (refine' For_range (L := _) rfl rfl rfl rfl ?_)))
  k_with "LoopPost" => (first | ((with_reducible show LoopPost _ _ _ _ _ _ Flow.brk _); dsimp only [LoopPost]) | ((with_reducible show LoopPost _ _ _ _ _ _ (Flow.ret _) _); dsimp only [LoopPost]))
  trivial
section
variable {w : World} {mg mb : Str → Option Value} {p : Program} {loose : List Str} {mean : ExcName → Option Value}
    {dp un : Nat} {gd : Option (List Code)} {cn : Str} {cs : Scope} {a : Addr} {ccd : Value} {cl : List (Str × Addr)} {outer : List Env} {A₀ : Around} {base h₀ : Heap} {L : Addr} {m : Str → Option Value} {s : Shared}
    {Q E : Value → Shared → Prop} {x d : Addr} {rest news : List (Addr × Obj)} {t1 t2 t3 t4 t5 : Tok} {b : Bool} {sv : Value} {txt : Str} {tt : Tok} {i : Int} {ti : Tok}
set_option maxRecDepth 100000 in
set_option maxHeartbeats 2000000 in
theorem tell_ok {z : Str} {tz : Tok}
    (B : Below A₀ base outer h₀) (F : Fr h₀ L s.heap m) (X : (Mine.hd.heap_39 w.params).In h₀)
    (N : News h₀ L s.heap ((d, tokD w t1 t2 t3 t4 t5 b sv txt tt i ti (.str z tz)) :: (x, instObj 133 d) :: rest)) (hoff : OwnOff rest [d, x]) (hdx : @LT.lt Nat _ d x)
    (T : Top p loose mean mg mb h₀) (XB : (Mine.hd.heap_39 w.params).In base) (TB : Top p loose mean mg mb base) (D : KtsDicts (outer.filterMap (·.frame)) h₀)
    (hk : cs.kind = .function) (hdp : dp + 4 < recursionLimit) (hun : un + 40 < cLine) (hz : 1 ≤ z.length) (hz2 : z.length ≤ 2)
    (hret : ∀ h₀' h' tk' ta, KtsTurn (outer.filterMap (·.frame)) h₀ h₀' → Fr h₀' L h' m → News h₀' L h' ((d, tokD w t1 t2 t3 t4 t5 b sv txt tt i ti (.str z tz)) :: (x, instObj 133 d) :: rest) →
      Below A₀ base outer h₀' → (Mine.hd.heap_39 w.params).In h₀' → Top p loose mean mg mb h₀' → KtsDicts (outer.filterMap (·.frame)) h₀' → Q (.int (i - z.length) ta) { s with heap := h', toks := tk' }) :
    wpAny (model PySem.Challenge.rw_aa0047_01.row.prog w) (ktrTop dp un gd cn cs L a ccd cl outer) (call (.ref 108) [.ref x]) Q E s := by
  revert X; k_fill; intro X
  refine wpAny_call ?_
  k_dflt walk_at "mine enter"
  k_steps
  all_goals first
    | (exfalso; (first | lia | omega))
    | exact hret _ _ _ _ (by assumption) (by k_asm) (by k_asm) (by assumption) (by assumption) (by assumption) (by assumption)
    | exact hret _ _ _ _ KtsTurn.refl (by k_asm) (by k_asm) B X T D
end
end
section
open PySem PySem.W PyProof.Rows PySem.Calls PyProof.Rows.LCg
set_option maxRecDepth 100000
section
variable {prog : Program} {w : World} {A : Around} {E : Value → Shared → Prop} {s : Shared} {h₀ : Heap} {L : Addr} {m : Str → Option Value} {env : Env}
noncomputable def SrcS (prog : Program) (w : World) (A : Around) (h₀ : Heap) (L : Addr) (m : Str → Option Value) (env : Env) (elt : Expr) (x : Str) (scope : Scope) (cl : List (Str × Addr)) (Q : Value → Shared → Prop) (xv : Value) (s₁ : Shared) : Prop :=
  ∃ y t news, xv = .str y t ∧ A.handled = none ∧ Fr h₀ L s₁.heap m ∧ News h₀ L s₁.heap news ∧ y.cps.all (· < 128) = true ∧ y.cps.size ≤ sizeLine ∧
      ∀ s₂ : Shared, (∃ h, s₂ = { s₁ with heap := h }) → CompRest prog w A h₀ L m env elt x scope cl s₂ (fun _ => True) (SignAt y) (FinE h₀ L m s₂ Q) y.cps.size 0 [] news
/-- a comprehension over a text of ASCII signs -/
theorem ListComp_S {elt iter : Expr} {x : Str} {px : Pos} {scope : Scope} {cl : List (Str × Addr)} {pos : Pos} {Q : Value → Shared → Prop} (F₀ : Fr h₀ L s.heap m)
    (hclos : closureFor scope env = pure cl) (hcell : ∀ y ∈ scope.names, y.2 ≠ .cell) (hkind : scope.kind = .function)
    (hnames : ∀ y ∈ scope.names, y.2 = .local → scope.names.lookup y.1 = some .local) (hx : scope.names.lookup x = some .local)
    (h : wpAny (model prog w) A (eval iter env) (SrcS prog w A h₀ L m env elt x scope cl Q) E s)
    (hs : ∀ x, foldedSetIterable iter env x = pure x := by intro _; rfl) :
    wpAny (model prog w) A (eval (.ListComp elt [⟨.Name x px, iter, [], 0⟩] scope pos) env) Q E s := by
  rw [eval_ListComp]
  refine wpAny_comprehension_free (use := none) rfl hs hclos hkind hnames (wpAny_mono h (fun xv s₁ h₁ => ?_) fun _ _ e => e)
  obtain ⟨y, t, news, rfl, hh, F, N, ha, hsz, R⟩ := h₁
  refine wpAny_pyIter_ascii ha ?_
  refine block_U (Walks.strAscii hh s₁.heap.objs.size y t) hsz (fun i h st => by obtain ⟨o, e, _⟩ := st; exact ⟨o, e⟩) (fun i h h' o nw st e e' _ _ _ => by
      obtain ⟨o', q, r⟩ := st
      rw [e] at q
      cases q
      exact ⟨o, e', r⟩) hcell hkind hx ⟨_, Heap.get?_push_size _ rfl, rfl, rfl⟩ (fun b hb => ?_)
    (F.keeps fun _ _ e => Heap.get?_push_of_some _ e) (N.grown fun _ _ e => Heap.get?_push_of_some _ e) (Nat.ne_of_lt F.ns.lt) (next_is_new F) (fun p hp => Nat.ne_of_lt (Heap.lt_size (N p hp).1)) trivial (R _ ⟨_, rfl⟩) ?_
  · rw [List.mem_singleton.mp hb]
    show s₁.heap.objs.size < (s₁.heap.push _).objs.size
    rw [Heap.size_push]; exact Nat.lt_succ_self _
  · intro D C h tk m' ys news' F' N' o1 hn hC₀ hD₀ hCL hDL hCD offC fin
    refine ⟨m', hn, fun h'' hs'' => fin D h'' tk (F'.change hs'' hCL hC₀) (fun p hp => ?_) o1⟩
    refine ⟨hs''.extBut _ _ ?_ (N' p hp).1, (N' p hp).2⟩
    rcases List.mem_cons.mp hp with rfl | hp
    · exact Ne.symm hCD
    · exact offC p hp
end
end
section
open PySem PySem.W PyProof.Rows PyProof.Rows.LCg
theorem linesCB : True := by
  w_on
  w_top off
  k_with_none
  k_with "mine pick" => ((with_reducible (repeat (first | exact Pick.head | apply Pick.tail))))
  k_with "mine enter" => ((refine' code_defSG (by k_asm) (by k_asm) (by k_asm) (by k_asm) (by k_asm) (by assumption) (by assumption) (by assumption) (by exact KtsTurn.refl) (by exact rfl) (by exact rfl) (by first | exact rfl | assumption) (by k_is) (by k_is) (by ktr_room) (by first | exact BindsTo.of_eq rfl | exact binds_K (by k_in) rfl (by k_is) rfl rfl rfl) (by exact locs rfl) ?_ (by exact rfl) (by exact rfl) (by exact rfl) (by decide); k_whole; intro g'9z L'9z h'9z FG'9z F'9z N'9z B'9z X'9z T'9z D'9z l19z; (try dsimp only); (try k_lift B'9z); (try k_fold)))
  k_with "compareOp NotIn str ref" => ((k_here; k_dflt (refine' notin_some (by exact News.isTup (by k_asm) (by k_mem)) (by assumption) ?_)))
  k_with "compareOp NotIn none ref" => ((k_here; k_dflt (refine' notin_no (by exact News.isTup (by k_asm) (by k_mem)) (by assumption) ?_)))
  k_with "ite" => (first | refine ite_in (by with_reducible assumption) ?_ | refine ite_out (by with_reducible assumption) ?_)
  k_with "call ref" => ((k_here; (k_dflt (show wpAny _ _ (PySem.call (Value.ref 65) [Value.ref _]) _ _ _)); k_dflt (refine' next_ok (by k_asm) (by k_asm) (by k_asm) (by refine' news_pick2 (by k_asm) (by walk_at "mine pick") (by walk_at "mine pick")) (by exact off2 (by k_all) (by k_all)) (by assumption) (by k_asm) (by assumption) (by assumption) (by assumption) (by first | exact rfl | assumption) (by ktr_room) (by ktr_units) (by first | assumption | (first | lia | omega)) (by assumption) (by assumption) ?_; k_whole); intro g'9z h'9z tk'9z t69z v9z kT9z hv9z F'9z N'9z B'9z X'9z T'9z D'9z; (first | (replace kT9z := KtsTurn.trans (by with_reducible assumption) kT9z) | skip); (first | (obtain ⟨tv9z, ev9z⟩ := hv9z; subst ev9z) | (have ev9z := hv9z; change _ = Value.none at ev9z; subst ev9z) | skip); (try dsimp only); (try k_fold)))
  k_with "exec For Name Call cons nil" => ((k_here; k_dflt (refine' For_range (L := _) rfl rfl rfl rfl ?_)))
  k_with "LoopPost" => (first | ((with_reducible show LoopPost _ _ _ _ _ _ Flow.brk _); dsimp only [LoopPost]) | ((with_reducible show LoopPost _ _ _ _ _ _ (Flow.ret _) _); dsimp only [LoopPost]))
  trivial
noncomputable def StopB (p : Prop) : Prop := p
theorem StopB.mk {p : Prop} (h : StopB p) : p := h
theorem linesCBx2 : True := by
  k_with "call type:bytes" => ((refine StopB.mk ?_))
  k_with "eval ListComp" => ((refine StopB.mk ?_))
  trivial
section
variable {w : World} {mg mb : Str → Option Value} {p : Program} {loose : List Str} {mean : ExcName → Option Value}
    {dp un : Nat} {gd : Option (List Code)} {cn : Str} {cs : Scope} {a : Addr} {ccd : Value} {cl : List (Str × Addr)} {outer : List Env} {A₀ : Around} {base h₀ : Heap} {L : Addr} {m : Str → Option Value} {s : Shared}
    {Q E : Value → Shared → Prop} {news : List (Addr × Obj)} {txt : Str}
set_option maxRecDepth 100000 in
set_option maxHeartbeats 2000000 in
theorem octets_ok {tq : Tok}
    (B : Below A₀ base outer h₀) (F : Fr h₀ L s.heap m) (X : (Mine.hd.heap_39 w.params).In h₀)
    (N : News h₀ L s.heap news)
    (T : Top p loose mean mg mb h₀) (XB : (Mine.hd.heap_39 w.params).In base) (TB : Top p loose mean mg mb base) (D : KtsDicts (outer.filterMap (·.frame)) h₀)
    (hk : cs.kind = .function) (hdp : dp + 4 < recursionLimit) (hun : un + 40 < cLine) (hsz : txt.length < 1000) (hcp : txt.cps.all (· < 128) = true)
    (hret : ∀ h₀' h' tk' ob ta, KtsTurn (outer.filterMap (·.frame)) h₀ h₀' → Fr h₀' L h' m → News h₀' L h' news → ob = byteArr ((cps txt).map Int.ofNat) →
      Below A₀ base outer h₀' → (Mine.hd.heap_39 w.params).In h₀' → Top p loose mean mg mb h₀' → KtsDicts (outer.filterMap (·.frame)) h₀' → Q (.bytes ob ta) { s with heap := h', toks := tk' }) :
    wpAny (model PySem.Challenge.rw_aa0047_01.row.prog w) (ktrTop dp un gd cn cs L a ccd cl outer) (call (.ref 142) [.str txt tq]) Q E s := by
  revert X; k_fill; intro X
  refine wpAny_call ?_
  k_dflt walk_at "mine enter"
  k_steps
  unfold StopB
  k_dflt (refine ListComp_S (F₀ := by k_asm) (by rfl) (by decide) (by rfl) (by decide) (by rfl) ?_)
  k_steps
  refine ⟨txt, tq, news, rfl, rfl, by k_asm, by k_asm, hcp, by (rw [sizeLine_eq]; exact Nat.le_of_lt (Nat.lt_trans hsz (by decide))), fun s₂ hs₂ => ?_⟩
  obtain ⟨g2, rfl⟩ := hs₂
  suffices key : ∀ (k i : Nat) (ys : List Value), i + k = txt.cps.size → IntsAre ys (((cps txt).take i).map Int.ofNat) → CompRest _ w _ _ _ _ _ _ _ _ _ _ (fun _ => True) (SignAt txt) _ k i ys news from key _ 0 [] (Nat.zero_add _) .nil
  intro k
  induction k with
  | zero =>
    intro i ys hi hys
    have hlen : (cps txt).length = txt.cps.size := Array.length_toList
    rw [List.take_of_length_le (by (first | lia | omega))] at hys
    refine CompRest.zero ?_
    intro D2 h2 tk2 F2 N2 o2
    (try dsimp only)
    k_steps
    unfold StopB
    refine KBa.make_K F2 N2 rfl ⟨_, (N2 _ (.head _)).1, rfl, _, rfl⟩ hys ?_ ?_ fun h3 t3 k3 F3 N3 _ => ?_
    · intro n hn
      obtain ⟨c, hc, rfl⟩ := List.mem_map.mp hn
      have : c < 128 := by
        have := Array.all_eq_true'.mp hcp c (Array.mem_toList_iff.mp hc)
        simpa using this
      simp only [Int.ofNat_eq_natCast]
      (first | lia | omega)
    · rw [List.length_map, hlen]
      show txt.length ≤ _
      (first | lia | omega)
    · have N4 := news_sub N3 fun q hq => List.mem_cons_of_mem _ hq
      clear N3 N2
      k_steps
      first
        | exact hret _ _ _ _ _ KtsTurn.refl (by k_asm) (by k_asm) rfl B X T D
        | exact hret _ _ _ _ _ (by assumption) (by k_asm) (by k_asm) rfl (by assumption) (by assumption) (by assumption) (by assumption)
  | succ k ih =>
    intro i ys hi hys
    refine CompRest.succ fun v I oI C oC D' m₂ h tk E' hP hns hm F1 N1 off ne => ?_
    obtain ⟨c, u, hc, rfl⟩ := hP
    k_steps
    refine CompEnd.intro F1 N1 news (fun p hp => hp) off trivial (ih (i + 1) _ (by (first | lia | omega)) ?_)
    have hlt : i < (cps txt).length := by rw [Array.length_toList]; (first | lia | omega)
    have hci : (cps txt)[i] = c := by
      rw [← Array.getElem?_toList, List.getElem?_eq_getElem hlt] at hc
      exact Option.some.inj hc
    rw [take_at _ i hlt, List.map_append, hci]
    exact hys.append (.cons _ _ .nil)
end
end
section
open PySem PySem.W PyProof.Rows PySem.Calls
set_option maxRecDepth 100000
theorem range_take {α : Type} (l : List α) : ∀ n, n ≤ l.length → (List.range n).filterMap (l[·]?) = l.take n
  | 0, _ => by simp
  | n + 1, h => by
    rw [List.range_succ, List.filterMap_append, range_take l n (by (first | lia | omega)), take_at l n h]
    simp [List.getElem?_eq_getElem h]
theorem slice_cps (x : Str) {k : Int} (h0 : 0 ≤ k) (hk : k ≤ x.length) : cps (Txt.slice x none (some k)) = (cps x).take k.toNat := by
  have e : Builtin.Str.strSliceIndices none (some k) 1 x.length = List.range k.toNat := by
    unfold Builtin.Str.strSliceIndices
    simp only [show (1 : Int) > 0 by decide, if_true]
    rw [if_neg (by (first | lia | omega)), show max 0 (min k (x.length : Int)) = k by (first | lia | omega)]
    unfold sliceRange
    rw [if_pos (by decide)]
    have : (if (0 : Int) < k then (k - 0 + 1 - 1) / 1 else 0) = k := by
      split <;> (first | lia | omega)
    rw [this]
    conv => rhs; rw [← List.map_id (List.range k.toNat)]
    refine List.map_congr_left fun a _ => ?_
    simp
  unfold Txt.slice
  rw [e, List.length_range]
  split
  · rename_i h
    have : k.toNat = x.length := by simpa using h
    rw [this, List.take_of_length_le (Nat.le_of_eq (cps_len x))]
  · show (((List.range k.toNat).filterMap (x.cps[·]?)).toArray).toList = _
    rw [List.toList_toArray, ← range_take (cps x) k.toNat (by rw [cps_len]; (first | lia | omega))]
    congr 1
    funext i
    exact Array.getElem?_toList.symm
section
variable {prog : Program} {w : World} {A : Around} {E : Value → Shared → Prop} {s : Shared} {h₀ : Heap} {L : Addr} {m : Str → Option Value} {news : List (Addr × Obj)} {x : Str} {t u : Tok} {Q : Value → Shared → Prop}
theorem item_last {value slice : Expr} {a : Addr} {l : List Value} {v : Value} (hl : s.heap.IsList a l.toArray) (hx : l.getLast? = some v) (h : Q v s)
    (hs : subscripted slice false (.ref a) (.int (-1) u) = operate [.ref a, .int (-1) u] (getItem (.ref a) (.int (-1) u)) := by with_unfolding_all rfl) (hg : ∀ r, letTemporaryGo value (.ref a) r = pure () := by intro _; with_unfolding_all rfl) :
    wpAny (model prog w) A (subscriptTail value slice (.ref a) (.int (-1) u)) Q E s := by
  have hne : l ≠ [] := fun z => by rw [z] at hx; cases hx
  have hlen := List.length_pos_iff.mpr hne
  refine subscriptTail_builtin hl.typeIs slot_list_getitem.lookup (wpAny_getItem_list_neg hl (by decide) ?_ (by decide) ?_ h) hs hg
  · rw [List.size_toArray]; (first | lia | omega)
  · rw [List.size_toArray, List.getElem?_toArray, ← hx, List.getLast?_eq_getElem?]
    congr 1
    (first | lia | omega)
theorem len_vs {a : Addr} {l : List Value} {n : Nat} (hl : s.heap.IsList a l.toArray) (he : l.length = n + 1) (hn : n ≤ 1000) (h : ∀ t' k, Q (.int ((n : Int) + 1) t') { s with toks := k }) : wpAny (model prog w) A (call (.builtin "len") [.ref a]) Q E s := by
  refine call_len_list hl (by rw [List.size_toArray]; (first | lia | omega)) ?_
  rw [List.size_toArray, he]
  exact h _ _
theorem s_split (F : Fr h₀ L s.heap m) (N : News h₀ L s.heap news) (hsz : x.length ≤ 1000)
    (h : ∀ (D : Addr) (vs : List Value) c h' k t' y, vs.length = (nlAt (cps x) 0).length + 1 → vs.getLast? = some (.str y t') → y.length = x.length - lineBegin (cps x) → Fr h₀ L h' m → News h₀ L h' ((D, listOf vs.toArray c) :: news) → (∀ p ∈ news, @LT.lt Nat _ p.1 D) → Q (.ref D) { s with heap := h', toks := k }) :
    wpAny (model prog w) A (call (.builtin "str.split") [.str x t, .str nl u]) Q E s := by
  have hs := split_nl x
  refine KSpl.split1 F N (by decide) (fun D l h' k e a F' N' lt => ?_) (by rw [sizeLine_eq]; (first | lia | omega))
  obtain ⟨e1, y, e2, e3⟩ := hs
  rw [← e] at e1 e2
  rw [List.length_map] at e1
  obtain ⟨t', ht⟩ : ∃ t', l.getLast? = some (y, t') := by
    rw [List.getLast?_map] at e2
    cases q : l.getLast? with
    | none => rw [q] at e2; cases e2
    | some p =>
      rw [q] at e2
      obtain ⟨p1, p2⟩ := p
      cases e2
      exact ⟨p2, rfl⟩
  refine h D (strValues l) 0 h' k t' y ?_ ?_ e3 F' N' lt
  · rw [← e1]; unfold strValues; rw [List.length_map]
  · unfold strValues; rw [List.getLast?_map, ht]; rfl
end
end
section
open PySem PySem.W PyProof.Rows PySem.Calls
set_option maxRecDepth 100000
theorem bInts_bNs (b : Array UInt8) : KBw.bInts b = (bNs b).map Int.ofNat := by
  unfold KBw.bInts bNs
  rw [List.map_map]
  rfl
theorem picked_bNs (b : Array UInt8) {k : Int} (h0 : 0 ≤ k) (hk : k ≤ b.size) : bNs (KBy.picked b none (some k)) = (bNs b).take k.toNat := by
  have h := KBc.ints_picked (b := b) rfl none (some k)
  simp only [Option.elim, KBw.ints_length, Nat.sub_zero, List.drop_zero] at h
  have hc : clipAt b.size k = k.toNat := by unfold clipAt; rw [if_neg (by (first | lia | omega))]; (first | lia | omega)
  rw [hc, bInts_bNs, bInts_bNs, ← List.map_take] at h
  have inj : ∀ a b : Nat, Int.ofNat a = Int.ofNat b → a = b := fun a b e => Int.ofNat.inj e
  exact (List.map_inj_right inj).mp h
section
variable {prog : Program} {w : World} {A : Around} {E : Value → Shared → Prop} {s : Shared} {b : Array UInt8} {t : Tok} {Q : Value → Shared → Prop}
theorem len_bb (hsz : b.size ≤ 1000) (h : ∀ t' k, Q (.int (b.size : Int) t') { s with toks := k }) : wpAny (model prog w) A (call (.builtin "len") [.bytes b t]) Q E s := by
  refine KBw.len_K (ks := KBw.bInts b) rfl (by rw [KBw.ints_length]; (first | lia | omega)) ?_
  rw [KBw.ints_length]
  exact h _ _
theorem b_split2 {u : Tok} {h₀ : Heap} {L : Addr} {m : Str → Option Value} {news : List (Addr × Obj)} (F : Fr h₀ L s.heap m) (N : News h₀ L s.heap news) (hsz : b.size ≤ 1000)
    (h : ∀ (D : Addr) (vs : List Value) c h' k t' (y : Array UInt8), vs.length = (nlAt (bNs b) 0).length + 1 → vs.getLast? = some (.bytes y t') → y.size = b.size - lineBegin (bNs b) → Fr h₀ L h' m → News h₀ L h' ((D, listOf vs.toArray c) :: news) → (∀ p ∈ news, @LT.lt Nat _ p.1 D) → Q (.ref D) { s with heap := h', toks := k }) :
    wpAny (model prog w) A (call (.builtin "bytes.split") [.bytes b t, .bytes bnl u]) Q E s :=
  b_split F N hsz fun D vs c h' k t' e1 e2 F' N' lt => h D vs c h' k t' _ e1 e2 (by rw [Array.size_extract, Nat.min_self]) F' N' lt
end
end
section
open PySem PySem.W PyProof.Rows
theorem linesCC : True := by
  w_on
  w_top off
  k_with_none
  k_with "mine pick" => ((with_reducible (repeat (first | exact Pick.head | apply Pick.tail))))
  k_with "mine enter" => ((refine' code_defSG (by k_asm) (by k_asm) (by k_asm) (by k_asm) (by k_asm) (by assumption) (by assumption) (by assumption) (by exact KtsTurn.refl) (by exact rfl) (by exact rfl) (by first | exact rfl | assumption) (by k_is) (by k_is) (by ktr_room) (by first | exact BindsTo.of_eq rfl | exact binds_K (by k_in) rfl (by k_is) rfl rfl rfl) (by exact locs rfl) ?_ (by exact rfl) (by exact rfl) (by exact rfl) (by decide); k_whole; intro g'9z L'9z h'9z FG'9z F'9z N'9z B'9z X'9z T'9z D'9z l19z; (try dsimp only); (try k_lift B'9z); (try k_fold)))
  k_with "compareOp NotIn str ref" => ((k_here; k_dflt (refine' notin_some (by exact News.isTup (by k_asm) (by k_mem)) (by assumption) ?_)))
  k_with "compareOp NotIn none ref" => ((k_here; k_dflt (refine' notin_no (by exact News.isTup (by k_asm) (by k_mem)) (by assumption) ?_)))
  k_with "ite" => (first | refine ite_in (by with_reducible assumption) ?_ | refine ite_out (by with_reducible assumption) ?_)
  k_with "call ref" => ((k_here; (k_dflt (show wpAny _ _ (PySem.call (Value.ref 65) [Value.ref _]) _ _ _)); k_dflt (refine' next_ok (by k_asm) (by k_asm) (by k_asm) (by refine' news_pick2 (by k_asm) (by walk_at "mine pick") (by walk_at "mine pick")) (by exact off2 (by k_all) (by k_all)) (by assumption) (by k_asm) (by assumption) (by assumption) (by assumption) (by first | exact rfl | assumption) (by ktr_room) (by ktr_units) (by first | assumption | (first | lia | omega)) (by assumption) (by assumption) ?_; k_whole); intro g'9z h'9z tk'9z t69z v9z kT9z hv9z F'9z N'9z B'9z X'9z T'9z D'9z; (first | (replace kT9z := KtsTurn.trans (by with_reducible assumption) kT9z) | skip); (first | (obtain ⟨tv9z, ev9z⟩ := hv9z; subst ev9z) | (have ev9z := hv9z; change _ = Value.none at ev9z; subst ev9z) | skip); (try dsimp only); (try k_fold)))
  k_with "exec For Name Call cons nil" => ((k_here; k_dflt (refine' For_range (L := _) rfl rfl rfl rfl ?_)))
  k_with "LoopPost" => (first | ((with_reducible show LoopPost _ _ _ _ _ _ Flow.brk _); dsimp only [LoopPost]) | ((with_reducible show LoopPost _ _ _ _ _ _ (Flow.ret _) _); dsimp only [LoopPost]))
  k_with "call builtin:len" => ((k_here; (with_reducible show wpAny _ _ (call (Value.builtin "len") [Value.ref _]) _ _ _); k_dflt (refine' len_vs (by exact ⟨_, News.get (by k_asm) (by k_mem), rfl, _, rfl⟩) (by assumption) (by assumption) ?_); intro t'9z k'9z))
  k_with "call builtin:str.split" => ((k_here; k_dflt (refine' s_split (by k_asm) (by k_asm) (by (first | lia | omega)) ?_); intro D'9z vs'9z c'9z h'9z k'9z t'9z y'9z e19z e29z e39z F'9z N'9z l19z; (try k_lt l19z); (try k_sweep)))
  k_with "subscriptTail Name UnaryOp" => ((k_here; k_dflt (refine' item_last (by exact ⟨_, News.get (by k_asm) (by k_mem), rfl, _, rfl⟩) (by assumption) ?_)))
  k_with "subscriptTail Name UnaryOp ref int" => ((k_here; k_dflt (refine' item_last (by exact ⟨_, News.get (by k_asm) (by k_mem), rfl, _, rfl⟩) (by assumption) ?_)))
  trivial
theorem sub1 {a : Addr × Obj} {r l : List (Addr × Obj)} (ha : a ∈ l) (hr : ∀ q, q ∈ r → q ∈ l) : ∀ q, q ∈ a :: r → q ∈ l := fun q hq => by
  rcases List.mem_cons.mp hq with rfl | hq
  · exact ha
  · exact hr q hq
theorem strAssoc (a b c : Str) : a ++ b ++ c = a ++ (b ++ c) := by
  obtain ⟨a⟩ := a; obtain ⟨b⟩ := b; obtain ⟨c⟩ := c
  exact congrArg Str.mk Array.append_assoc
theorem lineBegin_rf (l : List Nat) : (lineBegin l : Int) = rf l + 1 ∧ lineBegin l ≤ l.length := by
  unfold lineBegin rf
  cases q : (nlAt l 0).getLast? with
  | none => simp
  | some i =>
    have := nlAt_lt l 0 i (List.mem_of_getLast? q)
    simp only
    (first | lia | omega)
theorem told_of {pl : List Nat} {sv : Value} {k ln col : Int} {W : Str} {tm tp a b tw : Tok} (hl : ln = lnOf pl k) (hc : col = clOf pl k) (hw : W = words k ln col (inOf pl)) :
    Told pl sv k [.str badEsc tm, sv, .int k tp, .int ln a, .int col b, .str W tw] := by
  subst hl hc hw
  exact ⟨tm, tp, a, b, tw, rfl⟩
theorem words_t {k ln cl : Int} : badEsc ++ Str.ofString " at position " ++ Str.ofString (toString k) ++ (Str.ofString " (line " ++ Str.ofString (toString ln) ++ Str.ofString ", column " ++ Str.ofString (toString cl) ++ Str.ofString ")") = words k ln cl true := by
  unfold words words0
  rw [if_pos rfl]
  simp only [strAssoc]
theorem slice_len {txt : Str} {k : Int} (h0 : 0 ≤ k) (hkl : k ≤ txt.length) : ((Txt.slice txt none (some k)).length : Int) = k := by
  rw [← cps_len, slice_cps txt h0 hkl, List.length_take, cps_len]; (first | lia | omega)
theorem ln_s {txt : Str} {k : Int} (h0 : 0 ≤ k) (hkl : k ≤ txt.length) : (((nlAt (cps (Txt.slice txt none (some k))) 0).length : Nat) : Int) + 1 = lnOf (cps txt) k := by
  rw [slice_cps txt h0 hkl]; rfl
theorem col_eq {k n r : Int} {y b z : Nat} (h1 : n = k) (h2 : (z : Int) = n) (hy : y = z - b) (hb : (b : Int) = r + 1 ∧ b ≤ z) : k - n + (y : Int) + 1 = k - r := by (first | lia | omega)
theorem col_s {txt y : Str} {k : Int} (h0 : 0 ≤ k) (hkl : k ≤ txt.length) (hy : y.length = (Txt.slice txt none (some k)).length - lineBegin (cps (Txt.slice txt none (some k)))) : k - ((Txt.slice txt none (some k)).length : Int) + (y.length : Int) + 1 = clOf (cps txt) k := by
  have h3 := lineBegin_rf (cps (Txt.slice txt none (some k)))
  rw [cps_len] at h3
  have h4 := col_eq (slice_len h0 hkl) rfl hy h3
  rw [h4, slice_cps txt h0 hkl]
  rfl
section
variable {w : World} {mg mb : Str → Option Value} {p : Program} {loose : List Str} {mean : ExcName → Option Value}
    {dp un : Nat} {gd : Option (List Code)} {cn : Str} {cs : Scope} {a : Addr} {ccd : Value} {cl : List (Str × Addr)} {outer : List Env} {A₀ : Around} {base h₀ : Heap} {L : Addr} {m : Str → Option Value} {s : Shared}
    {Q E : Value → Shared → Prop} {news : List (Addr × Obj)} {txt : Str} {k : Int} {tx tm tk : Tok} {inn : Bool}
set_option maxRecDepth 100000 in
set_option maxHeartbeats 3000000 in
theorem words_s
    (B : Below A₀ base outer h₀) (F : Fr h₀ L s.heap m) (X : (Mine.hd.heap_39 w.params).In h₀)
    (N : News h₀ L s.heap news)
    (T : Top p loose mean mg mb h₀) (XB : (Mine.hd.heap_39 w.params).In base) (TB : Top p loose mean mg mb base) (D : KtsDicts (outer.filterMap (·.frame)) h₀)
    (hk : cs.kind = .function) (hdp : dp + 4 < recursionLimit) (hun : un + 40 < cLine) (hsz : txt.length < 1000) (h0 : 0 ≤ k) (hkl : k ≤ txt.length) (hsl : (Txt.slice txt none (some k)).length ≤ 1000)
    (hnn : 1 ≤ (nlAt (cps txt) 0).length ∨ (nlAt (cps txt) 0).length = 0) (hn1 : (nlAt (cps txt) 0).length ≤ 1000) (hn2 : (nlAt (cps (Txt.slice txt none (some k))) 0).length ≤ 1000)
    (hret : ∀ h' tk' D lst, Told (cps txt) (.str txt tx) k lst → Fr h₀ L h' m → News h₀ L h' ((D, PySem.W.listOf lst.toArray 0) :: news) → AllLt D news → Q (.ref D) { s with heap := h', toks := tk' }) :
    wpAny (model PySem.Challenge.rw_aa0047_01.row.prog w) (ktrTop dp un gd cn cs L a ccd cl outer) (call (.ref 149) [.str txt tx, .str (Str.ofString "bad escape (end of pattern)") tm, .int k tk]) Q E s := by
  revert X; k_fill; intro X
  rcases hnn with hnn | hnn
  · refine wpAny_call ?_
    k_dflt walk_at "mine enter"
    k_steps
    have hin : inOf (cps txt) = true := by
      unfold inOf
      cases q : nlAt (cps txt) 0 with
      | nil => rw [q] at hnn; simp at hnn
      | cons a r => rfl
    refine' hret _ _ _ _ (told_of ?zl ?zc ?zw) ?zF (news_sub ?zN (sub1 ?zs ?zr)) ?zA
    case zF => k_asm
    case zN => k_asm
    case zs => exact .head _
    case zr =>
      intro q hq
      simp [hq]
    case zA =>
      (with_reducible rename _ ∧ _ => hlt)
      exact hlt.2.2
    case zl => exact ln_s h0 hkl
    case zc => exact col_s h0 hkl (by assumption)
    case zw => (rw [hin]; exact words_t)
  · refine wpAny_call ?_
    k_dflt walk_at "mine enter"
    k_steps
    have hin : inOf (cps txt) = false := by
      unfold inOf
      rw [List.length_eq_zero_iff.mp hnn]
      rfl
    refine' hret _ _ _ _ (told_of ?zl ?zc ?zw) ?zF (news_sub ?zN (sub1 ?zs ?zr)) ?zA
    case zF => k_asm
    case zN => k_asm
    case zs => exact .head _
    case zr =>
      intro q hq
      simp [hq]
    case zA =>
      (with_reducible rename _ ∧ _ => hlt)
      exact hlt.2.2
    case zl => exact ln_s h0 hkl
    case zc => exact col_s h0 hkl (by assumption)
    case zw => (rw [hin]; rfl)
end
end
section
open PySem PySem.W PyProof.Rows
theorem linesCD : True := by
  w_on
  w_top off
  k_with_none
  k_with "mine pick" => ((with_reducible (repeat (first | exact Pick.head | apply Pick.tail))))
  k_with "mine enter" => ((refine' code_defSG (by k_asm) (by k_asm) (by k_asm) (by k_asm) (by k_asm) (by assumption) (by assumption) (by assumption) (by exact KtsTurn.refl) (by exact rfl) (by exact rfl) (by first | exact rfl | assumption) (by k_is) (by k_is) (by ktr_room) (by first | exact BindsTo.of_eq rfl | exact binds_K (by k_in) rfl (by k_is) rfl rfl rfl) (by exact locs rfl) ?_ (by exact rfl) (by exact rfl) (by exact rfl) (by decide); k_whole; intro g'9z L'9z h'9z FG'9z F'9z N'9z B'9z X'9z T'9z D'9z l19z; (try dsimp only); (try k_lift B'9z); (try k_fold)))
  k_with "compareOp NotIn str ref" => ((k_here; k_dflt (refine' notin_some (by exact News.isTup (by k_asm) (by k_mem)) (by assumption) ?_)))
  k_with "compareOp NotIn none ref" => ((k_here; k_dflt (refine' notin_no (by exact News.isTup (by k_asm) (by k_mem)) (by assumption) ?_)))
  k_with "ite" => (first | refine ite_in (by with_reducible assumption) ?_ | refine ite_out (by with_reducible assumption) ?_)
  k_with "call ref" => ((k_here; (k_dflt (show wpAny _ _ (PySem.call (Value.ref 65) [Value.ref _]) _ _ _)); k_dflt (refine' next_ok (by k_asm) (by k_asm) (by k_asm) (by refine' news_pick2 (by k_asm) (by walk_at "mine pick") (by walk_at "mine pick")) (by exact off2 (by k_all) (by k_all)) (by assumption) (by k_asm) (by assumption) (by assumption) (by assumption) (by first | exact rfl | assumption) (by ktr_room) (by ktr_units) (by first | assumption | (first | lia | omega)) (by assumption) (by assumption) ?_; k_whole); intro g'9z h'9z tk'9z t69z v9z kT9z hv9z F'9z N'9z B'9z X'9z T'9z D'9z; (first | (replace kT9z := KtsTurn.trans (by with_reducible assumption) kT9z) | skip); (first | (obtain ⟨tv9z, ev9z⟩ := hv9z; subst ev9z) | (have ev9z := hv9z; change _ = Value.none at ev9z; subst ev9z) | skip); (try dsimp only); (try k_fold)))
  k_with "exec For Name Call cons nil" => ((k_here; k_dflt (refine' For_range (L := _) rfl rfl rfl rfl ?_)))
  k_with "LoopPost" => (first | ((with_reducible show LoopPost _ _ _ _ _ _ Flow.brk _); dsimp only [LoopPost]) | ((with_reducible show LoopPost _ _ _ _ _ _ (Flow.ret _) _); dsimp only [LoopPost]))
  k_with "call builtin:len" => ((k_here; (with_reducible show wpAny _ _ (call (Value.builtin "len") [Value.ref _]) _ _ _); k_dflt (refine' len_vs (by exact ⟨_, News.get (by k_asm) (by k_mem), rfl, _, rfl⟩) (by assumption) (by assumption) ?_); intro t'9z k'9z))
  k_with "call builtin:str.split" => ((k_here; k_dflt (refine' s_split (by k_asm) (by k_asm) (by (first | lia | omega)) ?_); intro D'9z vs'9z c'9z h'9z k'9z t'9z y'9z e19z e29z e39z F'9z N'9z l19z; (try k_lt l19z); (try k_sweep)))
  k_with "subscriptTail Name UnaryOp" => ((k_here; k_dflt (refine' item_last (by exact ⟨_, News.get (by k_asm) (by k_mem), rfl, _, rfl⟩) (by assumption) ?_)))
  k_with "subscriptTail Name UnaryOp ref int" => ((k_here; k_dflt (refine' item_last (by exact ⟨_, News.get (by k_asm) (by k_mem), rfl, _, rfl⟩) (by assumption) ?_)))
  k_with "getMethod bytes" => ((k_here; (with_reducible show wpAny _ _ (getMethod (Value.bytes _ _) (Str.ofString "split") _) _ _ _); k_dflt (refine b_gm slot_bsp type_bsp ?_)))
  k_with "call builtin:bytes.split" => ((k_here; k_dflt (refine' b_split2 (by k_asm) (by k_asm) (by (first | lia | omega)) ?_); intro D'9z vs'9z c'9z h'9z k'9z t'9z y'9z e19z e29z e39z F'9z N'9z l19z; (try k_lt l19z); (try k_sweep)))
  k_with "call builtin:len" => ((k_here; (with_reducible show wpAny _ _ (call (Value.builtin "len") [Value.bytes _ _]) _ _ _); k_dflt (refine' len_bb (by first | assumption | (first | lia | omega)) ?_); intro t'9z k'9z))
  k_with "subscriptTail" => ((k_here; (with_reducible show wpAny _ _ (subscriptTail _ (Expr.Slice _ _ none _) (Value.bytes _ _) (Value.ref _)) _ _ _); (with_reducible rename Fr _ _ _ _ => F'9z); (with_reducible rename News _ _ _ _ => N'9z); (refine KBc.slice_K (s := ⟨_, _, _, _, _⟩) F'9z N'9z (ks := KBw.bInts _) rfl (by constructor) (by constructor) (by (rw [KBw.ints_length]; (first | lia | omega))) ?_); intro _ _ _ _ _ kbcK9z; clear kbcK9z))
  trivial
theorem ln_b {ob : Array UInt8} {k : Int} (h0 : 0 ≤ k) (hkl : k ≤ ob.size) : (((nlAt (bNs (KBy.picked ob none (some k))) 0).length : Nat) : Int) + 1 = lnOf (bNs ob) k := by
  rw [picked_bNs ob h0 hkl]; rfl
theorem picked_len {ob : Array UInt8} {k : Int} (h0 : 0 ≤ k) (hkl : k ≤ ob.size) : ((KBy.picked ob none (some k)).size : Int) = k := by
  rw [← bNs_len, picked_bNs ob h0 hkl, List.length_take, bNs_len]; (first | lia | omega)
theorem col_b {ob y : Array UInt8} {k : Int} (h0 : 0 ≤ k) (hkl : k ≤ ob.size) (hy : y.size = (KBy.picked ob none (some k)).size - lineBegin (bNs (KBy.picked ob none (some k)))) : k - ((KBy.picked ob none (some k)).size : Int) + (y.size : Int) + 1 = clOf (bNs ob) k := by
  have h3 := lineBegin_rf (bNs (KBy.picked ob none (some k)))
  rw [bNs_len] at h3
  have h4 := col_eq (picked_len h0 hkl) rfl hy h3
  rw [h4, picked_bNs ob h0 hkl]
  rfl
section
variable {w : World} {mg mb : Str → Option Value} {p : Program} {loose : List Str} {mean : ExcName → Option Value}
    {dp un : Nat} {gd : Option (List Code)} {cn : Str} {cs : Scope} {a : Addr} {ccd : Value} {cl : List (Str × Addr)} {outer : List Env} {A₀ : Around} {base h₀ : Heap} {L : Addr} {m : Str → Option Value} {s : Shared}
    {Q E : Value → Shared → Prop} {news : List (Addr × Obj)} {ob : Array UInt8} {k : Int} {tx tm tk : Tok} {inn : Bool}
set_option maxRecDepth 100000 in
set_option maxHeartbeats 3000000 in
theorem words_b
    (B : Below A₀ base outer h₀) (F : Fr h₀ L s.heap m) (X : (Mine.hd.heap_39 w.params).In h₀)
    (N : News h₀ L s.heap news)
    (T : Top p loose mean mg mb h₀) (XB : (Mine.hd.heap_39 w.params).In base) (TB : Top p loose mean mg mb base) (D : KtsDicts (outer.filterMap (·.frame)) h₀)
    (hk : cs.kind = .function) (hdp : dp + 4 < recursionLimit) (hun : un + 40 < cLine) (hsz : ob.size < 1000) (h0 : 0 ≤ k) (hkl : k ≤ ob.size)
    (hsl : (KBy.picked ob none (some k)).size ≤ 1000)
    (hnn : 1 ≤ (nlAt (bNs ob) 0).length ∨ (nlAt (bNs ob) 0).length = 0) (hn1 : (nlAt (bNs ob) 0).length ≤ 1000) (hn2 : (nlAt (bNs (KBy.picked ob none (some k))) 0).length ≤ 1000)
    (hret : ∀ h' tk' D lst, Told (bNs ob) (.bytes ob tx) k lst → Fr h₀ L h' m → News h₀ L h' ((D, PySem.W.listOf lst.toArray 0) :: news) → AllLt D news → Q (.ref D) { s with heap := h', toks := tk' }) :
    wpAny (model PySem.Challenge.rw_aa0047_01.row.prog w) (ktrTop dp un gd cn cs L a ccd cl outer) (call (.ref 149) [.bytes ob tx, .str (Str.ofString "bad escape (end of pattern)") tm, .int k tk]) Q E s := by
  revert X; k_fill; intro X
  rcases hnn with hnn | hnn
  · refine wpAny_call ?_
    k_dflt walk_at "mine enter"
    k_steps
    have hin : inOf (bNs ob) = true := by
      unfold inOf
      cases q : nlAt (bNs ob) 0 with
      | nil => rw [q] at hnn; simp at hnn
      | cons a r => rfl
    refine' hret _ _ _ _ (told_of ?zl ?zc ?zw) ?zF (news_sub ?zN (sub1 ?zs ?zr)) ?zA
    case zF => k_asm
    case zN => k_asm
    case zs => exact .head _
    case zr =>
      intro q hq
      simp [hq]
    case zA =>
      (with_reducible rename _ ∧ _ => hlt)
      exact hlt.2.2
    case zl => exact ln_b h0 hkl
    case zc => exact col_b h0 hkl (by assumption)
    case zw => (rw [hin]; exact words_t)
  · refine wpAny_call ?_
    k_dflt walk_at "mine enter"
    k_steps
    have hin : inOf (bNs ob) = false := by
      unfold inOf
      rw [List.length_eq_zero_iff.mp hnn]
      rfl
    refine' hret _ _ _ _ (told_of ?zl ?zc ?zw) ?zF (news_sub ?zN (sub1 ?zs ?zr)) ?zA
    case zF => k_asm
    case zN => k_asm
    case zs => exact .head _
    case zr =>
      intro q hq
      simp [hq]
    case zA =>
      (with_reducible rename _ ∧ _ => hlt)
      exact hlt.2.2
    case zl => exact ln_b h0 hkl
    case zc => exact col_b h0 hkl (by assumption)
    case zw => (rw [hin]; rfl)
end
end
section
open PySem PySem.W PyProof.Rows
theorem linesCE : True := by
  w_on
  w_top off
  k_with_none
  k_with "mine pick" => ((with_reducible (repeat (first | exact Pick.head | apply Pick.tail))))
  k_with "mine enter" => ((refine' code_defSG (by k_asm) (by k_asm) (by k_asm) (by k_asm) (by k_asm) (by assumption) (by assumption) (by assumption) (by exact KtsTurn.refl) (by exact rfl) (by exact rfl) (by first | exact rfl | assumption) (by k_is) (by k_is) (by ktr_room) (by first | exact BindsTo.of_eq rfl | exact binds_K (by k_in) rfl (by k_is) rfl rfl rfl) (by exact locs rfl) ?_ (by exact rfl) (by exact rfl) (by exact rfl) (by decide); k_whole; intro g'9z L'9z h'9z FG'9z F'9z N'9z B'9z X'9z T'9z D'9z l19z; (try dsimp only); (try k_lift B'9z); (try k_fold)))
  k_with "compareOp NotIn str ref" => ((k_here; k_dflt (refine' notin_some (by exact News.isTup (by k_asm) (by k_mem)) (by assumption) ?_)))
  k_with "compareOp NotIn none ref" => ((k_here; k_dflt (refine' notin_no (by exact News.isTup (by k_asm) (by k_mem)) (by assumption) ?_)))
  k_with "ite" => (first | refine ite_in (by with_reducible assumption) ?_ | refine ite_out (by with_reducible assumption) ?_)
  k_with "call ref" => ((k_here; (k_dflt (show wpAny _ _ (PySem.call (Value.ref 65) [Value.ref _]) _ _ _)); k_dflt (refine' next_ok (by k_asm) (by k_asm) (by k_asm) (by refine' news_pick2 (by k_asm) (by walk_at "mine pick") (by walk_at "mine pick")) (by exact off2 (by k_all) (by k_all)) (by assumption) (by k_asm) (by assumption) (by assumption) (by assumption) (by first | exact rfl | assumption) (by ktr_room) (by ktr_units) (by first | assumption | (first | lia | omega)) (by assumption) (by assumption) ?_; k_whole); intro g'9z h'9z tk'9z t69z v9z kT9z hv9z F'9z N'9z B'9z X'9z T'9z D'9z; (first | (replace kT9z := KtsTurn.trans (by with_reducible assumption) kT9z) | skip); (first | (obtain ⟨tv9z, ev9z⟩ := hv9z; subst ev9z) | (have ev9z := hv9z; change _ = Value.none at ev9z; subst ev9z) | skip); (try dsimp only); (try k_fold)))
  k_with "exec For Name Call cons nil" => ((k_here; k_dflt (refine' For_range (L := _) rfl rfl rfl rfl ?_)))
  k_with "LoopPost" => (first | ((with_reducible show LoopPost _ _ _ _ _ _ Flow.brk _); dsimp only [LoopPost]) | ((with_reducible show LoopPost _ _ _ _ _ _ (Flow.ret _) _); dsimp only [LoopPost]))
  trivial
section
variable {w : World} {mg mb : Str → Option Value} {p : Program} {loose : List Str} {mean : ExcName → Option Value}
    {dp un : Nat} {gd : Option (List Code)} {cn : Str} {cs : Scope} {a : Addr} {ccd : Value} {cl : List (Str × Addr)} {outer : List Env} {A₀ : Around} {base h₀ : Heap} {L : Addr} {m : Str → Option Value} {s : Shared}
    {Q E : Value → Shared → Prop} {news : List (Addr × Obj)} {txt : Str} {tx : Tok} {o : Option Str} {i' : Int}
set_option maxRecDepth 100000 in
set_option maxHeartbeats 1500000 in
theorem tok_s
    (B : Below A₀ base outer h₀) (F : Fr h₀ L s.heap m) (X : (Mine.hd.heap_39 w.params).In h₀)
    (N : News h₀ L s.heap news)
    (T : Top p loose mean mg mb h₀) (XB : (Mine.hd.heap_39 w.params).In base) (TB : Top p loose mean mg mb base) (D : KtsDicts (outer.filterMap (·.frame)) h₀)
    (hk : cs.kind = .function) (hdp : dp + 8 < recursionLimit) (hun : un + 120 < cLine) (hsz : txt.length < 1000) (hst : StepAt txt 0 o i')
    (hret : ∀ h₀' h' tk' x d t1 t2 t3 t4 t5 t6 v, KtsTurn (outer.filterMap (·.frame)) h₀ h₀' → IsTok o v → Fr h₀' L h' m → News h₀' L h' ((d, tokD w t1 t2 t3 t4 t5 true (.str txt tx) txt tx i' t6 v) :: (x, instObj 133 d) :: news) → (∀ p ∈ news, @LT.lt Nat _ p.1 d) → @LT.lt Nat _ d x →
      Below A₀ base outer h₀' → (Mine.hd.heap_39 w.params).In h₀' → Top p loose mean mg mb h₀' → KtsDicts (outer.filterMap (·.frame)) h₀' → Q (.ref x) { s with heap := h', toks := tk' }) :
    wpAny (model PySem.Challenge.rw_aa0047_01.row.prog w) (ktrTop dp un gd cn cs L a ccd cl outer) (call (.ref 133) [.str txt tx]) Q E s := by
  revert X; k_fill; intro X
  refine' wpAny_call (make_K F N (X.keeps F.keep) ?zm ?zi ?zf ?_)
  case zm => k_is
  case zi => k_is
  case zf => k_is
  intro x d h1 F1 N1 lnew ldx
  replace N1 : News h₀ L h1 ((x, instObj 133 d) :: (d, PySem.W.dictOf [] 0) :: news) := N1
  replace ldx : @LT.lt Nat _ d x := ldx
  k_dflt (refine' code_defSG ?k1 ?k2 ?k3 ?k4 ?k5 ?XB ?TB ?D ?T0 ?kA ?kF ?kK ?k6 ?k7 ?k8 ?k9 ?kB ?_ ?c2 ?c3 ?c4 ?c5; (case kA => exact rfl); (case kF => exact rfl); (case kK => first | exact rfl | assumption); (case k2 => k_asm); (case k1 => k_asm); (case XB => assumption); (case TB => assumption); (case D => assumption); (case T0 => exact KtsTurn.refl); (case k3 => k_asm); (case k4 => k_asm); (case k5 => k_asm); (case k6 => k_is); (case k7 => k_is); (case k8 => (rw [depth_under_make]; (show dp + 1 < recursionLimit); (first | lia | omega))); (case k9 => first | exact BindsTo.of_eq rfl | exact binds_K (by k_in) rfl (by k_is) rfl rfl rfl); (case kB => exact locs rfl); (case c2 => exact rfl); (case c3 => exact rfl); (case c4 => exact rfl); (case c5 => decide); k_whole; intro g' L' h' FG' F' N' B' X' T' D' l1; (try dsimp only); (try k_lift B'); (try k_fold))
  k_steps
  k_dflt (show wpAny _ _ (call (.ref 65) [.ref x]) _ _ _)
  k_dflt (refine' next_ok (rest := news) ?zB ?zF ?zX (news_pick2 ?zN ?z1 ?z2) ?zo ldx ?zT XB TB ?zD ?zk ?zdp ?zun (Int.le_refl 0) hst hsz ?_)
  case zB => k_asm
  case zF => k_asm
  case zX => k_asm
  case zN => k_asm
  case z1 => walk_at "mine pick"
  case z2 => walk_at "mine pick"
  case zo => exact off2 (fun p hp => Nat.ne_of_lt (lnew p hp)) (fun p hp => Nat.ne_of_lt (Nat.lt_trans (lnew p hp) ldx))
  case zT => k_asm
  case zD => assumption
  case zk => exact rfl
  case zdp => (show dp + 1 + 1 + 4 < recursionLimit; (first | lia | omega))
  case zun => first
    | (show un + 1 + 3 + 40 < cLine; (first | lia | omega))
    | (show un + 2 + 3 + 40 < cLine; (first | lia | omega))
    | (show un + 3 + 3 + 40 < cLine; (first | lia | omega))
    | (show un + 4 + 3 + 40 < cLine; (first | lia | omega))
  intro h₀2 h2 tk2 t6 v T1 hv F2 N2 B2 X2 T2 D2
  k_steps
  exact hret _ _ _ x d _ _ _ _ _ t6 v (by assumption) hv (by k_asm) (by k_asm) lnew ldx (by assumption) (by assumption) (by assumption) (by assumption)
end
end
section
open PySem PySem.W PyProof.Rows PySem.Calls PySem.Builtin PySem.Builtin._codecs
set_option maxRecDepth 100000
theorem latin_loop {α : Type} (b : Array UInt8) (st : α) (f : Nat → Nat × Array Nat × α → Sem (ForInStep (Nat × Array Nat × α)))
    (hf : ∀ x i out, i < b.size → out.size ≤ b.size → f x (i, out, st) = pure (ForInStep.yield (i + 1, out ++ #[(b.getD i 0).toNat], st))) :
    ∀ k i, i + k = b.size → forIn (List.range' i k) (i, ((bNs b).take i).toArray, st) f = pure (b.size, (bNs b).toArray, st)
  | 0, i, h => by
    have : i = b.size := by (first | lia | omega)
    subst this
    rw [List.take_of_length_le (Nat.le_of_eq (bNs_len b))]
    rfl
  | k + 1, i, h => by
    have hi : i < (bNs b).length := by rw [bNs_len]; (first | lia | omega)
    rw [List.range'_succ, List.forIn_cons, hf _ _ _ (by (first | lia | omega)) (by rw [List.size_toArray, List.length_take, bNs_len]; (first | lia | omega))]
    have e : ((bNs b).take i).toArray ++ #[(b.getD i 0).toNat] = ((bNs b).take (i + 1)).toArray := by
      rw [take_at _ i hi]
      have hb : (bNs b)[i] = (b.getD i 0).toNat := by
        have h' : i < b.size := by (first | lia | omega)
        simp [Array.getD, h']
      rw [hb]
      simp
    show (forIn (List.range' (i + 1) k) (i + 1, ((bNs b).take i).toArray ++ #[(b.getD i 0).toNat], st) f : Sem _) = _
    rw [e]
    exact latin_loop b st f hf k (i + 1) (by (first | lia | omega))
theorem latin_run (id : String) (b : Array UInt8) (hsz : b.size ≤ 1000) : runDecoder id latin1Decoder none true b 0 [] = pure ((bNs b).toArray, b.size) := by
  unfold runDecoder
  dsimp only
  rw [KPc.range_list]
  refine Eq.trans (congrArg (fun m : Sem (Nat × Array Nat × Faults) => m >>= fun s => pure (s.2.1, s.1)) (latin_loop (α := Faults) b {} _ (fun x i out hi ho => ?_) b.size 0 (Nat.zero_add _))) rfl
  dsimp only
  rw [if_neg (by rw [sizeLine_eq]; (first | lia | omega)), if_neg (by (first | lia | omega))]
  show (pure (ForInStep.yield (i + 1, out ++ [(b.getD i 0).toNat].toArray, _)) : Sem _) = _
  rfl
end
section
open PySem PySem.W PyProof.Rows PySem.Calls PySem.Builtin
set_option maxRecDepth 100000
noncomputable abbrev lat : Str := Str.ofString "latin1"
theorem lroad_eq {id : String} {b : Array UInt8} : _codecs.decodeRoad id b lat none [] = (_codecs.runDecoder id _codecs.latin1Decoder none true b 0 [] >>= fun r => mkStr ⟨r.1⟩) := by kernel_rfl
theorem ltext {b : Array UInt8} {t t1 t2 : Tok} {d : Str} (hsz : b.size ≤ 1000) :
    Meets («_codecs.decode.text» ⟨[.bytes b t, .str lat t1, .none, .str d t2], []⟩) (fun _ R s => R (.ok (.ret (.str ⟨(bNs b).toArray⟩ s.toks))) { s with toks := s.toks + 1 }) := by
  refine .of_wp fun prog w A R s h => ?_
  show wpAny _ _ (Bytes.bytesLike _ (.bytes b t) >>= fun r => _) _ _ s
  refine wpAny_bind (wpAny_of_eq KBd.like_eq ?_)
  refine wpAny_bind (wpAny_of_eq KBd.held_eq ?_)
  show wpAny _ _ (_codecs.decodeRoad _ b lat none [] >>= fun v => _) _ _ s
  rw [lroad_eq, latin_run _ _ hsz]
  refine wpAny_bind (wpAny_bind (wpAny_pure ?_))
  exact wpAny_mkStr (wpAny_pure ⟨_, rfl, h⟩) (by
    show ((bNs b).toArray).size ≤ _
    rw [List.size_toArray, bNs_len, sizeLine_eq]; (first | lia | omega))
theorem ldec_eq {c : UInt8} {cs : List UInt8} {t t1 : Tok} : «bytes.decode» ⟨[.bytes (c :: cs).toArray t], [(Str.ofString "encoding", .str lat t1)]⟩ = (mkStr (Str.ofString "utf-8") >>= fun _ => mkStr lat >>= fun e => mkStr (Str.ofString "bytes.decode") >>= fun d =>
    call (.builtin "_codecs.decode.text") [.bytes (c :: cs).toArray t, e, .none, d] >>= fun v => ret v) := by kernel_rfl
end
section
open PySem PySem.W PyProof.Rows PySem.Calls PySem.Builtin
set_option maxRecDepth 100000
theorem tcall2 (a b : Value) : checkTypeCall "str" ⟨[a, b], []⟩ = pure () := by kernel_rfl
theorem ncall2 (a b : Value) : checkBuiltinCall "str.__new__" ⟨[.type "str", a, b], []⟩ = pure () := by kernel_rfl
theorem bsub : isSubtype (.type "bytes") (.type "bytes") = pure true := by rw [isSubtype_type]; kernel_rfl
section
variable {prog : Program} {w : World} {A : Around} {E : Value → Shared → Prop} {s : Shared}
theorem snew_run {v : Value} {t1 : Tok} {Q : Fin → Shared → Prop} (hv : isInstance v (.type "bytes") = pure true)
    (h : wpAny (model prog w) A (call (.builtin "bytes.decode") [v] [(Str.ofString "encoding", .str lat s.toks)]) (fun r s' => Q (.done (.ret r)) s') E { s with toks := s.toks + 1 }) :
    wpAny (model prog w) A («str.__new__» ⟨[.type "str", v, .str lat t1], []⟩) Q E s := by
  unfold «str.__new__»
  refine wpAny_bind (wpAny_pure (a := true) ?_)
  refine wpAny_bind (wpAny_of_eq isSubtype_str_str ?_)
  refine wpAny_bind (wpAny_pure (a := [some v, some (.str lat t1), none]) ?_)
  refine wpAny_bind (wpAny_of_eq (a := some lat) (by kernel_rfl) ?_)
  refine wpAny_bind (wpAny_pure (a := none) ?_)
  refine wpAny_bind ?_
  refine wpAny_bind (wpAny_bind (wpAny_mkStr ?_ (by rw [sizeLine_eq]; exact Nat.le_of_ble_eq_true rfl)))
  refine wpAny_pure (wpAny_bind (wpAny_pure (a := []) ?_))
  refine wpAny_bind (wpAny_of_eq hv ?_)
  refine wpAny_bind (wpAny_rule ?_)
  exact wpAny_mono h (fun r s' hr => wpAny_pure hr) fun _ _ e => e
theorem ldec_call {c : UInt8} {cs : List UInt8} {t t1 : Tok} {Q : Value → Shared → Prop} (hsz : (c :: cs).length ≤ 1000) (h : ∀ t' k, Q (.str ⟨(bNs (c :: cs).toArray).toArray⟩ t') { s with toks := k }) :
    wpAny (model prog w) A (call (.builtin "bytes.decode") [.bytes (c :: cs).toArray t] [(Str.ofString "encoding", .str lat t1)]) Q E s := by
  refine wpAny_call_entry_kw FB.slot_bytes_decode (typeIs_bytes _ _ _) FB.entry_bytes_decode ?_ (by unfold argsOk; kernel_rfl)
  rw [ldec_eq]
  refine wpAny_bind (wpAny_mkStr ?_ (by decide))
  refine wpAny_bind (wpAny_mkStr ?_ (by decide))
  refine wpAny_bind (wpAny_mkStr ?_ (by decide))
  exact wpAny_bind (call_function_meets KBd.kind_text KBd.plain_text KBd.entry_text (KBd.args_text _ _ _ _) (ltext (by rw [List.size_toArray]; exact hsz)) (wpAny_pure ⟨_, rfl, h _ _⟩))
theorem oi3 (a b c : Value) : argsOk "object.__init__" ⟨[a, b, c], []⟩ := by unfold argsOk; kernel_rfl
theorem str_lat {c : UInt8} {cs : List UInt8} {t t1 : Tok} {Q : Value → Shared → Prop} (hsz : (c :: cs).length ≤ 1000) (h : ∀ t' k, Q (.str ⟨(bNs (c :: cs).toArray).toArray⟩ t') { s with toks := k }) :
    wpAny (model prog w) A (call (.type "str") [.bytes (c :: cs).toArray t, .str lat t1]) Q E s := by
  refine callType_codes (T := "str") (Bi := Builtin.«object.__init__») (Q₁ := fun r s₁ => ∃ y u, r = .str y u ∧ Q r s₁) PySem.F.called_str (tcall2 _ _) PySem.F.entry_object_init ?_ ?_
  · refine codeAny_of_tree ?_
    show wpAny _ A.in1.in1 (do checkBuiltinCall "str.__new__" ⟨[.type "str", .bytes (c :: cs).toArray t, .str lat t1], []⟩; again (.builtin "str.__new__" ⟨[.type "str", .bytes (c :: cs).toArray t, .str lat t1], []⟩)) _ _ s
    refine wpAny_bind (wpAny_of_eq (ncall2 _ _) (wpAny_pure ⟨plainId_quiet (by decide +kernel) _, codeAny_builtin PySem.F.entry_str_new ?_⟩))
    rw [Around.under_plainId (by decide +kernel) _]
    have hb : isInstance (.bytes (c :: cs).toArray t) (.type "bytes") = pure true := bsub
    exact snew_run hb (ldec_call hsz fun t' k => ⟨_, _, rfl, h t' k⟩)
  · rintro obj s₁ ⟨y, u, rfl, hq⟩
    exact ⟨typeIs_str _ _ _, oi3 _ _ _, object_init_meets PySem.F.called_str.init.lookup PySem.F.called_str.made (by decide) prog w A.in1 _ s₁ ⟨typeIs_str _ _ _, rfl, hq⟩⟩
end
end
section
open PySem PySem.W PyProof.Rows
theorem linesCF : True := by
  w_on
  w_top off
  k_with_none
  k_with "mine pick" => ((with_reducible (repeat (first | exact Pick.head | apply Pick.tail))))
  k_with "mine enter" => ((refine' code_defSG (by k_asm) (by k_asm) (by k_asm) (by k_asm) (by k_asm) (by assumption) (by assumption) (by assumption) (by exact KtsTurn.refl) (by exact rfl) (by exact rfl) (by first | exact rfl | assumption) (by k_is) (by k_is) (by ktr_room) (by first | exact BindsTo.of_eq rfl | exact binds_K (by k_in) rfl (by k_is) rfl rfl rfl) (by exact locs rfl) ?_ (by exact rfl) (by exact rfl) (by exact rfl) (by decide); k_whole; intro g'9z L'9z h'9z FG'9z F'9z N'9z B'9z X'9z T'9z D'9z l19z; (try dsimp only); (try k_lift B'9z); (try k_fold)))
  k_with "compareOp NotIn str ref" => ((k_here; k_dflt (refine' notin_some (by exact News.isTup (by k_asm) (by k_mem)) (by assumption) ?_)))
  k_with "compareOp NotIn none ref" => ((k_here; k_dflt (refine' notin_no (by exact News.isTup (by k_asm) (by k_mem)) (by assumption) ?_)))
  k_with "ite" => (first | refine ite_in (by with_reducible assumption) ?_ | refine ite_out (by with_reducible assumption) ?_)
  k_with "call ref" => ((k_here; (k_dflt (show wpAny _ _ (PySem.call (Value.ref 65) [Value.ref _]) _ _ _)); k_dflt (refine' next_ok (by k_asm) (by k_asm) (by k_asm) (by refine' news_pick2 (by k_asm) (by walk_at "mine pick") (by walk_at "mine pick")) (by exact off2 (by k_all) (by k_all)) (by assumption) (by k_asm) (by assumption) (by assumption) (by assumption) (by first | exact rfl | assumption) (by ktr_room) (by ktr_units) (by first | assumption | (first | lia | omega)) (by assumption) (by assumption) ?_; k_whole); intro g'9z h'9z tk'9z t69z v9z kT9z hv9z F'9z N'9z B'9z X'9z T'9z D'9z; (first | (replace kT9z := KtsTurn.trans (by with_reducible assumption) kT9z) | skip); (first | (obtain ⟨tv9z, ev9z⟩ := hv9z; subst ev9z) | (have ev9z := hv9z; change _ = Value.none at ev9z; subst ev9z) | skip); (try dsimp only); (try k_fold)))
  k_with "exec For Name Call cons nil" => ((k_here; k_dflt (refine' For_range (L := _) rfl rfl rfl rfl ?_)))
  k_with "LoopPost" => (first | ((with_reducible show LoopPost _ _ _ _ _ _ Flow.brk _); dsimp only [LoopPost]) | ((with_reducible show LoopPost _ _ _ _ _ _ (Flow.ret _) _); dsimp only [LoopPost]))
  trivial
theorem str_lat' {prog : Program} {w : World} {A : Around} {E : Value → Shared → Prop} {s : Shared} {c : UInt8} {cs : List UInt8} {txt : Str} {t t1 : Tok} {Q : Value → Shared → Prop} (hsz : (c :: cs).length ≤ 1000) (he : (⟨(bNs (c :: cs).toArray).toArray⟩ : Str) = txt) (h : ∀ t' k, Q (.str txt t') { s with toks := k }) :
    wpAny (model prog w) A (call (.type "str") [.bytes (c :: cs).toArray t, .str lat t1]) Q E s := by
  subst he
  exact str_lat hsz h

theorem linesCFx2 : True := by
  k_with "call type:str" => ((k_here; k_dflt (refine' str_lat' (by assumption) (by assumption) ?_); intro t'9z k'9z))
  trivial
section
variable {w : World} {mg mb : Str → Option Value} {p : Program} {loose : List Str} {mean : ExcName → Option Value}
    {dp un : Nat} {gd : Option (List Code)} {cn : Str} {cs : Scope} {a : Addr} {ccd : Value} {cl : List (Str × Addr)} {outer : List Env} {A₀ : Around} {base h₀ : Heap} {L : Addr} {m : Str → Option Value} {s : Shared}
    {Q E : Value → Shared → Prop} {news : List (Addr × Obj)} {c : UInt8} {bcs : List UInt8} {txt : Str} {tx : Tok} {o : Option Str} {i' : Int}
set_option maxRecDepth 100000 in
set_option maxHeartbeats 1500000 in
theorem tok_b
    (B : Below A₀ base outer h₀) (F : Fr h₀ L s.heap m) (X : (Mine.hd.heap_39 w.params).In h₀)
    (N : News h₀ L s.heap news)
    (T : Top p loose mean mg mb h₀) (XB : (Mine.hd.heap_39 w.params).In base) (TB : Top p loose mean mg mb base) (D : KtsDicts (outer.filterMap (·.frame)) h₀)
    (hk : cs.kind = .function) (hdp : dp + 8 < recursionLimit) (hun : un + 120 < cLine) (hsz : txt.length < 1000) (hbl : (c :: bcs).length ≤ 1000) (htx : (⟨(bNs (c :: bcs).toArray).toArray⟩ : Str) = txt) (hst : StepAt txt 0 o i')
    (hret : ∀ h₀' h' tk' x d t1 t2 t3 t4 t5 t6 v tt, KtsTurn (outer.filterMap (·.frame)) h₀ h₀' → IsTok o v → Fr h₀' L h' m → News h₀' L h' ((d, tokD w t1 t2 t3 t4 t5 false (.bytes (c :: bcs).toArray tx) txt tt i' t6 v) :: (x, instObj 133 d) :: news) → (∀ p ∈ news, @LT.lt Nat _ p.1 d) → @LT.lt Nat _ d x →
      Below A₀ base outer h₀' → (Mine.hd.heap_39 w.params).In h₀' → Top p loose mean mg mb h₀' → KtsDicts (outer.filterMap (·.frame)) h₀' → Q (.ref x) { s with heap := h', toks := tk' }) :
    wpAny (model PySem.Challenge.rw_aa0047_01.row.prog w) (ktrTop dp un gd cn cs L a ccd cl outer) (call (.ref 133) [.bytes (c :: bcs).toArray tx]) Q E s := by
  revert X; k_fill; intro X
  refine' wpAny_call (make_K F N (X.keeps F.keep) ?zm ?zi ?zf ?_)
  case zm => k_is
  case zi => k_is
  case zf => k_is
  intro x d h1 F1 N1 lnew ldx
  replace N1 : News h₀ L h1 ((x, instObj 133 d) :: (d, PySem.W.dictOf [] 0) :: news) := N1
  replace ldx : @LT.lt Nat _ d x := ldx
  k_dflt (refine' code_defSG ?k1 ?k2 ?k3 ?k4 ?k5 ?XB ?TB ?D ?T0 ?kA ?kF ?kK ?k6 ?k7 ?k8 ?k9 ?kB ?_ ?c2 ?c3 ?c4 ?c5; (case kA => exact rfl); (case kF => exact rfl); (case kK => first | exact rfl | assumption); (case k2 => k_asm); (case k1 => k_asm); (case XB => assumption); (case TB => assumption); (case D => assumption); (case T0 => exact KtsTurn.refl); (case k3 => k_asm); (case k4 => k_asm); (case k5 => k_asm); (case k6 => k_is); (case k7 => k_is); (case k8 => (rw [depth_under_make]; (show dp + 1 < recursionLimit); (first | lia | omega))); (case k9 => first | exact BindsTo.of_eq rfl | exact binds_K (by k_in) rfl (by k_is) rfl rfl rfl); (case kB => exact locs rfl); (case c2 => exact rfl); (case c3 => exact rfl); (case c4 => exact rfl); (case c5 => decide); k_whole; intro g' L' h' FG' F' N' B' X' T' D' l1; (try dsimp only); (try k_lift B'); (try k_fold))
  k_steps
  k_dflt (show wpAny _ _ (call (.ref 65) [.ref x]) _ _ _)
  k_dflt (refine' next_ok (rest := news) ?zB ?zF ?zX (news_pick2 ?zN ?z1 ?z2) ?zo ldx ?zT XB TB ?zD ?zk ?zdp ?zun (Int.le_refl 0) hst hsz ?_)
  case zB => k_asm
  case zF => k_asm
  case zX => k_asm
  case zN => k_asm
  case z1 => walk_at "mine pick"
  case z2 => walk_at "mine pick"
  case zo => exact off2 (fun p hp => Nat.ne_of_lt (lnew p hp)) (fun p hp => Nat.ne_of_lt (Nat.lt_trans (lnew p hp) ldx))
  case zT => k_asm
  case zD => assumption
  case zk => exact rfl
  case zdp => (show dp + 1 + 1 + 4 < recursionLimit; (first | lia | omega))
  case zun => first
    | (show un + 1 + 3 + 40 < cLine; (first | lia | omega))
    | (show un + 2 + 3 + 40 < cLine; (first | lia | omega))
    | (show un + 3 + 3 + 40 < cLine; (first | lia | omega))
    | (show un + 4 + 3 + 40 < cLine; (first | lia | omega))
  intro h₀2 h2 tk2 t6 v T1 hv F2 N2 B2 X2 T2 D2
  k_steps
  exact hret _ _ _ x d _ _ _ _ _ t6 v _ (by assumption) hv (by k_asm) (by k_asm) lnew ldx (by assumption) (by assumption) (by assumption) (by assumption)
end
end
section
open PySem PySem.W PyProof.Rows
/-- the law's own statements and scope, out of the row -/
noncomputable def lawDef : List Stmt × Scope := match PySem.Challenge.pw_aa0047_01.main.body.getLast? with
  | some (.FunctionDef _ _ b _ _ _ sc _ _ _) => (b, sc)
  | _ => ([], { kind := .function, names := [], isGenerator := false, isCoroutine := false })
noncomputable def stAt (l : List Stmt) (i : Nat) : Stmt := (l[i]?).getD (.Pass ⟨0, 0, 0, 0⟩)
noncomputable def forBody : Stmt → List Stmt
  | .For _ _ b _ _ => b
  | _ => []
noncomputable def ifBody : Stmt → List Stmt
  | .If _ b _ _ => b
  | _ => []
noncomputable def ifElse : Stmt → List Stmt
  | .If _ _ b _ => b
  | _ => []
noncomputable def bodyA : List Stmt := forBody (stAt lawDef.1 2)
noncomputable def bodyB : List Stmt := forBody (stAt lawDef.1 6)
noncomputable def bodyC : List Stmt := forBody (stAt bodyB 2)
noncomputable def bodyD : List Stmt := forBody (stAt bodyC 2)
noncomputable def bodyE : List Stmt := forBody (stAt (ifBody (stAt bodyD 2)) 0)
noncomputable abbrev lenv (L fa : Addr) (cd : Value) : Env := envOfC (Str.ofString "law") lawDef.2 L fa cd
noncomputable abbrev lA (L fa : Addr) (cd : Value) : Around := callerA.deeper (lenv L fa cd)
noncomputable abbrev lM (w : World) : Model := model PySem.Challenge.rw_aa0047_01.row.prog w
theorem lsc_fun : lawDef.2.kind = .function := by rfl
end
section
open PySem PySem.W PyProof.Rows
/-- the ground on which the law runs -/
structure LG (w : World) (p : Program) (loose : List Str) (mean : ExcName → Option Value) (mg mb : Str → Option Value) (G : Heap) : Prop where
  B : Below callerA G [] G
  X : (Mine.hd.heap_39 w.params).In G
  T : Top p loose mean mg mb G
noncomputable abbrev tup (vs : List Value) : Obj := { cls := .type "tuple", data := .seq vs.toArray }
section
variable {w : World} {mg mb : Str → Option Value} {p : Program} {loose : List Str} {mean : ExcName → Option Value}
    {fa : Addr} {cd : Value} {G : Heap} {L : Addr} {m : Str → Option Value} {s : Shared}
    {Q E : Value → Shared → Prop} {x d kt : Addr} {rest : List (Addr × Obj)} {t1 t2 t3 t4 t5 : Tok} {b : Bool} {sv : Value} {txt : Str} {tt : Tok} {i : Int} {ti : Tok} {nv : Value} {vs : List Value} {ys : List Str} {pl : List Nat}
theorem dict_nil {G : Heap} : KtsDicts (([] : List Env).filterMap (·.frame)) G := fun b hb => nomatch hb
theorem news_add {h₀ h : Heap} {p q r : Addr × Obj} {l : List (Addr × Obj)} (N : News h₀ L h (p :: q :: l)) (hm : r ∈ l) : News h₀ L h (p :: q :: r :: l) :=
  news_sub N fun z hz => by
    rcases List.mem_cons.mp hz with rfl | hz
    · exact .head _
    rcases List.mem_cons.mp hz with rfl | hz
    · exact .tail _ (.head _)
    rcases List.mem_cons.mp hz with rfl | hz
    · exact .tail _ (.tail _ hm)
    · exact .tail _ (.tail _ hz)
theorem news_del {h₀ h : Heap} {p q r : Addr × Obj} {l : List (Addr × Obj)} (N : News h₀ L h (p :: q :: r :: l)) : News h₀ L h (p :: q :: l) :=
  news_sub N fun z hz => by
    rcases List.mem_cons.mp hz with rfl | hz
    · exact .head _
    rcases List.mem_cons.mp hz with rfl | hz
    · exact .tail _ (.head _)
    · exact .tail _ (.tail _ (.tail _ hz))

theorem gwL {n : Int} {tn : Tok} {c : Str} {tc : Tok} {l : List Str} {o : Option Str} {i' : Int} (H : LG w p loose mean mg mb G) (F : Fr G L s.heap m)
    (N : News G L s.heap ((d, tokD w t1 t2 t3 t4 t5 b sv txt tt i ti (.str c tc)) :: (x, instObj 133 d) :: rest)) (hkt : (kt, tup vs) ∈ rest) (hoff : OwnOff rest [d, x]) (hdx : @LT.lt Nat _ d x) (hxk : @LT.lt Nat _ kt d) (hst : StrsAre vs ys)
    (h0 : 0 ≤ i) (hrun : Run txt i l o i') (hsz : txt.length < 1000) (hin : ∀ x ∈ c :: l, inSet (some x) ys = true ∧ x.length ≤ 2)
    (hn : n ≤ 63) (hln : (l.length : Int) + 1 = n ∨ ((l.length : Int) + 1 < n ∧ inSet o ys = false))
    (hret : ∀ h' tk' t6 v tr, IsTok o v → Fr G L h' m → News G L h' ((d, tokD w t1 t2 t3 t4 t5 b sv txt tt i' t6 v) :: (x, instObj 133 d) :: rest) → Q (.str (catS (c :: l)) tr) { s with heap := h', toks := tk' }) :
    wpAny (lM w) (lA L fa cd) (call (.ref 86) [.ref x, .int n tn, .ref kt]) Q E s := by
  k_dflt (refine' gw_ok H.B F H.X (news_add N hkt) hoff hdx hxk H.T H.X H.T dict_nil lsc_fun ?z1 ?z2 hst h0 hrun hsz hin hn hln ?_)
  case z1 => ktr_room
  case z2 => ktr_units
  intro h₀' h' tk' t6 v tr kT hv F' N' _ _ _ _
  exact hret _ _ _ _ _ hv (turn_nil_fr kT F') (news_del (turn_nil_news kT N'))
theorem gwN {n : Int} {tn : Tok} {o : Option Str} {v : Value} (H : LG w p loose mean mg mb G) (F : Fr G L s.heap m)
    (N : News G L s.heap ((d, tokD w t1 t2 t3 t4 t5 b sv txt tt i ti v) :: (x, instObj 133 d) :: rest)) (hkt : (kt, tup vs) ∈ rest) (hdx : @LT.lt Nat _ d x) (hxk : @LT.lt Nat _ kt d) (hst : StrsAre vs ys)
    (hn0 : -63 ≤ n) (hn : n ≤ 63) (hv : IsTok o v) (hin : n ≤ 0 ∨ inSet o ys = false)
    (hret : ∀ h' tk' tr, Fr G L h' m → News G L h' ((d, tokD w t1 t2 t3 t4 t5 b sv txt tt i ti v) :: (x, instObj 133 d) :: rest) → Q (.str (Str.ofString "") tr) { s with heap := h', toks := tk' }) :
    wpAny (lM w) (lA L fa cd) (call (.ref 86) [.ref x, .int n tn, .ref kt]) Q E s := by
  k_dflt (refine' gw_none H.B F H.X (news_add N hkt) hdx hxk H.T H.X H.T dict_nil lsc_fun ?z1 ?z2 hst hn0 hn hv hin ?_)
  case z1 => ktr_room
  case z2 => ktr_units
  intro h₀' h' tk' tr kT F' N' _ _ _ _
  exact hret _ _ _ (turn_nil_fr kT F') (news_del (turn_nil_news kT N'))
theorem refL {n : Int} {tn : Tok} {c z : Str} {tc : Tok} {l : List Str} {il : Int} (H : LG w p loose mean mg mb G) (hpat : PatIs txt sv pl) (F : Fr G L s.heap m)
    (N : News G L s.heap ((d, tokD w t1 t2 t3 t4 t5 b sv txt tt i ti (.str c tc)) :: (x, instObj 133 d) :: rest)) (hkt : (kt, tup vs) ∈ rest) (hoff : OwnOff rest [d, x]) (hdx : @LT.lt Nat _ d x) (hxk : @LT.lt Nat _ kt d) (hst : StrsAre vs ys)
    (h0 : 0 ≤ i) (hrun : BRun txt i l c z il) (hlone : Lone txt il) (hsz : txt.length < 1000) (hin : ∀ x ∈ c :: l, inSet (some x) ys = true ∧ x.length ≤ 2)
    (hn : n ≤ 63) (hln : (l.length : Int) + 1 ≤ n)
    (hret : ∀ h' tk' t6 v D lst, IsTok (some z) v → Told pl sv ((txt.length : Int) - 1) lst → Fr G L h' m →
      News G L h' ((D, PySem.W.listOf lst.toArray 0) :: (d, tokD w t1 t2 t3 t4 t5 b sv txt tt il t6 v) :: (x, instObj 133 d) :: rest) →
      AllLt D ((d, tokD w t1 t2 t3 t4 t5 b sv txt tt il t6 v) :: (x, instObj 133 d) :: rest) → Q (.ref D) { s with heap := h', toks := tk' }) :
    wpAny (lM w) (lA L fa cd) (call (.ref 163) [.ref x, .int n tn, .ref kt]) Q E s := by
  k_dflt (refine' refusal_ok hpat H.B F H.X (news_add N hkt) hoff hdx hxk H.T H.X H.T dict_nil lsc_fun ?z1 ?z2 hst h0 hrun hlone hsz hin hn hln ?_)
  case z1 => ktr_room
  case z2 => ktr_units
  intro h₀' h' tk' t6 v D lst kT hv ht F' N' hlt _ _ _ _
  have N2 := turn_nil_news kT N'
  refine hret _ _ _ _ _ _ hv ht (turn_nil_fr kT F') (news_sub N2 fun q hq => ?_) ⟨hlt.1, hlt.2.1, hlt.2.2.2⟩
  rcases List.mem_cons.mp hq with rfl | hq
  · exact .head _
  rcases List.mem_cons.mp hq with rfl | hq
  · exact .tail _ (.head _)
  rcases List.mem_cons.mp hq with rfl | hq
  · exact .tail _ (.tail _ (.head _))
  · exact .tail _ (.tail _ (.tail _ (.tail _ hq)))
theorem tellL {z : Str} {tz : Tok} (H : LG w p loose mean mg mb G) (F : Fr G L s.heap m)
    (N : News G L s.heap ((d, tokD w t1 t2 t3 t4 t5 b sv txt tt i ti (.str z tz)) :: (x, instObj 133 d) :: rest)) (hoff : OwnOff rest [d, x]) (hdx : @LT.lt Nat _ d x) (hz : 1 ≤ z.length) (hz2 : z.length ≤ 2)
    (hret : ∀ h' tk' ta, Fr G L h' m → News G L h' ((d, tokD w t1 t2 t3 t4 t5 b sv txt tt i ti (.str z tz)) :: (x, instObj 133 d) :: rest) → Q (.int (i - z.length) ta) { s with heap := h', toks := tk' }) :
    wpAny (lM w) (lA L fa cd) (call (.ref 108) [.ref x]) Q E s := by
  k_dflt (refine' tell_ok H.B F H.X N hoff hdx H.T H.X H.T dict_nil lsc_fun ?z1 ?z2 hz hz2 ?_)
  case z1 => ktr_room
  case z2 => ktr_units
  intro h₀' h' tk' ta kT F' N' _ _ _ _
  exact hret _ _ _ (turn_nil_fr kT F') (turn_nil_news kT N')
end
end
section
open PySem PySem.W PyProof.Rows PySem.Calls
theorem StrsAre.drop' {vs : List Value} {ys : List Str} (h : StrsAre vs ys) : ∀ n, StrsAre (vs.drop n) (ys.drop n) := by
  induction h with
  | nil => intro n; simp; exact .nil
  | cons y t h ih => intro n; cases n with
    | zero => exact .cons y t h
    | succ n => exact ih n
theorem StrsAre.take' {vs : List Value} {ys : List Str} (h : StrsAre vs ys) : ∀ n, StrsAre (vs.take n) (ys.take n) := by
  induction h with
  | nil => intro n; simp; exact .nil
  | cons y t h ih => intro n; cases n with
    | zero => exact .nil
    | succ n => exact .cons y t (ih n)
theorem StrsAre.append' {vs us : List Value} {ys zs : List Str} (h : StrsAre vs ys) (k : StrsAre us zs) : StrsAre (vs ++ us) (ys ++ zs) := by
  induction h with
  | nil => exact k
  | cons y t h ih => exact .cons y t ih
theorem take_min {α : Type} (l : List α) (a b : Nat) : (l.drop a).take (min b l.length - min a l.length) = (l.drop a).take (b - a) := by
  have h : (l.drop a).length = l.length - a := List.length_drop ..
  rcases Nat.le_total b l.length with hb | hb
  · rw [Nat.min_eq_left hb]
    rcases Nat.le_total a l.length with ha | ha
    · rw [Nat.min_eq_left ha]
    · rw [List.drop_of_length_le ha, List.take_nil, List.take_nil]
  · rw [Nat.min_eq_right hb]
    have e1 : (l.drop a).take (b - a) = l.drop a := List.take_of_length_le (h ▸ Nat.sub_le_sub_right hb a)
    rcases Nat.le_total a l.length with ha | ha
    · rw [Nat.min_eq_left ha, e1, List.take_of_length_le (Nat.le_of_eq h)]
    · rw [List.drop_of_length_le ha, List.take_nil, List.take_nil]
theorem slice_run {vs : List Value} {x y : Int} (h : 0 ≤ x) (h2 : x ≤ y) : (slicePick vs.toArray (some x) (some y) none).toList = (vs.drop x.toNat).take (y.toNat - x.toNat) := by
  have e1 : kms_lo (some x) vs.length = min x.toNat vs.length := if_neg (Int.not_lt.mpr h)
  have e2 : kms_hi (some y) vs.length = min y.toNat vs.length := if_neg (Int.not_lt.mpr (Int.le_trans h h2))
  rw [kms_pick_eq]
  show (vs.drop (kms_lo (some x) vs.length)).take (kms_hi (some y) vs.length - kms_lo (some x) vs.length) = _
  rw [e1, e2, kmk_drop_min, take_min]
/-- what the slice's values are, once its signs are known -/
theorem slice_cut {vs : List Value} {ys : List Str} {x y : Int} {c : Str} {l : List Str} (hs : StrsAre vs ys) (h : 0 ≤ x) (h2 : x ≤ y) (he : (ys.drop x.toNat).take (y.toNat - x.toNat) = c :: l) :
    ∃ t lv, (slicePick vs.toArray (some x) (some y) none).toList = .str c t :: lv ∧ StrsAre (.str c t :: lv) (c :: l) := by
  rw [slice_run h h2]
  have q := (hs.drop' x.toNat).take' (y.toNat - x.toNat)
  rw [he] at q
  generalize (vs.drop x.toNat).take (y.toNat - x.toNat) = z at q
  cases q with
  | cons _ t r => exact ⟨t, _, rfl, .cons _ t r⟩
section
variable {prog : Program} {w : World} {A : Around} {E : Value → Shared → Prop} {s : Shared} {Q : Value → Shared → Prop} {u : Tok}
theorem item_zero {value slice : Expr} {a : Addr} {l : List Value} {v : Value} (hl : s.heap.IsList a (v :: l).toArray) (h : Q v s)
    (hs : subscripted slice false (.ref a) (.int 0 u) = operate [.ref a, .int 0 u] (getItem (.ref a) (.int 0 u)) := by with_unfolding_all rfl) (hg : ∀ r, letTemporaryGo value (.ref a) r = pure () := by intro _; with_unfolding_all rfl) :
    wpAny (model prog w) A (subscriptTail value slice (.ref a) (.int 0 u)) Q E s := by
  refine subscriptTail_builtin hl.typeIs slot_list_getitem.lookup (wpAny_getItem_list hl (by decide) (by simp) (by simp) h) hs hg
theorem len_l {a : Addr} {l : List Value} {n : Nat} (hl : s.heap.IsList a l.toArray) (he : l.length = n) (hn : n ≤ 1000) (h : ∀ t' k, Q (.int (n : Int) t') { s with toks := k }) : wpAny (model prog w) A (call (.builtin "len") [.ref a]) Q E s := by
  refine call_len_list hl (by rw [List.size_toArray]; (first | lia | omega)) ?_
  rw [List.size_toArray, he]
  exact h _ _
theorem ne_same {x y : Str} {t u : Tok} (e : x = y) (h : Q (.bool false) s) : wpAny (model prog w) A (compareOp .NotEq (.str x t) (.str y u)) Q E s := by
  subst e
  refine ne_str ?_
  simpa using h
end
theorem str_ext {a b : Str} (h : a.cps.toList = b.cps.toList) : a = b := by
  cases a; cases b
  simp only [Str.mk.injEq]
  exact Array.toList_inj.mp h
theorem cps_append (a b : Str) : cps (a ++ b) = cps a ++ cps b := by
  show (a.cps ++ b.cps).toList = _
  rw [Array.toList_append]
theorem cps_foldl (l : List Str) : ∀ a : Str, cps (l.foldl (· ++ ·) a) = cps a ++ (l.map cps).flatten := by
  induction l with
  | nil => intro a; simp
  | cons y r ih => intro a; rw [List.foldl_cons, ih, cps_append]; simp
theorem cps_catS (l : List Str) : cps (catS l) = (l.map cps).flatten := by
  unfold catS
  rw [cps_foldl]
  rfl
theorem glue_fold (r : List Str) : ∀ a : Array Nat, (r.foldl (fun acc p => acc ++ (Str.ofString "").cps ++ p.cps) a).toList = a.toList ++ (r.map cps).flatten := by
  induction r with
  | nil => intro a; simp
  | cons y r ih =>
    intro a
    rw [List.foldl_cons, ih]
    have e : (Str.ofString "").cps = #[] := rfl
    rw [e]
    simp
theorem cps_join (l : List Str) : cps (Txt.join (Str.ofString "") l) = (l.map cps).flatten := by
  cases l with
  | nil => rfl
  | cons x r =>
    show (r.foldl (fun acc p => acc ++ (Str.ofString "").cps ++ p.cps) x.cps).toList = _
    rw [glue_fold]
    rfl
theorem join_catS (l : List Str) : catS l = Txt.join (Str.ofString "") l := str_ext (by
  show cps _ = cps _
  rw [cps_catS, cps_join])
theorem sum_short : ∀ (l : List Str), (∀ x ∈ l, x.length ≤ 2) → (l.map (·.length)).sum ≤ 2 * l.length
  | [], _ => by simp
  | x :: r, h => by
    have := sum_short r fun y hy => h y (.tail _ hy)
    have := h x (.head _)
    simp only [List.map_cons, List.sum_cons, List.length_cons]
    (first | lia | omega)
theorem cut_wt {run : List Str} {a b : Nat} {c : Str} {l : List Str} (h : (run.drop a).take b = c :: l) (h2 : ∀ x ∈ c :: l, x.length ≤ 2) (h3 : run.length ≤ 10) : ((c :: l).map (·.length)).sum + (c :: l).length ≤ 1048576 := by
  have e1 := sum_short (c :: l) h2
  have e2 : (c :: l).length ≤ 10 := by
    rw [← h]
    exact Nat.le_trans (List.length_take_le' _ _) (Nat.le_trans (by rw [List.length_drop]; exact Nat.sub_le _ _) h3)
  exact Nat.le_trans (Nat.add_le_add_right e1 _) (Nat.le_trans (Nat.add_le_add (Nat.mul_le_mul_left 2 e2) e2) (by decide))
theorem arr_short {vs : List Value} {ys : List Str} (h : StrsAre vs ys) (h2 : ys.length ≤ 10) : vs.toArray.size ≤ sizeLine := by
  rw [List.size_toArray, h.length, sizeLine_eq]
  exact Nat.le_trans h2 (by decide)
end
section
open PySem PySem.W PyProof.Rows
/-- the two kinds of signs -/
noncomputable def kd (b : Bool) : List Str := if b then [Str.ofString "x", Str.ofString "\n", Str.ofString "\\\\"] else [Str.ofString "a", Str.ofString "b", Str.ofString "\\d"]
noncomputable def Good (y : Str) : Prop := (∃ c, cps y = [c] ∧ c ≠ 92) ∨ ∃ c, cps y = [92, c]
noncomputable def flat (l : List Str) : List Nat := (l.map cps).flatten
noncomputable def off (l : List Str) : Int := ((flat l).length : Int)
theorem flat_append (a b : List Str) : flat (a ++ b) = flat a ++ flat b := by unfold flat; rw [List.map_append, List.flatten_append]
theorem flat_cons (y : Str) (r : List Str) : flat (y :: r) = cps y ++ flat r := by unfold flat; rw [List.map_cons, List.flatten_cons]
theorem flat_one (y : Str) : flat [y] = cps y := by unfold flat; simp
theorem kd_good : ∀ b, ∀ y ∈ kd b, Good y := by
  intro b y hy
  cases b
  · have : y = Str.ofString "a" ∨ y = Str.ofString "b" ∨ y = Str.ofString "\\d" := by simpa [kd] using hy
    rcases this with rfl | rfl | rfl
    · exact .inl ⟨97, by decide, by decide⟩
    · exact .inl ⟨98, by decide, by decide⟩
    · exact .inr ⟨100, by decide⟩
  · have : y = Str.ofString "x" ∨ y = Str.ofString "\n" ∨ y = Str.ofString "\\\\" := by simpa [kd] using hy
    rcases this with rfl | rfl | rfl
    · exact .inl ⟨120, by decide, by decide⟩
    · exact .inl ⟨10, by decide, by decide⟩
    · exact .inr ⟨92, by decide⟩
theorem kd_facts : ∀ b, ∀ y ∈ kd b, 1 ≤ y.length ∧ y.length ≤ 2 ∧ inSet (some y) (kd b) = true ∧ inSet (some y) (kd (!b)) = false ∧ (cps y).all (· < 128) = true := by
  intro b y hy
  cases b
  · have : y = Str.ofString "a" ∨ y = Str.ofString "b" ∨ y = Str.ofString "\\d" := by simpa [kd] using hy
    rcases this with rfl | rfl | rfl <;> decide
  · have : y = Str.ofString "x" ∨ y = Str.ofString "\n" ∨ y = Str.ofString "\\\\" := by simpa [kd] using hy
    rcases this with rfl | rfl | rfl <;> decide
theorem cps_len' (x : Str) : (cps x).length = x.length := Array.length_toList
theorem step_sign {txt : Str} {pre : List Str} {y : Str} {rest : List Nat} (h : cps txt = flat pre ++ (cps y ++ rest)) (g : Good y) : StepAt txt (off pre) (some y) (off (pre ++ [y])) := by
  have hl := cps_len' txt
  have ho : off (pre ++ [y]) = off pre + (cps y).length := by unfold off; rw [flat_append, flat_one, List.length_append]; (first | lia | omega)
  have h0 : 0 ≤ off pre := by unfold off; (first | lia | omega)
  have hn : (off pre).toNat = (flat pre).length := by unfold off; (first | lia | omega)
  have get : ∀ (k : Nat) (v : Nat), (cps y)[k]? = some v → off pre + k < (txt.length : Int) ∧ Txt.item txt (off pre + k) = ⟨#[v]⟩ := by
    intro k v hv
    have hk : k < (cps y).length := by
      rcases Nat.lt_or_ge k (cps y).length with h | h
      · exact h
      · rw [List.getElem?_eq_none h] at hv; cases hv
    have hlt : off pre + k < (txt.length : Int) := by rw [← hl, h, List.length_append, List.length_append]; unfold off; (first | lia | omega)
    refine ⟨hlt, ?_⟩
    rw [item_meets ⟨by (first | lia | omega), hlt⟩]
    have e : (off pre + (k : Int)).toNat = (flat pre).length + k := by (first | lia | omega)
    have : (cps txt)[(flat pre).length + k]? = some v := by
      rw [h, List.getElem?_append_right (by (first | lia | omega)), List.getElem?_append_left (by (first | lia | omega)), Nat.add_sub_cancel_left, hv]
    rw [e]
    have q : txt.cps[(flat pre).length + k]? = some v := by rw [← Array.getElem?_toList]; exact this
    rw [Array.getD_eq_getD_getElem?, q]
    rfl
  rcases g with ⟨c, hc, hne⟩ | ⟨c, hc⟩
  · obtain ⟨hlt, hi⟩ := get 0 c (by rw [hc]; rfl)
    rw [show off pre + ((0 : Nat) : Int) = off pre by (first | lia | omega)] at hlt hi
    have ey : y = Txt.item txt (off pre) := by rw [hi]; exact str_ext hc
    rw [ho, hc]
    have := StepAt.plain (txt := txt) (i := off pre) hlt (by
      rw [hi]
      have : (⟨#[c]⟩ : Str) ≠ Str.ofString "\\" := fun e => by
        have e' : cps ⟨#[c]⟩ = cps (Str.ofString "\\") := by rw [e]
        have e2 : cps (Str.ofString "\\") = [92] := by decide
        rw [e2] at e'
        have e3 : c = 92 := (List.cons.inj (show [c] = [92] from e')).1
        exact hne e3
      simpa using this)
    rw [← ey] at this
    exact this
  · obtain ⟨hlt, hi⟩ := get 0 92 (by rw [hc]; rfl)
    obtain ⟨hlt1, hi1⟩ := get 1 c (by rw [hc]; rfl)
    rw [show off pre + ((0 : Nat) : Int) = off pre by (first | lia | omega)] at hlt hi
    rw [show off pre + ((1 : Nat) : Int) = off pre + 1 by (first | lia | omega)] at hlt1 hi1
    have ey : y = Txt.item txt (off pre) ++ Txt.item txt (off pre + 1) := by
      rw [hi, hi1]
      refine str_ext ?_
      show cps y = cps (_ ++ _)
      rw [cps_append, hc]
      rfl
    have := StepAt.esc (txt := txt) (i := off pre) hlt1 (by rw [hi]; decide)
    rw [← ey] at this
    rw [ho, hc, show off pre + (([92, c] : List Nat).length : Int) = off pre + 1 + 1 by simp; (first | lia | omega)]
    exact this
section
variable {txt : Str} {signs : List Str} {tail : List Nat}
noncomputable def posI (signs : List Str) (q : Nat) : Int := off (signs.take (q + 1))
theorem posI_nonneg (q : Nat) : 0 ≤ posI signs q := by unfold posI off; (first | lia | omega)
theorem step_q {q : Nat} {y : Str} {r : List Str} (h : cps txt = flat signs ++ tail) (hg : ∀ y ∈ signs, Good y) (hd : signs.drop q = y :: r) : StepAt txt (off (signs.take q)) (some y) (off (signs.take (q + 1))) := by
  have e : signs = signs.take q ++ (y :: r) := by rw [← hd, List.take_append_drop]
  have e1 : signs.take (q + 1) = signs.take q ++ [y] := by
    have h1 : signs[q]? = some y := by
      have := congrArg (fun z => z[0]?) hd
      simpa using this
    rw [List.take_add_one, h1]; rfl
  rw [e1]
  refine step_sign (rest := flat r ++ tail) ?_ (hg y (by rw [e]; simp))
  rw [h]
  conv => lhs; rw [e]
  rw [flat_append, flat_cons]
  simp
theorem step_end {q : Nat} (h : cps txt = flat signs) (hd : signs.length ≤ q) : StepAt txt (off (signs.take q)) none (off (signs.take (q + 1))) := by
  rw [List.take_of_length_le hd, List.take_of_length_le (by (first | lia | omega))]
  refine StepAt.stop ?_
  unfold off
  rw [← h, cps_len']
theorem run_q (h : cps txt = flat signs ++ tail) (hg : ∀ y ∈ signs, Good y) : ∀ (l : List Str) (q : Nat) (post : List Str), signs.drop (q + 1) = l ++ post → (post ≠ [] ∨ tail = []) → Run txt (posI signs q) l post.head? (posI signs (q + 1 + l.length))
  | [], q, post, hd, hp => by
    show StepAt txt _ _ _
    cases post with
    | nil =>
      have ht : tail = [] := hp.resolve_left (fun h => h rfl)
      rw [ht, List.append_nil] at h
      have hq : signs.length ≤ q + 1 := List.drop_eq_nil_iff.mp hd
      exact step_end h hq
    | cons y r => exact step_q h hg hd
  | c :: l, q, post, hd, hp => by
    refine ⟨posI signs (q + 1), step_q h hg hd, ?_⟩
    have hd' : signs.drop (q + 1 + 1) = l ++ post := by
      have := congrArg List.tail hd
      simpa using this
    have := run_q h hg l (q + 1) post hd' hp
    rw [List.length_cons]
    rw [show q + 1 + (l.length + 1) = q + 1 + 1 + l.length by (first | lia | omega)]
    exact this
theorem brun_q (h : cps txt = flat signs ++ tail) (hg : ∀ y ∈ signs, Good y) : ∀ (l : List Str) (q : Nat) (c z : Str), signs.drop q = c :: l → signs.getLast? = some z → BRun txt (posI signs q) l c z (off signs)
  | [], q, c, z, hd, hz => by
    have hlen : signs.length = q + 1 := by have := congrArg List.length hd; rw [List.length_drop] at this; simp at this; (first | lia | omega)
    refine ⟨?_, ?_⟩
    · unfold posI; rw [List.take_of_length_le (by (first | lia | omega))]
    · have : signs = signs.take q ++ [c] := by rw [← hd, List.take_append_drop]
      rw [this, List.getLast?_append] at hz
      simpa using hz
  | y :: l, q, c, z, hd, hz => by
    have hd' : signs.drop (q + 1) = y :: l := by
      have := congrArg List.tail hd
      simpa using this
    exact ⟨posI signs (q + 1), step_q h hg hd', brun_q h hg l (q + 1) y z hd' hz⟩
theorem lone_off (h : cps txt = flat signs ++ [92]) : Lone txt (off signs) := by
  have hl := cps_len' txt
  have hlen : (txt.length : Int) = off signs + 1 := by rw [← hl, h, List.length_append]; unfold off; simp
  refine ⟨by (first | lia | omega), ?_⟩
  have h0 : 0 ≤ off signs := by unfold off; (first | lia | omega)
  rw [item_meets ⟨h0, by (first | lia | omega)⟩]
  have q : txt.cps[(off signs).toNat]? = some 92 := by
    rw [← Array.getElem?_toList]
    show (cps txt)[(off signs).toNat]? = _
    rw [h, List.getElem?_append_right (by unfold off; (first | lia | omega))]
    unfold off
    simp
  rw [Array.getD_eq_getD_getElem?, q]
  decide
end
/-- what is asked of the runs -/
structure RunsOk (runs : List (List Str)) : Prop where
  one : 1 ≤ runs.length
  few : runs.length ≤ 21
  ok : ∀ (j : Nat) (run : List Str), runs[j]? = some run → 1 ≤ run.length ∧ run.length ≤ 4 ∧ ∀ y ∈ run, y ∈ kd (j % 2 == 1)
noncomputable def signsOf (runs : List (List Str)) : List Str := runs.flatten
theorem RunsOk.good {runs : List (List Str)} (h : RunsOk runs) : ∀ y ∈ signsOf runs, ∃ b, y ∈ kd b := by
  intro y hy
  obtain ⟨run, hr, hy⟩ := List.mem_flatten.mp hy
  obtain ⟨j, hj⟩ := List.mem_iff_getElem?.mp hr
  exact ⟨_, (h.ok j run hj).2.2 y hy⟩
theorem RunsOk.signs {runs : List (List Str)} (h : RunsOk runs) : ∀ y ∈ signsOf runs, Good y := by
  intro y hy
  obtain ⟨b, hb⟩ := h.good y hy
  exact kd_good b y hb
theorem flat_le : ∀ (l : List Str), (∀ y ∈ l, y.length ≤ 2) → (flat l).length ≤ 2 * l.length
  | [], _ => by simp [flat]
  | y :: r, h => by
    have h1 := flat_le r fun z hz => h z (.tail _ hz)
    have h2 := h y (.head _)
    rw [flat_cons, List.length_append, cps_len', List.length_cons]
    (first | lia | omega)
theorem flatten_le {α : Type} (k : Nat) : ∀ (l : List (List α)), (∀ r ∈ l, r.length ≤ k) → l.flatten.length ≤ k * l.length
  | [], _ => by simp
  | r :: l, h => by
    have h1 := flatten_le k l fun z hz => h z (.tail _ hz)
    have h2 := h r (.head _)
    rw [List.flatten_cons, List.length_append, List.length_cons, Nat.mul_succ]
    (first | lia | omega)
theorem RunsOk.size {runs : List (List Str)} (h : RunsOk runs) : (signsOf runs).length ≤ 84 ∧ (flat (signsOf runs)).length ≤ 168 := by
  have h1 := flatten_le 4 runs fun r hr => by
    obtain ⟨j, hj⟩ := List.mem_iff_getElem?.mp hr
    exact (h.ok j r hj).2.1
  have h2 := h.few
  have h3 := flat_le (signsOf runs) fun y hy => by
    obtain ⟨b, hb⟩ := h.good y hy
    exact (kd_facts b y hb).2.1
  unfold signsOf at *
  (first | lia | omega)
/-- where the j-th run begins, counted in signs -/
noncomputable def atRun (runs : List (List Str)) (j : Nat) : Nat := ((runs.take j).flatten).length
theorem atRun_succ {runs : List (List Str)} {j : Nat} {run : List Str} (h : runs[j]? = some run) : atRun runs (j + 1) = atRun runs j + run.length := by
  unfold atRun
  rw [List.take_add_one, h]
  simp
theorem drop_run {runs : List (List Str)} {j : Nat} {run : List Str} (h : runs[j]? = some run) (k : Nat) (hk : k ≤ run.length) : (signsOf runs).drop (atRun runs j + k) = run.drop k ++ (runs.drop (j + 1)).flatten := by
  have hj : j < runs.length := by
    rcases Nat.lt_or_ge j runs.length with z | z
    · exact z
    · rw [List.getElem?_eq_none z] at h; cases h
  have e : runs = runs.take j ++ run :: runs.drop (j + 1) := by
    have : runs[j] = run := by rw [List.getElem?_eq_getElem hj] at h; exact Option.some.inj h
    rw [← this, ← List.drop_eq_getElem_cons hj, List.take_append_drop]
  unfold signsOf atRun
  conv => lhs; rw [e]
  rw [List.flatten_append, List.flatten_cons]
  have hlen : (List.take j (List.take j runs ++ run :: List.drop (j + 1) runs)) = runs.take j := by rw [← e]
  rw [List.drop_append, List.drop_of_length_le (by rw [hlen]; (first | lia | omega)), List.nil_append, hlen, Nat.add_sub_cancel_left, List.drop_append_of_le_length hk]
theorem next_kind {runs : List (List Str)} (H : RunsOk runs) {j : Nat} : ((runs.drop (j + 1)).flatten).head? = none ∨ ∃ y, ((runs.drop (j + 1)).flatten).head? = some y ∧ y ∈ kd ((j + 1) % 2 == 1) := by
  cases hd : runs.drop (j + 1) with
  | nil => exact .inl rfl
  | cons run r =>
    have h1 : runs[j + 1]? = some run := by
      have := congrArg (fun z => z[0]?) hd
      simpa using this
    obtain ⟨h2, _, h3⟩ := H.ok _ _ h1
    cases run with
    | nil => simp at h2
    | cons y q => exact .inr ⟨y, rfl, h3 y (.head _)⟩
theorem rng_facts {k n ln len : Nat} (hk : k < n) (hnu : n * ln < len + ln) : k * ln < len ∧ (k + 1) * ln = k * ln + ln ∧ (len ≤ k * ln + ln → ¬ k + 1 < n) := by
  have h1 : (k + 1) * ln ≤ n * ln := Nat.mul_le_mul_right _ hk
  have h2 : (k + 1) * ln = k * ln + ln := Nat.succ_mul _ _
  refine ⟨by (first | lia | omega), h2, fun h3 h4 => ?_⟩
  have h5 : (k + 1 + 1) * ln ≤ n * ln := Nat.mul_le_mul_right _ h4
  have h6 : (k + 1 + 1) * ln = (k + 1) * ln + ln := Nat.succ_mul _ _
  (first | lia | omega)
theorem min_len {a ln m e : Nat} (h : a + 1 = min ln (m - e)) (he : e < m) : e + 1 + a = min (e + ln) m := by (first | lia | omega)
theorem cut_facts {runs : List (List Str)} {j : Nat} {run : List Str} (hj : runs[j]? = some run) {e ln : Nat} (hel : e < run.length) (h1 : 1 ≤ ln) :
    ∃ c l, (run.drop e).take ln = c :: l ∧ l.length + 1 = min ln (run.length - e) ∧ run.drop e = (c :: l) ++ run.drop (e + ln) ∧ (signsOf runs)[atRun runs j + e]? = some c ∧
      (signsOf runs).drop (atRun runs j + e) = c :: (l ++ (run.drop (e + ln) ++ (runs.drop (j + 1)).flatten)) ∧ (signsOf runs).drop (atRun runs j + e + 1) = l ++ (run.drop (e + ln) ++ (runs.drop (j + 1)).flatten) := by
  have hD := drop_run hj e (Nat.le_of_lt hel)
  have hz : ((run.drop e).take ln).length = min ln (run.length - e) := by rw [List.length_take, List.length_drop]
  cases hcl : (run.drop e).take ln with
  | nil => rw [hcl] at hz; simp at hz; (first | lia | omega)
  | cons c l =>
    rw [hcl] at hz
    have hsp : run.drop e = (c :: l) ++ run.drop (e + ln) := by rw [← hcl, ← List.drop_drop, List.take_append_drop]
    have hD2 : (signsOf runs).drop (atRun runs j + e) = c :: (l ++ (run.drop (e + ln) ++ (runs.drop (j + 1)).flatten)) := by rw [hD, hsp]; simp
    refine ⟨c, l, rfl, hz, hsp, ?_, hD2, ?_⟩
    · have := congrArg (fun z => z[0]?) hD2
      simpa using this
    · have := congrArg List.tail hD2
      simpa using this
theorem last_facts {runs : List (List Str)} {j : Nat} {run : List Str} {e ln : Nat} {c : Str} {l : List Str} (hj1 : j + 1 = runs.length) (hend : run.length ≤ e + ln) (hsp : run.drop e = (c :: l) ++ run.drop (e + ln))
    (hD2 : (signsOf runs).drop (atRun runs j + e) = c :: (l ++ (run.drop (e + ln) ++ (runs.drop (j + 1)).flatten))) :
    ∃ z, run.getLast? = some z ∧ z ∈ run ∧ (signsOf runs).getLast? = some z ∧ (signsOf runs).drop (atRun runs j + e) = c :: l := by
  have hlat : (runs.drop (j + 1)).flatten = [] := by rw [List.drop_of_length_le (Nat.le_of_eq hj1.symm)]; rfl
  have hrd0 : run.drop (e + ln) = [] := List.drop_of_length_le hend
  rw [hlat, hrd0, List.append_nil, List.append_nil] at hD2
  rw [hrd0, List.append_nil] at hsp
  have e1 : signsOf runs = (signsOf runs).take (atRun runs j + e) ++ (c :: l) := by rw [← hD2, List.take_append_drop]
  have e2 : run = run.take e ++ (c :: l) := by rw [← hsp, List.take_append_drop]
  obtain ⟨u, hu⟩ : ∃ u, (c :: l).getLast? = some u := ⟨_, List.getLast?_eq_some_getLast (List.cons_ne_nil _ _)⟩
  have h1 : run.getLast? = some u := by rw [e2, List.getLast?_append, hu]; rfl
  have h2 : (signsOf runs).getLast? = some u := by rw [e1, List.getLast?_append, hu]; rfl
  exact ⟨u, h1, List.mem_of_getLast? h1, h2, hD2⟩
theorem post_facts {runs : List (List Str)} (hO : RunsOk runs) {j : Nat} {run : List Str} {e ln : Nat} {lo : Int} (hlo : lo = 0 ∨ lo = 1) (hjl : j < runs.length) (hrf : ¬(lo = 1 ∧ j + 1 = runs.length ∧ run.length ≤ e + ln)) :
    run.drop (e + ln) ++ (runs.drop (j + 1)).flatten ≠ [] ∨ (if lo = 1 then [92] else ([] : List Nat)) = [] := by
  rcases hlo with rfl | rfl
  · exact .inr rfl
  · refine .inl fun z => ?_
    obtain ⟨z1, z2⟩ := List.append_eq_nil_iff.mp z
    refine hrf ⟨rfl, ?_, List.drop_eq_nil_iff.mp z1⟩
    rcases Nat.lt_or_ge (j + 1) runs.length with y | y
    · exfalso
      have y1 : runs[j + 1]? = some runs[j + 1] := List.getElem?_eq_getElem y
      rw [List.drop_eq_getElem_cons y, List.flatten_cons] at z2
      have y3 := (hO.ok _ _ y1).1
      rw [(List.append_eq_nil_iff.mp z2).1] at y3
      exact absurd y3 (by decide)
    · exact Nat.le_antisymm hjl y
theorem kind_facts {runs : List (List Str)} (hO : RunsOk runs) {j : Nat} {run : List Str} {e ln : Nat} {l : List Str} (hll : l.length + 1 = min ln (run.length - e)) :
    (l.length : Int) + 1 = (ln : Int) ∨ ((l.length : Int) + 1 < (ln : Int) ∧ inSet (run.drop (e + ln) ++ (runs.drop (j + 1)).flatten).head? (kd (j % 2 == 1)) = false) := by
  by_cases hfull : l.length + 1 = ln
  · exact .inl (by (first | lia | omega))
  · refine .inr ⟨by (first | lia | omega), ?_⟩
    rw [List.drop_of_length_le (by (first | lia | omega)), List.nil_append]
    rcases next_kind hO (j := j) with z | ⟨y, z, hy⟩
    · rw [z]; rfl
    · rw [z]
      have e1 : ((j + 1) % 2 == 1) = !(j % 2 == 1) := by
        rcases Nat.mod_two_eq_zero_or_one j with z | z
        · rw [z, Nat.add_mod, z]; rfl
        · rw [z, Nat.add_mod, z]; rfl
      rw [e1] at hy
      have := (kd_facts _ y hy).2.2.2.1
      rwa [Bool.not_not] at this
theorem head_facts {l post : List Str} {signs : List Str} {q : Nat} (h : signs.drop (q + 1) = l ++ post) : post.head? = signs[q + 1 + l.length]? := by
  have := congrArg (fun z => z[l.length]?) h
  simp only [List.getElem?_drop] at this
  rw [this, List.getElem?_append_right (Nat.le_refl _), Nat.sub_self, List.head?_eq_getElem?]
theorem plain_or {lo : Int} {j nr e ln len : Nat} (hlo : lo = 0 ∨ lo = 1) (hjl : j < nr) (hrf : ¬(lo = 1 ∧ j + 1 = nr ∧ len ≤ e + ln)) : lo = 0 ∨ (j : Int) ≠ (nr : Int) - 1 ∨ (e : Int) + (ln : Int) < (len : Int) := by (first | lia | omega)
theorem text_short {txt : Str} {runs : List (List Str)} {lo : Int} (hO : RunsOk runs) (htx : cps txt = flat (signsOf runs) ++ (if lo = 1 then [92] else [])) : txt.length < 1000 := by
  have h1 := hO.size.2
  have h2 := cps_len' txt
  rw [htx, List.length_append] at h2
  have : (if lo = 1 then [92] else ([] : List Nat)).length ≤ 1 := by split <;> simp
  (first | lia | omega)
theorem cut_int (e ln : Nat) (run : List Str) : (run.drop ((e : Int)).toNat).take (((e : Int) + (ln : Int)).toNat - ((e : Int)).toNat) = (run.drop e).take ln := by
  have h1 : ((e : Int)).toNat = e := Int.toNat_natCast e
  have h2 : ((e : Int) + (ln : Int)).toNat = e + ln := Int.toNat_natCast (e + ln)
  rw [h1, h2, Nat.add_sub_cancel_left]
theorem pred_int {j n : Nat} (h : j + 1 = n) : (j : Int) = (n : Int) - 1 := by (first | lia | omega)
theorem min_int {a ln m : Nat} (h : a + 1 = min ln m) : (a : Int) + 1 ≤ (ln : Int) := by (first | lia | omega)
end
section
open PySem PySem.W PyProof.Rows
theorem off2_cons {q : Addr × Obj} {r : List (Addr × Obj)} {d x : Addr} (h1 : q.1 ≠ d) (h2 : q.1 ≠ x) (h : OwnOff r [d, x]) : OwnOff (q :: r) [d, x] := fun p hp b hb => by
  rcases List.mem_cons.mp hp with rfl | hp
  · rcases List.mem_cons.mp hb with rfl | hb
    · exact h1
    · rw [List.mem_singleton.mp hb]; exact h2
  · exact h p hp b hb
theorem linesLD : True := by
  w_on
  w_top off
  k_with_none
  k_with "mine pick" => ((with_reducible (repeat (first | exact Pick.head | apply Pick.tail))))
  k_with "mine nne" => (first | assumption | exact Nat.ne_of_lt (by assumption) | exact Nat.ne_of_gt (by assumption) | exact Nat.ne_of_lt (Nat.lt_trans (by assumption) (by assumption)) | ((rename _ ∧ _ => gl99z); first | exact Nat.ne_of_gt gl99z.1 | exact Nat.ne_of_gt gl99z.2.1 | exact Nat.ne_of_gt gl99z.2.2.1 | exact Nat.ne_of_lt gl99z.1 | exact Nat.ne_of_lt gl99z.2.1) | exact (show @Ne Nat _ _ from by (first | lia | omega)) | (dsimp only; exact (show @Ne Nat _ _ from by (first | lia | omega))))
  k_with "mine offx" => ((repeat (first | assumption | refine off2_cons (by walk_at "mine nne") (by walk_at "mine nne") ?_)))
  k_with "mine pick" => ((with_reducible (repeat (first | exact Pick.head | apply Pick.tail))))
  k_with "mine memt" => ((with_reducible (repeat (first | assumption | exact List.mem_cons_self .. | refine List.mem_cons_of_mem _ ?_))))
  trivial
noncomputable def Stop2 (p : Prop) : Prop := p
theorem Stop2.mk {p : Prop} (h : Stop2 p) : p := h
theorem linesLDx2 : True := by
  k_with "call ref" => (((k_dflt (show wpAny _ _ (PySem.call (Value.ref 86) [Value.ref _, _, _]) _ _ _)); refine Stop2.mk ?_))
  k_with "call ref" => ((k_here; (k_dflt (show wpAny _ _ (PySem.call (Value.ref 86) [Value.ref _, _, _]) _ _ _)); (with_reducible rename LG _ _ _ _ _ _ _ => HL9z); k_dflt (refine' gwL HL9z (by k_asm) (news_pick2 (by k_asm) (by walk_at "mine pick") (by walk_at "mine pick")) (by walk_at "mine memt") (by walk_at "mine offx") (by assumption) (by first | assumption | (first | lia | omega)) (by assumption) (by assumption) (by assumption) (by assumption) (by assumption) (by (first | lia | omega)) (by assumption) ?_); intro h'9z tk'9z t69z v9z tr9z hv9z F'9z N'9z; (try dsimp only); (try k_sweep)))
  k_with "call ref" => ((k_here; (k_dflt (show wpAny _ _ (PySem.call (Value.ref 86) [Value.ref _, _, _]) _ _ _)); (with_reducible rename LG _ _ _ _ _ _ _ => HL9z); (with_reducible rename IsTok _ _ => hTk9z); k_dflt (refine' gwN HL9z (by k_asm) (news_pick2 (by k_asm) (by walk_at "mine pick") (by walk_at "mine pick")) (by walk_at "mine memt") (by assumption) (by first | assumption | (first | lia | omega)) (by assumption) (by (first | lia | omega)) (by (first | lia | omega)) hTk9z (by first | exact .inr (by assumption) | exact .inl (by (first | lia | omega))) ?_); intro h'9z tk'9z tr9z F'9z N'9z; (try dsimp only); (try k_sweep)))
  k_with "subscriptTail Name Slice ref ref" => ((k_here; k_dflt (refine' kmk_slice_lit (by k_asm) (by k_asm) (by kmk_list) (by kmk_part) (by kmk_part) (by assumption) ?_ (by with_unfolding_all rfl) (by kmk_pure) (by assumption)); intro D'9z h'9z F'9z N'9z l19z; (try k_lt l19z); (try k_sweep)))
  k_with "subscriptTail Name Constant ref int" => ((k_here; k_dflt (refine' item_zero (by exact ⟨_, News.get (by k_asm) (by k_mem), rfl, _, rfl⟩) ?_)))
  k_with "compareOp NotEq str str" => ((k_here; k_dflt (refine' ne_same (by first | exact join_catS _ | with_reducible rfl | rfl) ?_)))
  k_with "call builtin:str.join" => ((k_here; k_dflt (refine' join_listW (by exact ⟨_, News.get (by k_asm) (by k_mem), rfl, _, rfl⟩) (by assumption) (by decide) (by assumption) ?_); intro t'9z k'9z; (try dsimp only)))
  k_with "call builtin:len" => ((k_here; (with_reducible show wpAny _ _ (call (Value.builtin "len") [Value.ref _]) _ _ _); k_dflt (refine' len_l (by exact ⟨_, News.get (by k_asm) (by k_mem), rfl, _, rfl⟩) (by assumption) (by (first | lia | omega)) ?_); intro t'9z k'9z; (try dsimp only)))
  trivial
noncomputable abbrev kN := Str.ofString
noncomputable def dm (k own other run t lk lim txt lone runs : Value) (m : Str → Option Value) : Str → Option Value := fun y =>
  if y = Str.ofString "k" then some k else if y = Str.ofString "own" then some own else if y = Str.ofString "other" then some other else if y = Str.ofString "run" then some run else
  if y = Str.ofString "t" then some t else if y = Str.ofString "lack" then some lk else if y = Str.ofString "limit" then some lim else if y = Str.ofString "text" then some txt else
  if y = Str.ofString "lone" then some lone else if y = Str.ofString "runs" then some runs else m y
theorem dm_eq {k own other run t lk lim txt lone runs : Value} {m : Str → Option Value} (h1 : m (Str.ofString "k") = some k) (h2 : m (Str.ofString "own") = some own) (h3 : m (Str.ofString "other") = some other) (h4 : m (Str.ofString "run") = some run)
    (h5 : m (Str.ofString "t") = some t) (h6 : m (Str.ofString "lack") = some lk) (h7 : m (Str.ofString "limit") = some lim) (h8 : m (Str.ofString "text") = some txt) (h9 : m (Str.ofString "lone") = some lone) (h10 : m (Str.ofString "runs") = some runs) :
    m = dm k own other run t lk lim txt lone runs m := by
  funext y
  unfold dm
  split
  · next e => rw [e, h1]
  split
  · next e => rw [e, h2]
  split
  · next e => rw [e, h3]
  split
  · next e => rw [e, h4]
  split
  · next e => rw [e, h5]
  split
  · next e => rw [e, h6]
  split
  · next e => rw [e, h7]
  split
  · next e => rw [e, h8]
  split
  · next e => rw [e, h9]
  split
  · next e => rw [e, h10]
  rfl
section
variable {w : World} {mg mb : Str → Option Value} {p : Program} {loose : List Str} {mean : ExcName → Option Value}
    {fa : Addr} {cd : Value} {G : Heap} {L : Addr} {m : Str → Option Value} {s : Shared} {Q : Flow → Shared → Prop}
    {E : Value → Shared → Prop} {x d r R ka kb lk : Addr} {rest : List (Addr × Obj)} {t1 t2 t3 t4 t5 : Tok} {b : Bool} {sv : Value} {txt : Str} {tt tx : Tok} {idx : Int} {ti : Tok} {oi : Obj} {ii : Int} {tii : Tok} {rv Rv va vb lkv : List Value} {rc Rc : Nat} {run ya yb : List Str} {lim lo kk : Int} {tl tlo tkk : Tok} {c : Str} {tc : Tok} {l : List Str} {o : Option Str} {i' : Int} {nr : Nat}
set_option maxRecDepth 100000 in
set_option maxHeartbeats 3000000 in
theorem turnP (H : LG w p loose mean mg mb G) (F : Fr G L s.heap m)
    (N : News G L s.heap ((d, tokD w t1 t2 t3 t4 t5 b sv txt tt idx ti (.str c tc)) :: (x, instObj 133 d) :: (L + 1 + 1, oi) :: (r, PySem.W.listOf rv.toArray rc) :: (R, PySem.W.listOf Rv.toArray Rc) :: (ka, tup va) :: (kb, tup vb) :: (lk, PySem.W.listOf lkv.toArray 0) :: rest))
    (hoff : OwnOff rest [d, x]) (hdx : @LT.lt Nat _ d x) (hid : @LT.lt Nat _ (L + 1 + 1) d) (hrd : @LT.lt Nat _ r d) (hRd : @LT.lt Nat _ R d) (had : @LT.lt Nat _ ka d) (hbd : @LT.lt Nat _ kb d) (hld : @LT.lt Nat _ lk d)
    (hsa : StrsAre va ya) (hsb : StrsAre vb yb) (hrv : StrsAre rv run) (hRn : Rv.length = nr) (hnr : nr ≤ 100) (hoi : oi.data = .cell (some (.int ii tii)))
    (h1 : m (Str.ofString "k") = some (.int kk tkk)) (h2 : m (Str.ofString "own") = some (.ref ka)) (h3 : m (Str.ofString "other") = some (.ref kb)) (h4 : m (Str.ofString "run") = some (.ref r))
    (h5 : m (Str.ofString "t") = some (.ref x)) (h6 : m (Str.ofString "lack") = some (.ref lk)) (h7 : m (Str.ofString "limit") = some (.int lim tl)) (h8 : m (Str.ofString "text") = some (.str txt tx)) (h9 : m (Str.ofString "lone") = some (.int lo tlo)) (h10 : m (Str.ofString "runs") = some (.ref R))
    (hk0 : 0 ≤ kk) (hk1 : kk < 10) (hl1 : 1 ≤ lim) (hl3 : lim ≤ 3) (hrl : run.length ≤ 10) (hcut : (run.drop kk.toNat).take ((kk + lim).toNat - kk.toNat) = c :: l)
    (h0 : 0 ≤ idx) (hsz : txt.length < 1000) (hin : ∀ x ∈ c :: l, inSet (some x) ya = true ∧ x.length ≤ 2) (hout : inSet (some c) yb = false)
    (hlo : lo = 0 ∨ lo = 1) (hii : 0 ≤ ii) (hpl : lo = 0 ∨ ii ≠ (nr : Int) - 1 ∨ kk + lim < run.length)
    (hrun : Run txt idx l o i') (hln : (l.length : Int) + 1 = lim ∨ ((l.length : Int) + 1 < lim ∧ inSet o ya = false))
    (hnext : ∀ h' tk' m' t6 v, Fr G L h' m' → News G L h' ((d, tokD w t1 t2 t3 t4 t5 b sv txt tt i' t6 v) :: (x, instObj 133 d) :: (L + 1 + 1, oi) :: (r, PySem.W.listOf rv.toArray rc) :: (R, PySem.W.listOf Rv.toArray Rc) :: (ka, tup va) :: (kb, tup vb) :: (lk, PySem.W.listOf lkv.toArray 0) :: rest) → IsTok o v → (∀ y, y ≠ Str.ofString "piece" → m' y = m y) → Q .next { s with heap := h', toks := tk' }) :
    wpAny (lM w) (lA L fa cd) (execs bodyD (lenv L fa cd)) Q E s := by
  obtain ⟨tq, lv, hsl, hpv⟩ := slice_cut hrv hk0 (show kk ≤ kk + lim by (first | lia | omega)) hcut
  have hTk : IsTok (some c) (.str c tc) := ⟨tc, rfl⟩
  have hrz := arr_short hrv hrl
  have em := dm_eq h1 h2 h3 h4 h5 h6 h7 h8 h9 h10
  obtain ⟨B, X, T⟩ := id H
  conv in (execs bodyD _) => arg 1; whnf
  rw [em] at F
  unfold dm at F
  show wpAny (model PySem.Challenge.rw_aa0047_01.row.prog w) _ _ _ _ _
  revert X; k_fill; intro X
  have hrvl : rv.length = run.length := hrv.length
  have hwt := cut_wt hcut (fun y hy => (hin y hy).2) hrl
  k_steps
  all_goals (
    refine' hnext _ _ _ _ _ ?F (news_del ?N) ?T ?M
    case F => k_asm
    case N => k_asm
    case T => assumption
    case M =>
      intro y hy
      have := congrFun em y
      unfold dm at this
      simp only [if_neg hy]
      exact this.symm)
end
end
section
open PySem PySem.W PyProof.Rows
theorem linesLE : True := by
  w_on
  w_top off
  k_with_none
  k_with "mine pick" => ((with_reducible (repeat (first | exact Pick.head | apply Pick.tail))))
  k_with "mine nne" => (first | assumption | exact Nat.ne_of_lt (by assumption) | exact Nat.ne_of_gt (by assumption) | exact Nat.ne_of_lt (Nat.lt_trans (by assumption) (by assumption)) | ((rename _ ∧ _ => gl99z); first | exact Nat.ne_of_gt gl99z.1 | exact Nat.ne_of_gt gl99z.2.1 | exact Nat.ne_of_gt gl99z.2.2.1 | exact Nat.ne_of_lt gl99z.1 | exact Nat.ne_of_lt gl99z.2.1) | exact (show @Ne Nat _ _ from by (first | lia | omega)) | (dsimp only; exact (show @Ne Nat _ _ from by (first | lia | omega))))
  k_with "mine offx" => ((repeat (first | assumption | refine off2_cons (by walk_at "mine nne") (by walk_at "mine nne") ?_)))
  k_with "mine pick" => ((with_reducible (repeat (first | exact Pick.head | apply Pick.tail))))
  k_with "mine memt" => ((with_reducible (repeat (first | assumption | exact List.mem_cons_self .. | refine List.mem_cons_of_mem _ ?_))))
  k_with "call ref" => (((k_dflt (show wpAny _ _ (PySem.call (Value.ref 86) [Value.ref _, _, _]) _ _ _)); refine Stop2.mk ?_))
  k_with "call ref" => ((k_here; (k_dflt (show wpAny _ _ (PySem.call (Value.ref 86) [Value.ref _, _, _]) _ _ _)); (with_reducible rename LG _ _ _ _ _ _ _ => HL9z); k_dflt (refine' gwL HL9z (by k_asm) (news_pick2 (by k_asm) (by walk_at "mine pick") (by walk_at "mine pick")) (by walk_at "mine memt") (by walk_at "mine offx") (by assumption) (by first | assumption | (first | lia | omega)) (by assumption) (by assumption) (by assumption) (by assumption) (by assumption) (by (first | lia | omega)) (by assumption) ?_); intro h'9z tk'9z t69z v9z tr9z hv9z F'9z N'9z; (try dsimp only); (try k_sweep)))
  k_with "call ref" => ((k_here; (k_dflt (show wpAny _ _ (PySem.call (Value.ref 86) [Value.ref _, _, _]) _ _ _)); (with_reducible rename LG _ _ _ _ _ _ _ => HL9z); (with_reducible rename IsTok _ _ => hTk9z); k_dflt (refine' gwN HL9z (by k_asm) (news_pick2 (by k_asm) (by walk_at "mine pick") (by walk_at "mine pick")) (by walk_at "mine memt") (by assumption) (by first | assumption | (first | lia | omega)) (by assumption) (by (first | lia | omega)) (by (first | lia | omega)) hTk9z (by first | exact .inr (by assumption) | exact .inl (by (first | lia | omega))) ?_); intro h'9z tk'9z tr9z F'9z N'9z; (try dsimp only); (try k_sweep)))
  k_with "subscriptTail Name Slice ref ref" => ((k_here; k_dflt (refine' kmk_slice_lit (by k_asm) (by k_asm) (by kmk_list) (by kmk_part) (by kmk_part) (by assumption) ?_ (by with_unfolding_all rfl) (by kmk_pure) (by assumption)); intro D'9z h'9z F'9z N'9z l19z; (try k_lt l19z); (try k_sweep)))
  k_with "subscriptTail Name Constant ref int" => ((k_here; k_dflt (refine' item_zero (by exact ⟨_, News.get (by k_asm) (by k_mem), rfl, _, rfl⟩) ?_)))
  k_with "compareOp NotEq str str" => ((k_here; k_dflt (refine' ne_same (by first | exact join_catS _ | with_reducible rfl | rfl) ?_)))
  k_with "call builtin:str.join" => ((k_here; k_dflt (refine' join_listW (by exact ⟨_, News.get (by k_asm) (by k_mem), rfl, _, rfl⟩) (by assumption) (by decide) (by assumption) ?_); intro t'9z k'9z; (try dsimp only)))
  k_with "call builtin:len" => ((k_here; (with_reducible show wpAny _ _ (call (Value.builtin "len") [Value.ref _]) _ _ _); k_dflt (refine' len_l (by exact ⟨_, News.get (by k_asm) (by k_mem), rfl, _, rfl⟩) (by assumption) (by (first | lia | omega)) ?_); intro t'9z k'9z; (try dsimp only)))
  trivial
theorem mem_out {α : Type} {q a : α} {r l : List α} (h : q ∈ a :: r) (h1 : a ∈ l) (h2 : q ∈ r → q ∈ l) : q ∈ l := by
  rcases List.mem_cons.mp h with rfl | h
  · exact h1
  · exact h2 h
theorem linesLEx2 : True := by
  k_with "mine subm" => ((intro q9z hq9z; (repeat (refine mem_out hq9z (by walk_at "mine memt") ?_; clear hq9z; intro hq9z)); (with_reducible (repeat (first | exact hq9z | refine List.mem_cons_of_mem _ ?_)))))
  trivial
section
variable {prog : Program} {w : World} {A : Around} {E : Value → Shared → Prop} {s : Shared} {Q : Value → Shared → Prop}
theorem tokStr {z : Str} {v : Value} (h : IsTok (some z) v) : ∃ t, v = .str z t := h
theorem ne_told {a b : Addr} {l1 l2 : List Value} {pl : List Nat} {sv : Value} {k : Int} (ha : s.heap.IsList a l1.toArray) (hb : s.heap.IsList b l2.toArray) (h1 : Told pl sv k l1) (h2 : Told pl sv k l2) (hu : A.units < cLine) (h : Q (.bool false) s) :
    wpAny (model prog w) A (compareOp .NotEq (.ref a) (.ref b)) Q E s := by
  obtain ⟨tm, tp, x, y, tw, rfl⟩ := h1
  obtain ⟨tm', tp', x', y', tw', rfl⟩ := h2
  refine SeqAt.RcNeAt.lists (e := fun _ => true) ha hb rfl hu (fun j h1 h2 => ?_) prog w E Q h
  have key : ∀ j, j < 6 → j = 0 ∨ j = 1 ∨ j = 2 ∨ j = 3 ∨ j = 4 ∨ j = 5 := by decide
  have st : ∀ (x : Str) (t u : Tok), SeqAt.EqAt A.in1 s (.str x t) (.str x u) true := fun x t u => by
    have := SeqAt.EqAt.str_str (A := A.in1) (s := s) x t x u
    rwa [beq_self_eq_true] at this
  have it : ∀ (x : Int) (t u : Tok), SeqAt.EqAt A.in1 s (.int x t) (.int x u) true := fun x t u => by
    have := SeqAt.EqAt.int_int (A := A.in1) (s := s) x t x u
    rwa [beq_self_eq_true] at this
  rcases key j h1 with rfl | rfl | rfl | rfl | rfl | rfl
  · exact st _ _ _
  · exact SeqAt.EqAt.same _
  · exact it _ _ _
  · exact it _ _ _
  · exact it _ _ _
  · exact st _ _ _
theorem ne_pair {a b : Addr} {i j : Int} {z : Str} {ti tj tz tw : Tok} (ha : s.heap.IsTuple a [.int i ti, .str z tz].toArray) (hb : s.heap.IsTuple b [.int j tj, .str z tw].toArray) (e : i = j) (hu : A.units < cLine) (h : Q (.bool false) s) :
    wpAny (model prog w) A (compareOp .NotEq (.ref a) (.ref b)) Q E s := by
  subst e
  refine SeqAt.RcNeAt.tuples (e := fun _ => true) ha hb hu (fun k h1 h2 => ?_) prog w E Q h
  have key : ∀ j, j < 2 → j = 0 ∨ j = 1 := by decide
  rcases key k h1 with rfl | rfl
  · have := SeqAt.EqAt.int_int (A := A.in1) (s := s) i ti i tj
    rwa [beq_self_eq_true] at this
  · have := SeqAt.EqAt.str_str (A := A.in1) (s := s) z tz z tw
    rwa [beq_self_eq_true] at this
end
theorem linesLEx3 : True := by
  k_with "compareOp NotEq ref ref" => ((k_here; k_dflt (first | (refine' ne_told (by exact ⟨_, News.get (by k_asm) (by k_mem), rfl, _, rfl⟩) (by exact ⟨_, News.get (by k_asm) (by k_mem), rfl, _, rfl⟩) (by assumption) (by assumption) (by ktr_units) ?_) | (refine' ne_pair (by exact ⟨_, News.get (by k_asm) (by k_mem), rfl, _, rfl⟩) (by exact ⟨_, News.get (by k_asm) (by k_mem), rfl, _, rfl⟩) (by (first | lia | omega)) (by ktr_units) ?_))))
  k_with "call ref" => ((k_here; (k_dflt (show wpAny _ _ (PySem.call (Value.ref 163) [Value.ref _, _, _]) _ _ _)); (with_reducible rename LG _ _ _ _ _ _ _ => HL9z); (with_reducible rename PatIs _ _ _ => hpX9z); k_dflt (refine' refL HL9z hpX9z (by k_asm) (news_pick2 (by k_asm) (by walk_at "mine pick") (by walk_at "mine pick")) (by walk_at "mine memt") (by walk_at "mine offx") (by assumption) (by first | assumption | (first | lia | omega)) (by assumption) (by assumption) (by assumption) (by assumption) (by assumption) (by assumption) (by (first | lia | omega)) (by assumption) ?_); intro h'9z tk'9z t69z v9z D9z lst9z hv9z ht9z F'9z N'9z hlt9z; (obtain ⟨tv9z, ev9z⟩ := tokStr hv9z; subst ev9z); (try dsimp only); (try k_sweep)))
  k_with "call ref" => ((k_here; (k_dflt (show wpAny _ _ (PySem.call (Value.ref 108) [Value.ref _]) _ _ _)); (with_reducible rename LG _ _ _ _ _ _ _ => HL9z); k_dflt (refine' tellL HL9z (by k_asm) (news_pick2 (by k_asm) (by walk_at "mine pick") (by walk_at "mine pick")) (by walk_at "mine offx") (by assumption) (by assumption) (by assumption) ?_); intro h'9z tk'9z ta9z F'9z N'9z; (try dsimp only); (try k_sweep)))
  k_with "subscriptTail Name UnaryOp" => ((k_here; k_dflt (refine' item_last (by exact ⟨_, News.get (by k_asm) (by k_mem), rfl, _, rfl⟩) (by assumption) ?_)))
  k_with "subscriptTail Name UnaryOp ref int" => ((k_here; k_dflt (refine' item_last (by exact ⟨_, News.get (by k_asm) (by k_mem), rfl, _, rfl⟩) (by assumption) ?_)))
  trivial
section
variable {w : World} {mg mb : Str → Option Value} {p : Program} {loose : List Str} {mean : ExcName → Option Value}
    {fa : Addr} {cd : Value} {G : Heap} {L : Addr} {m : Str → Option Value} {s : Shared} {Q : Flow → Shared → Prop}
    {E : Value → Shared → Prop} {x d r R ka kb lk : Addr} {rest : List (Addr × Obj)} {t1 t2 t3 t4 t5 : Tok} {b : Bool} {sv : Value} {txt : Str} {tt tx : Tok} {idx : Int} {ti : Tok} {oi : Obj} {rv Rv va vb lkv : List Value} {rc Rc : Nat} {ya yb : List Str} {lim lo kk : Int} {tl tlo tkk : Tok} {c z : Str} {tc tz : Tok} {l : List Str} {il : Int} {pl : List Nat}
set_option maxRecDepth 100000 in
set_option maxHeartbeats 3000000 in
theorem turnE (H : LG w p loose mean mg mb G) (F : Fr G L s.heap m)
    (N : News G L s.heap ((d, tokD w t1 t2 t3 t4 t5 b sv txt tt idx ti (.str c tc)) :: (x, instObj 133 d) :: (r, PySem.W.listOf rv.toArray rc) :: (ka, tup va) :: (kb, tup vb) :: (lk, PySem.W.listOf lkv.toArray 0) :: rest))
    (hoff : OwnOff rest [d, x]) (hdx : @LT.lt Nat _ d x) (hrd : @LT.lt Nat _ r d) (had : @LT.lt Nat _ ka d) (hbd : @LT.lt Nat _ kb d) (hld : @LT.lt Nat _ lk d)
    (hsa : StrsAre va ya) (hsb : StrsAre vb yb) (hlast : rv.getLast? = some (.str z tz))
    (h1 : m (Str.ofString "k") = some (.int kk tkk)) (h2 : m (Str.ofString "own") = some (.ref ka)) (h3 : m (Str.ofString "other") = some (.ref kb)) (h4 : m (Str.ofString "run") = some (.ref r))
    (h5 : m (Str.ofString "t") = some (.ref x)) (h6 : m (Str.ofString "lack") = some (.ref lk)) (h7 : m (Str.ofString "limit") = some (.int lim tl)) (h8 : m (Str.ofString "text") = some (.str txt tx)) (h9 : m (Str.ofString "lone") = some (.int lo tlo)) (h10 : m (Str.ofString "runs") = some (.ref R))
    (hl1 : 1 ≤ lim) (hl3 : lim ≤ 3) (hpat : PatIs txt sv pl) (htold : Told pl sv ((txt.length : Int) - 1) lkv)
    (h0 : 0 ≤ idx) (hsz : txt.length < 1000) (hin : ∀ x ∈ c :: l, inSet (some x) ya = true ∧ x.length ≤ 2) (hout : inSet (some z) yb = false) (hz1 : 1 ≤ z.length) (hz2 : z.length ≤ 2)
    (hrun : BRun txt idx l c z il) (hlone : Lone txt il) (hln : (l.length : Int) + 1 ≤ lim)
    (hnext : ∀ h' tk' t6 v, Fr G L h' m → News G L h' ((d, tokD w t1 t2 t3 t4 t5 b sv txt tt il t6 (.str z v)) :: (x, instObj 133 d) :: (r, PySem.W.listOf rv.toArray rc) :: (ka, tup va) :: (kb, tup vb) :: (lk, PySem.W.listOf lkv.toArray 0) :: rest) → Q .next { s with heap := h', toks := tk' }) :
    wpAny (lM w) (lA L fa cd) (execs bodyE (lenv L fa cd)) Q E s := by
  have em := dm_eq h1 h2 h3 h4 h5 h6 h7 h8 h9 h10
  have hlz : il = (txt.length : Int) - 1 := by have := hlone.1; (first | lia | omega)
  have hTk : ∀ t, IsTok (some z) (.str z t) := fun t => ⟨t, rfl⟩
  obtain ⟨B, X, T⟩ := id H
  conv in (execs bodyE _) => arg 1; whnf
  rw [em] at F
  unfold dm at F
  show wpAny (model PySem.Challenge.rw_aa0047_01.row.prog w) _ _ _ _ _
  revert X; k_fill; intro X
  k_steps
  all_goals (
    refine' hnext _ _ _ _ ?zF (news_sub ?zN ?zS)
    case zF => rw [em]; unfold dm; k_asm
    case zN => k_asm
    case zS => walk_at "mine subm")
end
end
section
open PySem PySem.W PyProof.Rows
theorem linesLF : True := by
  w_on
  w_top off
  k_with_none
  k_with "mine pick" => ((with_reducible (repeat (first | exact Pick.head | apply Pick.tail))))
  k_with "mine nne" => (first | assumption | exact Nat.ne_of_lt (by assumption) | exact Nat.ne_of_gt (by assumption) | exact Nat.ne_of_lt (Nat.lt_trans (by assumption) (by assumption)) | ((rename _ ∧ _ => gl99z); first | exact Nat.ne_of_gt gl99z.1 | exact Nat.ne_of_gt gl99z.2.1 | exact Nat.ne_of_gt gl99z.2.2.1 | exact Nat.ne_of_lt gl99z.1 | exact Nat.ne_of_lt gl99z.2.1) | exact (show @Ne Nat _ _ from by (first | lia | omega)) | (dsimp only; exact (show @Ne Nat _ _ from by (first | lia | omega))))
  k_with "mine offx" => ((repeat (first | assumption | refine off2_cons (by walk_at "mine nne") (by walk_at "mine nne") ?_)))
  k_with "mine pick" => ((with_reducible (repeat (first | exact Pick.head | apply Pick.tail))))
  k_with "mine memt" => ((with_reducible (repeat (first | assumption | exact List.mem_cons_self .. | refine List.mem_cons_of_mem _ ?_))))
  k_with "call ref" => (((k_dflt (show wpAny _ _ (PySem.call (Value.ref 86) [Value.ref _, _, _]) _ _ _)); refine Stop2.mk ?_))
  k_with "call ref" => ((k_here; (k_dflt (show wpAny _ _ (PySem.call (Value.ref 86) [Value.ref _, _, _]) _ _ _)); (with_reducible rename LG _ _ _ _ _ _ _ => HL9z); k_dflt (refine' gwL HL9z (by k_asm) (news_pick2 (by k_asm) (by walk_at "mine pick") (by walk_at "mine pick")) (by walk_at "mine memt") (by walk_at "mine offx") (by assumption) (by first | assumption | (first | lia | omega)) (by assumption) (by assumption) (by assumption) (by assumption) (by assumption) (by (first | lia | omega)) (by assumption) ?_); intro h'9z tk'9z t69z v9z tr9z hv9z F'9z N'9z; (try dsimp only); (try k_sweep)))
  k_with "call ref" => ((k_here; (k_dflt (show wpAny _ _ (PySem.call (Value.ref 86) [Value.ref _, _, _]) _ _ _)); (with_reducible rename LG _ _ _ _ _ _ _ => HL9z); (with_reducible rename IsTok _ _ => hTk9z); k_dflt (refine' gwN HL9z (by k_asm) (news_pick2 (by k_asm) (by walk_at "mine pick") (by walk_at "mine pick")) (by walk_at "mine memt") (by assumption) (by first | assumption | (first | lia | omega)) (by assumption) (by (first | lia | omega)) (by (first | lia | omega)) hTk9z (by first | exact .inr (by assumption) | exact .inl (by (first | lia | omega))) ?_); intro h'9z tk'9z tr9z F'9z N'9z; (try dsimp only); (try k_sweep)))
  k_with "subscriptTail Name Slice ref ref" => ((k_here; k_dflt (refine' kmk_slice_lit (by k_asm) (by k_asm) (by kmk_list) (by kmk_part) (by kmk_part) (by assumption) ?_ (by with_unfolding_all rfl) (by kmk_pure) (by assumption)); intro D'9z h'9z F'9z N'9z l19z; (try k_lt l19z); (try k_sweep)))
  k_with "subscriptTail Name Constant ref int" => ((k_here; k_dflt (refine' item_zero (by exact ⟨_, News.get (by k_asm) (by k_mem), rfl, _, rfl⟩) ?_)))
  k_with "compareOp NotEq str str" => ((k_here; k_dflt (refine' ne_same (by first | exact join_catS _ | with_reducible rfl | rfl) ?_)))
  k_with "call builtin:str.join" => ((k_here; k_dflt (refine' join_listW (by exact ⟨_, News.get (by k_asm) (by k_mem), rfl, _, rfl⟩) (by assumption) (by decide) (by assumption) ?_); intro t'9z k'9z; (try dsimp only)))
  k_with "call builtin:len" => ((k_here; (with_reducible show wpAny _ _ (call (Value.builtin "len") [Value.ref _]) _ _ _); k_dflt (refine' len_l (by exact ⟨_, News.get (by k_asm) (by k_mem), rfl, _, rfl⟩) (by assumption) (by (first | lia | omega)) ?_); intro t'9z k'9z; (try dsimp only)))
  k_with "mine subm" => ((intro q9z hq9z; (repeat (refine mem_out hq9z (by walk_at "mine memt") ?_; clear hq9z; intro hq9z)); (with_reducible (repeat (first | exact hq9z | refine List.mem_cons_of_mem _ ?_)))))
  k_with "compareOp NotEq ref ref" => ((k_here; k_dflt (first | (refine' ne_told (by exact ⟨_, News.get (by k_asm) (by k_mem), rfl, _, rfl⟩) (by exact ⟨_, News.get (by k_asm) (by k_mem), rfl, _, rfl⟩) (by assumption) (by assumption) (by ktr_units) ?_) | (refine' ne_pair (by exact ⟨_, News.get (by k_asm) (by k_mem), rfl, _, rfl⟩) (by exact ⟨_, News.get (by k_asm) (by k_mem), rfl, _, rfl⟩) (by (first | lia | omega)) (by ktr_units) ?_))))
  k_with "call ref" => ((k_here; (k_dflt (show wpAny _ _ (PySem.call (Value.ref 163) [Value.ref _, _, _]) _ _ _)); (with_reducible rename LG _ _ _ _ _ _ _ => HL9z); (with_reducible rename PatIs _ _ _ => hpX9z); k_dflt (refine' refL HL9z hpX9z (by k_asm) (news_pick2 (by k_asm) (by walk_at "mine pick") (by walk_at "mine pick")) (by walk_at "mine memt") (by walk_at "mine offx") (by assumption) (by first | assumption | (first | lia | omega)) (by assumption) (by assumption) (by assumption) (by assumption) (by assumption) (by assumption) (by (first | lia | omega)) (by assumption) ?_); intro h'9z tk'9z t69z v9z D9z lst9z hv9z ht9z F'9z N'9z hlt9z; (obtain ⟨tv9z, ev9z⟩ := tokStr hv9z; subst ev9z); (try dsimp only); (try k_sweep)))
  k_with "call ref" => ((k_here; (k_dflt (show wpAny _ _ (PySem.call (Value.ref 108) [Value.ref _]) _ _ _)); (with_reducible rename LG _ _ _ _ _ _ _ => HL9z); k_dflt (refine' tellL HL9z (by k_asm) (news_pick2 (by k_asm) (by walk_at "mine pick") (by walk_at "mine pick")) (by walk_at "mine offx") (by assumption) (by assumption) (by assumption) ?_); intro h'9z tk'9z ta9z F'9z N'9z; (try dsimp only); (try k_sweep)))
  k_with "subscriptTail Name UnaryOp" => ((k_here; k_dflt (refine' item_last (by exact ⟨_, News.get (by k_asm) (by k_mem), rfl, _, rfl⟩) (by assumption) ?_)))
  k_with "subscriptTail Name UnaryOp ref int" => ((k_here; k_dflt (refine' item_last (by exact ⟨_, News.get (by k_asm) (by k_mem), rfl, _, rfl⟩) (by assumption) ?_)))
  k_with "exec For Name Call cons nil" => ((k_here; k_dflt (refine' For_range (L := _) rfl rfl rfl rfl ?_ (by intro _; rfl) (by assumption))))
  trivial
theorem sz_sub {n : Nat} {l l' : List (Addr × Obj)} (h0 : ∀ p ∈ l, @LT.lt Nat _ p.1 n) (hs : ∀ q, q ∈ l' → q ∈ l) : ∀ p ∈ l', @LT.lt Nat _ p.1 n := fun p hp => h0 p (hs p hp)
section
variable {w : World} {mg mb : Str → Option Value} {p : Program} {loose : List Str} {mean : ExcName → Option Value}
    {fa : Addr} {cd : Value} {G : Heap} {L : Addr} {m : Str → Option Value} {s : Shared} {Q : Flow → Shared → Prop}
    {E : Value → Shared → Prop} {x d r R ka kb lk : Addr} {rest : List (Addr × Obj)} {t1 t2 t3 t4 t5 : Tok} {b : Bool} {sv : Value} {txt : Str} {tt tx : Tok} {idx : Int} {ti : Tok} {oi : Obj} {ii : Int} {tii : Tok} {rv Rv va vb lkv : List Value} {rc Rc : Nat} {run ya yb : List Str} {lim lo kk : Int} {tl tlo tkk : Tok} {c z : Str} {tc tz : Tok} {l : List Str} {il : Int} {nr : Nat} {pl : List Nat}
set_option maxRecDepth 100000 in
set_option maxHeartbeats 3000000 in
theorem turnR (H : LG w p loose mean mg mb G) (hPE : PassesOwn (lM w) (lA L fa cd) (lenv L fa cd) E) (F : Fr G L s.heap m)
    (N : News G L s.heap ((d, tokD w t1 t2 t3 t4 t5 b sv txt tt idx ti (.str c tc)) :: (x, instObj 133 d) :: (L + 1 + 1, oi) :: (r, PySem.W.listOf rv.toArray rc) :: (R, PySem.W.listOf Rv.toArray Rc) :: (ka, tup va) :: (kb, tup vb) :: (lk, PySem.W.listOf lkv.toArray 0) :: rest))
    (hoff : OwnOff rest [d, x]) (hdx : @LT.lt Nat _ d x) (hid : @LT.lt Nat _ (L + 1 + 1) d) (hrd : @LT.lt Nat _ r d) (hRd : @LT.lt Nat _ R d) (had : @LT.lt Nat _ ka d) (hbd : @LT.lt Nat _ kb d) (hld : @LT.lt Nat _ lk d)
    (hsa : StrsAre va ya) (hsb : StrsAre vb yb) (hrv : StrsAre rv run) (hRn : Rv.length = nr) (hnr : nr ≤ 100) (hoi : oi.data = .cell (some (.int ii tii))) (hlast : rv.getLast? = some (.str z tz))
    (h1 : m (Str.ofString "k") = some (.int kk tkk)) (h2 : m (Str.ofString "own") = some (.ref ka)) (h3 : m (Str.ofString "other") = some (.ref kb)) (h4 : m (Str.ofString "run") = some (.ref r))
    (h5 : m (Str.ofString "t") = some (.ref x)) (h6 : m (Str.ofString "lack") = some (.ref lk)) (h7 : m (Str.ofString "limit") = some (.int lim tl)) (h8 : m (Str.ofString "text") = some (.str txt tx)) (h9 : m (Str.ofString "lone") = some (.int lo tlo)) (h10 : m (Str.ofString "runs") = some (.ref R))
    (hk0 : 0 ≤ kk) (hk1 : kk < 10) (hl1 : 1 ≤ lim) (hl3 : lim ≤ 3) (hrl : run.length ≤ 10) (hcut : (run.drop kk.toNat).take ((kk + lim).toNat - kk.toNat) = c :: l)
    (hpat : PatIs txt sv pl) (htold : Told pl sv ((txt.length : Int) - 1) lkv)
    (h0 : 0 ≤ idx) (hsz : txt.length < 1000) (hin : ∀ x ∈ c :: l, inSet (some x) ya = true ∧ x.length ≤ 2) (hout : inSet (some c) yb = false) (houtz : inSet (some z) yb = false) (hz1 : 1 ≤ z.length) (hz2 : z.length ≤ 2) (hzin : inSet (some z) ya = true)
    (hlo : lo = 1) (hii : ii = (nr : Int) - 1) (hpl : (run.length : Int) ≤ kk + lim)
    (hrun : BRun txt idx l c z il) (hlone : Lone txt il) (hln : (l.length : Int) + 1 ≤ lim) (h0l : 0 ≤ il)
    (hnext : ∀ h' tk' m' t6 v, Fr G L h' m' → News G L h' ((d, tokD w t1 t2 t3 t4 t5 b sv txt tt il t6 (.str z v)) :: (x, instObj 133 d) :: (L + 1 + 1, oi) :: (r, PySem.W.listOf rv.toArray rc) :: (R, PySem.W.listOf Rv.toArray Rc) :: (ka, tup va) :: (kb, tup vb) :: (lk, PySem.W.listOf lkv.toArray 0) :: rest) → (∀ y, y ≠ Str.ofString "piece" → y ≠ Str.ofString "_" → m' y = m y) → Q .next { s with heap := h', toks := tk' }) :
    wpAny (lM w) (lA L fa cd) (execs bodyD (lenv L fa cd)) Q E s := by
  obtain ⟨tq, lv, hsl, hpv⟩ := slice_cut hrv hk0 (show kk ≤ kk + lim by (first | lia | omega)) hcut
  have hTk : IsTok (some c) (.str c tc) := ⟨tc, rfl⟩
  have hrz := arr_short hrv hrl
  have hrvl : rv.length = run.length := hrv.length
  have em := dm_eq h1 h2 h3 h4 h5 h6 h7 h8 h9 h10
  obtain ⟨B, X, T⟩ := id H
  subst hlo
  conv in (execs bodyD _) => arg 1; whnf
  rw [em] at F
  unfold dm at F
  show wpAny (model PySem.Challenge.rw_aa0047_01.row.prog w) _ _ _ _ _
  revert X; k_fill; intro X
  k_steps
  any_goals (exfalso; (first | lia | omega))
  (with_reducible rename LG _ _ _ _ _ _ _ => H)
  (with_reducible rename IsRange _ _ _ _ _ _ _ _ => hR)
  (with_reducible rename Fr _ _ _ _ => hF)
  (with_reducible rename News _ _ _ _ => hN)
  have hsz0 := fun p hp => Heap.lt_size (hN p hp).1
  have hszd : @LT.lt Nat _ d _ := hsz0 _ (.head _)
  have hszx : @LT.lt Nat _ x _ := hsz0 _ (.tail _ (.head _))
  generalize hm1 : (fun y => if y = Str.ofString "piece" then _ else _ : Str → Option Value) = m1 at hF
  have g1 : ∀ y, y ≠ Str.ofString "piece" → m1 y = m y := by
    intro y hy
    have := congrFun em y
    unfold dm at this
    rw [← hm1]
    simp only [if_neg hy]
    exact this.symm
  k_dflt (refine' ForAt.intro (g₀ := G) (m₀ := m1) (news₀ := (d, tokD w t1 t2 t3 t4 t5 b sv txt tt idx ti (.str c tc)) :: (x, instObj 133 d) :: (r, PySem.W.listOf rv.toArray rc) :: (ka, tup va) :: (kb, tup vb) :: (lk, PySem.W.listOf lkv.toArray 0) :: (L + 1 + 1, oi) :: (R, PySem.W.listOf Rv.toArray Rc) :: rest) 2 (fun k g m' news => g = G ∧ (∀ y, y ≠ Str.ofString "_" → m' y = m1 y) ∧ ∃ i0 c0 l0 tc0 t6, news = (d, tokD w t1 t2 t3 t4 t5 b sv txt tt i0 t6 (.str c0 tc0)) :: (x, instObj 133 d) :: (r, PySem.W.listOf rv.toArray rc) :: (ka, tup va) :: (kb, tup vb) :: (lk, PySem.W.listOf lkv.toArray 0) :: (L + 1 + 1, oi) :: (R, PySem.W.listOf Rv.toArray Rc) :: rest ∧ BRun txt i0 l0 c0 z il ∧ (l0.length : Int) + 1 ≤ lim ∧ 0 ≤ i0 ∧ (∀ x ∈ c0 :: l0, inSet (some x) ya = true ∧ x.length ≤ 2) ∧ (1 ≤ k → i0 = il ∧ c0 = z)) hR (by decide) (by decide) hF ?N ?h0 ?hlt ?turn ?done)
  case N => exact news_sub hN (by walk_at "mine subm")
  case h0 => exact ⟨rfl, fun _ _ => rfl, idx, c, l, tc, ti, rfl, hrun, hln, h0, hin, fun h => absurd h (by (first | lia | omega))⟩
  case hlt =>
    rintro k g m' news ⟨-, -, i0, c0, l0, tc0, t6, rfl, -⟩ p hp
    rcases List.mem_cons.mp hp with rfl | hp
    · exact hszd
    · exact sz_sub hsz0 (by walk_at "mine subm") p hp
  case turn =>
    rintro I hI k g m' news h tk t hk ⟨rfl, hmm, i0, c0, l0, tc0, t6, rfl, hb0, hl0, hi0, hin0, hz0⟩ F' N'
    have hId : @LT.lt Nat _ d I := hI ▸ hszd
    have hIx : @LT.lt Nat _ x I := hI ▸ hszx
    have q : ∀ (v : Option Value) (y : Str), y ≠ Str.ofString "_" → y ≠ Str.ofString "piece" → (if y = Str.ofString "_" then v else m' y) = m y := fun v y h1 h2 => (if_neg h1).trans ((hmm y h1).trans (g1 y h2))
    refine turnE (s := { s with heap := h, toks := tk }) (rest := (I, rIt 0 1 2 (k + 1)) :: (L + 1 + 1, oi) :: (R, PySem.W.listOf Rv.toArray Rc) :: rest) (r := r) (R := R) (kk := kk) (tkk := tkk) H F' (news_sub N' (by walk_at "mine subm")) ?off hdx hrd had hbd hld hsa hsb hlast
      ((q _ _ (by decide) (by decide)).trans h1) ((q _ _ (by decide) (by decide)).trans h2) ((q _ _ (by decide) (by decide)).trans h3) ((q _ _ (by decide) (by decide)).trans h4) ((q _ _ (by decide) (by decide)).trans h5) ((q _ _ (by decide) (by decide)).trans h6) ((q _ _ (by decide) (by decide)).trans h7) ((q _ _ (by decide) (by decide)).trans h8) ((q _ _ (by decide) (by decide)).trans h9) ((q _ _ (by decide) (by decide)).trans h10)
      hl1 hl3 hpat htold hi0 hsz hin0 houtz hz1 hz2 hb0 hlone hl0 ?nx
    case off => walk_at "mine offx"
    case nx =>
      intro h' tk' t6' v F'' N''
      refine LoopPost.next (s := { s with heap := _, toks := _ }) F'' (news_sub N'' (by walk_at "mine subm")) ⟨rfl, ?_, il, z, [], v, t6', rfl, ⟨rfl, rfl⟩, ?_, h0l, ?_, fun _ => ⟨rfl, rfl⟩⟩
      · intro y hy
        exact (if_neg hy).trans (hmm y hy)
      · simp; (first | lia | omega)
      · intro y hy
        rw [List.mem_singleton.mp hy]
        exact ⟨hzin, hz2⟩
  case done =>
    rintro g m' news h tk ⟨rfl, hmm, i0, c0, l0, tc0, t6, rfl, hb0, hl0, hi0, hin0, hz0⟩ F' N'
    obtain ⟨rfl, rfl⟩ := hz0 (by (first | lia | omega))
    k_steps
    exact hnext _ _ _ _ _ F' (news_sub N' (by walk_at "mine subm")) fun y h1 h2 => (hmm y h2).trans (g1 y h1)
end
end
section
open PySem PySem.W PyProof.Rows
theorem linesLH : True := by
  w_on
  w_top off
  k_with_none
  k_with "mine pick" => ((with_reducible (repeat (first | exact Pick.head | apply Pick.tail))))
  k_with "mine nne" => (first | assumption | exact Nat.ne_of_lt (by assumption) | exact Nat.ne_of_gt (by assumption) | exact Nat.ne_of_lt (Nat.lt_trans (by assumption) (by assumption)) | ((rename _ ∧ _ => gl99z); first | exact Nat.ne_of_gt gl99z.1 | exact Nat.ne_of_gt gl99z.2.1 | exact Nat.ne_of_gt gl99z.2.2.1 | exact Nat.ne_of_lt gl99z.1 | exact Nat.ne_of_lt gl99z.2.1) | exact (show @Ne Nat _ _ from by (first | lia | omega)) | (dsimp only; exact (show @Ne Nat _ _ from by (first | lia | omega))))
  k_with "mine offx" => ((repeat (first | assumption | refine off2_cons (by walk_at "mine nne") (by walk_at "mine nne") ?_)))
  k_with "mine pick" => ((with_reducible (repeat (first | exact Pick.head | apply Pick.tail))))
  k_with "mine memt" => ((with_reducible (repeat (first | assumption | exact List.mem_cons_self .. | refine List.mem_cons_of_mem _ ?_))))
  k_with "call ref" => (((k_dflt (show wpAny _ _ (PySem.call (Value.ref 86) [Value.ref _, _, _]) _ _ _)); refine Stop2.mk ?_))
  k_with "call ref" => ((k_here; (k_dflt (show wpAny _ _ (PySem.call (Value.ref 86) [Value.ref _, _, _]) _ _ _)); (with_reducible rename LG _ _ _ _ _ _ _ => HL9z); k_dflt (refine' gwL HL9z (by k_asm) (news_pick2 (by k_asm) (by walk_at "mine pick") (by walk_at "mine pick")) (by walk_at "mine memt") (by walk_at "mine offx") (by assumption) (by first | assumption | (first | lia | omega)) (by assumption) (by assumption) (by assumption) (by assumption) (by assumption) (by (first | lia | omega)) (by assumption) ?_); intro h'9z tk'9z t69z v9z tr9z hv9z F'9z N'9z; (try dsimp only); (try k_sweep)))
  k_with "call ref" => ((k_here; (k_dflt (show wpAny _ _ (PySem.call (Value.ref 86) [Value.ref _, _, _]) _ _ _)); (with_reducible rename LG _ _ _ _ _ _ _ => HL9z); (with_reducible rename IsTok _ _ => hTk9z); k_dflt (refine' gwN HL9z (by k_asm) (news_pick2 (by k_asm) (by walk_at "mine pick") (by walk_at "mine pick")) (by walk_at "mine memt") (by assumption) (by first | assumption | (first | lia | omega)) (by assumption) (by (first | lia | omega)) (by (first | lia | omega)) hTk9z (by first | exact .inr (by assumption) | exact .inl (by (first | lia | omega))) ?_); intro h'9z tk'9z tr9z F'9z N'9z; (try dsimp only); (try k_sweep)))
  k_with "subscriptTail Name Slice ref ref" => ((k_here; k_dflt (refine' kmk_slice_lit (by k_asm) (by k_asm) (by kmk_list) (by kmk_part) (by kmk_part) (by assumption) ?_ (by with_unfolding_all rfl) (by kmk_pure) (by assumption)); intro D'9z h'9z F'9z N'9z l19z; (try k_lt l19z); (try k_sweep)))
  k_with "subscriptTail Name Constant ref int" => ((k_here; k_dflt (refine' item_zero (by exact ⟨_, News.get (by k_asm) (by k_mem), rfl, _, rfl⟩) ?_)))
  k_with "compareOp NotEq str str" => ((k_here; k_dflt (refine' ne_same (by first | exact join_catS _ | with_reducible rfl | rfl) ?_)))
  k_with "call builtin:str.join" => ((k_here; k_dflt (refine' join_listW (by exact ⟨_, News.get (by k_asm) (by k_mem), rfl, _, rfl⟩) (by assumption) (by decide) (by assumption) ?_); intro t'9z k'9z; (try dsimp only)))
  k_with "call builtin:len" => ((k_here; (with_reducible show wpAny _ _ (call (Value.builtin "len") [Value.ref _]) _ _ _); k_dflt (refine' len_l (by exact ⟨_, News.get (by k_asm) (by k_mem), rfl, _, rfl⟩) (by assumption) (by (first | lia | omega)) ?_); intro t'9z k'9z; (try dsimp only)))
  k_with "mine subm" => ((intro q9z hq9z; (repeat (refine mem_out hq9z (by walk_at "mine memt") ?_; clear hq9z; intro hq9z)); (with_reducible (repeat (first | exact hq9z | refine List.mem_cons_of_mem _ ?_)))))
  k_with "compareOp NotEq ref ref" => ((k_here; k_dflt (first | (refine' ne_told (by exact ⟨_, News.get (by k_asm) (by k_mem), rfl, _, rfl⟩) (by exact ⟨_, News.get (by k_asm) (by k_mem), rfl, _, rfl⟩) (by assumption) (by assumption) (by ktr_units) ?_) | (refine' ne_pair (by exact ⟨_, News.get (by k_asm) (by k_mem), rfl, _, rfl⟩) (by exact ⟨_, News.get (by k_asm) (by k_mem), rfl, _, rfl⟩) (by (first | lia | omega)) (by ktr_units) ?_))))
  k_with "call ref" => ((k_here; (k_dflt (show wpAny _ _ (PySem.call (Value.ref 163) [Value.ref _, _, _]) _ _ _)); (with_reducible rename LG _ _ _ _ _ _ _ => HL9z); (with_reducible rename PatIs _ _ _ => hpX9z); k_dflt (refine' refL HL9z hpX9z (by k_asm) (news_pick2 (by k_asm) (by walk_at "mine pick") (by walk_at "mine pick")) (by walk_at "mine memt") (by walk_at "mine offx") (by assumption) (by first | assumption | (first | lia | omega)) (by assumption) (by assumption) (by assumption) (by assumption) (by assumption) (by assumption) (by (first | lia | omega)) (by assumption) ?_); intro h'9z tk'9z t69z v9z D9z lst9z hv9z ht9z F'9z N'9z hlt9z; (obtain ⟨tv9z, ev9z⟩ := tokStr hv9z; subst ev9z); (try dsimp only); (try k_sweep)))
  k_with "call ref" => ((k_here; (k_dflt (show wpAny _ _ (PySem.call (Value.ref 108) [Value.ref _]) _ _ _)); (with_reducible rename LG _ _ _ _ _ _ _ => HL9z); k_dflt (refine' tellL HL9z (by k_asm) (news_pick2 (by k_asm) (by walk_at "mine pick") (by walk_at "mine pick")) (by walk_at "mine offx") (by assumption) (by assumption) (by assumption) ?_); intro h'9z tk'9z ta9z F'9z N'9z; (try dsimp only); (try k_sweep)))
  k_with "subscriptTail Name UnaryOp" => ((k_here; k_dflt (refine' item_last (by exact ⟨_, News.get (by k_asm) (by k_mem), rfl, _, rfl⟩) (by assumption) ?_)))
  k_with "subscriptTail Name UnaryOp ref int" => ((k_here; k_dflt (refine' item_last (by exact ⟨_, News.get (by k_asm) (by k_mem), rfl, _, rfl⟩) (by assumption) ?_)))
  k_with "exec For Name Call cons nil" => ((k_here; k_dflt (refine' For_range (L := _) rfl rfl rfl rfl ?_ (by intro _; rfl) (by assumption))))
  trivial
theorem strs_last {vs : List Value} {ys : List Str} (h : StrsAre vs ys) : ∀ {z : Str}, ys.getLast? = some z → ∃ t, vs.getLast? = some (.str z t) := by
  induction h with
  | nil => intro z hz; cases hz
  | cons y t r ih =>
    intro z hz
    cases r with
    | nil =>
      refine ⟨t, ?_⟩
      rw [List.getLast?_singleton] at hz ⊢
      rw [Option.some.inj hz]
    | cons y' t' r' =>
      rw [List.getLast?_cons_cons] at hz
      obtain ⟨u, hu⟩ := ih hz
      exact ⟨u, by rw [List.getLast?_cons_cons]; exact hu⟩
section
variable {w : World} {mg mb : Str → Option Value} {p : Program} {loose : List Str} {mean : ExcName → Option Value}
    {fa : Addr} {cd : Value} {G : Heap} {L : Addr} {m : Str → Option Value} {s : Shared} {Q : Flow → Shared → Prop}
    {E : Value → Shared → Prop} {x d r R ka kb lk : Addr} {rest : List (Addr × Obj)} {t1 t2 t3 t4 t5 : Tok} {b : Bool} {sv : Value} {txt : Str} {tt tx : Tok} {ti : Tok} {oi : Obj} {tii : Tok} {rv Rv va vb lkv : List Value} {rc Rc : Nat} {run : List Str} {lo : Int} {ln j : Nat} {tl tlo : Tok} {v : Value} {pl : List Nat} {runs : List (List Str)}
/-- what holds between the turns over a run's pieces -/
noncomputable abbrev JD (w : World) (G : Heap) (m : Str → Option Value) (t1 t2 t3 t4 t5 : Tok) (b : Bool) (sv : Value) (txt : Str) (tt : Tok) (d : Addr) (tl : List (Addr × Obj)) (lo : Int) (j ln n : Nat) (run : List Str) (runs : List (List Str)) (k : Nat) (g : Heap) (m' : Str → Option Value) (news : List (Addr × Obj)) : Prop :=
  g = G ∧ (∀ y, y ≠ Str.ofString "k" → y ≠ Str.ofString "piece" → y ≠ Str.ofString "_" → m' y = m y) ∧ ∃ i6 t6 v6, news = (d, tokD w t1 t2 t3 t4 t5 b sv txt tt i6 t6 v6) :: tl ∧
    ((lo = 0 ∨ j + 1 < runs.length ∨ k < n) → i6 = posI (signsOf runs) (atRun runs j + min (k * ln) run.length) ∧ IsTok (signsOf runs)[atRun runs j + min (k * ln) run.length]? v6)
theorem range_cut {ln len : Nat} (h1 : 1 ≤ ln) (h2 : ln ≤ 3) (h3 : 1 ≤ len) (h4 : len ≤ 4) : Builtin.Range.small 0 (len : Int) (ln : Int) = true ∧ ∃ n : Nat, Builtin.Range.rangeSize 0 (len : Int) (ln : Int) = (n : Int) ∧ 1 ≤ n ∧ n ≤ 4 ∧ len ≤ n * ln ∧ n * ln < len + ln := by
  have e1 : ln = 1 ∨ ln = 2 ∨ ln = 3 := by (first | lia | omega)
  have e2 : len = 1 ∨ len = 2 ∨ len = 3 ∨ len = 4 := by (first | lia | omega)
  rcases e1 with rfl | rfl | rfl <;> rcases e2 with rfl | rfl | rfl | rfl
  · exact ⟨by decide, 1, by decide, by decide, by decide, by decide, by decide⟩
  · exact ⟨by decide, 2, by decide, by decide, by decide, by decide, by decide⟩
  · exact ⟨by decide, 3, by decide, by decide, by decide, by decide, by decide⟩
  · exact ⟨by decide, 4, by decide, by decide, by decide, by decide, by decide⟩
  · exact ⟨by decide, 1, by decide, by decide, by decide, by decide, by decide⟩
  · exact ⟨by decide, 1, by decide, by decide, by decide, by decide, by decide⟩
  · exact ⟨by decide, 2, by decide, by decide, by decide, by decide, by decide⟩
  · exact ⟨by decide, 2, by decide, by decide, by decide, by decide, by decide⟩
  · exact ⟨by decide, 1, by decide, by decide, by decide, by decide, by decide⟩
  · exact ⟨by decide, 1, by decide, by decide, by decide, by decide, by decide⟩
  · exact ⟨by decide, 1, by decide, by decide, by decide, by decide, by decide⟩
  · exact ⟨by decide, 2, by decide, by decide, by decide, by decide, by decide⟩
set_option maxRecDepth 100000 in
set_option maxHeartbeats 3000000 in
theorem loopD (H : LG w p loose mean mg mb G) (hPE : PassesOwn (lM w) (lA L fa cd) (lenv L fa cd) E) (F : Fr G L s.heap m)
    (N : News G L s.heap ((d, tokD w t1 t2 t3 t4 t5 b sv txt tt (posI (signsOf runs) (atRun runs j)) ti v) :: (x, instObj 133 d) :: (L + 1 + 1, oi) :: (r, PySem.W.listOf rv.toArray rc) :: (R, PySem.W.listOf Rv.toArray Rc) :: (ka, tup va) :: (kb, tup vb) :: (lk, PySem.W.listOf lkv.toArray 0) :: rest))
    (hoff : OwnOff rest [d, x]) (hdx : @LT.lt Nat _ d x) (hid : @LT.lt Nat _ (L + 1 + 1) d) (hrd : @LT.lt Nat _ r d) (hRd : @LT.lt Nat _ R d) (had : @LT.lt Nat _ ka d) (hbd : @LT.lt Nat _ kb d) (hld : @LT.lt Nat _ lk d)
    (hsa : StrsAre va (kd (j % 2 == 1))) (hsb : StrsAre vb (kd (!(j % 2 == 1)))) (hrv : StrsAre rv run) (hRn : Rv.length = runs.length) (hoi : oi.data = .cell (some (.int (j : Int) tii)))
    (h2 : m (Str.ofString "own") = some (.ref ka)) (h3 : m (Str.ofString "other") = some (.ref kb)) (h4 : m (Str.ofString "run") = some (.ref r))
    (h5 : m (Str.ofString "t") = some (.ref x)) (h6 : m (Str.ofString "lack") = some (.ref lk)) (h7 : m (Str.ofString "limit") = some (.int (ln : Int) tl)) (h8 : m (Str.ofString "text") = some (.str txt tx)) (h9 : m (Str.ofString "lone") = some (.int lo tlo)) (h10 : m (Str.ofString "runs") = some (.ref R))
    (hl1 : 1 ≤ ln) (hl3 : ln ≤ 3) (hpat : PatIs txt sv pl) (htold : lo = 1 → Told pl sv ((txt.length : Int) - 1) lkv)
    (hO : RunsOk runs) (hj : runs[j]? = some run) (hlo : lo = 0 ∨ lo = 1) (htx : cps txt = flat (signsOf runs) ++ (if lo = 1 then [92] else [])) (hv : IsTok (signsOf runs)[atRun runs j]? v)
    (hnext : ∀ h' tk' m' i6 t6 v', (lo = 0 ∨ j + 1 < runs.length → i6 = posI (signsOf runs) (atRun runs (j + 1)) ∧ IsTok (signsOf runs)[atRun runs (j + 1)]? v') → Fr G L h' m' → News G L h' ((d, tokD w t1 t2 t3 t4 t5 b sv txt tt i6 t6 v') :: (x, instObj 133 d) :: (L + 1 + 1, oi) :: (r, PySem.W.listOf rv.toArray rc) :: (R, PySem.W.listOf Rv.toArray Rc) :: (ka, tup va) :: (kb, tup vb) :: (lk, PySem.W.listOf lkv.toArray 0) :: rest) → (∀ y, y ≠ Str.ofString "k" → y ≠ Str.ofString "piece" → y ≠ Str.ofString "_" → m' y = m y) → Q .next { s with heap := h', toks := tk' }) :
    wpAny (lM w) (lA L fa cd) (exec (stAt bodyC 2) (lenv L fa cd)) Q E s := by
  obtain ⟨hr1, hr4, hrk⟩ := hO.ok j run hj
  have hrvl : rv.length = run.length := hrv.length
  obtain ⟨B, X, T⟩ := id H
  have hk0 : ∃ v0, m (Str.ofString "k") = v0 := ⟨_, rfl⟩
  have em : m = fun y => if y = Str.ofString "run" then some (.ref r) else if y = Str.ofString "limit" then some (.int (ln : Int) tl) else m y := by
    funext y
    split
    · next e => rw [e, h4]
    split
    · next e => rw [e, h7]
    rfl
  conv in (exec (stAt bodyC 2) _) => arg 1; whnf
  rw [em] at F
  show wpAny (model PySem.Challenge.rw_aa0047_01.row.prog w) _ _ _ _ _
  revert X; k_fill; intro X
  k_steps
  (with_reducible rename IsRange _ _ _ _ _ _ _ _ => hR)
  (with_reducible rename Fr _ _ _ _ => hF)
  (with_reducible rename News _ _ _ _ => hN)
  rw [← em] at hF
  have hsz0 := fun p hp => Heap.lt_size (hN p hp).1
  have hszd : @LT.lt Nat _ d _ := hsz0 _ (.head _)
  have hszx : @LT.lt Nat _ x _ := hsz0 _ (.tail _ (.head _))
  obtain ⟨hsm, n, hn, hn1, hn4, hnl, hnu⟩ := range_cut hl1 hl3 hr1 hr4
  have hsz := text_short hO htx
  have hjl : j < runs.length := by
    rcases Nat.lt_or_ge j runs.length with z | z
    · exact z
    · rw [List.getElem?_eq_none z] at hj; cases hj
  k_dflt (refine' ForAt.intro (g₀ := G) (m₀ := m) (news₀ := (d, tokD w t1 t2 t3 t4 t5 b sv txt tt (posI (signsOf runs) (atRun runs j)) ti v) :: (x, instObj 133 d) :: (L + 1 + 1, oi) :: (r, PySem.W.listOf rv.toArray rc) :: (R, PySem.W.listOf Rv.toArray Rc) :: (ka, tup va) :: (kb, tup vb) :: (lk, PySem.W.listOf lkv.toArray 0) :: rest) n (JD w G m t1 t2 t3 t4 t5 b sv txt tt d ((x, instObj 133 d) :: (L + 1 + 1, oi) :: (r, PySem.W.listOf rv.toArray rc) :: (R, PySem.W.listOf Rv.toArray Rc) :: (ka, tup va) :: (kb, tup vb) :: (lk, PySem.W.listOf lkv.toArray 0) :: rest) lo j ln n run runs) hR hsm hn hF ?N ?h0 ?hlt ?turn ?done)
  case N => exact news_sub hN (by walk_at "mine subm")
  case h0 => exact ⟨rfl, fun _ _ _ _ => rfl, _, ti, v, rfl, fun _ => by rw [Nat.zero_mul, Nat.zero_min, Nat.add_zero]; exact ⟨rfl, hv⟩⟩
  case hlt =>
    rintro k g m' news ⟨-, -, i6, t6, v6, rfl, -⟩ p hp
    rcases List.mem_cons.mp hp with rfl | hp
    · exact hszd
    · exact sz_sub hsz0 (by walk_at "mine subm") p hp
  case turn =>
    rintro I hI k g m' news h tk t hk ⟨rfl, hmm, i6, t6, v6, rfl, hst⟩ F' N'
    have hId : @LT.lt Nat _ d I := hI ▸ hszd
    have hIx : @LT.lt Nat _ x I := hI ▸ hszx
    obtain ⟨rfl, htok⟩ := hst (.inr (.inr hk))
    have hkk : (0 + (k : Int) * (ln : Int)) = ((k * ln : Nat) : Int) := (Int.zero_add _).trans (Int.natCast_mul k ln).symm
    obtain ⟨hel, hk1, hkN⟩ := rng_facts hk hnu
    rw [hkk] at F'
    rw [Nat.min_eq_left (Nat.le_of_lt hel)] at htok N'
    obtain ⟨c, l, hcl, hll, hsp, hc, hD2, hD3⟩ := cut_facts hj hel hl1
    rw [hc] at htok
    obtain ⟨tc, rfl⟩ := tokStr htok
    have hin : ∀ y ∈ c :: l, inSet (some y) (kd (j % 2 == 1)) = true ∧ y.length ≤ 2 := fun y hy =>
      have := kd_facts _ y (hrk y (List.mem_of_mem_drop (hsp ▸ List.mem_append_left _ hy)))
      ⟨this.2.2.1, this.2.1⟩
    have hout : ∀ y ∈ run, inSet (some y) (kd (!(j % 2 == 1))) = false := fun y hy => (kd_facts _ y (hrk y hy)).2.2.2.1
    have hcr : c ∈ run := List.mem_of_mem_drop (hsp ▸ List.mem_append_left _ (.head _))
    have q : ∀ (u : Option Value) (y : Str), y ≠ Str.ofString "k" → y ≠ Str.ofString "piece" → y ≠ Str.ofString "_" → (if y = Str.ofString "k" then u else m' y) = m y := fun u y h1 h2 h3 => (if_neg h1).trans (hmm y h1 h2 h3)
    have hcut := (cut_int (k * ln) ln run).trans hcl
    have hrl10 : run.length ≤ 10 := Nat.le_trans hr4 (by decide)
    have he10 : ((k * ln : Nat) : Int) < 10 := Int.ofNat_lt.mpr (Nat.lt_of_lt_of_le hel hrl10)
    have hnr : runs.length ≤ 100 := Nat.le_trans hO.few (by decide)
    have hln1 : (1 : Int) ≤ (ln : Int) := Int.ofNat_le.mpr hl1
    have hln3 : (ln : Int) ≤ 3 := Int.ofNat_le.mpr hl3
    by_cases hrf : lo = 1 ∧ j + 1 = runs.length ∧ run.length ≤ k * ln + ln
    · obtain ⟨z, hz, hzr, hzs, hD4⟩ := last_facts hrf.2.1 hrf.2.2 hsp hD2
      obtain ⟨tz, hlast⟩ : ∃ tz, rv.getLast? = some (.str z tz) := strs_last hrv hz
      have hzf := kd_facts _ z (hrk z hzr)
      rw [if_pos hrf.1] at htx
      refine turnR (s := { s with heap := h, toks := tk }) (rest := (I, rIt 0 (ln : Int) n (k + 1)) :: rest) (kk := ((k * ln : Nat) : Int)) (lim := (ln : Int)) H hPE F' (news_sub N' (by walk_at "mine subm")) ?off hdx hid hrd hRd had hbd hld hsa hsb hrv hRn hnr hoi hlast
        (if_pos rfl) ((q _ _ (by decide) (by decide) (by decide)).trans h2) ((q _ _ (by decide) (by decide) (by decide)).trans h3) ((q _ _ (by decide) (by decide) (by decide)).trans h4) ((q _ _ (by decide) (by decide) (by decide)).trans h5) ((q _ _ (by decide) (by decide) (by decide)).trans h6) ((q _ _ (by decide) (by decide) (by decide)).trans h7) ((q _ _ (by decide) (by decide) (by decide)).trans h8) ((q _ _ (by decide) (by decide) (by decide)).trans h9) ((q _ _ (by decide) (by decide) (by decide)).trans h10)
        (Int.natCast_nonneg _) he10 hln1 hln3 hrl10 hcut hpat (htold hrf.1) (posI_nonneg _) hsz hin (hout c hcr) (hout z hzr) hzf.1 hzf.2.1 hzf.2.2.1 hrf.1 (pred_int hrf.2.1) (Int.ofNat_le.mpr hrf.2.2)
        (brun_q htx hO.signs l _ c z hD4 hzs) (lone_off htx) (min_int hll) (Int.natCast_nonneg _) ?nx
      case off => walk_at "mine offx"
      case nx =>
        intro h' tk' m2 t6' v F'' N'' hm2
        refine LoopPost.next (s := { s with heap := _, toks := _ }) F'' (news_sub N'' (by walk_at "mine subm")) ⟨rfl, ?_, _, t6', _, rfl, fun hc => ?_⟩
        · intro y h1 h2 h3
          exact (hm2 y h2 h3).trans (q _ y h1 h2 h3)
        · exfalso
          rcases hc with hc | hc | hc
          · exact absurd (hc.symm.trans hrf.1) (by decide)
          · exact absurd hrf.2.1 (Nat.ne_of_lt hc)
          · exact hkN hrf.2.2 hc
    · have hR2 := run_q htx hO.signs l (atRun runs j + k * ln) _ hD3 (post_facts hO hlo hjl hrf)
      have hhd := head_facts hD3
      have hqn : atRun runs j + k * ln + 1 + l.length = atRun runs j + min (k * ln + ln) run.length := by rw [← min_len hll hel, Nat.add_assoc, Nat.add_assoc, Nat.add_assoc]
      rw [hqn] at hR2 hhd
      refine turnP (s := { s with heap := h, toks := tk }) (rest := (I, rIt 0 (ln : Int) n (k + 1)) :: rest) (kk := ((k * ln : Nat) : Int)) (lim := (ln : Int)) H F' (news_sub N' (by walk_at "mine subm")) ?off hdx hid hrd hRd had hbd hld hsa hsb hrv hRn hnr hoi
        (if_pos rfl) ((q _ _ (by decide) (by decide) (by decide)).trans h2) ((q _ _ (by decide) (by decide) (by decide)).trans h3) ((q _ _ (by decide) (by decide) (by decide)).trans h4) ((q _ _ (by decide) (by decide) (by decide)).trans h5) ((q _ _ (by decide) (by decide) (by decide)).trans h6) ((q _ _ (by decide) (by decide) (by decide)).trans h7) ((q _ _ (by decide) (by decide) (by decide)).trans h8) ((q _ _ (by decide) (by decide) (by decide)).trans h9) ((q _ _ (by decide) (by decide) (by decide)).trans h10)
        (Int.natCast_nonneg _) he10 hln1 hln3 hrl10 hcut (posI_nonneg _) hsz hin (hout c hcr) hlo (Int.natCast_nonneg _) (plain_or hlo hjl hrf) hR2 (kind_facts hO hll) ?nx
      case off => walk_at "mine offx"
      case nx =>
        intro h' tk' m2 t6' v F'' N'' hv2 hm2
        refine LoopPost.next (s := { s with heap := _, toks := _ }) F'' (news_sub N'' (by walk_at "mine subm")) ⟨rfl, ?_, _, t6', _, rfl, fun _ => ⟨by rw [hk1], ?_⟩⟩
        · intro y h1 h2 h3
          exact (hm2 y h2).trans (q _ y h1 h2 h3)
        · rw [hk1, ← hhd]; exact hv2
  case done =>
    rintro g m' news h tk ⟨rfl, hmm, i6, t6, v6, rfl, hst⟩ F' N'
    k_steps
    refine hnext _ _ _ _ _ _ (fun hc => ?_) F' (news_sub N' (by walk_at "mine subm")) hmm
    have := hst (by (first | lia | omega))
    rw [Nat.min_eq_right hnl, ← atRun_succ hj] at this
    exact this
end
end
section
open PySem PySem.W PyProof.Rows
theorem linesLI : True := by
  w_on
  w_top off
  k_with_none
  k_with "mine pick" => ((with_reducible (repeat (first | exact Pick.head | apply Pick.tail))))
  k_with "mine nne" => (first | assumption | exact Nat.ne_of_lt (by assumption) | exact Nat.ne_of_gt (by assumption) | exact Nat.ne_of_lt (Nat.lt_trans (by assumption) (by assumption)) | ((rename _ ∧ _ => gl99z); first | exact Nat.ne_of_gt gl99z.1 | exact Nat.ne_of_gt gl99z.2.1 | exact Nat.ne_of_gt gl99z.2.2.1 | exact Nat.ne_of_lt gl99z.1 | exact Nat.ne_of_lt gl99z.2.1) | exact (show @Ne Nat _ _ from by (first | lia | omega)) | (dsimp only; exact (show @Ne Nat _ _ from by (first | lia | omega))))
  k_with "mine offx" => ((repeat (first | assumption | refine off2_cons (by walk_at "mine nne") (by walk_at "mine nne") ?_)))
  k_with "mine pick" => ((with_reducible (repeat (first | exact Pick.head | apply Pick.tail))))
  k_with "mine memt" => ((with_reducible (repeat (first | assumption | exact List.mem_cons_self .. | refine List.mem_cons_of_mem _ ?_))))
  k_with "call ref" => (((k_dflt (show wpAny _ _ (PySem.call (Value.ref 86) [Value.ref _, _, _]) _ _ _)); refine Stop2.mk ?_))
  k_with "call ref" => ((k_here; (k_dflt (show wpAny _ _ (PySem.call (Value.ref 86) [Value.ref _, _, _]) _ _ _)); (with_reducible rename LG _ _ _ _ _ _ _ => HL9z); k_dflt (refine' gwL HL9z (by k_asm) (news_pick2 (by k_asm) (by walk_at "mine pick") (by walk_at "mine pick")) (by walk_at "mine memt") (by walk_at "mine offx") (by assumption) (by first | assumption | (first | lia | omega)) (by assumption) (by assumption) (by assumption) (by assumption) (by assumption) (by (first | lia | omega)) (by assumption) ?_); intro h'9z tk'9z t69z v9z tr9z hv9z F'9z N'9z; (try dsimp only); (try k_sweep)))
  k_with "call ref" => ((k_here; (k_dflt (show wpAny _ _ (PySem.call (Value.ref 86) [Value.ref _, _, _]) _ _ _)); (with_reducible rename LG _ _ _ _ _ _ _ => HL9z); (with_reducible rename IsTok _ _ => hTk9z); k_dflt (refine' gwN HL9z (by k_asm) (news_pick2 (by k_asm) (by walk_at "mine pick") (by walk_at "mine pick")) (by walk_at "mine memt") (by assumption) (by first | assumption | (first | lia | omega)) (by assumption) (by (first | lia | omega)) (by (first | lia | omega)) hTk9z (by first | exact .inr (by assumption) | exact .inl (by (first | lia | omega))) ?_); intro h'9z tk'9z tr9z F'9z N'9z; (try dsimp only); (try k_sweep)))
  k_with "subscriptTail Name Slice ref ref" => ((k_here; k_dflt (refine' kmk_slice_lit (by k_asm) (by k_asm) (by kmk_list) (by kmk_part) (by kmk_part) (by assumption) ?_ (by with_unfolding_all rfl) (by kmk_pure) (by assumption)); intro D'9z h'9z F'9z N'9z l19z; (try k_lt l19z); (try k_sweep)))
  k_with "subscriptTail Name Constant ref int" => ((k_here; k_dflt (refine' item_zero (by exact ⟨_, News.get (by k_asm) (by k_mem), rfl, _, rfl⟩) ?_)))
  k_with "compareOp NotEq str str" => ((k_here; k_dflt (refine' ne_same (by first | exact join_catS _ | with_reducible rfl | rfl) ?_)))
  k_with "call builtin:str.join" => ((k_here; k_dflt (refine' join_listW (by exact ⟨_, News.get (by k_asm) (by k_mem), rfl, _, rfl⟩) (by assumption) (by decide) (by assumption) ?_); intro t'9z k'9z; (try dsimp only)))
  k_with "call builtin:len" => ((k_here; (with_reducible show wpAny _ _ (call (Value.builtin "len") [Value.ref _]) _ _ _); k_dflt (refine' len_l (by exact ⟨_, News.get (by k_asm) (by k_mem), rfl, _, rfl⟩) (by assumption) (by (first | lia | omega)) ?_); intro t'9z k'9z; (try dsimp only)))
  k_with "mine subm" => ((intro q9z hq9z; (repeat (refine mem_out hq9z (by walk_at "mine memt") ?_; clear hq9z; intro hq9z)); (with_reducible (repeat (first | exact hq9z | refine List.mem_cons_of_mem _ ?_)))))
  k_with "compareOp NotEq ref ref" => ((k_here; k_dflt (first | (refine' ne_told (by exact ⟨_, News.get (by k_asm) (by k_mem), rfl, _, rfl⟩) (by exact ⟨_, News.get (by k_asm) (by k_mem), rfl, _, rfl⟩) (by assumption) (by assumption) (by ktr_units) ?_) | (refine' ne_pair (by exact ⟨_, News.get (by k_asm) (by k_mem), rfl, _, rfl⟩) (by exact ⟨_, News.get (by k_asm) (by k_mem), rfl, _, rfl⟩) (by (first | lia | omega)) (by ktr_units) ?_))))
  k_with "call ref" => ((k_here; (k_dflt (show wpAny _ _ (PySem.call (Value.ref 163) [Value.ref _, _, _]) _ _ _)); (with_reducible rename LG _ _ _ _ _ _ _ => HL9z); (with_reducible rename PatIs _ _ _ => hpX9z); k_dflt (refine' refL HL9z hpX9z (by k_asm) (news_pick2 (by k_asm) (by walk_at "mine pick") (by walk_at "mine pick")) (by walk_at "mine memt") (by walk_at "mine offx") (by assumption) (by first | assumption | (first | lia | omega)) (by assumption) (by assumption) (by assumption) (by assumption) (by assumption) (by assumption) (by (first | lia | omega)) (by assumption) ?_); intro h'9z tk'9z t69z v9z D9z lst9z hv9z ht9z F'9z N'9z hlt9z; (obtain ⟨tv9z, ev9z⟩ := tokStr hv9z; subst ev9z); (try dsimp only); (try k_sweep)))
  k_with "call ref" => ((k_here; (k_dflt (show wpAny _ _ (PySem.call (Value.ref 108) [Value.ref _]) _ _ _)); (with_reducible rename LG _ _ _ _ _ _ _ => HL9z); k_dflt (refine' tellL HL9z (by k_asm) (news_pick2 (by k_asm) (by walk_at "mine pick") (by walk_at "mine pick")) (by walk_at "mine offx") (by assumption) (by assumption) (by assumption) ?_); intro h'9z tk'9z ta9z F'9z N'9z; (try dsimp only); (try k_sweep)))
  k_with "subscriptTail Name UnaryOp" => ((k_here; k_dflt (refine' item_last (by exact ⟨_, News.get (by k_asm) (by k_mem), rfl, _, rfl⟩) (by assumption) ?_)))
  k_with "subscriptTail Name UnaryOp ref int" => ((k_here; k_dflt (refine' item_last (by exact ⟨_, News.get (by k_asm) (by k_mem), rfl, _, rfl⟩) (by assumption) ?_)))
  k_with "exec For Name Call cons nil" => ((k_here; refine Stop2.mk ?_))
  trivial
section
variable {prog : Program} {w : World} {A : Around} {E : Value → Shared → Prop} {s : Shared} {Q : Value → Shared → Prop} {u : Tok}
theorem item_two0 {value slice : Expr} {a : Addr} {v v' : Value} {k : Int} (ht : IsTup s.heap a [v, v'].toArray) (e : k = 0) (h : Q v s)
    (hs : subscripted slice false (.ref a) (.int k u) = operate [.ref a, .int k u] (getItem (.ref a) (.int k u)) := by with_unfolding_all rfl) (hg : ∀ r, letTemporaryGo value (.ref a) r = pure () := by intro _; with_unfolding_all rfl) :
    wpAny (model prog w) A (subscriptTail value slice (.ref a) (.int k u)) Q E s := by
  subst e
  exact item_tuple (j := 0) (x := v) ht (by decide) (by decide) rfl rfl h hs hg
theorem item_two1 {value slice : Expr} {a : Addr} {v v' : Value} {k : Int} (ht : IsTup s.heap a [v, v'].toArray) (e : k = 1) (h : Q v' s)
    (hs : subscripted slice false (.ref a) (.int k u) = operate [.ref a, .int k u] (getItem (.ref a) (.int k u)) := by with_unfolding_all rfl) (hg : ∀ r, letTemporaryGo value (.ref a) r = pure () := by intro _; with_unfolding_all rfl) :
    wpAny (model prog w) A (subscriptTail value slice (.ref a) (.int k u)) Q E s := by
  subst e
  exact item_tuple (j := 1) (x := v') ht (by decide) (by decide) rfl rfl h hs hg
end
theorem linesLIx2 : True := by
  k_with "subscriptTail Name BinOp ref int" => ((k_here; k_dflt (first | (refine' item_two0 (by exact News.isTup (by k_asm) (by k_mem)) (by (first | lia | omega)) ?_) | (refine' item_two1 (by exact News.isTup (by k_asm) (by k_mem)) (by (first | lia | omega)) ?_))))
  trivial
section
variable {w : World} {mg mb : Str → Option Value} {p : Program} {loose : List Str} {mean : ExcName → Option Value}
    {fa : Addr} {cd : Value} {G : Heap} {L : Addr} {m : Str → Option Value} {s : Shared} {Q : Flow → Shared → Prop}
    {E : Value → Shared → Prop} {x d r R kt k0 k1 lk : Addr} {rest : List (Addr × Obj)} {t1 t2 t3 t4 t5 : Tok} {b : Bool} {sv : Value} {txt : Str} {tt tx : Tok} {ti : Tok} {oi ok : Obj} {tii : Tok} {rv Rv v0 v1 lkv : List Value} {rc Rc : Nat} {run : List Str} {lo : Int} {ln j : Nat} {tl tlo : Tok} {v : Value} {pl : List Nat} {runs : List (List Str)}
set_option maxRecDepth 100000 in
set_option maxHeartbeats 3000000 in
theorem turnC (H : LG w p loose mean mg mb G) (hPE : PassesOwn (lM w) (lA L fa cd) (lenv L fa cd) E) (F : Fr G L s.heap m)
    (N : News G L s.heap ((d, tokD w t1 t2 t3 t4 t5 b sv txt tt (posI (signsOf runs) (atRun runs j)) ti v) :: (x, instObj 133 d) :: (L + 1 + 1, oi) :: (L + 1, ok) :: (kt, tup [.ref k0, .ref k1]) :: (k0, tup v0) :: (k1, tup v1) :: (r, PySem.W.listOf rv.toArray rc) :: (R, PySem.W.listOf Rv.toArray Rc) :: (lk, PySem.W.listOf lkv.toArray 0) :: rest))
    (hoff : OwnOff rest [d, x]) (hdx : @LT.lt Nat _ d x) (hid : @LT.lt Nat _ (L + 1 + 1) d) (hkd : @LT.lt Nat _ (L + 1) d) (htd : @LT.lt Nat _ kt d) (hrd : @LT.lt Nat _ r d) (hRd : @LT.lt Nat _ R d) (had : @LT.lt Nat _ k0 d) (hbd : @LT.lt Nat _ k1 d) (hld : @LT.lt Nat _ lk d)
    (hs0 : StrsAre v0 (kd false)) (hs1 : StrsAre v1 (kd true)) (hrv : StrsAre rv run) (hRn : Rv.length = runs.length) (hoi : oi.data = .cell (some (.int (j : Int) tii))) (hok : ok.data = .cell (some (.ref kt)))
    (h4 : m (Str.ofString "run") = some (.ref r))
    (h5 : m (Str.ofString "t") = some (.ref x)) (h6 : m (Str.ofString "lack") = some (.ref lk)) (h7 : m (Str.ofString "limit") = some (.int (ln : Int) tl)) (h8 : m (Str.ofString "text") = some (.str txt tx)) (h9 : m (Str.ofString "lone") = some (.int lo tlo)) (h10 : m (Str.ofString "runs") = some (.ref R))
    (hl1 : 1 ≤ ln) (hl3 : ln ≤ 3) (hpat : PatIs txt sv pl) (htold : lo = 1 → Told pl sv ((txt.length : Int) - 1) lkv)
    (hO : RunsOk runs) (hj : runs[j]? = some run) (hlo : lo = 0 ∨ lo = 1) (htx : cps txt = flat (signsOf runs) ++ (if lo = 1 then [92] else [])) (hv : IsTok (signsOf runs)[atRun runs j]? v)
    (hnext : ∀ h' tk' m' i6 t6 v' ka kb, (ka = k0 ∧ kb = k1 ∨ ka = k1 ∧ kb = k0) → m' (Str.ofString "own") = some (.ref ka) → m' (Str.ofString "other") = some (.ref kb) → (lo = 0 ∨ j + 1 < runs.length → i6 = posI (signsOf runs) (atRun runs (j + 1)) ∧ IsTok (signsOf runs)[atRun runs (j + 1)]? v') → Fr G L h' m' → News G L h' ((d, tokD w t1 t2 t3 t4 t5 b sv txt tt i6 t6 v') :: (x, instObj 133 d) :: (L + 1 + 1, oi) :: (L + 1, ok) :: (kt, tup [.ref k0, .ref k1]) :: (k0, tup v0) :: (k1, tup v1) :: (r, PySem.W.listOf rv.toArray rc) :: (R, PySem.W.listOf Rv.toArray Rc) :: (lk, PySem.W.listOf lkv.toArray 0) :: rest) →
      (∀ y, y ≠ Str.ofString "own" → y ≠ Str.ofString "other" → y ≠ Str.ofString "k" → y ≠ Str.ofString "piece" → y ≠ Str.ofString "_" → m' y = m y) → Q .next { s with heap := h', toks := tk' }) :
    wpAny (lM w) (lA L fa cd) (execs bodyC (lenv L fa cd)) Q E s := by
  obtain ⟨B, X, T⟩ := id H
  rcases Nat.mod_two_eq_zero_or_one j with hp | hp
  all_goals (
    have hjz : (j : Int).fmod 2 = ((j % 2 : Nat) : Int) := by rw [Int.fmod_eq_emod_of_nonneg _ (by decide)]; (first | lia | omega)
    rw [hp] at hjz
    conv in (execs bodyC _) => arg 1; whnf
    show wpAny (model PySem.Challenge.rw_aa0047_01.row.prog w) _ _ _ _ _
    revert X; k_fill; intro X
    k_steps)
  all_goals unfold Stop2
  all_goals (with_reducible rename LG _ _ _ _ _ _ _ => H)
  all_goals (with_reducible rename Fr _ _ _ _ => hF)
  all_goals (with_reducible rename News _ _ _ _ => hN)
  · refine loopD (s := { s with heap := _, toks := _ }) (ka := k0) (kb := k1) (rest := (L + 1, ok) :: (kt, tup [.ref k0, .ref k1]) :: rest) (t1 := t1) (t2 := t2) (t3 := t3) (t4 := t4) (t5 := t5) (b := b) (tt := tt) (ti := ti) (rc := rc) (Rc := Rc) H hPE hF (news_sub hN (by walk_at "mine subm")) ?off hdx hid hrd hRd had hbd hld
      (by rw [hp]; exact hs0) (by rw [hp]; exact hs1) hrv hRn hoi ?h2 ?h3 h4 h5 h6 h7 h8 h9 h10 hl1 hl3 hpat htold hO hj hlo htx hv ?nx
    case off => walk_at "mine offx"
    case h2 => rfl
    case h3 => rfl
    case nx =>
      intro h' tk' m' i6 t6 v' hc F' N' hm
      refine wpAny_execs_nil ?_
      refine hnext _ _ _ _ _ _ k0 k1 (.inl ⟨rfl, rfl⟩) ?_ ?_ hc F' (news_sub N' (by walk_at "mine subm")) ?_
      · exact (hm _ (by decide) (by decide) (by decide)).trans rfl
      · exact (hm _ (by decide) (by decide) (by decide)).trans rfl
      · intro y h1 h2 h3 h4 h5
        rw [hm y h3 h4 h5]
        simp only [if_neg h1, if_neg h2]
  · refine loopD (s := { s with heap := _, toks := _ }) (ka := k1) (kb := k0) (rest := (L + 1, ok) :: (kt, tup [.ref k0, .ref k1]) :: rest) (t1 := t1) (t2 := t2) (t3 := t3) (t4 := t4) (t5 := t5) (b := b) (tt := tt) (ti := ti) (rc := rc) (Rc := Rc) H hPE hF (news_sub hN (by walk_at "mine subm")) ?off hdx hid hrd hRd hbd had hld
      (by rw [hp]; exact hs1) (by rw [hp]; exact hs0) hrv hRn hoi ?h2 ?h3 h4 h5 h6 h7 h8 h9 h10 hl1 hl3 hpat htold hO hj hlo htx hv ?nx
    case off => walk_at "mine offx"
    case h2 => rfl
    case h3 => rfl
    case nx =>
      intro h' tk' m' i6 t6 v' hc F' N' hm
      refine wpAny_execs_nil ?_
      refine hnext _ _ _ _ _ _ k1 k0 (.inr ⟨rfl, rfl⟩) ?_ ?_ hc F' (news_sub N' (by walk_at "mine subm")) ?_
      · exact (hm _ (by decide) (by decide) (by decide)).trans rfl
      · exact (hm _ (by decide) (by decide) (by decide)).trans rfl
      · intro y h1 h2 h3 h4 h5
        rw [hm y h3 h4 h5]
        simp only [if_neg h1, if_neg h2]
end
end
section
open PySem PySem.W PyProof.Rows PyProof.Rows.LCg
theorem linesLN : True := by
  w_on
  w_top off
  k_with_none
  k_with "mine pick" => ((with_reducible (repeat (first | exact Pick.head | apply Pick.tail))))
  k_with "mine nne" => (first | assumption | exact Nat.ne_of_lt (by assumption) | exact Nat.ne_of_gt (by assumption) | exact Nat.ne_of_lt (Nat.lt_trans (by assumption) (by assumption)) | ((rename _ ∧ _ => gl99z); first | exact Nat.ne_of_gt gl99z.1 | exact Nat.ne_of_gt gl99z.2.1 | exact Nat.ne_of_gt gl99z.2.2.1 | exact Nat.ne_of_lt gl99z.1 | exact Nat.ne_of_lt gl99z.2.1) | exact (show @Ne Nat _ _ from by (first | lia | omega)) | (dsimp only; exact (show @Ne Nat _ _ from by (first | lia | omega))))
  k_with "mine offx" => ((repeat (first | assumption | refine off2_cons (by walk_at "mine nne") (by walk_at "mine nne") ?_)))
  k_with "mine pick" => ((with_reducible (repeat (first | exact Pick.head | apply Pick.tail))))
  k_with "mine memt" => ((with_reducible (repeat (first | assumption | exact List.mem_cons_self .. | refine List.mem_cons_of_mem _ ?_))))
  k_with "call ref" => (((k_dflt (show wpAny _ _ (PySem.call (Value.ref 86) [Value.ref _, _, _]) _ _ _)); refine Stop2.mk ?_))
  k_with "call ref" => ((k_here; (k_dflt (show wpAny _ _ (PySem.call (Value.ref 86) [Value.ref _, _, _]) _ _ _)); (with_reducible rename LG _ _ _ _ _ _ _ => HL9z); k_dflt (refine' gwL HL9z (by k_asm) (news_pick2 (by k_asm) (by walk_at "mine pick") (by walk_at "mine pick")) (by walk_at "mine memt") (by walk_at "mine offx") (by assumption) (by first | assumption | (first | lia | omega)) (by assumption) (by assumption) (by assumption) (by assumption) (by assumption) (by (first | lia | omega)) (by assumption) ?_); intro h'9z tk'9z t69z v9z tr9z hv9z F'9z N'9z; (try dsimp only); (try k_sweep)))
  k_with "call ref" => ((k_here; (k_dflt (show wpAny _ _ (PySem.call (Value.ref 86) [Value.ref _, _, _]) _ _ _)); (with_reducible rename LG _ _ _ _ _ _ _ => HL9z); (with_reducible rename IsTok _ _ => hTk9z); k_dflt (refine' gwN HL9z (by k_asm) (news_pick2 (by k_asm) (by walk_at "mine pick") (by walk_at "mine pick")) (by walk_at "mine memt") (by assumption) (by first | assumption | (first | lia | omega)) (by assumption) (by (first | lia | omega)) (by (first | lia | omega)) hTk9z (by first | exact .inr (by assumption) | exact .inl (by (first | lia | omega))) ?_); intro h'9z tk'9z tr9z F'9z N'9z; (try dsimp only); (try k_sweep)))
  k_with "subscriptTail Name Slice ref ref" => ((k_here; k_dflt (refine' kmk_slice_lit (by k_asm) (by k_asm) (by kmk_list) (by kmk_part) (by kmk_part) (by assumption) ?_ (by with_unfolding_all rfl) (by kmk_pure) (by assumption)); intro D'9z h'9z F'9z N'9z l19z; (try k_lt l19z); (try k_sweep)))
  k_with "subscriptTail Name Constant ref int" => ((k_here; k_dflt (refine' item_zero (by exact ⟨_, News.get (by k_asm) (by k_mem), rfl, _, rfl⟩) ?_)))
  k_with "compareOp NotEq str str" => ((k_here; k_dflt (refine' ne_same (by first | exact join_catS _ | with_reducible rfl | rfl) ?_)))
  k_with "call builtin:str.join" => ((k_here; k_dflt (refine' join_listW (by exact ⟨_, News.get (by k_asm) (by k_mem), rfl, _, rfl⟩) (by assumption) (by decide) (by assumption) ?_); intro t'9z k'9z; (try dsimp only)))
  k_with "call builtin:len" => ((k_here; (with_reducible show wpAny _ _ (call (Value.builtin "len") [Value.ref _]) _ _ _); k_dflt (refine' len_l (by exact ⟨_, News.get (by k_asm) (by k_mem), rfl, _, rfl⟩) (by assumption) (by (first | lia | omega)) ?_); intro t'9z k'9z; (try dsimp only)))
  k_with "mine subm" => ((intro q9z hq9z; (repeat (refine mem_out hq9z (by walk_at "mine memt") ?_; clear hq9z; intro hq9z)); (with_reducible (repeat (first | exact hq9z | refine List.mem_cons_of_mem _ ?_)))))
  k_with "compareOp NotEq ref ref" => ((k_here; k_dflt (first | (refine' ne_told (by exact ⟨_, News.get (by k_asm) (by k_mem), rfl, _, rfl⟩) (by exact ⟨_, News.get (by k_asm) (by k_mem), rfl, _, rfl⟩) (by assumption) (by assumption) (by ktr_units) ?_) | (refine' ne_pair (by exact ⟨_, News.get (by k_asm) (by k_mem), rfl, _, rfl⟩) (by exact ⟨_, News.get (by k_asm) (by k_mem), rfl, _, rfl⟩) (by (first | lia | omega)) (by ktr_units) ?_))))
  k_with "call ref" => ((k_here; (k_dflt (show wpAny _ _ (PySem.call (Value.ref 163) [Value.ref _, _, _]) _ _ _)); (with_reducible rename LG _ _ _ _ _ _ _ => HL9z); (with_reducible rename PatIs _ _ _ => hpX9z); k_dflt (refine' refL HL9z hpX9z (by k_asm) (news_pick2 (by k_asm) (by walk_at "mine pick") (by walk_at "mine pick")) (by walk_at "mine memt") (by walk_at "mine offx") (by assumption) (by first | assumption | (first | lia | omega)) (by assumption) (by assumption) (by assumption) (by assumption) (by assumption) (by assumption) (by (first | lia | omega)) (by assumption) ?_); intro h'9z tk'9z t69z v9z D9z lst9z hv9z ht9z F'9z N'9z hlt9z; (obtain ⟨tv9z, ev9z⟩ := tokStr hv9z; subst ev9z); (try dsimp only); (try k_sweep)))
  k_with "call ref" => ((k_here; (k_dflt (show wpAny _ _ (PySem.call (Value.ref 108) [Value.ref _]) _ _ _)); (with_reducible rename LG _ _ _ _ _ _ _ => HL9z); k_dflt (refine' tellL HL9z (by k_asm) (news_pick2 (by k_asm) (by walk_at "mine pick") (by walk_at "mine pick")) (by walk_at "mine offx") (by assumption) (by assumption) (by assumption) ?_); intro h'9z tk'9z ta9z F'9z N'9z; (try dsimp only); (try k_sweep)))
  k_with "subscriptTail Name UnaryOp" => ((k_here; k_dflt (refine' item_last (by exact ⟨_, News.get (by k_asm) (by k_mem), rfl, _, rfl⟩) (by assumption) ?_)))
  k_with "subscriptTail Name UnaryOp ref int" => ((k_here; k_dflt (refine' item_last (by exact ⟨_, News.get (by k_asm) (by k_mem), rfl, _, rfl⟩) (by assumption) ?_)))
  k_with "exec For Name Call cons nil" => ((k_here; refine Stop2.mk ?_))
  k_with "subscriptTail Name BinOp ref int" => ((k_here; k_dflt (first | (refine' item_two0 (by exact News.isTup (by k_asm) (by k_mem)) (by (first | lia | omega)) ?_) | (refine' item_two1 (by exact News.isTup (by k_asm) (by k_mem)) (by (first | lia | omega)) ?_))))
  k_with "subscriptTail Subscript Name BinOp BinOp ref int" => ((refine Stop2.mk ?_))
  trivial
noncomputable def argA : Expr := match stAt bodyA 0 with
  | .Expr (.Call _ [a] _ _) _ => a
  | _ => .Constant .none 0 ⟨0, 0, 0, 0⟩
theorem linesLNx2 : True := by
  k_with "CompSrc" => ((refine Stop2.mk ?_))
  trivial
theorem small01 {b : Int} (h0 : 0 ≤ b) (h1 : b ≤ 4) : Builtin.Range.small 0 b 1 = true ∧ Builtin.Range.rangeSize 0 b 1 = ((b.toNat : Nat) : Int) := by
  have e : b = 0 ∨ b = 1 ∨ b = 2 ∨ b = 3 ∨ b = 4 := by (first | lia | omega)
  rcases e with rfl | rfl | rfl | rfl | rfl <;> exact ⟨by decide, by decide⟩
section
variable {w : World} {mg mb : Str → Option Value} {p : Program} {loose : List Str} {mean : ExcName → Option Value}
    {fa : Addr} {cd : Value} {G : Heap} {L : Addr} {m : Str → Option Value} {s : Shared} {Q : Value → Shared → Prop}
    {E : Value → Shared → Prop} {kt k0 k1 : Addr} {rest : List (Addr × Obj)} {oi ok on : Obj} {v0 v1 : List Value} {j : Nat} {n : Int} {tj tn : Tok}
theorem off1_ne {D : Addr} : ∀ {l : List (Addr × Obj)}, Off1 D l → ∀ p ∈ l, p.1 ≠ D
  | [], _, _, h => nomatch h
  | _ :: _, x, p, h => by
    rcases List.mem_cons.mp h with rfl | h
    · exact x.1
    · exact off1_ne x.2 p h
set_option maxRecDepth 100000 in
set_option maxHeartbeats 3000000 in
theorem compA (H : LG w p loose mean mg mb G) (F : Fr G L s.heap m)
    (N : News G L s.heap ((L + 1 + 1 + 1, on) :: (L + 1 + 1, oi) :: (L + 1, ok) :: (kt, tup [.ref k0, .ref k1]) :: (k0, tup v0) :: (k1, tup v1) :: rest))
    (hs0 : StrsAre v0 (kd false)) (hs1 : StrsAre v1 (kd true)) (hon : on.data = .cell (some (.int n tn))) (hoi : oi.data = .cell (some (.int (j : Int) tj))) (hok : ok.data = .cell (some (.ref kt)))
    (hret : ∀ h' tk' D vs run, StrsAre vs run → 1 ≤ run.length → run.length ≤ 4 → (∀ y ∈ run, y ∈ kd (j % 2 == 1)) → Fr G L h' m → News G L h' ((D, PySem.W.listOf vs.toArray vs.length) :: (L + 1 + 1 + 1, on) :: (L + 1 + 1, oi) :: (L + 1, ok) :: (kt, tup [.ref k0, .ref k1]) :: (k0, tup v0) :: (k1, tup v1) :: rest) →
      (∀ p ∈ ((L + 1 + 1 + 1, on) :: (L + 1 + 1, oi) :: (L + 1, ok) :: (kt, tup [.ref k0, .ref k1]) :: (k0, tup v0) :: (k1, tup v1) :: rest), p.1 ≠ D) → Q (.ref D) { s with heap := h', toks := tk' }) :
    wpAny (lM w) (lA L fa cd) (eval argA (lenv L fa cd)) Q E s := by
  obtain ⟨B, X, T⟩ := id H
  conv in (eval argA _) => arg 1; whnf
  show wpAny (model PySem.Challenge.rw_aa0047_01.row.prog w) _ _ _ _ _
  revert X; k_fill; intro X
  k_dflt (refine ListComp_U (F₀ := by k_asm) (by rfl) (by decide) (by rfl) (by decide) (by rfl) ?_)
  k_steps
  unfold Stop2
  (with_reducible rename IsRange _ _ _ _ _ _ _ _ => hR)
  (with_reducible rename Fr _ _ _ _ => hF)
  (with_reducible rename News _ _ _ _ => hN)
  have hf : n.fmod 4 = n % 4 := Int.fmod_eq_emod_of_nonneg _ (by decide)
  obtain ⟨hsm, hrs⟩ := small01 (b := 1 + n.fmod 4) (by (first | lia | omega)) (by (first | lia | omega))
  k_dflt (refine CompSrc.range rfl hF hN hR hsm hrs (by rw [sizeLine_eq]; (first | lia | omega)) ?_)
  intro g
  suffices key : ∀ (k i : Nat) (ys : List Value) (run : List Str), i + k = (1 + n.fmod 4).toNat → StrsAre ys run → run.length = i → (∀ y ∈ run, y ∈ kd (j % 2 == 1)) → CompRest _ w _ _ _ _ _ _ _ _ _ _ (fun _ => True) _ _ k i ys ((L + 1 + 1 + 1, on) :: (L + 1 + 1, oi) :: (L + 1, ok) :: (kt, tup [.ref k0, .ref k1]) :: (k0, tup v0) :: (k1, tup v1) :: rest) from
    key _ 0 [] [] (Nat.zero_add _) .nil rfl (fun y hy => nomatch hy)
  intro k
  induction k with
  | zero =>
    intro i ys run hi hys hlen hk
    refine CompRest.zero ?_
    intro D2 h2 tk2 F2 N2 o2
    exact hret _ _ _ _ _ hys (by (first | lia | omega)) (by (first | lia | omega)) hk F2 N2 (fun p hp => off1_ne o2 p hp)
  | succ k ih =>
    intro i ys run hi hys hlen hk
    refine CompRest.succ fun v I oI C oC D' m₂ h tk E' hP hns hm F1 N1 off ne => ?_
    obtain ⟨t, rfl⟩ := hP
    have hi3 : i < 4 := by (first | lia | omega)
    clear hF hN
    rcases Nat.mod_two_eq_zero_or_one j with hp | hp
    · have hjz : (j : Int).fmod 2 = ((j % 2 : Nat) : Int) := by rw [Int.fmod_eq_emod_of_nonneg _ (by decide)]; (first | lia | omega)
      rw [hp] at hjz
      k_steps
      unfold Stop2
      (with_reducible rename Fr _ _ _ _ => hF)
      (with_reducible rename News _ _ _ _ => hN)
      have hx := fun a : Int => (show 0 ≤ a.fmod 3 ∧ a.fmod 3 < 3 by rw [Int.fmod_eq_emod_of_nonneg _ (by decide)]; (first | lia | omega))
      refine KTb.item_tup (News.isTup hN (by walk_at "mine memt")) hs0 (hx _).1 (hx _).2 (Int.lt_trans (hx _).2 (by decide)) ?_
      intro t' hlt
      refine CompEnd.intro hF hN _ (fun p hp => hp) off trivial (ih (i + 1) _ (run ++ [_]) (by (first | lia | omega)) (hys.append' (.cons _ t' .nil)) (by rw [List.length_append, hlen]; rfl) ?_)
      intro y hy
      rcases List.mem_append.mp hy with hy | hy
      · exact hk y hy
      · rw [List.mem_singleton.mp hy, hp, List.getD_eq_getElem?_getD, List.getElem?_eq_getElem hlt]
        exact List.getElem_mem hlt
    · have hjz : (j : Int).fmod 2 = ((j % 2 : Nat) : Int) := by rw [Int.fmod_eq_emod_of_nonneg _ (by decide)]; (first | lia | omega)
      rw [hp] at hjz
      k_steps
      unfold Stop2
      (with_reducible rename Fr _ _ _ _ => hF)
      (with_reducible rename News _ _ _ _ => hN)
      have hx := fun a : Int => (show 0 ≤ a.fmod 3 ∧ a.fmod 3 < 3 by rw [Int.fmod_eq_emod_of_nonneg _ (by decide)]; (first | lia | omega))
      refine KTb.item_tup (News.isTup hN (by walk_at "mine memt")) hs1 (hx _).1 (hx _).2 (Int.lt_trans (hx _).2 (by decide)) ?_
      intro t' hlt
      refine CompEnd.intro hF hN _ (fun p hp => hp) off trivial (ih (i + 1) _ (run ++ [_]) (by (first | lia | omega)) (hys.append' (.cons _ t' .nil)) (by rw [List.length_append, hlen]; rfl) ?_)
      intro y hy
      rcases List.mem_append.mp hy with hy | hy
      · exact hk y hy
      · rw [List.mem_singleton.mp hy, hp, List.getD_eq_getElem?_getD, List.getElem?_eq_getElem hlt]
        exact List.getElem_mem hlt
end
end
section
open PySem PySem.W PyProof.Rows
theorem linesLJ : True := by
  w_on
  w_top off
  k_with_none
  k_with "mine pick" => ((with_reducible (repeat (first | exact Pick.head | apply Pick.tail))))
  k_with "mine nne" => (first | assumption | exact Nat.ne_of_lt (by assumption) | exact Nat.ne_of_gt (by assumption) | exact Nat.ne_of_lt (Nat.lt_trans (by assumption) (by assumption)) | ((rename _ ∧ _ => gl99z); first | exact Nat.ne_of_gt gl99z.1 | exact Nat.ne_of_gt gl99z.2.1 | exact Nat.ne_of_gt gl99z.2.2.1 | exact Nat.ne_of_lt gl99z.1 | exact Nat.ne_of_lt gl99z.2.1) | exact (show @Ne Nat _ _ from by (first | lia | omega)) | (dsimp only; exact (show @Ne Nat _ _ from by (first | lia | omega))))
  k_with "mine offx" => ((repeat (first | assumption | refine off2_cons (by walk_at "mine nne") (by walk_at "mine nne") ?_)))
  k_with "mine pick" => ((with_reducible (repeat (first | exact Pick.head | apply Pick.tail))))
  k_with "mine memt" => ((with_reducible (repeat (first | assumption | exact List.mem_cons_self .. | refine List.mem_cons_of_mem _ ?_))))
  k_with "call ref" => (((k_dflt (show wpAny _ _ (PySem.call (Value.ref 86) [Value.ref _, _, _]) _ _ _)); refine Stop2.mk ?_))
  k_with "call ref" => ((k_here; (k_dflt (show wpAny _ _ (PySem.call (Value.ref 86) [Value.ref _, _, _]) _ _ _)); (with_reducible rename LG _ _ _ _ _ _ _ => HL9z); k_dflt (refine' gwL HL9z (by k_asm) (news_pick2 (by k_asm) (by walk_at "mine pick") (by walk_at "mine pick")) (by walk_at "mine memt") (by walk_at "mine offx") (by assumption) (by first | assumption | (first | lia | omega)) (by assumption) (by assumption) (by assumption) (by assumption) (by assumption) (by (first | lia | omega)) (by assumption) ?_); intro h'9z tk'9z t69z v9z tr9z hv9z F'9z N'9z; (try dsimp only); (try k_sweep)))
  k_with "call ref" => ((k_here; (k_dflt (show wpAny _ _ (PySem.call (Value.ref 86) [Value.ref _, _, _]) _ _ _)); (with_reducible rename LG _ _ _ _ _ _ _ => HL9z); (with_reducible rename IsTok _ _ => hTk9z); k_dflt (refine' gwN HL9z (by k_asm) (news_pick2 (by k_asm) (by walk_at "mine pick") (by walk_at "mine pick")) (by walk_at "mine memt") (by assumption) (by first | assumption | (first | lia | omega)) (by assumption) (by (first | lia | omega)) (by (first | lia | omega)) hTk9z (by first | exact .inr (by assumption) | exact .inl (by (first | lia | omega))) ?_); intro h'9z tk'9z tr9z F'9z N'9z; (try dsimp only); (try k_sweep)))
  k_with "subscriptTail Name Slice ref ref" => ((k_here; k_dflt (refine' kmk_slice_lit (by k_asm) (by k_asm) (by kmk_list) (by kmk_part) (by kmk_part) (by assumption) ?_ (by with_unfolding_all rfl) (by kmk_pure) (by assumption)); intro D'9z h'9z F'9z N'9z l19z; (try k_lt l19z); (try k_sweep)))
  k_with "subscriptTail Name Constant ref int" => ((k_here; k_dflt (refine' item_zero (by exact ⟨_, News.get (by k_asm) (by k_mem), rfl, _, rfl⟩) ?_)))
  k_with "compareOp NotEq str str" => ((k_here; k_dflt (refine' ne_same (by first | exact join_catS _ | with_reducible rfl | rfl) ?_)))
  k_with "call builtin:str.join" => ((k_here; k_dflt (refine' join_listW (by exact ⟨_, News.get (by k_asm) (by k_mem), rfl, _, rfl⟩) (by assumption) (by decide) (by assumption) ?_); intro t'9z k'9z; (try dsimp only)))
  k_with "call builtin:len" => ((k_here; (with_reducible show wpAny _ _ (call (Value.builtin "len") [Value.ref _]) _ _ _); k_dflt (refine' len_l (by exact ⟨_, News.get (by k_asm) (by k_mem), rfl, _, rfl⟩) (by assumption) (by (first | lia | omega)) ?_); intro t'9z k'9z; (try dsimp only)))
  k_with "mine subm" => ((intro q9z hq9z; (repeat (refine mem_out hq9z (by walk_at "mine memt") ?_; clear hq9z; intro hq9z)); (with_reducible (repeat (first | exact hq9z | refine List.mem_cons_of_mem _ ?_)))))
  k_with "compareOp NotEq ref ref" => ((k_here; k_dflt (first | (refine' ne_told (by exact ⟨_, News.get (by k_asm) (by k_mem), rfl, _, rfl⟩) (by exact ⟨_, News.get (by k_asm) (by k_mem), rfl, _, rfl⟩) (by assumption) (by assumption) (by ktr_units) ?_) | (refine' ne_pair (by exact ⟨_, News.get (by k_asm) (by k_mem), rfl, _, rfl⟩) (by exact ⟨_, News.get (by k_asm) (by k_mem), rfl, _, rfl⟩) (by (first | lia | omega)) (by ktr_units) ?_))))
  k_with "call ref" => ((k_here; (k_dflt (show wpAny _ _ (PySem.call (Value.ref 163) [Value.ref _, _, _]) _ _ _)); (with_reducible rename LG _ _ _ _ _ _ _ => HL9z); (with_reducible rename PatIs _ _ _ => hpX9z); k_dflt (refine' refL HL9z hpX9z (by k_asm) (news_pick2 (by k_asm) (by walk_at "mine pick") (by walk_at "mine pick")) (by walk_at "mine memt") (by walk_at "mine offx") (by assumption) (by first | assumption | (first | lia | omega)) (by assumption) (by assumption) (by assumption) (by assumption) (by assumption) (by assumption) (by (first | lia | omega)) (by assumption) ?_); intro h'9z tk'9z t69z v9z D9z lst9z hv9z ht9z F'9z N'9z hlt9z; (obtain ⟨tv9z, ev9z⟩ := tokStr hv9z; subst ev9z); (try dsimp only); (try k_sweep)))
  k_with "call ref" => ((k_here; (k_dflt (show wpAny _ _ (PySem.call (Value.ref 108) [Value.ref _]) _ _ _)); (with_reducible rename LG _ _ _ _ _ _ _ => HL9z); k_dflt (refine' tellL HL9z (by k_asm) (news_pick2 (by k_asm) (by walk_at "mine pick") (by walk_at "mine pick")) (by walk_at "mine offx") (by assumption) (by assumption) (by assumption) ?_); intro h'9z tk'9z ta9z F'9z N'9z; (try dsimp only); (try k_sweep)))
  k_with "subscriptTail Name UnaryOp" => ((k_here; k_dflt (refine' item_last (by exact ⟨_, News.get (by k_asm) (by k_mem), rfl, _, rfl⟩) (by assumption) ?_)))
  k_with "subscriptTail Name UnaryOp ref int" => ((k_here; k_dflt (refine' item_last (by exact ⟨_, News.get (by k_asm) (by k_mem), rfl, _, rfl⟩) (by assumption) ?_)))
  k_with "exec For Tuple Call cons nil" => ((k_here; (with_reducible rename Fr _ _ _ _ => lF'9z); (with_unfolding_all refine' For_turns lF'9z ?_ (by intro _; rfl) (by assumption)); k_whole))
  k_with "call type:enumerate" => ((refine Stop2.mk ?_))
  k_with "execs cons" => ((refine Stop2.mk ?_))
  trivial
theorem all_ne_cons {q : Addr × Obj} {r : List (Addr × Obj)} {c : Addr} (h1 : q.1 ≠ c) (h : ∀ p ∈ r, p.1 ≠ c) : ∀ p ∈ q :: r, p.1 ≠ c := fun p hp => by
  rcases List.mem_cons.mp hp with rfl | hp
  · exact h1
  · exact h p hp
theorem storeCell {M : Model} {A : Around} {E : Value → Shared → Prop} {s : Shared} {h₀ : Heap} {L c : Addr} {m : Str → Option Value} {env : Env} {name : Str} {v : Value} {cv : Option Value} {o : Obj} {l : List (Addr × Obj)} {Q : Unit → Shared → Prop} (hk : env.scope.kind = .function) (hx : env.kindOf name = some .cell) (hc : env.cells.lookup name = some c)
    (F : Fr h₀ L s.heap m) (N : News h₀ L s.heap ((c, o) :: l)) (hd : o.data = .cell cv) (hoff : ∀ p ∈ l, p.1 ≠ c)
    (h : ∀ h' o', o'.data = .cell (some v) → Fr h₀ L h' m → News h₀ L h' ((c, o') :: l) → Q () { s with heap := h' }) : wpAny M A (storeName env name v) Q E s := by
  have hn := N (c, o) (.head _)
  refine wpAny_storeName_cell hk hx hc ⟨o, hn.1, hd⟩ fun h' hv hs => ?_
  obtain ⟨o', ho', hd'⟩ := hv
  refine h h' o' hd' ⟨F.ns.sameBut hs (Ne.symm hn.2.1), fun b ob e => (hs.2 b fun q => ?_).trans (F.keep b ob e), F.above⟩ fun p hp => ?_
  · rw [q] at e; rw [hn.2.2] at e; cases e
  · rcases List.mem_cons.mp hp with rfl | hp
    · exact ⟨ho', hn.2⟩
    · have z := N p (.tail _ hp)
      exact ⟨(hs.2 _ (hoff p hp)).trans z.1, z.2⟩

theorem linesLJx2 : True := by
  k_with "mine offc" => ((repeat (first | assumption | refine all_ne_cons (by walk_at "mine nne") ?_)))
  k_with "storeName" => ((k_here; k_dflt (refine' storeCell (by rfl) (by rfl) (by rfl) (by k_asm) (news_pick (by k_asm) (by walk_at "mine pick")) (by assumption) (by walk_at "mine offc") ?_); intro h'9z o'9z d'9z F'9z N'9z; (try dsimp only); (try k_sweep)))
  trivial
/-- the runs' lists stand in the ledger -/
inductive RunsAt (news : List (Addr × Obj)) : List Value → List (List Str) → Prop
  | nil : RunsAt news [] []
  | cons {r : Addr} {rv : List Value} {rc : Nat} {run : List Str} {Rv : List Value} {runs : List (List Str)} : (r, PySem.W.listOf rv.toArray rc) ∈ news → StrsAre rv run → RunsAt news Rv runs → RunsAt news (.ref r :: Rv) (run :: runs)
theorem RunsAt.length {news : List (Addr × Obj)} {Rv : List Value} {runs : List (List Str)} (h : RunsAt news Rv runs) : Rv.length = runs.length := by
  induction h with
  | nil => rfl
  | cons _ _ _ ih => rw [List.length_cons, List.length_cons, ih]
theorem RunsAt.get {news : List (Addr × Obj)} {Rv : List Value} {runs : List (List Str)} (h : RunsAt news Rv runs) : ∀ (j : Nat) (v : Value), Rv[j]? = some v → ∃ r rv rc run, v = .ref r ∧ (r, PySem.W.listOf rv.toArray rc) ∈ news ∧ StrsAre rv run ∧ runs[j]? = some run := by
  induction h with
  | nil => intro j v h; simp at h
  | cons hm hs _ ih =>
    intro j v h
    cases j with
    | zero => exact ⟨_, _, _, _, (Option.some.inj h).symm, hm, hs, rfl⟩
    | succ j => exact ih j v h
theorem RunsAt.sub {news news' : List (Addr × Obj)} {Rv : List Value} {runs : List (List Str)} (h : RunsAt news Rv runs) (hs : ∀ p, p ∈ news → p ∈ news') : RunsAt news' Rv runs := by
  induction h with
  | nil => exact .nil
  | cons hm hr _ ih => exact .cons (hs _ hm) hr ih
section
variable {w : World} {mg mb : Str → Option Value} {p : Program} {loose : List Str} {mean : ExcName → Option Value}
    {fa : Addr} {cd : Value} {G : Heap} {L : Addr} {m : Str → Option Value} {s : Shared} {Q : Flow → Shared → Prop}
    {E : Value → Shared → Prop} {x d R kt k0 k1 lk : Addr} {rest : List (Addr × Obj)} {t1 t2 t3 t4 t5 : Tok} {b : Bool} {sv : Value} {txt : Str} {tt tx : Tok} {ti : Tok} {oi ok : Obj} {Rv v0 v1 lkv : List Value} {Rc : Nat} {lo : Int} {ln : Nat} {tl tlo : Tok} {v : Value} {cv : Option Value} {pl : List Nat} {runs : List (List Str)}
set_option maxRecDepth 100000 in
set_option maxHeartbeats 3000000 in
theorem loopC (H : LG w p loose mean mg mb G) (hPE : PassesOwn (lM w) (lA L fa cd) (lenv L fa cd) E) (F : Fr G L s.heap m)
    (N : News G L s.heap ((d, tokD w t1 t2 t3 t4 t5 b sv txt tt (posI (signsOf runs) 0) ti v) :: (x, instObj 133 d) :: (L + 1 + 1, oi) :: (L + 1, ok) :: (kt, tup [.ref k0, .ref k1]) :: (k0, tup v0) :: (k1, tup v1) :: (R, PySem.W.listOf Rv.toArray Rc) :: (lk, PySem.W.listOf lkv.toArray 0) :: rest))
    (hoff : OwnOff rest [d, x]) (hdx : @LT.lt Nat _ d x) (hid : @LT.lt Nat _ (L + 1 + 1) d) (hkd : @LT.lt Nat _ (L + 1) d) (htd : @LT.lt Nat _ kt d) (hRd : @LT.lt Nat _ R d) (had : @LT.lt Nat _ k0 d) (hbd : @LT.lt Nat _ k1 d) (hld : @LT.lt Nat _ lk d) (hrest : ∀ p ∈ rest, @LT.lt Nat _ p.1 d) (hrc : ∀ p ∈ rest, p.1 ≠ L + 1 + 1) (hct : @LT.lt Nat _ (L + 1 + 1) kt) (hc0 : @LT.lt Nat _ (L + 1 + 1) k0) (hc1 : @LT.lt Nat _ (L + 1 + 1) k1) (hcR : @LT.lt Nat _ (L + 1 + 1) R) (hcl : @LT.lt Nat _ (L + 1 + 1) lk)
    (hs0 : StrsAre v0 (kd false)) (hs1 : StrsAre v1 (kd true)) (hrl : RunsAt rest Rv runs) (hoi : oi.data = .cell cv) (hok : ok.data = .cell (some (.ref kt)))
    (h5 : m (Str.ofString "t") = some (.ref x)) (h6 : m (Str.ofString "lack") = some (.ref lk)) (h7 : m (Str.ofString "limit") = some (.int (ln : Int) tl)) (h8 : m (Str.ofString "text") = some (.str txt tx)) (h9 : m (Str.ofString "lone") = some (.int lo tlo)) (h10 : m (Str.ofString "runs") = some (.ref R))
    (hl1 : 1 ≤ ln) (hl3 : ln ≤ 3) (hpat : PatIs txt sv pl) (htold : lo = 1 → Told pl sv ((txt.length : Int) - 1) lkv)
    (hO : RunsOk runs) (hlo : lo = 0 ∨ lo = 1) (htx : cps txt = flat (signsOf runs) ++ (if lo = 1 then [92] else [])) (hv : IsTok (signsOf runs)[0]? v)
    (hnext : ∀ h' tk' m' i6 t6 v' oi' cv' ka kb, oi'.data = .cell cv' → (ka = k0 ∧ kb = k1 ∨ ka = k1 ∧ kb = k0) → m' (Str.ofString "own") = some (.ref ka) → m' (Str.ofString "other") = some (.ref kb) → (lo = 0 → i6 = posI (signsOf runs) (atRun runs runs.length) ∧ IsTok none v') → Fr G L h' m' → News G L h' ((d, tokD w t1 t2 t3 t4 t5 b sv txt tt i6 t6 v') :: (x, instObj 133 d) :: (L + 1 + 1, oi') :: (L + 1, ok) :: (kt, tup [.ref k0, .ref k1]) :: (k0, tup v0) :: (k1, tup v1) :: (R, PySem.W.listOf Rv.toArray Rc) :: (lk, PySem.W.listOf lkv.toArray 0) :: rest) →
      (∀ y, y ≠ Str.ofString "run" → y ≠ Str.ofString "own" → y ≠ Str.ofString "other" → y ≠ Str.ofString "k" → y ≠ Str.ofString "piece" → y ≠ Str.ofString "_" → m' y = m y) → Q .next { s with heap := h', toks := tk' }) :
    wpAny (lM w) (lA L fa cd) (exec (stAt bodyB 2) (lenv L fa cd)) Q E s := by
  obtain ⟨B, X, T⟩ := id H
  have em : m = fun y => if y = Str.ofString "runs" then some (.ref R) else m y := by
    funext y
    split
    · next e => rw [e, h10]
    rfl
  conv in (exec (stAt bodyB 2) _) => arg 1; whnf
  rw [em] at F
  show wpAny (model PySem.Challenge.rw_aa0047_01.row.prog w) _ _ _ _ _
  revert X; k_fill; intro X
  k_steps
  unfold Stop2
  (with_reducible rename LG _ _ _ _ _ _ _ => H)
  (with_reducible rename Fr _ _ _ _ => hF)
  (with_reducible rename News _ _ _ _ => hN)
  rw [← em] at hF
  have hRn := hrl.length
  k_dflt (refine ktu_enum (lo := PySem.W.listOf Rv.toArray Rc) (vs := Rv) (xs := enumItems 0 Rv) (by rfl) hF hN (by walk_at "mine memt") (by rfl) (by rfl) rfl ?_)
  intro I hI
  have hIc : ∀ a o, (a, o) ∈ ((d, tokD w t1 t2 t3 t4 t5 b sv txt tt (posI (signsOf runs) 0) ti v) :: (x, instObj 133 d) :: (L + 1 + 1, oi) :: (L + 1, ok) :: (kt, tup [.ref k0, .ref k1]) :: (k0, tup v0) :: (k1, tup v1) :: (R, PySem.W.listOf Rv.toArray Rc) :: (lk, PySem.W.listOf lkv.toArray 0) :: rest) → @LT.lt Nat _ a I := fun a o h => hI (a, o) h
  have hId : @LT.lt Nat _ d I := hIc _ _ (.head _)
  have hIi : @LT.lt Nat _ (L + 1 + 1) I := Nat.lt_trans hid hId
  have hIx : @LT.lt Nat _ x I := hIc _ _ (.tail _ (.head _))
  suffices key : ∀ (k j : Nat) (m' : Str → Option Value) (oi' : Obj) (cv' : Option Value) (i6 : Int) (t6 : Tok) (v6 : Value), j + k = Rv.length → oi'.data = .cell cv' → (lo = 0 ∨ j < runs.length → i6 = posI (signsOf runs) (atRun runs j) ∧ IsTok (signsOf runs)[atRun runs j]? v6) →
      (1 ≤ j → ∃ ka kb, (ka = k0 ∧ kb = k1 ∨ ka = k1 ∧ kb = k0) ∧ m' (Str.ofString "own") = some (.ref ka) ∧ m' (Str.ofString "other") = some (.ref kb)) →
      (∀ y, y ≠ Str.ofString "run" → y ≠ Str.ofString "own" → y ≠ Str.ofString "other" → y ≠ Str.ofString "k" → y ≠ Str.ofString "piece" → y ≠ Str.ofString "_" → m' y = m y) →
      ItemsRest _ w _ E G (lenv L fa cd) _ _ Q s [(I + 1, "enumerate"), (I, "list_iterator")] [(R, PySem.W.listOf Rv.toArray Rc)] (enumItems j (Rv.drop j)) m' ((d, tokD w t1 t2 t3 t4 t5 b sv txt tt i6 t6 v6) :: (x, instObj 133 d) :: (L + 1 + 1, oi') :: (L + 1, ok) :: (kt, tup [.ref k0, .ref k1]) :: (k0, tup v0) :: (k1, tup v1) :: (R, PySem.W.listOf Rv.toArray Rc) :: (lk, PySem.W.listOf lkv.toArray 0) :: rest) from
    key Rv.length 0 m oi cv _ ti v (Nat.zero_add _) hoi (fun _ => ⟨rfl, hv⟩) (fun h => absurd h (by (first | lia | omega))) (fun _ _ _ _ _ _ _ => rfl)
  intro k
  induction k with
  | zero =>
    intro j m' oi' cv' i6 t6 v6 hjk hoi' hst hown hm
    rw [List.drop_of_length_le (by (first | lia | omega))]
    refine ItemsRest.zero ?_
    intro h tk F' N'
    have hjr : j = runs.length := by (first | lia | omega)
    subst hjr
    obtain ⟨ka, kb, hab, e1, e2⟩ := hown hO.one
    refine hnext _ _ _ _ _ _ _ _ ka kb hoi' hab e1 e2 (fun h0 => ?_) F' N' hm
    obtain ⟨e3, e4⟩ := hst (.inl h0)
    refine ⟨e3, ?_⟩
    have : (signsOf runs)[atRun runs runs.length]? = none := by
      unfold atRun signsOf
      rw [List.take_length]
      exact List.getElem?_eq_none (Nat.le_refl _)
    rwa [this] at e4
  | succ k ih =>
    intro j m' oi' cv' i6 t6 v6 hjk hoi' hst hown hm
    have hjlt : j < Rv.length := by (first | lia | omega)
    have hget : Rv[j]? = some Rv[j] := List.getElem?_eq_getElem hjlt
    obtain ⟨r, rv, rc, run, hvr, hmr, hsr, hrun⟩ := hrl.get j _ hget
    rw [List.drop_eq_getElem_cons hjlt, hvr]
    obtain ⟨rfl, htok⟩ := hst (.inr (by (first | lia | omega)))
    refine ItemsRest.pair ?_
    intro T t h tk hT F'
    refine AllObj.cons fun oE hE => AllObj.cons fun oI hI2 => AllObj.nil ?_
    intro N'
    simp only [List.cons_append, List.nil_append] at N'
    k_steps
    unfold Stop2
    (with_reducible rename LG _ _ _ _ _ _ _ => H)
    (with_reducible rename Fr _ _ _ _ => hF2)
    (with_reducible rename News _ _ _ _ => hN2)
    (with_reducible rename Obj => o9)
    (with_reducible rename (Obj.data o9 = Data.cell (some (Value.int _ _))) => hod)
    have q : ∀ (u : Option Value) (y : Str), y ≠ Str.ofString "run" → y ≠ Str.ofString "own" → y ≠ Str.ofString "other" → y ≠ Str.ofString "k" → y ≠ Str.ofString "piece" → y ≠ Str.ofString "_" → (if y = Str.ofString "run" then u else m' y) = m y := fun u y h1 h2 h3 h4 h5 h6 => (if_neg h1).trans (hm y h1 h2 h3 h4 h5 h6)
    refine turnC (s := { s with heap := _, toks := _ }) (rest := (I + 1, oE) :: (I, oI) :: rest) (t1 := t1) (t2 := t2) (t3 := t3) (t4 := t4) (t5 := t5) (b := b) (tt := tt) (ti := t6) (rc := rc) (Rc := Rc) H hPE hF2 (news_sub hN2 (by walk_at "mine subm")) ?off hdx hid hkd htd (hrest _ hmr) hRd had hbd hld hs0 hs1 hsr hRn hod hok (if_pos rfl)
      ((q _ _ (by decide) (by decide) (by decide) (by decide) (by decide) (by decide)).trans h5) ((q _ _ (by decide) (by decide) (by decide) (by decide) (by decide) (by decide)).trans h6) ((q _ _ (by decide) (by decide) (by decide) (by decide) (by decide) (by decide)).trans h7) ((q _ _ (by decide) (by decide) (by decide) (by decide) (by decide) (by decide)).trans h8) ((q _ _ (by decide) (by decide) (by decide) (by decide) (by decide) (by decide)).trans h9) ((q _ _ (by decide) (by decide) (by decide) (by decide) (by decide) (by decide)).trans h10)
      hl1 hl3 hpat htold hO hrun hlo htx htok ?nx
    case off => walk_at "mine offx"
    case nx =>
      intro h' tk' m2 i6' t6' v' ka kb hab e1 e2 hst2 F'' N'' hm2
      show UnrEndW _ _ _ _ _ _
      refine ⟨h', tk', m2, (d, tokD w t1 t2 t3 t4 t5 b sv txt tt i6' t6' v') :: (x, instObj 133 d) :: (L + 1 + 1, o9) :: (L + 1, ok) :: (kt, tup [.ref k0, .ref k1]) :: (k0, tup v0) :: (k1, tup v1) :: (R, PySem.W.listOf Rv.toArray Rc) :: (lk, PySem.W.listOf lkv.toArray 0) :: rest, rfl, F'', ?_, ?_, ⟨?_, trivial⟩, ?_⟩
      · show News _ _ _ ((I + 1, oE) :: (I, oI) :: _)
        exact news_sub N'' (by walk_at "mine subm")
      · intro p hp q hq
        have hlt : @LT.lt Nat _ p.1 I := by
          rcases List.mem_cons.mp hp with rfl | hp
          · exact hId
          rcases List.mem_cons.mp hp with rfl | hp
          · exact hIx
          rcases List.mem_cons.mp hp with rfl | hp
          · exact hIi
          · exact hI p (.tail _ (.tail _ (.tail _ hp)))
        rcases List.mem_cons.mp hq with rfl | hq
        · exact Nat.ne_of_lt (Nat.lt_succ_of_lt hlt)
        · rw [List.mem_singleton.mp hq]; exact Nat.ne_of_lt hlt
      · walk_at "mine memt"
      · refine ih (j + 1) m2 o9 _ i6' t6' v' (by (first | lia | omega)) hod hst2 (fun _ => ⟨ka, kb, hab, e1, e2⟩) ?_
        intro y h1 h2 h3 h4 h5 h6
        exact (hm2 y h2 h3 h4 h5 h6).trans (q _ y h1 h2 h3 h4 h5 h6)
end
end
section
open PySem PySem.W PyProof.Rows
theorem linesLO : True := by
  w_on
  w_top off
  k_with_none
  k_with "mine pick" => ((with_reducible (repeat (first | exact Pick.head | apply Pick.tail))))
  k_with "mine nne" => (first | assumption | exact Nat.ne_of_lt (by assumption) | exact Nat.ne_of_gt (by assumption) | exact Nat.ne_of_lt (Nat.lt_trans (by assumption) (by assumption)) | ((rename _ ∧ _ => gl99z); first | exact Nat.ne_of_gt gl99z.1 | exact Nat.ne_of_gt gl99z.2.1 | exact Nat.ne_of_gt gl99z.2.2.1 | exact Nat.ne_of_lt gl99z.1 | exact Nat.ne_of_lt gl99z.2.1) | exact (show @Ne Nat _ _ from by (first | lia | omega)) | (dsimp only; exact (show @Ne Nat _ _ from by (first | lia | omega))))
  k_with "mine offx" => ((repeat (first | assumption | refine off2_cons (by walk_at "mine nne") (by walk_at "mine nne") ?_)))
  k_with "mine pick" => ((with_reducible (repeat (first | exact Pick.head | apply Pick.tail))))
  k_with "mine memt" => ((with_reducible (repeat (first | assumption | exact List.mem_cons_self .. | refine List.mem_cons_of_mem _ ?_))))
  k_with "call ref" => (((k_dflt (show wpAny _ _ (PySem.call (Value.ref 86) [Value.ref _, _, _]) _ _ _)); refine Stop2.mk ?_))
  k_with "call ref" => ((k_here; (k_dflt (show wpAny _ _ (PySem.call (Value.ref 86) [Value.ref _, _, _]) _ _ _)); (with_reducible rename LG _ _ _ _ _ _ _ => HL9z); k_dflt (refine' gwL HL9z (by k_asm) (news_pick2 (by k_asm) (by walk_at "mine pick") (by walk_at "mine pick")) (by walk_at "mine memt") (by walk_at "mine offx") (by assumption) (by first | assumption | (first | lia | omega)) (by assumption) (by assumption) (by assumption) (by assumption) (by assumption) (by (first | lia | omega)) (by assumption) ?_); intro h'9z tk'9z t69z v9z tr9z hv9z F'9z N'9z; (try dsimp only); (try k_sweep)))
  k_with "call ref" => ((k_here; (k_dflt (show wpAny _ _ (PySem.call (Value.ref 86) [Value.ref _, _, _]) _ _ _)); (with_reducible rename LG _ _ _ _ _ _ _ => HL9z); (with_reducible rename IsTok _ _ => hTk9z); k_dflt (refine' gwN HL9z (by k_asm) (news_pick2 (by k_asm) (by walk_at "mine pick") (by walk_at "mine pick")) (by walk_at "mine memt") (by assumption) (by first | assumption | (first | lia | omega)) (by assumption) (by (first | lia | omega)) (by (first | lia | omega)) hTk9z (by first | exact .inr (by assumption) | exact .inl (by (first | lia | omega))) ?_); intro h'9z tk'9z tr9z F'9z N'9z; (try dsimp only); (try k_sweep)))
  k_with "subscriptTail Name Slice ref ref" => ((k_here; k_dflt (refine' kmk_slice_lit (by k_asm) (by k_asm) (by kmk_list) (by kmk_part) (by kmk_part) (by assumption) ?_ (by with_unfolding_all rfl) (by kmk_pure) (by assumption)); intro D'9z h'9z F'9z N'9z l19z; (try k_lt l19z); (try k_sweep)))
  k_with "subscriptTail Name Constant ref int" => ((k_here; k_dflt (refine' item_zero (by exact ⟨_, News.get (by k_asm) (by k_mem), rfl, _, rfl⟩) ?_)))
  k_with "compareOp NotEq str str" => ((k_here; k_dflt (refine' ne_same (by first | exact join_catS _ | with_reducible rfl | rfl) ?_)))
  k_with "call builtin:str.join" => ((k_here; k_dflt (refine' join_listW (by exact ⟨_, News.get (by k_asm) (by k_mem), rfl, _, rfl⟩) (by assumption) (by decide) (by assumption) ?_); intro t'9z k'9z; (try dsimp only)))
  k_with "call builtin:len" => ((k_here; (with_reducible show wpAny _ _ (call (Value.builtin "len") [Value.ref _]) _ _ _); k_dflt (refine' len_l (by exact ⟨_, News.get (by k_asm) (by k_mem), rfl, _, rfl⟩) (by assumption) (by (first | lia | omega)) ?_); intro t'9z k'9z; (try dsimp only)))
  k_with "mine subm" => ((intro q9z hq9z; (repeat (refine mem_out hq9z (by walk_at "mine memt") ?_; clear hq9z; intro hq9z)); (with_reducible (repeat (first | exact hq9z | refine List.mem_cons_of_mem _ ?_)))))
  k_with "compareOp NotEq ref ref" => ((k_here; k_dflt (first | (refine' ne_told (by exact ⟨_, News.get (by k_asm) (by k_mem), rfl, _, rfl⟩) (by exact ⟨_, News.get (by k_asm) (by k_mem), rfl, _, rfl⟩) (by assumption) (by assumption) (by ktr_units) ?_) | (refine' ne_pair (by exact ⟨_, News.get (by k_asm) (by k_mem), rfl, _, rfl⟩) (by exact ⟨_, News.get (by k_asm) (by k_mem), rfl, _, rfl⟩) (by (first | lia | omega)) (by ktr_units) ?_))))
  k_with "call ref" => ((k_here; (k_dflt (show wpAny _ _ (PySem.call (Value.ref 163) [Value.ref _, _, _]) _ _ _)); (with_reducible rename LG _ _ _ _ _ _ _ => HL9z); (with_reducible rename PatIs _ _ _ => hpX9z); k_dflt (refine' refL HL9z hpX9z (by k_asm) (news_pick2 (by k_asm) (by walk_at "mine pick") (by walk_at "mine pick")) (by walk_at "mine memt") (by walk_at "mine offx") (by assumption) (by first | assumption | (first | lia | omega)) (by assumption) (by assumption) (by assumption) (by assumption) (by assumption) (by assumption) (by (first | lia | omega)) (by assumption) ?_); intro h'9z tk'9z t69z v9z D9z lst9z hv9z ht9z F'9z N'9z hlt9z; (obtain ⟨tv9z, ev9z⟩ := tokStr hv9z; subst ev9z); (try dsimp only); (try k_sweep)))
  k_with "call ref" => ((k_here; (k_dflt (show wpAny _ _ (PySem.call (Value.ref 108) [Value.ref _]) _ _ _)); (with_reducible rename LG _ _ _ _ _ _ _ => HL9z); k_dflt (refine' tellL HL9z (by k_asm) (news_pick2 (by k_asm) (by walk_at "mine pick") (by walk_at "mine pick")) (by walk_at "mine offx") (by assumption) (by assumption) (by assumption) ?_); intro h'9z tk'9z ta9z F'9z N'9z; (try dsimp only); (try k_sweep)))
  k_with "subscriptTail Name UnaryOp" => ((k_here; k_dflt (refine' item_last (by exact ⟨_, News.get (by k_asm) (by k_mem), rfl, _, rfl⟩) (by assumption) ?_)))
  k_with "subscriptTail Name UnaryOp ref int" => ((k_here; k_dflt (refine' item_last (by exact ⟨_, News.get (by k_asm) (by k_mem), rfl, _, rfl⟩) (by assumption) ?_)))
  k_with "exec For Tuple Call cons nil" => ((k_here; (with_reducible rename Fr _ _ _ _ => lF'9z); (with_unfolding_all refine' For_turns lF'9z ?_ (by intro _; rfl) (by assumption)); k_whole))
  k_with "call type:enumerate" => ((refine Stop2.mk ?_))
  trivial
section
variable {prog : Program} {w : World} {A : Around} {E : Value → Shared → Prop} {s : Shared} {h₀ : Heap} {L : Addr} {m : Str → Option Value} {Q : Value → Shared → Prop}
theorem app_K {R : Addr} {vs : List Value} {c : Nat} {v : Value} {l : List (Addr × Obj)} (F : Fr h₀ L s.heap m) (N : News h₀ L s.heap ((R, PySem.W.listOf vs.toArray c) :: l)) (hoff : ∀ p ∈ l, p.1 ≠ R) (hsz : vs.length ≤ 100)
    (h : ∀ h', Fr h₀ L h' m → News h₀ L h' ((R, PySem.W.listOf (vs ++ [v]).toArray (c + 1)) :: l) → Q .none { s with heap := h' }) : wpAny (model prog w) A (call (.builtin "list.append") [.ref R, v]) Q E s := by
  have z := N (R, _) (.head _)
  refine append_at (hsz := by rw [List.size_toArray, sizeLine_eq]; (first | lia | omega)) z.1 fun h' hs ho' => h h' (F.change hs z.2.1 z.2.2) fun p hp => ?_
  rcases List.mem_cons.mp hp with rfl | hp
  · refine ⟨?_, z.2⟩
    rw [ho', List.push_toArray]
  · have y := N p (.tail _ hp)
    exact ⟨(hs.2 _ (hoff p hp)).trans y.1, y.2⟩
end

theorem linesLOx2 : True := by
  k_with "mine offc" => ((repeat (first | assumption | refine all_ne_cons (by walk_at "mine nne") ?_)))
  k_with "storeName" => ((k_here; k_dflt (refine' storeCell (by rfl) (by rfl) (by rfl) (by k_asm) (news_pick (by k_asm) (by walk_at "mine pick")) (by assumption) (by walk_at "mine offc") ?_); intro h'9z o'9z d'9z F'9z N'9z; (try dsimp only); (try k_sweep)))
  k_with "eval ListComp" => ((refine Stop2.mk ?_))
  k_with "call builtin:list.append" => ((k_here; k_dflt (refine' app_K (by k_asm) (news_pick (by k_asm) (by walk_at "mine pick")) (by walk_at "mine offc") (by (first | lia | omega)) ?_); intro h'9z F'9z N'9z; (try dsimp only); (try k_sweep)))
  k_with "storeName" => ((refine Stop2.mk ?_))
  trivial
theorem RunsAt.snoc {news : List (Addr × Obj)} {Rv : List Value} {runs : List (List Str)} (h : RunsAt news Rv runs) {r : Addr} {rv : List Value} {rc : Nat} {run : List Str} (hm : (r, PySem.W.listOf rv.toArray rc) ∈ news) (hs : StrsAre rv run) : RunsAt news (Rv ++ [.ref r]) (runs ++ [run]) := by
  induction h with
  | nil => exact .cons hm hs .nil
  | cons a b _ ih => exact .cons a b ih
theorem ints_get {ws : List Value} {ms : List Int} (h : IntsAre ws ms) : ∀ (j : Nat) (hj : j < ws.length), ∃ n t, ws[j] = .int n t := by
  induction h with
  | nil => intro j hj; simp at hj
  | cons n t r ih =>
    intro j hj
    cases j with
    | zero => exact ⟨n, t, rfl⟩
    | succ j => exact ih j (by simpa using hj)
section
variable {w : World} {mg mb : Str → Option Value} {p : Program} {loose : List Str} {mean : ExcName → Option Value}
    {fa : Addr} {cd : Value} {G : Heap} {L : Addr} {m : Str → Option Value} {s : Shared} {Q : Flow → Shared → Prop}
    {E : Value → Shared → Prop} {R sc kt k0 k1 : Addr} {oi ok on : Obj} {v0 v1 vs : List Value} {ns : List Int} {ci cn : Option Value}
set_option maxRecDepth 100000 in
set_option maxHeartbeats 3000000 in
theorem loopA (H : LG w p loose mean mg mb G) (hPE : PassesOwn (lM w) (lA L fa cd) (lenv L fa cd) E) (F : Fr G L s.heap m)
    (N : News G L s.heap [(L + 1 + 1 + 1, on), (L + 1 + 1, oi), (L + 1, ok), (kt, tup [.ref k0, .ref k1]), (k0, tup v0), (k1, tup v1), (R, PySem.W.listOf (([] : List Value)).toArray 0)])
    (hct : @LT.lt Nat _ (L + 1 + 1 + 1) kt) (hc0 : @LT.lt Nat _ (L + 1 + 1 + 1) k0) (hc1 : @LT.lt Nat _ (L + 1 + 1 + 1) k1) (hcR : @LT.lt Nat _ (L + 1 + 1 + 1) R) (htR : @LT.lt Nat _ kt R) (h0R : @LT.lt Nat _ k0 R) (h1R : @LT.lt Nat _ k1 R)
    (hs0 : StrsAre v0 (kd false)) (hs1 : StrsAre v1 (kd true)) (hon : on.data = .cell cn) (hoi : oi.data = .cell ci) (hok : ok.data = .cell (some (.ref kt)))
    (hL : G.IsList sc vs.toArray) (hI : IntsAre vs ns) (hn : ns.length ≤ 63)
    (h7 : m (Str.ofString "script") = some (.ref sc)) (h10 : m (Str.ofString "runs") = some (.ref R))
    (hnext : ∀ h' tk' Rv Rc runs rest' oi' ci', RunsOk runs → RunsAt rest' Rv runs → (∀ p ∈ rest', p.1 ≠ L + 1 + 1) → oi'.data = .cell ci' → Fr G L h' m → News G L h' ((L + 1 + 1, oi') :: (L + 1, ok) :: (kt, tup [.ref k0, .ref k1]) :: (k0, tup v0) :: (k1, tup v1) :: (R, PySem.W.listOf Rv.toArray Rc) :: rest') → Q .next { s with heap := h', toks := tk' }) :
    wpAny (lM w) (lA L fa cd) (exec (stAt lawDef.1 2) (lenv L fa cd)) Q E s := by
  obtain ⟨B, X, T⟩ := id H
  have em : m = fun y => if y = Str.ofString "script" then some (.ref sc) else if y = Str.ofString "runs" then some (.ref R) else m y := by
    funext y
    split
    · next e => rw [e, h7]
    split
    · next e => rw [e, h10]
    rfl
  conv in (exec (stAt lawDef.1 2) _) => arg 1; whnf
  rw [em] at F
  show wpAny (model PySem.Challenge.rw_aa0047_01.row.prog w) _ _ _ _ _
  revert X; k_fill; intro X
  k_steps
  unfold Stop2
  (with_reducible rename LG _ _ _ _ _ _ _ => H)
  (with_reducible rename Fr _ _ _ _ => hF)
  (with_reducible rename News _ _ _ _ => hN)
  (with_reducible rename Addr => D1)
  (with_reducible rename List Value => ws)
  (with_reducible rename IntsAre ws _ => hW)
  (with_reducible rename _ ∧ _ => gl)
  have hD1 : @LT.lt Nat _ R D1 ∧ @LT.lt Nat _ (L + 1 + 1 + 1) D1 := by (first | lia | omega)
  clear gl
  rw [← em] at hF
  have hN0 : News G L _ [(D1, PySem.W.listOf ws.toArray 0), (L + 1 + 1 + 1, on), (L + 1 + 1, oi), (L + 1, ok), (kt, tup [.ref k0, .ref k1]), (k0, tup v0), (k1, tup v1), (R, PySem.W.listOf (([] : List Value)).toArray 0)] := news_sub hN (by walk_at "mine subm")
  have hwl : ws.length = (List.take 20 ns).length + 1 := by rw [hW.length, List.length_append]; rfl
  have hwl2 : ws.length ≤ 21 := by rw [hwl, List.length_take]; (first | lia | omega)
  clear hN
  k_dflt (refine ktu_enum (lo := PySem.W.listOf ws.toArray 0) (vs := ws) (xs := enumItems 0 ws) (by rfl) hF hN0 (by walk_at "mine memt") (by rfl) (by rfl) rfl ?_)
  intro I hI9
  have hIc : ∀ a o, (a, o) ∈ [(D1, PySem.W.listOf ws.toArray 0), (L + 1 + 1 + 1, on), (L + 1 + 1, oi), (L + 1, ok), (kt, tup [.ref k0, .ref k1]), (k0, tup v0), (k1, tup v1), (R, PySem.W.listOf (([] : List Value)).toArray 0)] → @LT.lt Nat _ a I := fun a o h => hI9 (a, o) h
  have hID := hIc D1 _ (.head _)
  have hIR : @LT.lt Nat _ R I := Nat.lt_trans hD1.1 hID
  have hIn : @LT.lt Nat _ (L + 1 + 1 + 1) I := Nat.lt_trans hD1.2 hID
  suffices key : ∀ (k j : Nat) (on' oi' : Obj) (cn' ci' : Option Value) (Rv : List Value) (Rc : Nat) (runs : List (List Str)) (rl : List (Addr × Obj)), j + k = ws.length → on'.data = .cell cn' → oi'.data = .cell ci' → RunsAt rl Rv runs → runs.length = j →
      (∀ (i : Nat) (run : List Str), runs[i]? = some run → 1 ≤ run.length ∧ run.length ≤ 4 ∧ ∀ y ∈ run, y ∈ kd (i % 2 == 1)) →
      (∀ p ∈ rl, p.1 ≠ L + 1 + 1) → (∀ p ∈ rl, p.1 ≠ L + 1 + 1 + 1) → (∀ p ∈ rl, p.1 ≠ R) → (∀ p ∈ rl, p.1 ≠ I) → (∀ p ∈ rl, p.1 ≠ I + 1) →
      ItemsRest _ w _ E G (lenv L fa cd) _ _ Q _ [(I + 1, "enumerate"), (I, "list_iterator")] [(D1, PySem.W.listOf ws.toArray 0)] (enumItems j (ws.drop j)) m ((D1, PySem.W.listOf ws.toArray 0) :: (L + 1 + 1 + 1, on') :: (L + 1 + 1, oi') :: (L + 1, ok) :: (kt, tup [.ref k0, .ref k1]) :: (k0, tup v0) :: (k1, tup v1) :: (R, PySem.W.listOf Rv.toArray Rc) :: rl) from
    key ws.length 0 on oi cn ci [] 0 [] [] (Nat.zero_add _) hon hoi .nil rfl (fun i run h => by simp at h) (fun p hp => nomatch hp) (fun p hp => nomatch hp) (fun p hp => nomatch hp) (fun p hp => nomatch hp) (fun p hp => nomatch hp)
  intro k
  induction k with
  | zero =>
    intro j on' oi' cn' ci' Rv Rc runs rl hjk hon' hoi' hrl hlen hok' q1 q2 q3 q4 q5
    rw [List.drop_of_length_le (by (first | lia | omega))]
    refine ItemsRest.zero ?_
    intro h tk F' N'
    exact hnext _ _ Rv Rc runs rl oi' ci' ⟨by (first | lia | omega), by (first | lia | omega), hok'⟩ hrl q1 hoi' F' (news_sub N' (by walk_at "mine subm"))
  | succ k ih =>
    intro j on' oi' cn' ci' Rv Rc runs rl hjk hon' hoi' hrl hlen hok' q1 q2 q3 q4 q5
    have hjlt : j < ws.length := by (first | lia | omega)
    obtain ⟨nj, tj, hnj⟩ : ∃ n t, ws[j] = .int n t := ints_get hW j hjlt
    rw [List.drop_eq_getElem_cons hjlt, hnj]
    have hRvl : Rv.length = runs.length := hrl.length
    refine ItemsRest.pair ?_
    intro T9 t h tk hT F'
    refine AllObj.cons fun oE hE => AllObj.cons fun oI hI2 => AllObj.nil ?_
    intro N'
    simp only [List.cons_append, List.nil_append] at N'
    rw [em] at F'
    clear hF hN0
    have hIi : @LT.lt Nat _ (L + 1 + 1) I := by (first | lia | omega)
    k_steps
    unfold Stop2
    (with_reducible rename Fr _ _ _ _ => hF)
    (with_reducible rename News _ _ _ _ => hN)
    k_dflt (refine' storeCell (c := L + 1 + 1) rfl rfl rfl hF (news_pick hN ?p1) hoi' ?o1 ?_)
    case p1 => walk_at "mine pick"
    case o1 => walk_at "mine offc"
    intro h1 oi9 hoi9 F1 N1
    clear hF hN
    k_steps
    unfold Stop2
    (with_reducible rename Fr _ _ _ _ => hF)
    (with_reducible rename News _ _ _ _ => hN)
    k_dflt (refine' storeCell (c := L + 1 + 1 + 1) rfl rfl rfl hF (news_pick hN ?p1) hon' ?o1 ?_)
    case p1 => walk_at "mine pick"
    case o1 => walk_at "mine offc"
    intro h2 on9 hon9 F2 N2
    clear hF hN
    k_steps
    unfold Stop2
    (with_reducible rename LG _ _ _ _ _ _ _ => H)
    (with_reducible rename Fr _ _ _ _ => hF)
    (with_reducible rename News _ _ _ _ => hN)
    refine compA (s := { s with heap := _, toks := _ }) (rest := (R, PySem.W.listOf Rv.toArray Rc) :: (D1, PySem.W.listOf ws.toArray 0) :: (I + 1, oE) :: (I, oI) :: rl) H hF (news_sub hN (by walk_at "mine subm")) hs0 hs1 hon9 hoi9 hok ?_
    intro h3 tk3 D rv run hrv hr1 hr4 hrk F3 N3 hDne
    clear hF hN
    have hDR : R ≠ D := hDne (R, _) (.tail _ (.tail _ (.tail _ (.tail _ (.tail _ (.tail _ (.head _)))))))
    have hDR' : D ≠ R := Ne.symm hDR
    k_steps
    (with_reducible rename Fr _ _ _ _ => hF)
    (with_reducible rename News _ _ _ _ => hN)
    rw [← em] at hF
    have ne1 := fun (a : Addr) (o : Obj) (h : (a, o) ∈ _) => Ne.symm (hDne (a, o) h)
    refine ⟨_, _, m, (D1, PySem.W.listOf ws.toArray 0) :: (L + 1 + 1 + 1, on9) :: (L + 1 + 1, oi9) :: (L + 1, ok) :: (kt, tup [.ref k0, .ref k1]) :: (k0, tup v0) :: (k1, tup v1) :: (R, PySem.W.listOf (Rv ++ [Value.ref D]).toArray (Rc + 1)) :: (D, PySem.W.listOf rv.toArray rv.length) :: rl, rfl, hF, ?_, ?_, ⟨?_, trivial⟩, ?_⟩
    · show News _ _ _ ((I + 1, oE) :: (I, oI) :: _)
      exact news_sub hN (by walk_at "mine subm")
    · intro p hp q hq
      have l2 : ∀ a : Nat, a < I → a ≠ I ∧ a ≠ I + 1 := fun a h => ⟨Nat.ne_of_lt h, Nat.ne_of_lt (Nat.lt_succ_of_lt h)⟩
      have hne : p.1 ≠ I ∧ p.1 ≠ I + 1 := by
        rcases List.mem_cons.mp hp with rfl | hp
        · exact l2 _ hID
        rcases List.mem_cons.mp hp with rfl | hp
        · exact l2 _ hIn
        rcases List.mem_cons.mp hp with rfl | hp
        · exact l2 _ hIi
        rcases List.mem_cons.mp hp with rfl | hp
        · exact l2 _ (hIc (L + 1) ok (by walk_at "mine memt"))
        rcases List.mem_cons.mp hp with rfl | hp
        · exact l2 _ (hIc kt _ (by walk_at "mine memt"))
        rcases List.mem_cons.mp hp with rfl | hp
        · exact l2 _ (hIc k0 _ (by walk_at "mine memt"))
        rcases List.mem_cons.mp hp with rfl | hp
        · exact l2 _ (hIc k1 _ (by walk_at "mine memt"))
        rcases List.mem_cons.mp hp with rfl | hp
        · exact l2 _ hIR
        rcases List.mem_cons.mp hp with rfl | hp
        · exact ⟨ne1 I oI (by walk_at "mine memt"), ne1 (I + 1) oE (by walk_at "mine memt")⟩
        · exact ⟨q4 p hp, q5 p hp⟩
      rcases List.mem_cons.mp hq with rfl | hq
      · exact hne.2
      · rw [List.mem_singleton.mp hq]; exact hne.1
    · walk_at "mine memt"
    · refine ih (j + 1) on9 oi9 _ _ (Rv ++ [Value.ref D]) (Rc + 1) (runs ++ [run]) ((D, PySem.W.listOf rv.toArray rv.length) :: rl) (by (first | lia | omega)) hon9 hoi9 ((hrl.sub fun p hp => .tail _ hp).snoc (.head _) hrv) (by rw [List.length_append, hlen]; rfl) ?_
        (all_ne_cons (ne1 (L + 1 + 1) oi9 (by walk_at "mine memt")) q1) (all_ne_cons (ne1 (L + 1 + 1 + 1) on9 (by walk_at "mine memt")) q2) (all_ne_cons hDR' q3) (all_ne_cons (ne1 I oI (by walk_at "mine memt")) q4) (all_ne_cons (ne1 (I + 1) oE (by walk_at "mine memt")) q5)
      intro i run' hi
      rcases Nat.lt_or_ge i runs.length with hlt | hge
      · rw [List.getElem?_append_left hlt] at hi
        exact hok' i run' hi
      · rw [List.getElem?_append_right hge] at hi
        have hij : i = j := by
          rcases Nat.lt_or_ge (i - runs.length) 1 with z | z
          · (first | lia | omega)
          · rw [List.getElem?_eq_none (by simpa using z)] at hi; cases hi
        subst hij
        rw [hlen, Nat.sub_self] at hi
        obtain rfl : run = run' := Option.some.inj hi
        exact ⟨hr1, hr4, hrk⟩
end
end
section
open PySem PySem.W PyProof.Rows
/-- the two patterns of the law: the text, and its octets -/
inductive PatOf (txt : Str) (tx : Tok) : Value → List Nat → Prop
  | text : PatOf txt tx (.str txt tx) (cps txt)
  | octets (ob : Array UInt8) (ta : Tok) : bNs ob = cps txt → PatOf txt tx (.bytes ob ta) (bNs ob)
theorem PatOf.is {txt : Str} {tx : Tok} {pv : Value} {pl : List Nat} (h : PatOf txt tx pv pl) : PatIs txt pv pl := by
  cases h with
  | text => exact .text tx
  | octets ob ta e => exact .octets ob ta (by rw [← bNs_len, e, cps_len])
theorem bNs_byteArr (l : List Nat) (h : ∀ c ∈ l, c < 256) : bNs (byteArr (l.map Int.ofNat)) = l := by
  unfold bNs byteArr
  simp only [List.toList_toArray, List.map_map]
  conv => rhs; rw [← List.map_id l]
  refine List.map_congr_left fun c hc => ?_
  have := h c hc
  show (c.toUInt8).toNat = c
  simp [Nat.mod_eq_of_lt this]
section
variable {w : World} {mg mb : Str → Option Value} {p : Program} {loose : List Str} {mean : ExcName → Option Value}
    {fa : Addr} {cd : Value} {G : Heap} {L : Addr} {m : Str → Option Value} {s : Shared}
    {Q E : Value → Shared → Prop} {news : List (Addr × Obj)} {pv : Value} {txt : Str} {tx : Tok} {pl : List Nat} {k : Int} {tm tk : Tok} {o : Option Str} {i' : Int}
theorem wordsL (H : LG w p loose mean mg mb G) (hP : PatOf txt tx pv pl) (F : Fr G L s.heap m) (N : News G L s.heap news) (hsz : txt.length < 1000) (h0 : 0 ≤ k) (hkl : k ≤ txt.length)
    (hret : ∀ h' tk' D lst, Told pl pv k lst → Fr G L h' m → News G L h' ((D, PySem.W.listOf lst.toArray 0) :: news) → AllLt D news → Q (.ref D) { s with heap := h', toks := tk' }) :
    wpAny (lM w) (lA L fa cd) (call (.ref 149) [pv, .str (Str.ofString "bad escape (end of pattern)") tm, .int k tk]) Q E s := by
  have a1 := nlAt_len (cps txt) 0
  have a2 := cps_len txt
  cases hP with
  | text =>
    have b1 : (Txt.slice txt none (some k)).length = k.toNat := by rw [← cps_len, slice_cps txt h0 hkl, List.length_take, cps_len]; (first | lia | omega)
    have b2 := nlAt_len (cps (Txt.slice txt none (some k))) 0
    have b3 := cps_len (Txt.slice txt none (some k))
    k_dflt (refine' words_s H.B F H.X N H.T H.X H.T dict_nil lsc_fun ?z1 ?z2 hsz h0 hkl (by (first | lia | omega)) (by (first | lia | omega)) (by (first | lia | omega)) (by (first | lia | omega)) hret)
    case z1 => ktr_room
    case z2 => ktr_units
  | octets ob ta e =>
    have hob : ob.size = txt.length := by rw [← bNs_len, e, cps_len]
    have b1 : (KBy.picked ob none (some k)).size = k.toNat := by rw [← bNs_len, picked_bNs ob h0 (by (first | lia | omega)), List.length_take, bNs_len]; (first | lia | omega)
    have b2 := nlAt_len (bNs (KBy.picked ob none (some k))) 0
    have b3 := bNs_len (KBy.picked ob none (some k))
    have b4 := nlAt_len (bNs ob) 0
    have b5 := bNs_len ob
    k_dflt (refine' words_b H.B F H.X N H.T H.X H.T dict_nil lsc_fun ?z1 ?z2 (by (first | lia | omega)) h0 (by (first | lia | omega)) (by (first | lia | omega)) (by (first | lia | omega)) (by (first | lia | omega)) (by (first | lia | omega)) hret)
    case z1 => ktr_room
    case z2 => ktr_units
theorem tokL (H : LG w p loose mean mg mb G) (hP : PatOf txt tx pv pl) (F : Fr G L s.heap m) (N : News G L s.heap news) (hsz : txt.length < 1000) (h1 : 1 ≤ txt.length) (hst : StepAt txt 0 o i')
    (hret : ∀ h' tk' x d t1 t2 t3 t4 t5 t6 v tt b, IsTok o v → Fr G L h' m → News G L h' ((d, tokD w t1 t2 t3 t4 t5 b pv txt tt i' t6 v) :: (x, instObj 133 d) :: news) → (∀ p ∈ news, @LT.lt Nat _ p.1 d) → @LT.lt Nat _ d x → Q (.ref x) { s with heap := h', toks := tk' }) :
    wpAny (lM w) (lA L fa cd) (call (.ref 133) [pv]) Q E s := by
  cases hP with
  | text =>
    k_dflt (refine' tok_s H.B F H.X N H.T H.X H.T dict_nil lsc_fun ?z1 ?z2 hsz hst ?_)
    case z1 => ktr_room
    case z2 => ktr_units
    intro h₀' h' tk' x d t1 t2 t3 t4 t5 t6 v kT hv F' N' hl hdx _ _ _ _
    exact hret _ _ _ _ _ _ _ _ _ _ _ _ _ hv (turn_nil_fr kT F') (turn_nil_news kT N') hl hdx
  | octets ob ta e =>
    have hob : ob.size = txt.length := by rw [← bNs_len, e, cps_len]
    obtain ⟨l⟩ := ob
    cases l with
    | nil => simp at hob; (first | lia | omega)
    | cons c bcs =>
      have hbl : (c :: bcs).length = txt.length := hob
      have htx : (⟨(bNs (c :: bcs).toArray).toArray⟩ : Str) = txt := by
        refine str_ext ?_
        show (bNs (c :: bcs).toArray).toArray.toList = _
        rw [List.toList_toArray, e]
      k_dflt (refine' tok_b H.B F H.X N H.T H.X H.T dict_nil lsc_fun ?z1 ?z2 hsz (by (first | lia | omega)) htx hst ?_)
      case z1 => ktr_room
      case z2 => ktr_units
      intro h₀' h' tk' x d t1 t2 t3 t4 t5 t6 v tt kT hv F' N' hl hdx _ _ _ _
      exact hret _ _ _ _ _ _ _ _ _ _ _ _ _ hv (turn_nil_fr kT F') (turn_nil_news kT N') hl hdx
theorem octL (H : LG w p loose mean mg mb G) (F : Fr G L s.heap m) (N : News G L s.heap news) (hsz : txt.length < 1000) (hcp : txt.cps.all (· < 128) = true)
    (hret : ∀ h' tk' ob ta, Fr G L h' m → News G L h' news → bNs ob = cps txt → Q (.bytes ob ta) { s with heap := h', toks := tk' }) :
    wpAny (lM w) (lA L fa cd) (call (.ref 142) [.str txt tx]) Q E s := by
  k_dflt (refine' octets_ok H.B F H.X N H.T H.X H.T dict_nil lsc_fun ?z1 ?z2 hsz hcp ?_)
  case z1 => ktr_room
  case z2 => ktr_units
  intro h₀' h' tk' ob ta kT F' N' hob _ _ _ _
  refine hret _ _ _ _ (turn_nil_fr kT F') (turn_nil_news kT N') ?_
  rw [hob]
  refine bNs_byteArr _ fun c hc => ?_
  have := Array.all_eq_true'.mp hcp c (Array.mem_toList_iff.mp hc)
  have h2 : c < 128 := by simpa using this
  (first | lia | omega)
end
end
section
open PySem PySem.W PyProof.Rows
theorem linesLL : True := by
  w_on
  w_top off
  k_with_none
  k_with "mine pick" => ((with_reducible (repeat (first | exact Pick.head | apply Pick.tail))))
  k_with "mine nne" => (first | assumption | exact Nat.ne_of_lt (by assumption) | exact Nat.ne_of_gt (by assumption) | exact Nat.ne_of_lt (Nat.lt_trans (by assumption) (by assumption)) | ((rename _ ∧ _ => gl99z); first | exact Nat.ne_of_gt gl99z.1 | exact Nat.ne_of_gt gl99z.2.1 | exact Nat.ne_of_gt gl99z.2.2.1 | exact Nat.ne_of_lt gl99z.1 | exact Nat.ne_of_lt gl99z.2.1) | exact (show @Ne Nat _ _ from by (first | lia | omega)) | (dsimp only; exact (show @Ne Nat _ _ from by (first | lia | omega))))
  k_with "mine offx" => ((repeat (first | assumption | refine off2_cons (by walk_at "mine nne") (by walk_at "mine nne") ?_)))
  k_with "mine pick" => ((with_reducible (repeat (first | exact Pick.head | apply Pick.tail))))
  k_with "mine memt" => ((with_reducible (repeat (first | assumption | exact List.mem_cons_self .. | refine List.mem_cons_of_mem _ ?_))))
  k_with "call ref" => (((k_dflt (show wpAny _ _ (PySem.call (Value.ref 86) [Value.ref _, _, _]) _ _ _)); refine Stop2.mk ?_))
  k_with "call ref" => ((k_here; (k_dflt (show wpAny _ _ (PySem.call (Value.ref 86) [Value.ref _, _, _]) _ _ _)); (with_reducible rename LG _ _ _ _ _ _ _ => HL9z); k_dflt (refine' gwL HL9z (by k_asm) (news_pick2 (by k_asm) (by walk_at "mine pick") (by walk_at "mine pick")) (by walk_at "mine memt") (by walk_at "mine offx") (by assumption) (by first | assumption | (first | lia | omega)) (by assumption) (by assumption) (by assumption) (by assumption) (by assumption) (by (first | lia | omega)) (by assumption) ?_); intro h'9z tk'9z t69z v9z tr9z hv9z F'9z N'9z; (try dsimp only); (try k_sweep)))
  k_with "call ref" => ((k_here; (k_dflt (show wpAny _ _ (PySem.call (Value.ref 86) [Value.ref _, _, _]) _ _ _)); (with_reducible rename LG _ _ _ _ _ _ _ => HL9z); (with_reducible rename IsTok _ _ => hTk9z); k_dflt (refine' gwN HL9z (by k_asm) (news_pick2 (by k_asm) (by walk_at "mine pick") (by walk_at "mine pick")) (by walk_at "mine memt") (by assumption) (by first | assumption | (first | lia | omega)) (by assumption) (by (first | lia | omega)) (by (first | lia | omega)) hTk9z (by first | exact .inr (by assumption) | exact .inl (by (first | lia | omega))) ?_); intro h'9z tk'9z tr9z F'9z N'9z; (try dsimp only); (try k_sweep)))
  k_with "subscriptTail Name Slice ref ref" => ((k_here; k_dflt (refine' kmk_slice_lit (by k_asm) (by k_asm) (by kmk_list) (by kmk_part) (by kmk_part) (by assumption) ?_ (by with_unfolding_all rfl) (by kmk_pure) (by assumption)); intro D'9z h'9z F'9z N'9z l19z; (try k_lt l19z); (try k_sweep)))
  k_with "subscriptTail Name Constant ref int" => ((k_here; k_dflt (refine' item_zero (by exact ⟨_, News.get (by k_asm) (by k_mem), rfl, _, rfl⟩) ?_)))
  k_with "compareOp NotEq str str" => ((k_here; k_dflt (refine' ne_same (by first | exact join_catS _ | with_reducible rfl | rfl) ?_)))
  k_with "call builtin:str.join" => ((k_here; k_dflt (refine' join_listW (by exact ⟨_, News.get (by k_asm) (by k_mem), rfl, _, rfl⟩) (by assumption) (by decide) (by assumption) ?_); intro t'9z k'9z; (try dsimp only)))
  k_with "call builtin:len" => ((k_here; (with_reducible show wpAny _ _ (call (Value.builtin "len") [Value.ref _]) _ _ _); k_dflt (refine' len_l (by exact ⟨_, News.get (by k_asm) (by k_mem), rfl, _, rfl⟩) (by assumption) (by (first | lia | omega)) ?_); intro t'9z k'9z; (try dsimp only)))
  k_with "mine subm" => ((intro q9z hq9z; (repeat (refine mem_out hq9z (by walk_at "mine memt") ?_; clear hq9z; intro hq9z)); (with_reducible (repeat (first | exact hq9z | refine List.mem_cons_of_mem _ ?_)))))
  k_with "compareOp NotEq ref ref" => ((k_here; k_dflt (first | (refine' ne_told (by exact ⟨_, News.get (by k_asm) (by k_mem), rfl, _, rfl⟩) (by exact ⟨_, News.get (by k_asm) (by k_mem), rfl, _, rfl⟩) (by assumption) (by assumption) (by ktr_units) ?_) | (refine' ne_pair (by exact ⟨_, News.get (by k_asm) (by k_mem), rfl, _, rfl⟩) (by exact ⟨_, News.get (by k_asm) (by k_mem), rfl, _, rfl⟩) (by (first | lia | omega)) (by ktr_units) ?_))))
  k_with "call ref" => ((k_here; (k_dflt (show wpAny _ _ (PySem.call (Value.ref 163) [Value.ref _, _, _]) _ _ _)); (with_reducible rename LG _ _ _ _ _ _ _ => HL9z); (with_reducible rename PatIs _ _ _ => hpX9z); k_dflt (refine' refL HL9z hpX9z (by k_asm) (news_pick2 (by k_asm) (by walk_at "mine pick") (by walk_at "mine pick")) (by walk_at "mine memt") (by walk_at "mine offx") (by assumption) (by first | assumption | (first | lia | omega)) (by assumption) (by assumption) (by assumption) (by assumption) (by assumption) (by assumption) (by (first | lia | omega)) (by assumption) ?_); intro h'9z tk'9z t69z v9z D9z lst9z hv9z ht9z F'9z N'9z hlt9z; (obtain ⟨tv9z, ev9z⟩ := tokStr hv9z; subst ev9z); (try dsimp only); (try k_sweep)))
  k_with "call ref" => ((k_here; (k_dflt (show wpAny _ _ (PySem.call (Value.ref 108) [Value.ref _]) _ _ _)); (with_reducible rename LG _ _ _ _ _ _ _ => HL9z); k_dflt (refine' tellL HL9z (by k_asm) (news_pick2 (by k_asm) (by walk_at "mine pick") (by walk_at "mine pick")) (by walk_at "mine offx") (by assumption) (by assumption) (by assumption) ?_); intro h'9z tk'9z ta9z F'9z N'9z; (try dsimp only); (try k_sweep)))
  k_with "subscriptTail Name UnaryOp" => ((k_here; k_dflt (refine' item_last (by exact ⟨_, News.get (by k_asm) (by k_mem), rfl, _, rfl⟩) (by assumption) ?_)))
  k_with "subscriptTail Name UnaryOp ref int" => ((k_here; k_dflt (refine' item_last (by exact ⟨_, News.get (by k_asm) (by k_mem), rfl, _, rfl⟩) (by assumption) ?_)))
  k_with "exec For Tuple Call cons nil" => ((refine Stop2.mk ?_))
  k_with "call type:enumerate" => ((refine Stop2.mk ?_))
  k_with "mine offc" => ((repeat (first | assumption | refine all_ne_cons (by walk_at "mine nne") ?_)))
  k_with "storeName" => ((k_here; k_dflt (refine' storeCell (by rfl) (by rfl) (by rfl) (by k_asm) (news_pick (by k_asm) (by walk_at "mine pick")) (by assumption) (by walk_at "mine offc") ?_); intro h'9z o'9z d'9z F'9z N'9z; (try dsimp only); (try k_sweep)))
  k_with "call ref" => ((k_here; (k_dflt (show wpAny _ _ (PySem.call (Value.ref 149) [_, _, _]) _ _ _)); refine Stop2.mk ?_))
  k_with "call ref" => ((k_here; (k_dflt (show wpAny _ _ (PySem.call (Value.ref 133) [_]) _ _ _)); refine Stop2.mk ?_))
  trivial
theorem StepAt.lt {txt : Str} {i i' : Int} {y : Str} (h : StepAt txt i (some y) i') : i < (txt.length : Int) := by
  generalize e : some y = o at h
  cases h with
  | plain h _ => exact h
  | esc h _ => (first | lia | omega)
  | stop _ => cases e

theorem gwN0 {w : World} {mg mb : Str → Option Value} {p : Program} {loose : List Str} {mean : ExcName → Option Value}
    {fa : Addr} {cd : Value} {G : Heap} {L : Addr} {m : Str → Option Value} {s : Shared}
    {Q E : Value → Shared → Prop} {x d kt : Addr} {rest : List (Addr × Obj)} {t1 t2 t3 t4 t5 : Tok} {b : Bool} {sv : Value} {txt : Str} {tt : Tok} {i : Int} {ti : Tok} {vs : List Value} {ys : List Str} {n : Int} {tn : Tok} (H : LG w p loose mean mg mb G) (F : Fr G L s.heap m)
    (N : News G L s.heap ((d, tokD w t1 t2 t3 t4 t5 b sv txt tt i ti .none) :: (x, instObj 133 d) :: rest)) (hkt : (kt, tup vs) ∈ rest) (hdx : @LT.lt Nat _ d x) (hst : StrsAre vs ys)
    (hn0 : -63 ≤ n) (hn : n ≤ 63)
    (hret : ∀ h' tk' tr, Fr G L h' m → News G L h' ((d, tokD w t1 t2 t3 t4 t5 b sv txt tt i ti .none) :: (x, instObj 133 d) :: rest) → Q (.str (Str.ofString "") tr) { s with heap := h', toks := tk' }) :
    wpAny (lM w) (lA L fa cd) (call (.ref 86) [.ref x, .int n tn, .ref kt]) Q E s := by
  k_dflt (refine' gw_none0 (o := none) H.B F H.X (news_add N hkt) hdx H.T H.X H.T dict_nil lsc_fun ?z1 ?z2 hst hn0 hn rfl (.inr rfl) ?_)
  case z1 => ktr_room
  case z2 => ktr_units
  intro h₀' h' tk' tr kT F' N' _ _ _ _
  exact hret _ _ _ (turn_nil_fr kT F') (news_del (turn_nil_news kT N'))
theorem strs_cons {vs : List Value} {ys : List Str} (h : StrsAre vs ys) (e : ys ≠ []) : vs ≠ [] := fun z => by
  subst z
  cases h
  exact e rfl
theorem kd_ne (b : Bool) : kd b ≠ [] := by cases b <;> exact List.cons_ne_nil _ _
section
variable {prog : Program} {w : World} {A : Around} {E : Value → Shared → Prop} {s : Shared} {h₀ : Heap} {L : Addr} {m : Str → Option Value} {news : List (Addr × Obj)} {Q : Value → Shared → Prop}
theorem add_tup2 {t b : Addr} {vs ws : List Value} (F : Fr h₀ L s.heap m) (N : News h₀ L s.heap news) (ht : IsTup s.heap t vs.toArray) (hb : IsTup s.heap b ws.toArray) (h1 : vs ≠ []) (h2 : ws ≠ []) (hsz : vs.length + ws.length ≤ 100)
    (h : ∀ T h', Fr h₀ L h' m → News h₀ L h' ((T, tup (vs ++ ws)) :: news) → Q (.ref T) { s with heap := h' }) : wpAny (model prog w) A (binaryOp .Add (.ref t) (.ref b)) Q E s :=
  add_tuples F N ht hb (fun z => absurd z h1) (fun _ z => absurd z h2) (fun _ _ h' F' N' => h _ h' F' N') (by rw [sizeLine_eq]; (first | lia | omega))
end
theorem linesLLx2 : True := by
  k_with "binaryOp Add ref ref" => ((k_here; k_dflt (refine' add_tup2 (by k_asm) (by k_asm) (by exact News.isTup (by k_asm) (by walk_at "mine memt")) (by exact News.isTup (by k_asm) (by walk_at "mine memt")) (by assumption) (by assumption) (by (first | lia | omega)) ?_); intro T9z h'9z F'9z N'9z; (try dsimp only)))
  k_with "call ref" => ((k_here; (k_dflt (show wpAny _ _ (PySem.call (Value.ref 86) [Value.ref _, _, _]) _ _ _)); (with_reducible rename LG _ _ _ _ _ _ _ => HL9z); k_dflt (refine' gwN0 HL9z (by k_asm) (news_pick2 (by k_asm) (by walk_at "mine pick") (by walk_at "mine pick")) (by walk_at "mine memt") (by assumption) (by assumption) (by (first | lia | omega)) (by (first | lia | omega)) ?_); intro h'9z tk'9z tr9z F'9z N'9z; (try dsimp only); (try k_sweep)))
  trivial
section
variable {w : World} {mg mb : Str → Option Value} {p : Program} {loose : List Str} {mean : ExcName → Option Value}
    {fa : Addr} {cd : Value} {G : Heap} {L : Addr} {m : Str → Option Value} {s : Shared} {Q : Flow → Shared → Prop}
    {E : Value → Shared → Prop} {R kt k0 k1 : Addr} {rest : List (Addr × Obj)} {pv : Value} {txt : Str} {tx : Tok} {oi ok : Obj} {Rv v0 v1 : List Value} {Rc : Nat} {lo : Int} {ln : Nat} {tl tlo : Tok} {cv : Option Value} {pl : List Nat} {runs : List (List Str)}
set_option maxRecDepth 100000 in
set_option maxHeartbeats 3000000 in
theorem turnB (H : LG w p loose mean mg mb G) (hPE : PassesOwn (lM w) (lA L fa cd) (lenv L fa cd) E) (F : Fr G L s.heap m)
    (N : News G L s.heap ((L + 1 + 1, oi) :: (L + 1, ok) :: (kt, tup [.ref k0, .ref k1]) :: (k0, tup v0) :: (k1, tup v1) :: (R, PySem.W.listOf Rv.toArray Rc) :: rest))
    (hrc : ∀ p ∈ rest, p.1 ≠ L + 1 + 1) (hct : @LT.lt Nat _ (L + 1 + 1) kt) (hc0 : @LT.lt Nat _ (L + 1 + 1) k0) (hc1 : @LT.lt Nat _ (L + 1 + 1) k1) (hcR : @LT.lt Nat _ (L + 1 + 1) R)
    (hs0 : StrsAre v0 (kd false)) (hs1 : StrsAre v1 (kd true)) (hrl : RunsAt rest Rv runs) (hoi : oi.data = .cell cv) (hok : ok.data = .cell (some (.ref kt)))
    (h6 : m (Str.ofString "pattern") = some pv) (h7 : m (Str.ofString "limit") = some (.int (ln : Int) tl)) (h8 : m (Str.ofString "text") = some (.str txt tx)) (h9 : m (Str.ofString "lone") = some (.int lo tlo)) (h10 : m (Str.ofString "runs") = some (.ref R))
    (hl1 : 1 ≤ ln) (hl3 : ln ≤ 3) (hpat : PatOf txt tx pv pl)
    (hO : RunsOk runs) (hlo : lo = 0 ∨ lo = 1) (htx : cps txt = flat (signsOf runs) ++ (if lo = 1 then [92] else []))
    (hnext : ∀ h' tk' m' oi' cv', oi'.data = .cell cv' → Fr G L h' m' → News G L h' ((L + 1 + 1, oi') :: (L + 1, ok) :: (kt, tup [.ref k0, .ref k1]) :: (k0, tup v0) :: (k1, tup v1) :: (R, PySem.W.listOf Rv.toArray Rc) :: rest) →
      (∀ y, y ≠ Str.ofString "lack" → y ≠ Str.ofString "t" → y ≠ Str.ofString "run" → y ≠ Str.ofString "own" → y ≠ Str.ofString "other" → y ≠ Str.ofString "k" → y ≠ Str.ofString "piece" → y ≠ Str.ofString "_" → m' y = m y) → Q .next { s with heap := h', toks := tk' }) :
    wpAny (lM w) (lA L fa cd) (execs bodyB (lenv L fa cd)) Q E s := by
  obtain ⟨B, X, T⟩ := id H
  have hrne : ∃ y r, signsOf runs = y :: r := by
    have h1 : 0 < runs.length := hO.one
    have h2 : runs[0]? = some runs[0] := List.getElem?_eq_getElem h1
    obtain ⟨h3, -, -⟩ := hO.ok 0 _ h2
    have h4 := drop_run h2 0 (Nat.zero_le _)
    have e0 : atRun runs 0 = 0 := rfl
    rw [e0, Nat.zero_add, List.drop_zero, List.drop_zero] at h4
    cases h5 : runs[0] with
    | nil => rw [h5] at h3; simp at h3
    | cons y r => rw [h5] at h4; exact ⟨y, _, h4⟩
  obtain ⟨y0, r0, hy0⟩ := hrne
  have hst : StepAt txt 0 (some y0) (posI (signsOf runs) 0) := step_q (q := 0) htx hO.signs hy0
  have hsz : txt.length < 1000 := by
    have h1 := hO.size.2
    have h2 := cps_len' txt
    rw [htx, List.length_append] at h2
    have : (if lo = 1 then [92] else ([] : List Nat)).length ≤ 1 := by split <;> simp
    (first | lia | omega)
  have hlen : 1 ≤ txt.length := by have := StepAt.lt hst; (first | lia | omega)
  have em : m = fun y => if y = Str.ofString "pattern" then some pv else if y = Str.ofString "text" then some (.str txt tx) else m y := by
    funext y
    split
    · next e => rw [e, h6]
    split
    · next e => rw [e, h8]
    rfl
  conv in (execs bodyB _) => arg 1; whnf
  rw [em] at F
  show wpAny (model PySem.Challenge.rw_aa0047_01.row.prog w) _ _ _ _ _
  revert X; k_fill; intro X
  k_steps
  unfold Stop2
  (with_reducible rename LG _ _ _ _ _ _ _ => H)
  (with_reducible rename Fr _ _ _ _ => hF)
  (with_reducible rename News _ _ _ _ => hN)
  k_dflt (refine' wordsL H hpat hF hN hsz (by (first | lia | omega)) (by (first | lia | omega)) ?_)
  intro h2 tk2 lk lst hT2 F2 N2 hlt2
  clear hF hN
  obtain ⟨gli, glk, glt, gl0, gl1, glR, glr⟩ := hlt2
  k_steps
  unfold Stop2
  (with_reducible rename LG _ _ _ _ _ _ _ => H)
  (with_reducible rename Fr _ _ _ _ => hF)
  (with_reducible rename News _ _ _ _ => hN)
  k_dflt (refine' tokL H hpat hF hN hsz hlen hst ?_)
  intro h3 tk3 x d t1 t2 t3 t4 t5 t6 v tt b hv F3 N3 hlt3 hdx
  clear hF hN
  k_steps
  unfold Stop2
  (with_reducible rename LG _ _ _ _ _ _ _ => H)
  (with_reducible rename Fr _ _ _ _ => hF)
  (with_reducible rename News _ _ _ _ => hN)
  have hm3 : ∀ (u1 u2 : Option Value) (y : Str), y ≠ Str.ofString "t" → y ≠ Str.ofString "lack" → (if y = Str.ofString "t" then u1 else if y = Str.ofString "lack" then u2 else if y = Str.ofString "pattern" then some pv else if y = Str.ofString "text" then some (.str txt tx) else m y) = m y := fun u1 u2 y e1 e2 => (if_neg e1).trans ((if_neg e2).trans (congrFun em y).symm)
  have hd : ∀ a o, (a, o) ∈ ((lk, PySem.W.listOf lst.toArray 0) :: (L + 1 + 1, oi) :: (L + 1, ok) :: (kt, tup [.ref k0, .ref k1]) :: (k0, tup v0) :: (k1, tup v1) :: (R, PySem.W.listOf Rv.toArray Rc) :: rest) → @LT.lt Nat _ a d := fun a o h => hlt3 (a, o) h
  have hrd : ∀ p ∈ rest, @LT.lt Nat _ p.1 d := fun p hp => hlt3 p (.tail _ (.tail _ (.tail _ (.tail _ (.tail _ (.tail _ (.tail _ hp)))))))
  refine loopC (s := { s with heap := _, toks := _ }) (t1 := t1) (t2 := t2) (t3 := t3) (t4 := t4) (t5 := t5) (b := b) (tt := tt) (ti := t6) (Rc := Rc) (lkv := lst) (lo := lo) (ln := ln) H hPE hF (news_sub hN (by walk_at "mine subm")) ?off hdx (hd _ _ (by walk_at "mine memt")) (hd (L + 1) ok (by walk_at "mine memt")) (hd kt _ (by walk_at "mine memt")) (hd R _ (by walk_at "mine memt")) (hd k0 _ (by walk_at "mine memt")) (hd k1 _ (by walk_at "mine memt")) (hd lk _ (by walk_at "mine memt")) hrd hrc hct hc0 hc1 hcR gli
    hs0 hs1 hrl hoi hok (if_pos rfl) ((if_neg (by decide)).trans (if_pos rfl)) ((hm3 _ _ _ (by decide) (by decide)).trans h7) ((hm3 _ _ _ (by decide) (by decide)).trans h8) ((hm3 _ _ _ (by decide) (by decide)).trans h9) ((hm3 _ _ _ (by decide) (by decide)).trans h10)
    hl1 hl3 hpat.is (fun _ => hT2) hO hlo htx (by rw [hy0]; exact hv) ?nx
  case off =>
    refine off2 (fun p hp => Nat.ne_of_lt (hrd p hp)) (fun p hp => Nat.ne_of_lt (Nat.lt_trans (hrd p hp) hdx))
  case nx =>
    intro h4 tk4 m4 i6 t7 v4 oi4 cv4 ka kb hoi4 hab e1 e2 hst4 F4 N4 hm4
    have hm5 : ∀ y, y ≠ Str.ofString "lack" → y ≠ Str.ofString "t" → y ≠ Str.ofString "run" → y ≠ Str.ofString "own" → y ≠ Str.ofString "other" → y ≠ Str.ofString "k" → y ≠ Str.ofString "piece" → y ≠ Str.ofString "_" → m4 y = m y := fun y a1 a2 a3 a4 a5 a6 a7 a8 => (hm4 y a3 a4 a5 a6 a7 a8).trans (hm3 _ _ y a2 a1)
    have em4 : m4 = fun y => if y = Str.ofString "lone" then some (.int lo tlo) else if y = Str.ofString "t" then some (.ref x) else if y = Str.ofString "limit" then some (.int (ln : Int) tl) else if y = Str.ofString "own" then some (.ref ka) else if y = Str.ofString "other" then some (.ref kb) else m4 y := by
      funext y
      split
      · next e => rw [e, hm5 _ (by decide) (by decide) (by decide) (by decide) (by decide) (by decide) (by decide) (by decide), h9]
      split
      · next e => rw [e, hm4 _ (by decide) (by decide) (by decide) (by decide) (by decide) (by decide)]; exact if_pos rfl
      split
      · next e => rw [e, hm5 _ (by decide) (by decide) (by decide) (by decide) (by decide) (by decide) (by decide) (by decide), h7]
      split
      · next e => rw [e, e1]
      split
      · next e => rw [e, e2]
      rfl
    rw [em4] at F4
    clear hF hN
    have fin : ∀ h' tk', Fr G L h' m4 → News G L h' ((L + 1 + 1, oi4) :: (L + 1, ok) :: (kt, tup [.ref k0, .ref k1]) :: (k0, tup v0) :: (k1, tup v1) :: (R, PySem.W.listOf Rv.toArray Rc) :: rest) → Q .next { s with heap := h', toks := tk' } := fun h' tk' F' N' => hnext h' tk' m4 oi4 cv4 hoi4 F' N' hm5
    have hv0 := strs_cons hs0 (kd_ne _)
    have hv1 := strs_cons hs1 (kd_ne _)
    have hl0 : v0.length = 3 := hs0.length
    have hl1' : v1.length = 3 := hs1.length
    have hs01 := hs0.append' hs1
    have hs10 := hs1.append' hs0
    dsimp only
    rcases hlo with rfl | rfl
    · obtain ⟨rfl, hno⟩ := hst4 rfl
      obtain rfl : v4 = Value.none := hno
      rcases hab with ⟨rfl, rfl⟩ | ⟨rfl, rfl⟩
      · k_steps
        exact fin _ _ (by rw [em4]; k_asm) (news_sub (by k_asm) (by walk_at "mine subm"))
      · k_steps
        exact fin _ _ (by rw [em4]; k_asm) (news_sub (by k_asm) (by walk_at "mine subm"))
    · k_steps
      exact fin _ _ (by rw [em4]; k_asm) (news_sub (by k_asm) (by walk_at "mine subm"))
end
end
section
open PySem PySem.W PyProof.Rows
theorem linesLM : True := by
  w_on
  w_top off
  k_with_none
  k_with "mine pick" => ((with_reducible (repeat (first | exact Pick.head | apply Pick.tail))))
  k_with "mine nne" => (first | assumption | exact Nat.ne_of_lt (by assumption) | exact Nat.ne_of_gt (by assumption) | exact Nat.ne_of_lt (Nat.lt_trans (by assumption) (by assumption)) | ((rename _ ∧ _ => gl99z); first | exact Nat.ne_of_gt gl99z.1 | exact Nat.ne_of_gt gl99z.2.1 | exact Nat.ne_of_gt gl99z.2.2.1 | exact Nat.ne_of_lt gl99z.1 | exact Nat.ne_of_lt gl99z.2.1) | exact (show @Ne Nat _ _ from by (first | lia | omega)) | (dsimp only; exact (show @Ne Nat _ _ from by (first | lia | omega))))
  k_with "mine offx" => ((repeat (first | assumption | refine off2_cons (by walk_at "mine nne") (by walk_at "mine nne") ?_)))
  k_with "mine pick" => ((with_reducible (repeat (first | exact Pick.head | apply Pick.tail))))
  k_with "mine memt" => ((with_reducible (repeat (first | assumption | exact List.mem_cons_self .. | refine List.mem_cons_of_mem _ ?_))))
  k_with "call ref" => (((k_dflt (show wpAny _ _ (PySem.call (Value.ref 86) [Value.ref _, _, _]) _ _ _)); refine Stop2.mk ?_))
  k_with "call ref" => ((k_here; (k_dflt (show wpAny _ _ (PySem.call (Value.ref 86) [Value.ref _, _, _]) _ _ _)); (with_reducible rename LG _ _ _ _ _ _ _ => HL9z); k_dflt (refine' gwL HL9z (by k_asm) (news_pick2 (by k_asm) (by walk_at "mine pick") (by walk_at "mine pick")) (by walk_at "mine memt") (by walk_at "mine offx") (by assumption) (by first | assumption | (first | lia | omega)) (by assumption) (by assumption) (by assumption) (by assumption) (by assumption) (by (first | lia | omega)) (by assumption) ?_); intro h'9z tk'9z t69z v9z tr9z hv9z F'9z N'9z; (try dsimp only); (try k_sweep)))
  k_with "call ref" => ((k_here; (k_dflt (show wpAny _ _ (PySem.call (Value.ref 86) [Value.ref _, _, _]) _ _ _)); (with_reducible rename LG _ _ _ _ _ _ _ => HL9z); (with_reducible rename IsTok _ _ => hTk9z); k_dflt (refine' gwN HL9z (by k_asm) (news_pick2 (by k_asm) (by walk_at "mine pick") (by walk_at "mine pick")) (by walk_at "mine memt") (by assumption) (by first | assumption | (first | lia | omega)) (by assumption) (by (first | lia | omega)) (by (first | lia | omega)) hTk9z (by first | exact .inr (by assumption) | exact .inl (by (first | lia | omega))) ?_); intro h'9z tk'9z tr9z F'9z N'9z; (try dsimp only); (try k_sweep)))
  k_with "subscriptTail Name Slice ref ref" => ((k_here; k_dflt (refine' kmk_slice_lit (by k_asm) (by k_asm) (by kmk_list) (by kmk_part) (by kmk_part) (by assumption) ?_ (by with_unfolding_all rfl) (by kmk_pure) (by assumption)); intro D'9z h'9z F'9z N'9z l19z; (try k_lt l19z); (try k_sweep)))
  k_with "subscriptTail Name Constant ref int" => ((k_here; k_dflt (refine' item_zero (by exact ⟨_, News.get (by k_asm) (by k_mem), rfl, _, rfl⟩) ?_)))
  k_with "compareOp NotEq str str" => ((k_here; k_dflt (refine' ne_same (by first | exact join_catS _ | with_reducible rfl | rfl) ?_)))
  k_with "call builtin:str.join" => ((k_here; k_dflt (refine' join_listW (by exact ⟨_, News.get (by k_asm) (by k_mem), rfl, _, rfl⟩) (by assumption) (by decide) (by assumption) ?_); intro t'9z k'9z; (try dsimp only)))
  k_with "call builtin:len" => ((k_here; (with_reducible show wpAny _ _ (call (Value.builtin "len") [Value.ref _]) _ _ _); k_dflt (refine' len_l (by exact ⟨_, News.get (by k_asm) (by k_mem), rfl, _, rfl⟩) (by assumption) (by (first | lia | omega)) ?_); intro t'9z k'9z; (try dsimp only)))
  k_with "mine subm" => ((intro q9z hq9z; (repeat (refine mem_out hq9z (by walk_at "mine memt") ?_; clear hq9z; intro hq9z)); (with_reducible (repeat (first | exact hq9z | refine List.mem_cons_of_mem _ ?_)))))
  k_with "compareOp NotEq ref ref" => ((k_here; k_dflt (first | (refine' ne_told (by exact ⟨_, News.get (by k_asm) (by k_mem), rfl, _, rfl⟩) (by exact ⟨_, News.get (by k_asm) (by k_mem), rfl, _, rfl⟩) (by assumption) (by assumption) (by ktr_units) ?_) | (refine' ne_pair (by exact ⟨_, News.get (by k_asm) (by k_mem), rfl, _, rfl⟩) (by exact ⟨_, News.get (by k_asm) (by k_mem), rfl, _, rfl⟩) (by (first | lia | omega)) (by ktr_units) ?_))))
  k_with "call ref" => ((k_here; (k_dflt (show wpAny _ _ (PySem.call (Value.ref 163) [Value.ref _, _, _]) _ _ _)); (with_reducible rename LG _ _ _ _ _ _ _ => HL9z); (with_reducible rename PatIs _ _ _ => hpX9z); k_dflt (refine' refL HL9z hpX9z (by k_asm) (news_pick2 (by k_asm) (by walk_at "mine pick") (by walk_at "mine pick")) (by walk_at "mine memt") (by walk_at "mine offx") (by assumption) (by first | assumption | (first | lia | omega)) (by assumption) (by assumption) (by assumption) (by assumption) (by assumption) (by assumption) (by (first | lia | omega)) (by assumption) ?_); intro h'9z tk'9z t69z v9z D9z lst9z hv9z ht9z F'9z N'9z hlt9z; (obtain ⟨tv9z, ev9z⟩ := tokStr hv9z; subst ev9z); (try dsimp only); (try k_sweep)))
  k_with "call ref" => ((k_here; (k_dflt (show wpAny _ _ (PySem.call (Value.ref 108) [Value.ref _]) _ _ _)); (with_reducible rename LG _ _ _ _ _ _ _ => HL9z); k_dflt (refine' tellL HL9z (by k_asm) (news_pick2 (by k_asm) (by walk_at "mine pick") (by walk_at "mine pick")) (by walk_at "mine offx") (by assumption) (by assumption) (by assumption) ?_); intro h'9z tk'9z ta9z F'9z N'9z; (try dsimp only); (try k_sweep)))
  k_with "subscriptTail Name UnaryOp" => ((k_here; k_dflt (refine' item_last (by exact ⟨_, News.get (by k_asm) (by k_mem), rfl, _, rfl⟩) (by assumption) ?_)))
  k_with "subscriptTail Name UnaryOp ref int" => ((k_here; k_dflt (refine' item_last (by exact ⟨_, News.get (by k_asm) (by k_mem), rfl, _, rfl⟩) (by assumption) ?_)))
  k_with "exec For Tuple Call cons nil" => ((refine Stop2.mk ?_))
  k_with "call type:enumerate" => ((refine Stop2.mk ?_))
  k_with "mine offc" => ((repeat (first | assumption | refine all_ne_cons (by walk_at "mine nne") ?_)))
  k_with "storeName" => ((k_here; k_dflt (refine' storeCell (by rfl) (by rfl) (by rfl) (by k_asm) (news_pick (by k_asm) (by walk_at "mine pick")) (by assumption) (by walk_at "mine offc") ?_); intro h'9z o'9z d'9z F'9z N'9z; (try dsimp only); (try k_sweep)))
  k_with "call ref" => ((k_here; (k_dflt (show wpAny _ _ (PySem.call (Value.ref 149) [_, _, _]) _ _ _)); refine Stop2.mk ?_))
  k_with "call ref" => ((k_here; (k_dflt (show wpAny _ _ (PySem.call (Value.ref 133) [_]) _ _ _)); refine Stop2.mk ?_))
  k_with "call ref" => ((k_here; (k_dflt (show wpAny _ _ (PySem.call (Value.ref 142) [_]) _ _ _)); refine Stop2.mk ?_))
  k_with "exec For Name Tuple cons nil" => ((k_here; (with_reducible rename Fr _ _ _ _ => lF'9z); (with_unfolding_all refine' For_turns lF'9z ?_ (by intro _; rfl) (by assumption)); k_whole))
  k_with "pyIter ref" => ((refine Stop2.mk ?_))
  k_with "execs cons" => ((refine Stop2.mk ?_))
  k_with "execs" => (((with_reducible show wpAny _ _ (execs bodyB _) _ _ _); refine Stop2.mk ?_))
  trivial
section
variable {w : World} {mg mb : Str → Option Value} {p : Program} {loose : List Str} {mean : ExcName → Option Value}
    {fa : Addr} {cd : Value} {G : Heap} {L : Addr} {m : Str → Option Value} {s : Shared} {Q : Flow → Shared → Prop}
    {E : Value → Shared → Prop} {R kt k0 k1 : Addr} {rest : List (Addr × Obj)} {txt : Str} {tx : Tok} {oi ok : Obj} {Rv v0 v1 : List Value} {Rc : Nat} {lo : Int} {ln : Nat} {tl tlo : Tok} {cv : Option Value} {runs : List (List Str)}
set_option maxRecDepth 100000 in
set_option maxHeartbeats 3000000 in
theorem stepB {px : Pos} {s0 : Shared} {I D1 : Addr} {ob : Array UInt8} {ta : Tok} {oi' oi0 : Obj} {cv' : Option Value} {pv : Value} {pl : List Nat} {r : List Itm} {m' : Str → Option Value}
    (H : LG w p loose mean mg mb G) (hPE : PassesOwn (lM w) (lA L fa cd) (lenv L fa cd) E)
    (hrc : ∀ p ∈ rest, p.1 ≠ L + 1 + 1) (hct : @LT.lt Nat _ (L + 1 + 1) kt) (hc0 : @LT.lt Nat _ (L + 1 + 1) k0) (hc1 : @LT.lt Nat _ (L + 1 + 1) k1) (hcR : @LT.lt Nat _ (L + 1 + 1) R)
    (hs0 : StrsAre v0 (kd false)) (hs1 : StrsAre v1 (kd true)) (hrl : RunsAt rest Rv runs) (hok : ok.data = .cell (some (.ref kt)))
    (h7 : m (Str.ofString "limit") = some (.int (ln : Int) tl)) (h8 : m (Str.ofString "text") = some (.str txt tx)) (h9 : m (Str.ofString "lone") = some (.int lo tlo)) (h10 : m (Str.ofString "runs") = some (.ref R))
    (hl1 : 1 ≤ ln) (hl3 : ln ≤ 3) (hO : RunsOk runs) (hlo : lo = 0 ∨ lo = 1) (htx : cps txt = flat (signsOf runs) ++ (if lo = 1 then [92] else []))
    (hI : ∀ p ∈ ((D1, tup [.str txt tx, .bytes ob ta]) :: (L + 1 + 1, oi0) :: (L + 1, ok) :: (kt, tup [.ref k0, .ref k1]) :: (k0, tup v0) :: (k1, tup v1) :: (R, PySem.W.listOf Rv.toArray Rc) :: rest), @LT.lt Nat _ p.1 I) (gli : @LT.lt Nat _ (L + 1 + 1) D1)
    (hP : PatOf txt tx pv pl) (hoi' : oi'.data = .cell cv')
    (hm' : ∀ y, y ≠ Str.ofString "pattern" → y ≠ Str.ofString "lack" → y ≠ Str.ofString "t" → y ≠ Str.ofString "run" → y ≠ Str.ofString "own" → y ≠ Str.ofString "other" → y ≠ Str.ofString "k" → y ≠ Str.ofString "piece" → y ≠ Str.ofString "_" → m' y = m y)
    (cont : ∀ (m2 : Str → Option Value) (oi2 : Obj) (cv2 : Option Value), oi2.data = .cell cv2 →
        (∀ y, y ≠ Str.ofString "pattern" → y ≠ Str.ofString "lack" → y ≠ Str.ofString "t" → y ≠ Str.ofString "run" → y ≠ Str.ofString "own" → y ≠ Str.ofString "other" → y ≠ Str.ofString "k" → y ≠ Str.ofString "piece" → y ≠ Str.ofString "_" → m2 y = m y) →
        ItemsRest PySem.Challenge.rw_aa0047_01.row.prog w (lA L fa cd) E G (lenv L fa cd) (.Name (Str.ofString "pattern") px) bodyB Q s0 [(I, "tuple_iterator")] [(D1, tup [.str txt tx, .bytes ob ta])] r m2 ((D1, tup [.str txt tx, .bytes ob ta]) :: (L + 1 + 1, oi2) :: (L + 1, ok) :: (kt, tup [.ref k0, .ref k1]) :: (k0, tup v0) :: (k1, tup v1) :: (R, PySem.W.listOf Rv.toArray Rc) :: rest)) :
      ItemsRest PySem.Challenge.rw_aa0047_01.row.prog w (lA L fa cd) E G (lenv L fa cd) (.Name (Str.ofString "pattern") px) bodyB Q s0 [(I, "tuple_iterator")] [(D1, tup [.str txt tx, .bytes ob ta])] (.val pv :: r) m' ((D1, tup [.str txt tx, .bytes ob ta]) :: (L + 1 + 1, oi') :: (L + 1, ok) :: (kt, tup [.ref k0, .ref k1]) :: (k0, tup v0) :: (k1, tup v1) :: (R, PySem.W.listOf Rv.toArray Rc) :: rest) := by
  have hIi : @LT.lt Nat _ (L + 1 + 1) I := hI (L + 1 + 1, oi0) (.tail _ (.head _))
  have hID : @LT.lt Nat _ D1 I := hI (D1, _) (.head _)
  refine ItemsRest.val ?_
  intro h tk F'
  refine AllObj.cons fun oI hI2 => AllObj.nil ?_
  intro N'
  simp only [List.cons_append, List.nil_append] at N'
  k_steps
  unfold Stop2
  (with_reducible rename LG _ _ _ _ _ _ _ => H)
  (with_reducible rename Fr _ _ _ _ => hF2)
  (with_reducible rename News _ _ _ _ => hN2)
  have q : ∀ (u : Option Value) (y : Str), y ≠ Str.ofString "pattern" → y ≠ Str.ofString "lack" → y ≠ Str.ofString "t" → y ≠ Str.ofString "run" → y ≠ Str.ofString "own" → y ≠ Str.ofString "other" → y ≠ Str.ofString "k" → y ≠ Str.ofString "piece" → y ≠ Str.ofString "_" → (if y = Str.ofString "pattern" then u else m' y) = m y := fun u y a1 a2 a3 a4 a5 a6 a7 a8 a9 => (if_neg a1).trans (hm' y a1 a2 a3 a4 a5 a6 a7 a8 a9)
  refine turnB (s := { s0 with heap := _, toks := _ }) (rest := (I, oI) :: (D1, tup [.str txt tx, .bytes ob ta]) :: rest) (Rc := Rc) (lo := lo) (ln := ln) H hPE hF2 (news_sub hN2 (by walk_at "mine subm")) ?rc hct hc0 hc1 hcR hs0 hs1 (hrl.sub fun p hp => .tail _ (.tail _ hp)) hoi' hok (if_pos rfl)
    ((q _ _ (by decide) (by decide) (by decide) (by decide) (by decide) (by decide) (by decide) (by decide) (by decide)).trans h7) ((q _ _ (by decide) (by decide) (by decide) (by decide) (by decide) (by decide) (by decide) (by decide) (by decide)).trans h8) ((q _ _ (by decide) (by decide) (by decide) (by decide) (by decide) (by decide) (by decide) (by decide) (by decide)).trans h9) ((q _ _ (by decide) (by decide) (by decide) (by decide) (by decide) (by decide) (by decide) (by decide) (by decide)).trans h10)
    hl1 hl3 hP hO hlo htx ?nx
  case rc =>
    intro p hp
    rcases List.mem_cons.mp hp with rfl | hp
    · exact Nat.ne_of_gt hIi
    rcases List.mem_cons.mp hp with rfl | hp
    · exact Nat.ne_of_gt gli
    · exact hrc p hp
  case nx =>
    intro h4 tk4 m4 oi4 cv4 hoi4 F4 N4 hm4
    show UnrEndW _ _ _ _ _ _
    refine ⟨h4, tk4, m4, (D1, tup [.str txt tx, .bytes ob ta]) :: (L + 1 + 1, oi4) :: (L + 1, ok) :: (kt, tup [.ref k0, .ref k1]) :: (k0, tup v0) :: (k1, tup v1) :: (R, PySem.W.listOf Rv.toArray Rc) :: rest, rfl, F4, ?_, ?_, ⟨?_, trivial⟩, ?_⟩
    · show News _ _ _ ((I, oI) :: _)
      exact news_sub N4 (by walk_at "mine subm")
    · intro p hp q hq
      rw [List.mem_singleton.mp hq]
      refine Nat.ne_of_lt ?_
      rcases List.mem_cons.mp hp with rfl | hp
      · exact hID
      rcases List.mem_cons.mp hp with rfl | hp
      · exact hIi
      · exact hI p (.tail _ (.tail _ hp))
    · walk_at "mine memt"
    · exact cont m4 oi4 cv4 hoi4 fun y a1 a2 a3 a4 a5 a6 a7 a8 a9 => (hm4 y a2 a3 a4 a5 a6 a7 a8 a9).trans (q _ y a1 a2 a3 a4 a5 a6 a7 a8 a9)
set_option maxRecDepth 100000 in
set_option maxHeartbeats 3000000 in
theorem loopB (H : LG w p loose mean mg mb G) (hPE : PassesOwn (lM w) (lA L fa cd) (lenv L fa cd) E) (F : Fr G L s.heap m)
    (N : News G L s.heap ((L + 1 + 1, oi) :: (L + 1, ok) :: (kt, tup [.ref k0, .ref k1]) :: (k0, tup v0) :: (k1, tup v1) :: (R, PySem.W.listOf Rv.toArray Rc) :: rest))
    (hrc : ∀ p ∈ rest, p.1 ≠ L + 1 + 1) (hct : @LT.lt Nat _ (L + 1 + 1) kt) (hc0 : @LT.lt Nat _ (L + 1 + 1) k0) (hc1 : @LT.lt Nat _ (L + 1 + 1) k1) (hcR : @LT.lt Nat _ (L + 1 + 1) R)
    (hs0 : StrsAre v0 (kd false)) (hs1 : StrsAre v1 (kd true)) (hrl : RunsAt rest Rv runs) (hoi : oi.data = .cell cv) (hok : ok.data = .cell (some (.ref kt)))
    (h7 : m (Str.ofString "limit") = some (.int (ln : Int) tl)) (h8 : m (Str.ofString "text") = some (.str txt tx)) (h9 : m (Str.ofString "lone") = some (.int lo tlo)) (h10 : m (Str.ofString "runs") = some (.ref R))
    (hl1 : 1 ≤ ln) (hl3 : ln ≤ 3) (hO : RunsOk runs) (hlo : lo = 0 ∨ lo = 1) (htx : cps txt = flat (signsOf runs) ++ (if lo = 1 then [92] else []))
    (hnext : ∀ h' tk' m' news', Fr G L h' m' → News G L h' news' → Q .next { s with heap := h', toks := tk' }) :
    wpAny (lM w) (lA L fa cd) (exec (stAt lawDef.1 6) (lenv L fa cd)) Q E s := by
  obtain ⟨B, X, T⟩ := id H
  have hsz : txt.length < 1000 := by
    have h1 := hO.size.2
    have h2 := cps_len' txt
    rw [htx, List.length_append] at h2
    have : (if lo = 1 then [92] else ([] : List Nat)).length ≤ 1 := by split <;> simp
    (first | lia | omega)
  have hcp : txt.cps.all (· < 128) = true := by
    rw [Array.all_eq_true']
    intro c hc
    have hc' : c ∈ cps txt := Array.mem_toList_iff.mpr hc
    rw [htx] at hc'
    rcases List.mem_append.mp hc' with h | h
    · obtain ⟨l, hl, hcl⟩ := List.mem_flatten.mp h
      obtain ⟨y, hy, rfl⟩ := List.mem_map.mp hl
      obtain ⟨b, hb⟩ := hO.good y hy
      have := (kd_facts b y hb).2.2.2.2
      exact List.all_eq_true.mp this c hcl
    · have : c = 92 := by
        split at h
        · exact List.mem_singleton.mp h
        · cases h
      rw [this]; decide
  have em : m = fun y => if y = Str.ofString "text" then some (.str txt tx) else m y := by
    funext y
    split
    · next e => rw [e, h8]
    rfl
  conv in (exec (stAt lawDef.1 6) _) => arg 1; whnf
  rw [em] at F
  show wpAny (model PySem.Challenge.rw_aa0047_01.row.prog w) _ _ _ _ _
  revert X; k_fill; intro X
  k_steps
  unfold Stop2
  (with_reducible rename LG _ _ _ _ _ _ _ => H)
  (with_reducible rename Fr _ _ _ _ => hF)
  (with_reducible rename News _ _ _ _ => hN)
  k_dflt (refine' octL H hF hN hsz hcp ?_)
  intro h2 tk2 ob ta F2 N2 hob
  clear hF hN
  k_steps
  unfold Stop2
  (with_reducible rename LG _ _ _ _ _ _ _ => H)
  (with_reducible rename Fr _ _ _ _ => hF)
  (with_reducible rename News _ _ _ _ => hN)
  (with_reducible rename Addr => D1)
  (with_reducible rename _ ∧ _ => gl)
  obtain ⟨gli, -, -, -, -, -, glr⟩ := gl
  rw [← em] at hF
  k_dflt (refine iter_tupTurns (lo := tup [.str txt tx, .bytes ob ta]) (vs := [.str txt tx, .bytes ob ta]) (by rfl) hF hN (by walk_at "mine memt") (by rfl) (by rfl) ?_)
  intro I hI
  have hIi : @LT.lt Nat _ (L + 1 + 1) I := hI (L + 1 + 1, oi) (.tail _ (.head _))
  have hID : @LT.lt Nat _ D1 I := hI (D1, _) (.head _)
  have hst : ∀ p ∈ ((D1, tup [.str txt tx, .bytes ob ta]) :: (L + 1 + 1, oi) :: (L + 1, ok) :: (kt, tup [.ref k0, .ref k1]) :: (k0, tup v0) :: (k1, tup v1) :: (R, PySem.W.listOf Rv.toArray Rc) :: rest), @LT.lt Nat _ p.1 I := hI
  refine stepB H hPE hrc hct hc0 hc1 hcR hs0 hs1 hrl hok h7 h8 h9 h10 hl1 hl3 hO hlo htx hst gli .text hoi (fun _ _ _ _ _ _ _ _ _ _ => rfl) fun m2 oi2 cv2 hoi2 hm2 => stepB H hPE hrc hct hc0 hc1 hcR hs0 hs1 hrl hok h7 h8 h9 h10 hl1 hl3 hO hlo htx hst gli (.octets ob ta hob) hoi2 hm2 fun m3 oi3 cv3 hoi3 hm3 => ItemsRest.zero fun h tk F' N' => ?_
  exact hnext _ _ _ _ F' N'
end
end
section
open PySem PySem.W PyProof.Rows PyProof.Rows.LCg
theorem linesLQ : True := by
  w_on
  w_top off
  k_with_none
  k_with "mine pick" => ((with_reducible (repeat (first | exact Pick.head | apply Pick.tail))))
  k_with "mine nne" => (first | assumption | exact Nat.ne_of_lt (by assumption) | exact Nat.ne_of_gt (by assumption) | exact Nat.ne_of_lt (Nat.lt_trans (by assumption) (by assumption)) | ((rename _ ∧ _ => gl99z); first | exact Nat.ne_of_gt gl99z.1 | exact Nat.ne_of_gt gl99z.2.1 | exact Nat.ne_of_gt gl99z.2.2.1 | exact Nat.ne_of_lt gl99z.1 | exact Nat.ne_of_lt gl99z.2.1) | exact (show @Ne Nat _ _ from by (first | lia | omega)) | (dsimp only; exact (show @Ne Nat _ _ from by (first | lia | omega))))
  k_with "mine offx" => ((repeat (first | assumption | refine off2_cons (by walk_at "mine nne") (by walk_at "mine nne") ?_)))
  k_with "mine pick" => ((with_reducible (repeat (first | exact Pick.head | apply Pick.tail))))
  k_with "mine memt" => ((with_reducible (repeat (first | assumption | exact List.mem_cons_self .. | refine List.mem_cons_of_mem _ ?_))))
  k_with "call ref" => (((k_dflt (show wpAny _ _ (PySem.call (Value.ref 86) [Value.ref _, _, _]) _ _ _)); refine Stop2.mk ?_))
  k_with "call ref" => ((k_here; (k_dflt (show wpAny _ _ (PySem.call (Value.ref 86) [Value.ref _, _, _]) _ _ _)); (with_reducible rename LG _ _ _ _ _ _ _ => HL9z); k_dflt (refine' gwL HL9z (by k_asm) (news_pick2 (by k_asm) (by walk_at "mine pick") (by walk_at "mine pick")) (by walk_at "mine memt") (by walk_at "mine offx") (by assumption) (by first | assumption | (first | lia | omega)) (by assumption) (by assumption) (by assumption) (by assumption) (by assumption) (by (first | lia | omega)) (by assumption) ?_); intro h'9z tk'9z t69z v9z tr9z hv9z F'9z N'9z; (try dsimp only); (try k_sweep)))
  k_with "call ref" => ((k_here; (k_dflt (show wpAny _ _ (PySem.call (Value.ref 86) [Value.ref _, _, _]) _ _ _)); (with_reducible rename LG _ _ _ _ _ _ _ => HL9z); (with_reducible rename IsTok _ _ => hTk9z); k_dflt (refine' gwN HL9z (by k_asm) (news_pick2 (by k_asm) (by walk_at "mine pick") (by walk_at "mine pick")) (by walk_at "mine memt") (by assumption) (by first | assumption | (first | lia | omega)) (by assumption) (by (first | lia | omega)) (by (first | lia | omega)) hTk9z (by first | exact .inr (by assumption) | exact .inl (by (first | lia | omega))) ?_); intro h'9z tk'9z tr9z F'9z N'9z; (try dsimp only); (try k_sweep)))
  k_with "subscriptTail Name Slice ref ref" => ((k_here; k_dflt (refine' kmk_slice_lit (by k_asm) (by k_asm) (by kmk_list) (by kmk_part) (by kmk_part) (by assumption) ?_ (by with_unfolding_all rfl) (by kmk_pure) (by assumption)); intro D'9z h'9z F'9z N'9z l19z; (try k_lt l19z); (try k_sweep)))
  k_with "subscriptTail Name Constant ref int" => ((k_here; k_dflt (refine' item_zero (by exact ⟨_, News.get (by k_asm) (by k_mem), rfl, _, rfl⟩) ?_)))
  k_with "compareOp NotEq str str" => ((k_here; k_dflt (refine' ne_same (by first | exact join_catS _ | with_reducible rfl | rfl) ?_)))
  k_with "call builtin:str.join" => ((k_here; k_dflt (refine' join_listW (by exact ⟨_, News.get (by k_asm) (by k_mem), rfl, _, rfl⟩) (by assumption) (by decide) (by assumption) ?_); intro t'9z k'9z; (try dsimp only)))
  k_with "call builtin:len" => ((k_here; (with_reducible show wpAny _ _ (call (Value.builtin "len") [Value.ref _]) _ _ _); k_dflt (refine' len_l (by exact ⟨_, News.get (by k_asm) (by k_mem), rfl, _, rfl⟩) (by assumption) (by (first | lia | omega)) ?_); intro t'9z k'9z; (try dsimp only)))
  k_with "mine subm" => ((intro q9z hq9z; (repeat (refine mem_out hq9z (by walk_at "mine memt") ?_; clear hq9z; intro hq9z)); (with_reducible (repeat (first | exact hq9z | refine List.mem_cons_of_mem _ ?_)))))
  k_with "compareOp NotEq ref ref" => ((k_here; k_dflt (first | (refine' ne_told (by exact ⟨_, News.get (by k_asm) (by k_mem), rfl, _, rfl⟩) (by exact ⟨_, News.get (by k_asm) (by k_mem), rfl, _, rfl⟩) (by assumption) (by assumption) (by ktr_units) ?_) | (refine' ne_pair (by exact ⟨_, News.get (by k_asm) (by k_mem), rfl, _, rfl⟩) (by exact ⟨_, News.get (by k_asm) (by k_mem), rfl, _, rfl⟩) (by (first | lia | omega)) (by ktr_units) ?_))))
  k_with "call ref" => ((k_here; (k_dflt (show wpAny _ _ (PySem.call (Value.ref 163) [Value.ref _, _, _]) _ _ _)); (with_reducible rename LG _ _ _ _ _ _ _ => HL9z); (with_reducible rename PatIs _ _ _ => hpX9z); k_dflt (refine' refL HL9z hpX9z (by k_asm) (news_pick2 (by k_asm) (by walk_at "mine pick") (by walk_at "mine pick")) (by walk_at "mine memt") (by walk_at "mine offx") (by assumption) (by first | assumption | (first | lia | omega)) (by assumption) (by assumption) (by assumption) (by assumption) (by assumption) (by assumption) (by (first | lia | omega)) (by assumption) ?_); intro h'9z tk'9z t69z v9z D9z lst9z hv9z ht9z F'9z N'9z hlt9z; (obtain ⟨tv9z, ev9z⟩ := tokStr hv9z; subst ev9z); (try dsimp only); (try k_sweep)))
  k_with "call ref" => ((k_here; (k_dflt (show wpAny _ _ (PySem.call (Value.ref 108) [Value.ref _]) _ _ _)); (with_reducible rename LG _ _ _ _ _ _ _ => HL9z); k_dflt (refine' tellL HL9z (by k_asm) (news_pick2 (by k_asm) (by walk_at "mine pick") (by walk_at "mine pick")) (by walk_at "mine offx") (by assumption) (by assumption) (by assumption) ?_); intro h'9z tk'9z ta9z F'9z N'9z; (try dsimp only); (try k_sweep)))
  k_with "subscriptTail Name UnaryOp" => ((k_here; k_dflt (refine' item_last (by exact ⟨_, News.get (by k_asm) (by k_mem), rfl, _, rfl⟩) (by assumption) ?_)))
  k_with "subscriptTail Name UnaryOp ref int" => ((k_here; k_dflt (refine' item_last (by exact ⟨_, News.get (by k_asm) (by k_mem), rfl, _, rfl⟩) (by assumption) ?_)))
  k_with "exec For Name Call cons nil" => ((k_here; refine Stop2.mk ?_))
  k_with "subscriptTail Name BinOp ref int" => ((k_here; k_dflt (first | (refine' item_two0 (by exact News.isTup (by k_asm) (by k_mem)) (by (first | lia | omega)) ?_) | (refine' item_two1 (by exact News.isTup (by k_asm) (by k_mem)) (by (first | lia | omega)) ?_))))
  k_with "CompSrc" => ((refine Stop2.mk ?_))
  k_with "eval ListComp" => ((refine Stop2.mk ?_))
  k_with "exec For Name Tuple cons nil" => ((refine Stop2.mk ?_))
  trivial
theorem add_line {prog : Program} {w : World} {A : Around} {E : Value → Shared → Prop} {s : Shared} {x y : Str} {t u : Tok} {Q : Value → Shared → Prop} (hsz : x.length + y.length ≤ 1000) (h : ∀ t' tk, Q (.str (x ++ y) t') { s with toks := tk }) : wpAny (model prog w) A (binaryOp .Add (.str x t) (.str y u)) Q E s :=
  PyProof.Rows.add_str h (by rw [sizeLine_eq]; (first | lia | omega))
theorem linesLQx2 : True := by
  k_with "binaryOp Add str str" => ((k_here; k_dflt (refine' add_line (by (first | lia | omega)) ?_); intro t'9z k'9z; (try dsimp only)))
  trivial
noncomputable def argJ : Expr := match stAt lawDef.1 4 with
  | .Assign _ (.BinOp (.Call _ [a] _ _) _ _ _) _ => a
  | _ => .Constant .none 0 ⟨0, 0, 0, 0⟩
noncomputable def lawTail : List Stmt := lawDef.1.drop 3
noncomputable def joinS (run : List Str) : Str := Txt.join (Str.ofString "") run
theorem flat_joinS : ∀ (runs : List (List Str)), ((runs.map joinS).map cps).flatten = flat (signsOf runs)
  | [] => rfl
  | run :: r => by
    have h := flat_joinS r
    rw [List.map_cons, List.map_cons, List.flatten_cons, h]
    unfold signsOf
    rw [List.flatten_cons, flat_append]
    congr 1
    exact cps_join run
theorem cps_text0 (runs : List (List Str)) : cps (Txt.join (Str.ofString "") (runs.map joinS) ++ Txt.mul (Str.ofString "\\") 0) = flat (signsOf runs) ++ (if (0 : Int) = 1 then [92] else []) := by
  rw [cps_append, cps_join, flat_joinS]
  rfl
theorem cps_text1 (runs : List (List Str)) : cps (Txt.join (Str.ofString "") (runs.map joinS) ++ Txt.mul (Str.ofString "\\") 1) = flat (signsOf runs) ++ (if (1 : Int) = 1 then [92] else []) := by
  rw [cps_append, cps_join, flat_joinS]
  rfl
section
variable {w : World} {mg mb : Str → Option Value} {p : Program} {loose : List Str} {mean : ExcName → Option Value}
    {fa : Addr} {cd : Value} {G : Heap} {L : Addr} {m : Str → Option Value} {s : Shared} {Q : Flow → Shared → Prop}
    {E : Value → Shared → Prop} {R sc kt k0 k1 : Addr} {rest : List (Addr × Obj)} {oi ok : Obj} {Rv v0 v1 vs : List Value} {Rc : Nat} {cv : Option Value} {ns : List Int} {runs : List (List Str)}
theorem sum_le (l : List Str) (k : Nat) (h : ∀ y ∈ l, y.length ≤ k) : (l.map (·.length)).sum ≤ k * l.length := by
  induction l with
  | nil => simp
  | cons y r ih =>
    have h1 := ih fun z hz => h z (.tail _ hz)
    have h2 := h y (.head _)
    rw [List.map_cons, List.sum_cons, List.length_cons, Nat.mul_succ]
    (first | lia | omega)
theorem joinS_len {run : List Str} (h4 : run.length ≤ 4) (hk : ∀ y ∈ run, y.length ≤ 2) : (joinS run).length ≤ 8 := by
  have h1 := cps_join run
  have h2 := cps_len' (joinS run)
  have h3 := flat_le run hk
  unfold flat at h3
  unfold joinS at *
  rw [h1] at h2
  (first | lia | omega)
set_option maxRecDepth 100000 in
set_option maxHeartbeats 3000000 in
theorem compJ {Q : Value → Shared → Prop} (H : LG w p loose mean mg mb G) (F : Fr G L s.heap m)
    (N : News G L s.heap ((L + 1 + 1, oi) :: (L + 1, ok) :: (kt, tup [.ref k0, .ref k1]) :: (k0, tup v0) :: (k1, tup v1) :: (R, PySem.W.listOf Rv.toArray Rc) :: rest))
    (hrl : RunsAt rest Rv runs) (hO : RunsOk runs) (h10 : m (Str.ofString "runs") = some (.ref R))
    (hret : ∀ h' tk' D ys, StrsAre ys (runs.map joinS) → Fr G L h' m → News G L h' ((D, PySem.W.listOf ys.toArray ys.length) :: (L + 1 + 1, oi) :: (L + 1, ok) :: (kt, tup [.ref k0, .ref k1]) :: (k0, tup v0) :: (k1, tup v1) :: (R, PySem.W.listOf Rv.toArray Rc) :: rest) → Q (.ref D) { s with heap := h', toks := tk' }) :
    wpAny (lM w) (lA L fa cd) (eval argJ (lenv L fa cd)) Q E s := by
  obtain ⟨B, X, T⟩ := id H
  have em : m = fun y => if y = Str.ofString "runs" then some (.ref R) else m y := by
    funext y
    split
    · next e => rw [e, h10]
    rfl
  have hRl := hrl.length
  have hfew := hO.few
  conv in (eval argJ _) => arg 1; whnf
  rw [em] at F
  show wpAny (model PySem.Challenge.rw_aa0047_01.row.prog w) _ _ _ _ _
  revert X; k_fill; intro X
  k_dflt (refine ListComp_U (F₀ := by k_asm) (by rfl) (by decide) (by rfl) (by decide) (by rfl) ?_)
  k_steps
  unfold Stop2
  (with_reducible rename Fr _ _ _ _ => hF)
  (with_reducible rename News _ _ _ _ => hN)
  k_dflt (refine CompSrc.ledger (its := Rv.toArray) (k := Rc) rfl hF hN (by walk_at "mine memt") (by rw [sizeLine_eq, List.size_toArray]; (first | lia | omega)) ?_)
  intro g
  suffices key : ∀ (k i : Nat) (ys : List Value), i + k = Rv.length → StrsAre ys ((runs.take i).map joinS) → CompRest _ w _ _ _ _ _ _ _ _ _ _ (SrcAt G R Rv.toArray) _ _ k i ys ((L + 1 + 1, oi) :: (L + 1, ok) :: (kt, tup [.ref k0, .ref k1]) :: (k0, tup v0) :: (k1, tup v1) :: (R, PySem.W.listOf Rv.toArray Rc) :: rest) from
    key _ 0 [] (by rw [List.size_toArray]; exact Nat.zero_add _) .nil
  intro k
  induction k with
  | zero =>
    intro i ys hi hys
    rw [List.take_of_length_le (by (first | lia | omega))] at hys
    refine CompRest.zero ?_
    intro D2 h2 tk2 F2 N2 o2
    rw [← em] at F2
    exact hret _ _ _ _ hys F2 N2
  | succ k ih =>
    intro i ys hi hys
    refine CompRest.succ fun v I oI C oC D' m₂ h tk E' hP hns hm F1 N1 off ne => ?_
    have hP' : Rv[i]? = some v := by simpa using hP
    obtain ⟨r, rv, rc, run, rfl, hmr, hsr, hrun⟩ := hrl.get i v hP'
    obtain ⟨hr1, hr4, hrk⟩ := hO.ok i run hrun
    have hk2 : ∀ y ∈ run, y.length ≤ 2 := fun y hy => (kd_facts _ y (hrk y hy)).2.1
    have hwt : ((run.map (·.length)).sum + run.length) ≤ 1048576 := by have := sum_short run hk2; (first | lia | omega)
    have N9 : News G L h ((r, PySem.W.listOf rv.toArray rc) :: (I, oI) :: (C, oC) :: (D', lst ys) :: (L + 1 + 1, oi) :: (L + 1, ok) :: (kt, tup [.ref k0, .ref k1]) :: (k0, tup v0) :: (k1, tup v1) :: (R, PySem.W.listOf Rv.toArray Rc) :: rest) := news_sub N1 fun q hq => mem_out hq (by walk_at "mine memt") id
    clear hF hN N1
    k_steps
    (with_reducible rename Fr _ _ _ _ => hF)
    (with_reducible rename News _ _ _ _ => hN)
    have htk : (runs.take (i + 1)).map joinS = (runs.take i).map joinS ++ [joinS run] := by rw [List.take_add_one, hrun, List.map_append]; rfl
    refine CompEnd.intro hF hN _ (by walk_at "mine subm") off (.inr ⟨_, by walk_at "mine memt", rfl, _, rfl⟩) (ih (i + 1) _ (by (first | lia | omega)) ?_)
    rw [htk]
    exact hys.append' (.cons _ _ .nil)
set_option maxRecDepth 100000 in
set_option maxHeartbeats 3000000 in
theorem tailA (H : LG w p loose mean mg mb G) (hPE : PassesOwn (lM w) (lA L fa cd) (lenv L fa cd) E) (F : Fr G L s.heap m)
    (N : News G L s.heap ((L + 1 + 1, oi) :: (L + 1, ok) :: (kt, tup [.ref k0, .ref k1]) :: (k0, tup v0) :: (k1, tup v1) :: (R, PySem.W.listOf Rv.toArray Rc) :: rest))
    (hrc : ∀ p ∈ rest, p.1 ≠ L + 1 + 1) (hct : @LT.lt Nat _ (L + 1 + 1) kt) (hc0 : @LT.lt Nat _ (L + 1 + 1) k0) (hc1 : @LT.lt Nat _ (L + 1 + 1) k1) (hcR : @LT.lt Nat _ (L + 1 + 1) R)
    (hs0 : StrsAre v0 (kd false)) (hs1 : StrsAre v1 (kd true)) (hrl : RunsAt rest Rv runs) (hoi : oi.data = .cell cv) (hok : ok.data = .cell (some (.ref kt)))
    (hL : G.IsList sc vs.toArray) (hI : IntsAre vs ns) (hn : ns.length ≤ 63) (hO : RunsOk runs)
    (h7 : m (Str.ofString "script") = some (.ref sc)) (h10 : m (Str.ofString "runs") = some (.ref R))
    (hret : ∀ h' tk' m' news', Fr G L h' m' → News G L h' news' → Q (.ret (.bool true)) { s with heap := h', toks := tk' }) :
    wpAny (lM w) (lA L fa cd) (execs lawTail (lenv L fa cd)) Q E s := by
  obtain ⟨B, X, T⟩ := id H
  have em : m = fun y => if y = Str.ofString "script" then some (.ref sc) else if y = Str.ofString "runs" then some (.ref R) else m y := by
    funext y
    split
    · next e => rw [e, h7]
    split
    · next e => rw [e, h10]
    rfl
  have hlo : ns.sum.fmod 2 = 0 ∨ ns.sum.fmod 2 = 1 := by rw [Int.fmod_eq_emod_of_nonneg _ (by decide)]; (first | lia | omega)
  conv in (execs lawTail _) => arg 1; whnf
  rw [em] at F
  show wpAny (model PySem.Challenge.rw_aa0047_01.row.prog w) _ _ _ _ _
  revert X; k_fill; intro X
  k_steps
  unfold Stop2
  (with_reducible rename LG _ _ _ _ _ _ _ => H)
  (with_reducible rename Fr _ _ _ _ => hF)
  (with_reducible rename News _ _ _ _ => hN)
  refine compJ (s := { s with heap := _, toks := _ }) H hF hN hrl hO rfl ?_
  intro h2 tk2 D ys hys F2 N2
  clear hF hN
  have hwt : (((runs.map joinS).map (·.length)).sum + (runs.map joinS).length) ≤ 1048576 := by
    have h1 := sum_le (runs.map joinS) 8 fun y hy => by
      obtain ⟨run, hr, rfl⟩ := List.mem_map.mp hy
      obtain ⟨i, hi⟩ := List.mem_iff_getElem?.mp hr
      obtain ⟨_, hr4, hrk⟩ := hO.ok i run hi
      exact joinS_len hr4 fun y hy => (kd_facts _ y (hrk y hy)).2.1
    have h2 := hO.few
    rw [List.length_map] at h1 ⊢
    (first | lia | omega)
  have hjl : (Txt.join (Str.ofString "") (runs.map joinS)).length ≤ 168 := by
    have h1 := cps_join (runs.map joinS)
    have h2 := cps_len' (Txt.join (Str.ofString "") (runs.map joinS))
    have h3 := hO.size.2
    rw [h1, flat_joinS] at h2
    (first | lia | omega)
  have hm0 : (Txt.mul (Str.ofString "\\") 0).length = 0 := by decide
  have hm1 : (Txt.mul (Str.ofString "\\") 1).length = 1 := by decide
  have hln : 1 + (ns.length : Int).fmod 3 = ((1 + ns.length % 3 : Nat) : Int) := by rw [Int.fmod_eq_emod_of_nonneg _ (by decide)]; (first | lia | omega)
  have hvl : vs.length = ns.length := hI.length
  rcases hlo with hlo | hlo
  · simp only [hlo] at F2
    k_steps
    unfold Stop2
    (with_reducible rename LG _ _ _ _ _ _ _ => H)
    (with_reducible rename Fr _ _ _ _ => hF)
    (with_reducible rename News _ _ _ _ => hN)
    simp only [hln] at hF
    refine loopB (s := { s with heap := _, toks := _ }) (lo := 0) (ln := 1 + ns.length % 3) H hPE hF (news_sub hN (by walk_at "mine subm")) hrc hct hc0 hc1 hcR hs0 hs1 hrl hoi hok rfl rfl rfl rfl (by (first | lia | omega)) (by (first | lia | omega)) hO (.inl rfl) (cps_text0 _) ?_
    intro h' tk' m' news' F' N'
    clear hF hN
    dsimp only
    k_steps
    exact hret _ _ _ _ F' N'
  · simp only [hlo] at F2
    k_steps
    unfold Stop2
    (with_reducible rename LG _ _ _ _ _ _ _ => H)
    (with_reducible rename Fr _ _ _ _ => hF)
    (with_reducible rename News _ _ _ _ => hN)
    simp only [hln] at hF
    refine loopB (s := { s with heap := _, toks := _ }) (lo := 1) (ln := 1 + ns.length % 3) H hPE hF (news_sub hN (by walk_at "mine subm")) hrc hct hc0 hc1 hcR hs0 hs1 hrl hoi hok rfl rfl rfl rfl (by (first | lia | omega)) (by (first | lia | omega)) hO (.inr rfl) (cps_text1 _) ?_
    intro h' tk' m' news' F' N'
    clear hF hN
    dsimp only
    k_steps
    exact hret _ _ _ _ F' N'
end
end
section
open PySem PySem.W PyProof.Rows
theorem linesLZ : True := by
  w_on
  w_top off
  k_with_none
  k_with "mine pick" => ((with_reducible (repeat (first | exact Pick.head | apply Pick.tail))))
  k_with "mine nne" => (first | assumption | exact Nat.ne_of_lt (by assumption) | exact Nat.ne_of_gt (by assumption) | exact Nat.ne_of_lt (Nat.lt_trans (by assumption) (by assumption)) | ((rename _ ∧ _ => gl99z); first | exact Nat.ne_of_gt gl99z.1 | exact Nat.ne_of_gt gl99z.2.1 | exact Nat.ne_of_gt gl99z.2.2.1 | exact Nat.ne_of_lt gl99z.1 | exact Nat.ne_of_lt gl99z.2.1) | exact (show @Ne Nat _ _ from by (first | lia | omega)) | (dsimp only; exact (show @Ne Nat _ _ from by (first | lia | omega))))
  k_with "mine memt" => ((with_reducible (repeat (first | assumption | exact List.mem_cons_self .. | refine List.mem_cons_of_mem _ ?_))))
  k_with "mine subm" => ((intro q9z hq9z; (repeat (refine mem_out hq9z (by walk_at "mine memt") ?_; clear hq9z; intro hq9z)); (with_reducible (repeat (first | exact hq9z | refine List.mem_cons_of_mem _ ?_)))))
  k_with "exec For Tuple Call cons nil" => ((refine Stop2.mk ?_))
  trivial
theorem kd_strs0 {t1 t2 t3 : Tok} : StrsAre [.str (Str.ofString "a") t1, .str (Str.ofString "b") t2, .str (Str.ofString "\\d") t3] (kd false) := .cons _ _ (.cons _ _ (.cons _ _ .nil))
theorem kd_strs1 {t1 t2 t3 : Tok} : StrsAre [.str (Str.ofString "x") t1, .str (Str.ofString "\n") t2, .str (Str.ofString "\\\\") t3] (kd true) := .cons _ _ (.cons _ _ (.cons _ _ .nil))
set_option maxRecDepth 100000 in
set_option maxHeartbeats 3000000 in
theorem law_holds : PySem.Challenge.rw_aa0047_01.Holds := hd_go (by
  unfold hd
  refine hd_of ?_
  k_go0
  (all_goals try k_fold)
  k_steps
  unfold Stop2
  (with_reducible rename Top _ _ _ _ _ _ => hT9)
  (with_reducible rename Frag.In _ _ => hX9)
  (with_reducible rename Below _ _ _ _ => hB9)
  (with_reducible rename Fr _ _ _ _ => hF)
  (with_reducible rename News _ _ _ _ => hN)
  (with_reducible rename Heap.IsList _ _ _ => hL9)
  (with_reducible rename IntsAre _ _ => hI9)
  (with_reducible rename (¬ _ < _) => hlen9)
  (with_reducible rename (Obj.data _ = Data.cell (bindC _ _ _ (Str.ofString "n"))) => hn9)
  (with_reducible rename (Obj.data _ = Data.cell (bindC _ _ _ (Str.ofString "i"))) => hi9)
  (with_reducible rename (Obj.data _ = Data.cell (some (Value.ref _))) => hk9)
  have hlen : _ ≤ 63 := Int.ofNat_le.mp (Int.not_lt.mp hlen9)
  refine loopA ⟨hB9, hX9, hT9⟩ (by passes_own) hF (news_sub hN (by walk_at "mine subm")) ?o1 ?o2 ?o3 ?o4 ?o5 ?o6 ?o7 kd_strs0 kd_strs1 hn9 hi9 hk9 hL9 hI9 hlen rfl rfl ?nx
  case nx =>
    intro h1 tk1 Rv Rc runs rest1 oi1 ci1 hO hrl hrc hoi1 F1 N1
    clear hF hN
    dsimp only
    refine tailA ⟨hB9, hX9, hT9⟩ (by passes_own) F1 N1 hrc ?p1 ?p2 ?p3 ?p4 kd_strs0 kd_strs1 hrl hoi1 hk9 hL9 hI9 hlen hO rfl rfl ?nx
    case nx =>
      intro h2 tk2 m2 news2 F2 N2
      k_steps
    all_goals (first | lia | omega)
  all_goals (first | lia | omega))
end
end Mine
theorem PySem.Challenge.cw_aa0047_01_holds : PySem.Challenge.rw_aa0047_01.Holds := by
  exact Mine.law_holds
