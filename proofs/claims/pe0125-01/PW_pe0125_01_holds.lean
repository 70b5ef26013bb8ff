import PyProof.Rows.All
import Wide.All
import OpenK.AllK
import Wide.FinOn
import PySem.Challenge.RW_pe0125_01
open PySem PySem.W PyProof.Rows PySem.Calls
set_option Elab.async false
set_option linter.all false
set_option maxRecDepth 100000
namespace Mine
local macro_rules | `(tactic| walk_at $s:str) => `(tactic| k_extra $s)
set_option pp.deepTerms false
set_option pp.maxSteps 200
set_option maxRecDepth 100000 in
set_option maxHeartbeats 8000000 in
open_top hd for PySem.Challenge.rw_pe0125_01
section T1
example : True := by
  w_top off
  trivial
noncomputable def Ext (h h' : Heap) : Prop := ∀ b o, h.get? b = some o → h'.get? b = some o
noncomputable abbrev AT (d u : Nat) (env : Env) (outer : List Env) : Around := { handled := none, depth := d, frames := some (env :: outer), guards := some [], units := u }

theorem wpAny_le {α : Type} {M : Model} {A A' : Around} {t : Sem α} {Q : α → Shared → Prop} {E : Value → Shared → Prop} {s : Shared}
    (h : wpAny M A' t Q E s) (hh : A.handled = A'.handled) (hf : A.frames = A'.frames) (hg : A.guards = A'.guards) (hd : A.depth ≤ A'.depth) (hu : A.units ≤ A'.units) : wpAny M A t Q E s :=
  fun Γ p hΓ => h Γ p ⟨hΓ.1.trans hh, Nat.le_trans hΓ.2.1 hd, fun l e => hΓ.2.2.1 l (hf.trans e), fun g e => hΓ.2.2.2.1 g (hg.trans e), Nat.le_trans hΓ.2.2.2.2 hu⟩

section
variable {prog : Program} {w : World} {A₀ A : Around} {s : Shared} {base h₀ : Heap} {outer : List Env} {L : Addr} {m mg mb : Str → Option Value} {mean : ExcName → Option Value} {env : Env}
  {R : Result → Shared → Prop} {name qual : Str} {params : Arguments} {body : List Stmt} {scope : Scope} {dV kV doc pm cdv ct oc : Value} {an od : Option Addr} {osl : Array (Option Value)} {f : Addr} {args : List Value} {binds : List (Str × Value)}
  {Q E : Value → Shared → Prop} {K : Frag} {p : Program} {loose : List Str}

theorem binds_zip {s : Shared} {fd : FuncData} {args : List Value} (_hd : fd.defaults = .none) (h : bindArgs fd ⟨args, []⟩ = pure (List.zip (fd.params.args.map (·.arg)) args)) : BindsTo s fd ⟨args, []⟩ (List.zip (fd.params.args.map (·.arg)) args) := BindsTo.of_eq h
theorem enter0 (B : Below A₀ base outer h₀) (F : Fr h₀ L s.heap m) (X : K.In h₀) (T : Top p loose mean mg mb h₀) (hA : A.frames = some (env :: outer)) (hf : env.frame = some L) (hke : env.scope.kind = .function)
    (ho : K.lookup f = some ⟨oc, od, .func (fnOf name qual params body scope dV kV doc pm an cdv ct), osl⟩) (hcd : codeIn K cdv qual = true) (hroom : A.depth < recursionLimit)
    (hbind : BindsTo s (fnOf name qual params body scope dV kV doc pm an cdv ct) ⟨args, []⟩ binds) (hloc : ∀ y ∈ binds, scope.names.lookup y.1 = some .local)
    (h : ∀ g L' h₁ tk, g = s.heap → Fr g L' h₁ (fun y => binds.reverse.lookup y) → News g L' h₁ [] → Below A base (env :: outer) g → K.In g → Top p loose mean mg mb g →
      wpAny (model prog w) (A.deeper (envOf qual scope L' f cdv)) (execs body (envOf qual scope L' f cdv))
        (fun fl s' => Q (match fl with | .ret v => v | _ => .none) s')
        (fun e s' => wpAny (model prog w) (A.deeper (envOf qual scope L' f cdv)) (leaving (envOf qual scope L' f cdv) e) (fun _ s'' => E e s'') (fun e' s'' => E e' s'') s')
        { s with heap := h₁, toks := tk })
    (hco : scope.isCoroutine = false) (hgen : scope.isGenerator = false) (hk : scope.kind = .function)
    (hcell : ∀ x ∈ scope.names, x.2 ≠ .cell) : wpAny (model prog w) A (call (.ref f) args) Q E s := by
  have N : News h₀ L s.heap [] := News.nil
  obtain ⟨FG, BG, st, lv⟩ := groundX (R := fun _ _ => True) (A := A) B F N hA hf hke
  refine wpAny_call ?_
  refine codeAny_call_def (fd := fnOf name qual params body scope dV kV doc pm an cdv ct) (body := body) (binds := binds) hroom ((X.keeps F.keep) _ _ ho) rfl (T.nolimit.keeps F.keep) (codeRec_of (X.keeps F.keep) hcd) rfl hbind hcell hloc (fun h₁ hns hk₁ => ?_) hco hgen hk
  exact h s.heap s.heap.objs.size h₁ _ rfl ⟨hns, hk₁, Nat.le_refl _⟩ News.nil BG (X.keeps F.keep) (T.keeps F.keep)

theorem enterN {news : List (Addr × Obj)} (B : Below A₀ base outer h₀) (F : Fr h₀ L s.heap m) (X : K.In h₀) (N : News h₀ L s.heap news) (T : Top p loose mean mg mb h₀) (hA : A.frames = some (env :: outer)) (hf : env.frame = some L) (hke : env.scope.kind = .function)
    (ho : K.lookup f = some ⟨oc, od, .func (fnOf name qual params body scope dV kV doc pm an cdv ct), osl⟩) (hcd : codeIn K cdv qual = true) (hroom : A.depth < recursionLimit)
    (hbind : BindsTo s (fnOf name qual params body scope dV kV doc pm an cdv ct) ⟨args, []⟩ binds) (hloc : ∀ y ∈ binds, scope.names.lookup y.1 = some .local)
    (h : ∀ g L' h₁ tk, (∀ b o, b ∉ news.map (·.1) → s.heap.get? b = some o → g.get? b = some o) → Fr g L' h₁ (fun y => binds.reverse.lookup y) → News g L' h₁ news → Below A base (env :: outer) g → K.In g → Top p loose mean mg mb g → (∀ p ∈ news, p.1 < L') →
      wpAny (model prog w) (A.deeper (envOf qual scope L' f cdv)) (execs body (envOf qual scope L' f cdv))
        (fun fl s' => Q (match fl with | .ret v => v | _ => .none) s')
        (fun e s' => wpAny (model prog w) (A.deeper (envOf qual scope L' f cdv)) (leaving (envOf qual scope L' f cdv) e) (fun _ s'' => E e s'') (fun e' s'' => E e' s'') s')
        { s with heap := h₁, toks := tk })
    (hco : scope.isCoroutine = false) (hgen : scope.isGenerator = false) (hk : scope.kind = .function)
    (hcell : ∀ x ∈ scope.names, x.2 ≠ .cell) : wpAny (model prog w) A (call (.ref f) args) Q E s := by
  obtain ⟨FG, BG, st, lv⟩ := groundX (R := fun _ _ => True) (A := A) B F N hA hf hke
  refine wpAny_call ?_
  refine codeAny_call_def (fd := fnOf name qual params body scope dV kV doc pm an cdv ct) (body := body) (binds := binds) hroom ((X.keeps F.keep) _ _ ho) rfl (T.nolimit.keeps F.keep) (codeRec_of (X.keeps F.keep) hcd) rfl hbind hcell hloc (fun h₁ hns hk₁ => ?_) hco hgen hk
  exact h _ s.heap.objs.size h₁ _ (fun b o hb e => hideAll_get _ e hb) ⟨hns, fun b o e => hk₁ b o (of_hideAll _ e), Nat.le_of_eq (hideAll_size _ _)⟩
    (fun p hp => ⟨hk₁ _ _ (N p hp).1, Nat.ne_of_lt (Heap.lt_size (N p hp).1), hideAll_none _ (List.mem_map_of_mem hp)⟩) BG (X.keeps st) (T.keeps st) (fun p hp => Heap.lt_size (N p hp).1)

theorem Ext.fr {h h' : Heap} (F : Fr h₀ L h m) (x : Ext h h') : Fr h₀ L h' m := by
  obtain ⟨oL, es, ep, hL, r⟩ := F.ns
  exact ⟨⟨oL, es, ep, x _ _ hL, r⟩, fun b o e => x b o (F.keep b o e), F.above⟩
theorem Ext.news {h h' : Heap} {news : List (Addr × Obj)} (N : News h₀ L h news) (x : Ext h h') : News h₀ L h' news :=
  fun p hp => ⟨x _ _ (N p hp).1, (N p hp).2⟩
theorem Ext.cons {h h' : Heap} {a : Addr} {o : Obj} {news : List (Addr × Obj)} (F : Fr h₀ L h m) (N : News h₀ L h news) (x : Ext h h') (hn : h.get? a = none) (ho : h'.get? a = some o) : News h₀ L h' ((a, o) :: news) := by
  intro p hp
  rcases List.mem_cons.mp hp with rfl | hp
  · refine ⟨ho, fun q => ?_, ?_⟩
    · obtain ⟨oL, es, ep, hL, r⟩ := F.ns
      rw [← q] at hL; rw [hn] at hL; cases hL
    · cases q : h₀.get? a with
      | none => rfl
      | some o' => rw [F.keep _ _ q] at hn; cases hn
  · exact ⟨x _ _ (N p hp).1, (N p hp).2⟩
theorem News.ne {h : Heap} {a : Addr} {news : List (Addr × Obj)} (N : News h₀ L h news) (hn : h.get? a = none) : ∀ p ∈ news, p.1 ≠ a := fun p hp q => by
  have := (N p hp).1
  rw [q, hn] at this; cases this
theorem ext_of {h g h' : Heap} {L' : Addr} {m' : Str → Option Value} {news news' : List (Addr × Obj)} (hs : ∀ p ∈ news, h.get? p.1 = some p.2) (hg : ∀ b o, b ∉ news.map (·.1) → h.get? b = some o → g.get? b = some o)
    (F' : Fr g L' h' m') (N' : News g L' h' news') (hn : ∀ p ∈ news, p ∈ news') : Ext h h' := by
  intro b o e
  by_cases q : b ∈ news.map (·.1)
  · obtain ⟨p, hp, rfl⟩ := List.mem_map.mp q
    have e1 := hs p hp
    rw [e] at e1
    cases e1
    exact (N' p (hn p hp)).1
  · exact F'.keep b o (hg b o q e)
theorem fresh_of {h g h' : Heap} {L' a : Addr} {o : Obj} {news news' : List (Addr × Obj)} (hg : ∀ b o, b ∉ news.map (·.1) → h.get? b = some o → g.get? b = some o)
    (N' : News g L' h' news') (hm : (a, o) ∈ news') (hne : ∀ p ∈ news, p.1 ≠ a) : h.get? a = none := by
  cases e : h.get? a with
  | none => rfl
  | some o' =>
    have q := hg a o' (fun q => by obtain ⟨p, hp, r⟩ := List.mem_map.mp q; exact hne p hp r) e
    rw [(N' _ hm).2.2] at q; cases q
end

noncomputable abbrev tupO (vs : List Value) : Obj := { cls := .type "tuple", data := .seq vs.toArray }

example : True := by
  k_with "m enterN" => (
(
  apply enterN; (case hA => exact rfl); (case hf => assumption); (case hke => assumption); (case B => k_asm); (case F => k_asm); (case X => k_asm); (case N => k_asm); (case T => k_asm); (case ho => k_is); (case hcd => k_is); (case hroom => k_room); (case hbind => first | exact binds_zip rfl (by kernel_rfl) | exact BindsTo.of_eq rfl | exact binds_K (by k_in) rfl (by k_is) rfl rfl rfl); (case hcell => decide); (case hloc => exact locs rfl); (case hco => exact rfl); (case hgen => exact rfl); (case hk => exact rfl); k_whole; intro g' L' h' tk' hg' F' N' B' X' T' hlt'; (try dsimp only); (try k_fold))
    )
  k_with "m enter" => (
(
  apply enter0; (case hA => exact rfl); (case hf => assumption); (case hke => assumption); (case B => k_asm); (case F => k_asm); (case X => k_asm); (case T => k_asm); (case ho => k_is); (case hcd => k_is); (case hroom => k_room); (case hbind => first | exact binds_zip rfl (by kernel_rfl) | exact BindsTo.of_eq rfl); (case hcell => decide); (case hloc => exact locs rfl); (case hco => exact rfl); (case hgen => exact rfl); (case hk => exact rfl); k_whole; intro g' L' h' tk' hg' F' N' B' X' T'; (try dsimp only); (try k_fold))
    )
  trivial
end T1
section T2
open PySem.Builtin PySem.Builtin.Str
noncomputable def find4 (x y : Str) (i j : Int) : Int := match occurrences x y (fromIndex x.length i) (min (fromIndex x.length j) x.length) 1 with | k :: _ => (k : Int) | [] => -1
noncomputable def rfind4 (x y : Str) (i j : Int) : Int := match lastOccurrence x y (fromIndex x.length i) (min (fromIndex x.length j) x.length) with | some k => (k : Int) | none => -1
theorem gives_find4 (x y : Str) (i j : Int) (t u v r : Tok) : Gives («str.find» ⟨[.str x t, .str y u, .int i v, .int j r], []⟩) (.int (find4 x y i j)) := by
  unfold find4
  show Gives (match occurrences x y (fromIndex x.length i) (min (fromIndex x.length j) x.length) 1 with | k :: _ => retInt k | [] => (do rule "str.find.not-found"; retInt (-1))) _
  cases occurrences x y (fromIndex x.length i) (min (fromIndex x.length j) x.length) 1 with
  | nil => exact .rule (.of_eq rfl)
  | cons k _ => exact .of_eq rfl
theorem gives_rfind4 (x y : Str) (i j : Int) (t u v r : Tok) : Gives («str.rfind» ⟨[.str x t, .str y u, .int i v, .int j r], []⟩) (.int (rfind4 x y i j)) := by
  unfold rfind4
  show Gives (match lastOccurrence x y (fromIndex x.length i) (min (fromIndex x.length j) x.length) with | some k => retInt k | none => (do rule "str.rfind.not-found"; retInt (-1))) _
  cases lastOccurrence x y (fromIndex x.length i) (min (fromIndex x.length j) x.length) with
  | none => exact .rule (.of_eq rfl)
  | some i => exact .of_eq rfl
section
variable {prog : Program} {w : World} {A : Around} {E : Value → Shared → Prop} {s : Shared} {x y : Str} {t u v r : Tok} {i j : Int} {Q : Value → Shared → Prop}
theorem call_find4 (hq : Q (.int (find4 x y i j) s.toks) { s with toks := s.toks + 1 }) : wpAny (model prog w) A (call (.builtin "str.find") [.str x t, .str y u, .int i v, .int j r]) Q E s :=
  call_gives F.slot_str_find (typeIs_str _ _ _) F.entry_str_find (F.args_str_find_4 _ _ _ _) (gives_find4 x y i j t u v r) hq
theorem call_rfind4 (hq : Q (.int (rfind4 x y i j) s.toks) { s with toks := s.toks + 1 }) : wpAny (model prog w) A (call (.builtin "str.rfind") [.str x t, .str y u, .int i v, .int j r]) Q E s :=
  call_gives F.slot_str_rfind (typeIs_str _ _ _) F.entry_str_rfind (F.args_str_rfind_4 _ _ _ _) (gives_rfind4 x y i j t u v r) hq
end
example : True := by
  k_with "call builtin:str.find" => (
((with_reducible show wpAny _ _ (call (Value.builtin _) [Value.str _ _, Value.str _ _, Value.int _ _, Value.int _ _]) _ _ _); refine call_find4 ?_)
    )
  k_with "call builtin:str.rfind" => (
((with_reducible show wpAny _ _ (call (Value.builtin _) [Value.str _ _, Value.str _ _, Value.int _ _, Value.int _ _]) _ _ _); refine call_rfind4 ?_)
    )
  trivial

section
variable {prog : Program} {w : World} {A : Around} {E : Value → Shared → Prop} {s : Shared}
theorem slicePart_is {v : Value} {k : Option Int} {Q : Option Int → Shared → Prop} (hv : IsPart v k) (h : Q k s) : wpAny (model prog w) A (Builtin.Slice.slicePartIndex v) Q E s := by
  cases hv with
  | none => exact slicePart_none h
  | int i t => exact slicePart_int h
theorem sliceApplied_is {sl : Addr} {n : Int} {vl vu : Value} {lo hi : Option Int} {a b : Int} {c : Nat} {Q : Int × Int × Nat → Shared → Prop} (hs : s.heap.IsSliceOf sl vl vu .none) (pl : IsPart vl lo) (pu : IsPart vu hi)
    (e1 : Builtin.Slice.sliceAdjust lo hi 1 n = (a, b)) (e2 : Builtin.Slice.slicePlaces a b 1 = c) (h : Q (a, 1, c) s) :
    wpAny (model prog w) A (Builtin.Slice.sliceApplied (.ref sl) (pure n)) Q E s := by
  obtain ⟨os, hos, hcs, hds⟩ := id hs
  unfold Builtin.Slice.sliceApplied Builtin.Slice.sliceFields
  refine wpAny_bind (wpAny_bind (wpAny_field hos hds (x := vl) rfl (wpAny_bind (wpAny_field hos hds (x := vu) rfl (wpAny_bind (wpAny_field hos hds (x := .none) rfl (wpAny_pure ?_)))))))
  refine wpAny_bind (slicePart_none ?_)
  show wpAny _ _ (if ((1 : Int) == 0) = true then _ else _) _ _ s
  rw [if_neg (by decide)]
  refine wpAny_bind (slicePart_is pl (wpAny_bind (slicePart_is pu (wpAny_bind (wpAny_pure ?_)))))
  show wpAny _ _ (match Builtin.Slice.sliceAdjust lo hi 1 n with | (lo, hi) => pure (lo, (1 : Int), Builtin.Slice.slicePlaces lo hi 1)) _ _ s
  rw [e1]
  show wpAny _ _ (pure (a, (1 : Int), Builtin.Slice.slicePlaces a b 1)) _ _ s
  rw [e2]
  exact wpAny_pure h
theorem getItem_tuple_is {t sl : Addr} {items zs : Array Value} {vl vu : Value} {lo hi : Option Int} {a b : Int} {c : Nat} {Q : Value → Shared → Prop} (ht : IsTup s.heap t items) (hs : s.heap.IsSliceOf sl vl vu .none) (pl : IsPart vl lo) (pu : IsPart vu hi)
    (e1 : Builtin.Slice.sliceAdjust lo hi 1 items.size = (a, b)) (e2 : Builtin.Slice.slicePlaces a b 1 = c) (hno : (a == 0 && (1 : Int) == 1 && c == items.size) = false)
    (e3 : ((List.range c).filterMap fun (k : Nat) => items[(a + (k : Int) * 1).toNat]?).toArray = zs) (hz : zs.size ≤ sizeLine)
    (h : Q (.ref s.heap.objs.size) { s with heap := s.heap.push { cls := .type "tuple", data := .seq zs } }) : wpAny (model prog w) A (getItem (.ref t) (.ref sl)) Q E s := by
  have hdrop : sizeOk (.seq zs) := hz
  obtain ⟨os, hos, hcs, hds⟩ := id hs
  have hTs : s.TypeIs (.ref sl) "slice" := ⟨os, hos, hcs⟩
  unfold getItem
  try with_reducible refine wpAny_holding ?_
  first | refine wpAny_bind (wpAny_pure ?_) | skip
  refine wpAny_bind (wpAny_sequenceKey ht.typeIs (by decide) ?_)
  refine wpAny_bind (wpAny_callSpecial?_slot (name := Str.ofString "__getitem__") ht.typeIs slot_tuple_getitem
    (wpAny_call_entry slot_tuple_getitem ht.typeIs entry_tuple_getitem ?_ (args_tuple_getitem _ _)))
  show wpAny _ _ (Builtin.Tuple.tupleItemsOf (.ref t) >>= _) _ _ s
  refine wpAny_bind (tupleItemsOf_ ht ?_)
  refine wpAny_bind (wpAny_typeOf hTs ?_)
  rw [if_pos (by decide)]
  refine wpAny_bind (sliceApplied_is hs pl pu e1 e2 ?_)
  show wpAny _ _ (if (a == 0 && (1 : Int) == 1 && c == items.size) = true then _ else _) _ _ s
  rw [if_neg (by rw [hno]; exact Bool.false_ne_true), e3]
  first
    | exact wpAny_bind (m := Builtin.Tuple.tupleExact _) (wpAny_newObj_type (wpAny_pure ⟨_, rfl, wpAny_pure h⟩) hdrop)
    | exact wpAny_bind (m := Builtin.Tuple.tupleExact _) (wpAny_newObj_type (wpAny_bind (wpAny_pure (wpAny_pure ⟨_, rfl, wpAny_pure h⟩))) hdrop)
    | exact wpAny_bind (wpAny_bind (m := Builtin.Tuple.tupleExact _) (wpAny_newObj_type (wpAny_pure (wpAny_pure ⟨_, rfl, wpAny_pure h⟩)) hdrop))
    | exact wpAny_bind (wpAny_bind (m := Builtin.Tuple.tupleExact _) (wpAny_newObj_type (wpAny_pure ⟨_, rfl, wpAny_pure h⟩) hdrop))
theorem getItem_tuple_whole {t sl : Addr} {items : Array Value} {vl vu : Value} {lo hi : Option Int} {a b : Int} {c : Nat} {Q : Value → Shared → Prop} (ht : IsTup s.heap t items) (hs : s.heap.IsSliceOf sl vl vu .none) (pl : IsPart vl lo) (pu : IsPart vu hi)
    (e1 : Builtin.Slice.sliceAdjust lo hi 1 items.size = (a, b)) (e2 : Builtin.Slice.slicePlaces a b 1 = c) (hyes : (a == 0 && (1 : Int) == 1 && c == items.size) = true)
    (h : Q (.ref t) s) : wpAny (model prog w) A (getItem (.ref t) (.ref sl)) Q E s := by
  obtain ⟨os, hos, hcs, hds⟩ := id hs
  have hTs : s.TypeIs (.ref sl) "slice" := ⟨os, hos, hcs⟩
  unfold getItem
  try with_reducible refine wpAny_holding ?_
  first | refine wpAny_bind (wpAny_pure ?_) | skip
  refine wpAny_bind (wpAny_sequenceKey ht.typeIs (by decide) ?_)
  refine wpAny_bind (wpAny_callSpecial?_slot (name := Str.ofString "__getitem__") ht.typeIs slot_tuple_getitem
    (wpAny_call_entry slot_tuple_getitem ht.typeIs entry_tuple_getitem ?_ (args_tuple_getitem _ _)))
  show wpAny _ _ (Builtin.Tuple.tupleItemsOf (.ref t) >>= _) _ _ s
  refine wpAny_bind (tupleItemsOf_ ht ?_)
  refine wpAny_bind (wpAny_typeOf hTs ?_)
  rw [if_pos (by decide)]
  refine wpAny_bind (sliceApplied_is hs pl pu e1 e2 ?_)
  show wpAny _ _ (if (a == 0 && (1 : Int) == 1 && c == items.size) = true then _ else _) _ _ s
  rw [if_pos hyes]
  refine wpAny_bind (m := Builtin.Tuple.tupleIsExact _) (wpAny_bind (wpAny_typeOf ht.typeIs (wpAny_pure ?_)))
  show wpAny _ _ (if ((Value.type "tuple" == Value.type "tuple") = true) then _ else _) _ _ s
  rw [if_pos (by decide)]
  refine wpAny_bind (wpAny_rule ?_)
  first
    | exact wpAny_pure ⟨_, rfl, wpAny_pure h⟩
    | exact wpAny_bind (wpAny_pure ⟨_, rfl, wpAny_pure h⟩)
    | exact wpAny_bind (wpAny_pure (wpAny_pure ⟨_, rfl, wpAny_pure h⟩))
end
section
variable {prog : Program} {w : World} {A : Around} {E : Value → Shared → Prop} {s : Shared} {h₀ : Heap} {L : Addr} {m : Str → Option Value} {news : List (Addr × Obj)}
theorem tup_slice {value slice : Expr} {t : Addr} {items zs : Array Value} {vl vu : Value} {lo hi : Option Int} {a b : Int} {c : Nat} {Q : Value → Shared → Prop}
    (F : Fr h₀ L s.heap m) (N : News h₀ L s.heap news) (ht : IsTup s.heap t items) (pl : IsPart vl lo) (pu : IsPart vu hi)
    (e1 : Builtin.Slice.sliceAdjust lo hi 1 items.size = (a, b)) (e2 : Builtin.Slice.slicePlaces a b 1 = c) (hno : (a == 0 && (1 : Int) == 1 && c == items.size) = false)
    (e3 : ((List.range c).filterMap fun (k : Nat) => items[(a + (k : Int) * 1).toNat]?).toArray = zs) (hz : zs.size ≤ sizeLine)
    (h : ∀ D h', Fr h₀ L h' m → News h₀ L h' ((D, { cls := .type "tuple", data := .seq zs }) :: news) → (∀ p ∈ news, p.1 < D) → Q (.ref D) { s with heap := h' })
    (hs : subscripted slice false (.ref t) (.ref s.heap.objs.size) = operate [.ref s.heap.objs.size, .ref t] (getItem (.ref t) (.ref s.heap.objs.size)))
    (hg : ∀ r, letTemporaryGo value (.ref t) r = pure ()) :
    wpAny (model prog w) A (subscriptTail value slice (.ref t) (.ref s.heap.objs.size)) Q E { s with heap := s.heap.push { cls := .type "slice", data := .fields #[vl, vu, .none] } } := by
  have ht' : IsTup (s.heap.push { cls := .type "slice", data := .fields #[vl, vu, .none] }) t items := ht.keeps fun _ _ e => Heap.get?_push_of_some _ e
  refine subscriptTail_ops (s := { s with heap := s.heap.push { cls := .type "slice", data := .fields #[vl, vu, .none] } }) ht'.typeIs slot_tuple_getitem.lookup
    (getItem_tuple_is ht' (Heap.IsSliceOf.new ..) pl pu e1 e2 hno e3 hz ?_) hs hg
  have N1 := News.push (F.push { cls := .type "slice", data := .fields #[vl, vu, .none] }) (N.grown fun _ _ e => Heap.get?_push_of_some _ e) { cls := .type "tuple", data := .seq zs }
  exact h _ _ ((F.push _).push _) N1 (fun p hp => by
    have := Heap.lt_size (N p hp).1
    rw [Heap.size_push]; exact Nat.lt_succ_of_lt this)
theorem tup_slice_whole {value slice : Expr} {t : Addr} {items : Array Value} {vl vu : Value} {lo hi : Option Int} {a b : Int} {c : Nat} {Q : Value → Shared → Prop}
    (F : Fr h₀ L s.heap m) (N : News h₀ L s.heap news) (ht : IsTup s.heap t items) (pl : IsPart vl lo) (pu : IsPart vu hi)
    (e1 : Builtin.Slice.sliceAdjust lo hi 1 items.size = (a, b)) (e2 : Builtin.Slice.slicePlaces a b 1 = c) (hyes : (a == 0 && (1 : Int) == 1 && c == items.size) = true)
    (h : ∀ h', Fr h₀ L h' m → News h₀ L h' news → Q (.ref t) { s with heap := h' })
    (hs : subscripted slice false (.ref t) (.ref s.heap.objs.size) = operate [.ref s.heap.objs.size, .ref t] (getItem (.ref t) (.ref s.heap.objs.size)))
    (hg : ∀ r, letTemporaryGo value (.ref t) r = pure ()) :
    wpAny (model prog w) A (subscriptTail value slice (.ref t) (.ref s.heap.objs.size)) Q E { s with heap := s.heap.push { cls := .type "slice", data := .fields #[vl, vu, .none] } } := by
  have ht' : IsTup (s.heap.push { cls := .type "slice", data := .fields #[vl, vu, .none] }) t items := ht.keeps fun _ _ e => Heap.get?_push_of_some _ e
  exact subscriptTail_ops (s := { s with heap := s.heap.push { cls := .type "slice", data := .fields #[vl, vu, .none] } }) ht'.typeIs slot_tuple_getitem.lookup
    (getItem_tuple_whole ht' (Heap.IsSliceOf.new ..) pl pu e1 e2 hyes (h _ (F.push _) (N.grown fun _ _ e => Heap.get?_push_of_some _ e))) hs hg
end
example : True := by
  k_with "subscriptTail Name Slice ref ref" => (
(k_here; (with_reducible show wpAny _ _ (subscriptTail _ (PySem.Expr.Slice _ _ none _) (Value.ref _) (Value.ref _)) _ _ _); k_dflt (first
  | (apply tup_slice; (case F => k_asm); (case N => k_asm); (case ht => exact News.isTup (by k_asm) (by k_mem)); (case pl => kmk_part); (case pu => kmk_part); (case e1 => rfl); (case e2 => rfl); (case hno => rfl); (case e3 => first | exact (rfl : _ = #[Value.int _ _, Value.int _ _]) | exact (rfl : _ = #[Value.str _ _, Value.int _ _]) | exact (rfl : _ = #[Value.str _ _, Value.str _ _]) | rfl); (case hz => kmk_size); (case hs => with_unfolding_all rfl); (case hg => kmk_pure); intro D' h' F' N' l1; (try k_lt l1); (try k_sweep))
  | (apply tup_slice_whole; (case F => k_asm); (case N => k_asm); (case ht => exact News.isTup (by k_asm) (by k_mem)); (case pl => kmk_part); (case pu => kmk_part); (case e1 => rfl); (case e2 => rfl); (case hyes => rfl); (case hs => with_unfolding_all rfl); (case hg => kmk_pure); intro h' F' N'; (try k_sweep))))
    )
  trivial

example : True := by
  k_with "m shaped" => (
first | rfl | decide | (simp only [SeqAt.shaped, PyData.canLay0, PyData.canLayAll0, PyData.depth, PyData.depthAll, Bool.and_eq_true, Bool.and_true, Bool.true_and, decide_eq_true_eq]; (repeat' (first | with_reducible assumption | rfl | decide +kernel | refine And.intro ?_ ?_)); done)
    )
  k_with "compareOp Eq ref ref" => (
(k_here; (with_reducible show wpAny _ _ (compareOp CmpOp.Eq (Value.ref _) (Value.ref _)) _ _ _); k_dflt (refine eq_dataH (by ke_read) (by ke_read) (by walk_at "m shaped") (by walk_at "m shaped") (by ke_room) ?_); ke_norm)
    )
  k_with "compareOp NotEq ref ref" => (
(k_here; (with_reducible show wpAny _ _ (compareOp CmpOp.NotEq (Value.ref _) (Value.ref _)) _ _ _); k_dflt (refine ne_dataH (by ke_read) (by ke_read) (by walk_at "m shaped") (by walk_at "m shaped") (by ke_room) ?_); ke_norm)
    )
  trivial
end T2
section T3
open PySem.Builtin PySem.Builtin.Str
example : True := by
  k_with "m turns" => (
(refine KPc.turn ?_; kpc_check; (repeat kpc_if); first
  | (refine wpAny_pure ?_; kpt_piece; walk_at "m turns")
  | (refine wpAny_bind ?_; refine wpAny_holding ?_; (repeat kpc_if); kpt_conv; refine wpAny_pure ?_; refine wpAny_pure ?_; kpt_piece; walk_at "m turns")
  | skip)
    )
  k_with "m fmt" => (
(
  rw [KPt.entry_is_r]
  unfold Builtin.Str.percentFormat
  refine wpAny_bind (wpAny_isInstance (T := "tuple") ⟨kptO, kptG, kptC⟩ KPt.sub_tt ?_)
  refine wpAny_bind (KPt.asStr_ref kptG kptD ?_)
  refine wpAny_bind (KPt.fills_ref ⟨kptO, kptG, kptC⟩ ?_)
  intro _
  kpc_if
  refine wpAny_bind (wpAny_seqItems kptG kptD ?_)
  refine wpAny_bind (wpAny_pure ?_)
  refine wpAny_bind ?_
  rw [KPc.range_list]
  refine KPc.start ?_
  intro _ _
  walk_at "m turns")
    )
  trivial

noncomputable abbrev fmtS : Str := ⟨#[37, 115, 58, 37, 100, 40, 37, 115, 41]⟩

theorem no_int (y : Str) (u : Tok) : specialOf (.str y u) (Str.ofString "__int__") = pure none := by
  have e : specialOf (.str y u) (Str.ofString "__int__") = typeLookup (.type "str") "__int__" := rfl
  rw [e, typeLookup_type, builtinLookup_eq_fast]; kernel_rfl
theorem no_idx (y : Str) (u : Tok) : specialOf (.str y u) (Str.ofString "__index__") = pure none := by
  have e : specialOf (.str y u) (Str.ofString "__index__") = typeLookup (.type "str") "__index__" := rfl
  rw [e, typeLookup_type, builtinLookup_eq_fast]; kernel_rfl
theorem no_float (y : Str) (u : Tok) : specialOf (.str y u) (Str.ofString "__float__") = pure none := by
  have e : specialOf (.str y u) (Str.ofString "__float__") = typeLookup (.type "str") "__float__" := rfl
  rw [e, typeLookup_type, builtinLookup_eq_fast]; kernel_rfl
theorem no_trunc (y : Str) (u : Tok) : specialOf (.str y u) (Str.ofString "__trunc__") = pure none := by
  have e : specialOf (.str y u) (Str.ofString "__trunc__") = typeLookup (.type "str") "__trunc__" := rfl
  rw [e, typeLookup_type, builtinLookup_eq_fast]; kernel_rfl

section
variable {prog : Program} {w : World} {A : Around} {s : Shared} {b : Addr} {x y z : Str} {i : Int} {t u v r q : Tok} {Q : Fin → Shared → Prop} {E : Value → Shared → Prop}
inductive Fm3 : List Value → Prop
  | ok : Fm3 []
  | more (z : Value) (r : List Value) : Fm3 (z :: r)
inductive Fm2 : List Value → Prop
  | none : Fm2 []
  | str (y : Str) (v : Tok) (r : List Value) (hy : y.length ≤ 1000000) (h : Fm3 r) : Fm2 (.str y v :: r)
inductive Fm1 : List Value → Prop
  | int (i : Int) (u : Tok) (r : List Value) (h0 : 0 ≤ i) (h1 : i < 10 ^ 10) (h : Fm2 r) : Fm1 (.int i u :: r)
  | str (y : Str) (v : Tok) (r : List Value) : Fm1 (.str y v :: r)
noncomputable def fmtT (x : Str) (i : Int) (y : Str) : Str := x ++ Str.ofString ":" ++ Str.ofString (toString i) ++ Str.ofString "(" ++ y ++ Str.ofString ")"
set_option maxHeartbeats 4000000 in
theorem fmt_all {p : List Value} (hx : x.length ≤ 1000000) (hp : Fm1 p) (hh : A.handled = none) (ht : IsTup s.heap b (List.toArray (.str x t :: p)))
    (hQ : ∀ i u y v, p = [.int i u, .str y v] → ∀ t' k, Q (.done (.ret (.str (fmtT x i y) t'))) { s with toks := k })
    (h : (∀ i u y v, p ≠ [.int i u, .str y v]) → ∀ h' tk e, Heap.NewExc s.heap h' e "TypeError" → E (.ref e) { s with heap := h', toks := tk }) :
    wpAny (model prog w) A («str.__mod__» ⟨[.str fmtS q, .ref b], []⟩) Q E s := by
  obtain ⟨kptO, kptG, kptC, kptN, kptD⟩ := ht
  rw [KPt.entry_is_r]
  unfold Builtin.Str.percentFormat
  refine wpAny_bind (wpAny_isInstance (T := "tuple") ⟨kptO, kptG, kptC⟩ KPt.sub_tt ?_)
  refine wpAny_bind (KPt.asStr_ref kptG kptD ?_)
  refine wpAny_bind (KPt.fills_ref ⟨kptO, kptG, kptC⟩ ?_)
  intro _
  kpc_if
  refine wpAny_bind (wpAny_seqItems kptG kptD ?_)
  refine wpAny_bind (wpAny_pure ?_)
  refine wpAny_bind ?_
  rw [KPc.range_list]
  refine KPc.start ?_
  clear kptD kptC kptG
  intro _ _
  walk_at "m turns"
  cases hp with
  | str y v r =>
    replace h := h (fun _ _ _ _ e => by cases e)
    refine wpAny_bind ?_
    refine wpAny_holding ?_
    (repeat kpc_if)
    refine wpAny_bind ?_
    unfold Builtin.Str.percentIntOf
    refine wpAny_bind (wpAny_of_eq (a := none) rfl ?_)
    refine wpAny_bind (wpAny_bind (wpAny_of_eq (no_int _ _) (wpAny_pure ?_)))
    refine wpAny_bind (wpAny_bind (wpAny_of_eq (no_idx _ _) (wpAny_pure ?_)))
    refine wpAny_bind (wpAny_bind (wpAny_of_eq (no_float _ _) (wpAny_pure ?_)))
    refine wpAny_bind (wpAny_bind (wpAny_of_eq (no_trunc _ _) (wpAny_pure ?_)))
    (repeat kpc_if)
    refine wpAny_bind (wpAny_pure ?_)
    refine wpAny_bind (wpAny_rule ?_)
    refine wpAny_bind (wpAny_typeNameOf' (typeIs_str _ _ _) (hn := by decide) ?_)
    exact wpAny_raiseErrorMade plainExc_TypeError hh h (by rw [PySem.ofString_length, sizeLine_eq]; decide +kernel)
  | int i u r h0 h1 hp =>
    refine wpAny_bind ?_
    refine wpAny_holding ?_
    (repeat kpc_if)
    kpt_conv
    refine wpAny_pure ?_
    refine wpAny_pure ?_
    kpt_piece
    walk_at "m turns"
    cases hp with
    | none =>
      replace h := h (fun _ _ _ _ e => by cases e)
      refine wpAny_bind (m := (Builtin.Str.notEnoughArguments : Sem PUnit)) ?_
      unfold Builtin.Str.notEnoughArguments
      refine wpAny_bind (wpAny_rule ?_)
      exact_raiseError plainExc_TypeError hh h
    | str y v r hy hp =>
      refine wpAny_bind ?_
      refine wpAny_holding ?_
      (repeat kpc_if)
      kpt_conv
      refine wpAny_pure ?_
      refine wpAny_pure ?_
      kpt_piece
      walk_at "m turns"
      refine wpAny_pure ?_
      cases hp with
      | ok =>
        kpc_if
        refine KPc.finish_ok (by kpc_g) (by decide +kernel) (T' := fmtT x i y) (by exact rfl) ?_
        exact hQ i u y v rfl
      | more z r =>
        replace h := h (fun _ _ _ _ e => by cases e)
        refine wpAny_ite (KPc.ite_yes rfl ?_)
        refine wpAny_bind (wpAny_rule ?_)
        exact wpAny_bind (wpAny_raiseErrorWords plainExc_TypeError hh h)
theorem fmt_two (hx : x.length ≤ 1000) (h0 : 0 ≤ i) (h1 : i < 10 ^ 10) (hh : A.handled = none) (ht : IsTup s.heap b #[.str x t, .int i u])
    (h : ∀ h' tk e, Heap.NewExc s.heap h' e "TypeError" → E (.ref e) { s with heap := h', toks := tk }) :
    wpAny (model prog w) A («str.__mod__» ⟨[.str fmtS q, .ref b], []⟩) Q E s :=
  fmt_all (by omega) (.int i u [] h0 h1 .none) hh ht (fun _ _ _ _ e => by cases e) fun _ => h
theorem fmt_four (hx : x.length ≤ 1000) (hy : y.length ≤ 1000) (h0 : 0 ≤ i) (h1 : i < 10 ^ 10) (hh : A.handled = none) (ht : IsTup s.heap b #[.str x t, .int i u, .str y v, .str z r])
    (h : ∀ h' tk e, Heap.NewExc s.heap h' e "TypeError" → E (.ref e) { s with heap := h', toks := tk }) :
    wpAny (model prog w) A («str.__mod__» ⟨[.str fmtS q, .ref b], []⟩) Q E s :=
  fmt_all (by omega) (.int i u _ h0 h1 (.str y v _ (by omega) (.more _ _))) hh ht (fun _ _ _ _ e => by cases e) fun _ => h
theorem fmt_str (hx : x.length ≤ 1000) (hh : A.handled = none) (ht : IsTup s.heap b #[.str x t, .str y u, .int i v])
    (h : ∀ h' tk e, Heap.NewExc s.heap h' e "TypeError" → E (.ref e) { s with heap := h', toks := tk }) :
    wpAny (model prog w) A («str.__mod__» ⟨[.str fmtS q, .ref b], []⟩) Q E s :=
  fmt_all (by omega) (.str y u _) hh ht (fun _ _ _ _ e => by cases e) fun _ => h

theorem fills_list {a : Addr} {M : Model} {Q : Bool → Shared → Prop} (hT : s.TypeIs (.ref a) "list") (h : ∀ b, Q b s) : wpAny M A (fillsMappingSlot (.ref a)) Q E s := by
  unfold fillsMappingSlot
  refine wpAny_bind (wpAny_specialOf hT slot_list_getitem.lookup ?_)
  exact wpAny_pure (h _)
theorem shown_three (hox : PyData.strOk x = true) (hoy : PyData.strOk y = true) (hx : x.length ≤ 1000) (hy : y.length ≤ 1000) (h0 : 0 ≤ i) (h1 : i < 10 ^ 10) :
    (PyData.list [.str x, .int i, .str y]).shown.length ≤ 15728653 := by
  have hl : (Str.ofString (toString i)).length ≤ 10 := toString_length_le h0 (by decide) h1
  have hlog : i.natAbs.log2 < 1920 := shown (N := 2 ^ 1920) (by omega) (by omega) (Int.le_refl _)
  have hx' : x.cps.size ≤ 1000 := hx
  have hy' : y.cps.size ≤ 1000 := hy
  refine shown_le13 ?_ ?_
  · simp only [PyData.layable0, PyData.canLay0, PyData.canLayAll0, PyData.depth, PyData.depthAll, PyData.weight, PyData.weightAll, hox, hoy, Bool.and_eq_true, decide_eq_true_eq, Bool.and_true, Bool.true_and, and_self, true_and]
    refine ⟨rfl, decide_eq_true ?_⟩
    have e : (2 : Nat) ^ 20 = 1048576 := by decide
    rw [e]
    split <;> omega
  · simp only [PyData.intsShort, PyData.intsShortAll, PyData.shown, Bool.and_true, Bool.true_and, decide_eq_true_eq]
    have : (Str.ofString (toString i)).length ≤ 13 := by omega
    exact decide_eq_true this
set_option maxHeartbeats 4000000 in
theorem fmt_list (ht : s.heap.IsList b #[.str x t, .int i u, .str y v]) (hox : PyData.strOk x = true) (hoy : PyData.strOk y = true) (hx : x.length ≤ 1000) (hy : y.length ≤ 1000) (h0 : 0 ≤ i) (h1 : i < 10 ^ 10) (hh : A.handled = none) (hg : A.guards = some []) (hu : A.units + 64 < cLine)
    (h : ∀ h' tk e, Heap.NewExc s.heap h' e "TypeError" → E (.ref e) { s with heap := h', toks := tk }) :
    wpAny (model prog w) A («str.__mod__» ⟨[.str fmtS q, .ref b], []⟩) Q E s := by
  obtain ⟨kptO, kptG, kptC, kptN, kptD⟩ := ht
  have hlog : i.natAbs.log2 < 1920 := shown (N := 2 ^ 1920) (by omega) (by omega) (Int.le_refl _)
  have hlen := shown_three hox hoy hx hy h0 h1
  have hrd : Reads s.heap (.ref b) (PyData.list [.str x, .int i, .str y]) _ := reads_list_at kptG kptC kptD (ReadsAll.cons (Reads.str x t) (ReadsAll.cons (Reads.int i u) (ReadsAll.cons (Reads.str y v) ReadsAll.nil)))
  rw [KPt.entry_is_r]
  unfold Builtin.Str.percentFormat
  refine wpAny_bind (wpAny_isInstance (T := "list") ⟨kptO, kptG, kptC⟩ F.sub_list_tuple ?_)
  refine wpAny_bind (KPt.asStr_ref kptG kptD ?_)
  refine wpAny_bind (fills_list ⟨kptO, kptG, kptC⟩ ?_)
  intro _
  kpc_if
  refine wpAny_bind (wpAny_pure ?_)
  refine wpAny_bind ?_
  rw [KPc.range_list]
  refine KPc.start ?_
  intro _ _
  refine KPc.turn ?_
  kpc_check
  (repeat kpc_if)
  refine wpAny_bind ?_
  refine wpAny_holding ?_
  (repeat kpc_if)
  refine wpAny_bind ?_
  refine strOf_of_reads hrd (by simp [PyData.showable, PyData.showableAll, hlog]) (by intro e; simp [PyData.hasDict, PyData.hasDictAll] at e) hg (by have : (PyData.list [.str x, .int i, .str y]).depth = 1 := rfl; omega) (fun _ _ e => e) (fun h₁ u₁ tk₁ hk₁ => ?_) (by rw [sizeLine_eq]; omega)
  refine wpAny_bind (wpAny_of_eq (a := some _) rfl ?_)
  refine wpAny_pure ?_
  refine wpAny_pure ?_
  refine KPc.after_str0 (by kpc_g) hlen (by kpc_obj) ?_
  intro _ _
  walk_at "m turns"
  refine wpAny_bind (m := (Builtin.Str.notEnoughArguments : Sem PUnit)) ?_
  unfold Builtin.Str.notEnoughArguments
  refine wpAny_bind (wpAny_rule ?_)
  have h2 : ∀ h' tk e, Heap.NewExc h₁ h' e "TypeError" → E (.ref e) { s with heap := h', toks := tk } := fun h' tk e x => by
    have hn : s.heap.get? e = none := by
      cases q : s.heap.get? e with
      | none => rfl
      | some o => have z := hk₁ _ _ q; rw [x.new] at z; cases z
    exact h h' tk e ⟨fun b o q => x.keeps b o (hk₁ b o q), hn, x.there⟩
  exact_raiseError plainExc_TypeError hh h2
end

theorem fills_listN : fillsNumberSlot (.type "list") "mod" = pure false := by
  have a : typeLookup (.type "list") (PySem.dunder "mod") = pure none := by rw [typeLookup_type, builtinLookup_eq_fast]; kernel_rfl
  have b : typeLookup (.type "list") (PySem.dunderR "mod") = pure none := by rw [typeLookup_type, builtinLookup_eq_fast]; kernel_rfl
  unfold fillsNumberSlot
  simp [a, b]
section
variable {prog : Program} {w : World} {A : Around} {s : Shared} {b : Addr} {its : Array Value} {X : Str} {q : Tok} {Q : Value → Shared → Prop} {E : Value → Shared → Prop}
theorem mod_no {T : String} (hT : s.TypeIs (.ref b) T) (hne : (Value.type "str" == Value.type T) = false) (hf : fillsNumberSlot (.type T) "mod" = pure false) (hX : X = fmtS)
    (hm : ∀ (Q' : Fin → Shared → Prop), wpAny (model prog w) A.in1 («str.__mod__» ⟨[.str fmtS q, .ref b], []⟩) Q' E s) :
    wpAny (model prog w) A (binaryOp .Mod (.str X q) (.ref b)) Q E s := by
  subst hX
  refine KPt.bin_left (T := "str") (U := T) (op := .Mod) hne (typeIs_str s _ q) hT F.fills_str_mod hf F.slot_str_mod ?_
  exact wpAny_call_entry F.slot_str_mod (typeIs_str s _ q) F.entry_str_mod (hm _) (F.args_str_mod_2 _ _)
theorem fmt_ok {x y : Str} {i : Int} {t u v : Tok} (hX : X = fmtS) (hx : x.length ≤ 1000000) (hy : y.length ≤ 1000000) (h0 : 0 ≤ i) (h1 : i < 10 ^ 10) (hh : A.handled = none) (ht : IsTup s.heap b #[.str x t, .int i u, .str y v])
    (h : ∀ t' k, Q (.str (fmtT x i y) t') { s with toks := k }) :
    wpAny (model prog w) A (binaryOp .Mod (.str X q) (.ref b)) Q E s := by
  subst hX
  refine KPt.bin_left (T := "str") (U := "tuple") (op := .Mod) rfl (typeIs_str s _ q) (IsTup.typeIs ht) F.fills_str_mod KPt.fills_tuple F.slot_str_mod ?_
  refine wpAny_call_entry F.slot_str_mod (typeIs_str s _ q) F.entry_str_mod ?_ (F.args_str_mod_2 _ _)
  refine fmt_all hx (.int i u _ h0 h1 (.str y v _ hy .ok)) hh ht ?_ fun n => absurd rfl (n i u y v)
  intro i' u' y' v' e t' k
  cases e
  exact ⟨_, rfl, fun e => (nomatch e), h t' k⟩
theorem brace_ok {z : Str} {t u : Tok} (hX : X = ⟨#[123, 37, 115, 125]⟩) (hz : z.length ≤ 1000000) (h : ∀ t' k, Q (.str (Str.ofString "{" ++ z ++ Str.ofString "}") t') { s with toks := k }) :
    wpAny (model prog w) A (binaryOp .Mod (.str X t) (.str z u)) Q E s := by
  refine KPc.mod_str (T := fun z => Str.ofString "{" ++ z ++ Str.ofString "}") hX hz ?_ h
  kpc_run_s
theorem item_out {value slice : Expr} {k : Int} {u : Tok} (hh : A.handled = none) (ht : IsTup s.heap b its) (hlo : -(2 ^ 63) ≤ k) (hhi : k < 2 ^ 63) (hj : (seqIndex? k its.size).bind (its[·]?) = none)
    (h : ∀ h' tk e, Heap.NewExc s.heap h' e "IndexError" → E (.ref e) { s with heap := h', toks := tk })
    (hs : subscripted slice false (.ref b) (.int k u) = operate [.ref b, .int k u] (getItem (.ref b) (.int k u))) :
    wpAny (model prog w) A (subscriptTail value slice (.ref b) (.int k u)) Q E s := by
  refine tail_any ht.typeIs slot_tuple_getitem.lookup ?_ hs
  unfold getItem
  try with_reducible refine wpAny_holding ?_
  first | refine wpAny_bind (wpAny_pure ?_) | skip
  refine wpAny_bind (wpAny_sequenceKey ht.typeIs (by decide) ?_)
  refine wpAny_bind (wpAny_callSpecial?_slot (name := Str.ofString "__getitem__") ht.typeIs slot_tuple_getitem
    (wpAny_call_entry slot_tuple_getitem ht.typeIs entry_tuple_getitem ?_ (args_tuple_getitem _ _)))
  show wpAny _ _ (Builtin.Tuple.tupleItemsOf (.ref b) >>= _) _ _ s
  refine wpAny_bind (tupleItemsOf_ ht ?_)
  refine wpAny_bind (wpAny_typeOf (typeIs_int s k u) ?_)
  rw [if_neg (by decide)]
  refine wpAny_bind (wpAny_specialOf (T := "int") (typeIs_int s k u) int_index ?_)
  simp only [Option.isNone_some, Bool.false_eq_true, if_false]
  refine wpAny_bind (wpAny_of_eq (a := k) rfl ?_)
  rw [if_neg (by simp only [Bool.or_eq_true, decide_eq_true_eq, not_or]; omega)]
  rw [hj]
  refine wpAny_bind (wpAny_rule ?_)
  exact_raiseError plainExc_IndexError hh h
end
example : True := by
  k_with "binaryOp Mod str ref" => (
(k_here; (with_reducible show wpAny _ _ (binaryOp Operator.Mod (Value.str _ _) (Value.ref _)) _ _ _); k_dflt (first
  | (apply fmt_ok (ht := News.isTup (by k_asm) (by k_mem)); (case hX => decide +kernel); (case hx => omega); (case hy => omega); (case h0 => omega); (case h1 => omega); (case hh => rfl); intro _ _)
  | (apply mod_no (T := "tuple") (IsTup.typeIs (News.isTup (by k_asm) (by k_mem))) rfl KPt.fills_tuple (by decide +kernel); intro _; apply fmt_two; (case ht => exact News.isTup (by k_asm) (by k_mem)); (case hx => omega); (case h0 => omega); (case h1 => omega); (case hh => rfl); intro h' tk' e' x')
  | (apply mod_no (T := "tuple") (IsTup.typeIs (News.isTup (by k_asm) (by k_mem))) rfl KPt.fills_tuple (by decide +kernel); intro _; apply fmt_four; (case ht => exact News.isTup (by k_asm) (by k_mem)); (case hx => omega); (case hy => omega); (case h0 => omega); (case h1 => omega); (case hh => rfl); intro h' tk' e' x')
  | (apply mod_no (T := "tuple") (IsTup.typeIs (News.isTup (by k_asm) (by k_mem))) rfl KPt.fills_tuple (by decide +kernel); intro _; apply fmt_str; (case ht => exact News.isTup (by k_asm) (by k_mem)); (case hx => omega); (case hh => rfl); intro h' tk' e' x')
  | (apply mod_no (T := "list") (Heap.IsList.typeIs (News.isList (by k_asm) (by k_mem))) rfl fills_listN (by decide +kernel); intro _; apply fmt_list; (case ht => exact News.isList (by k_asm) (by k_mem)); (case hox => k_asm); (case hoy => k_asm); (case hx => omega); (case hy => omega); (case h0 => omega); (case h1 => omega); (case hh => rfl); (case hg => rfl); (case hu => ke_room); intro h' tk' e' x')))
    )
  k_with "binaryOp Mod str str" => (
(k_here; (with_reducible show wpAny _ _ (binaryOp Operator.Mod (Value.str _ _) (Value.str _ _)) _ _ _); k_dflt (refine brace_ok (hX := by decide +kernel) (hz := by kpc_size) ?_); intro _ _)
    )
  k_with "subscriptTail" => (
(k_here; (with_reducible show wpAny _ _ (subscriptTail _ _ (Value.ref _) (Value.int _ _)) _ _ _); k_dflt (apply item_out; (case ht => exact (News.isTup (by k_asm) (by k_mem))); (case hh => rfl); (case hlo => decide); (case hhi => decide); (case hj => rfl); (case hs => with_unfolding_all rfl); intro h' tk' e' x'))
    )
  trivial
end T3
section T4
example : True := by
  w_top off
  trivial
noncomputable def ExtF (fs : List Addr) (h h' : Heap) : Prop := ∀ b o, h.get? b = some o → (b ∉ fs → h'.get? b = some o) ∧ (b ∈ fs → ∃ sl, h'.get? b = some { o with slots := sl })
theorem Ext.toF {h h' : Heap} (x : Ext h h') (fs : List Addr) : ExtF fs h h' := fun b o e => ⟨fun _ => x b o e, fun _ => ⟨o.slots, x b o e⟩⟩
section
variable {prog : Program} {w : World} {A₀ A : Around} {s : Shared} {base h₀ : Heap} {outer : List Env} {L : Addr} {m mg mb : Str → Option Value} {mean : ExcName → Option Value} {env : Env}
  {name qual : Str} {params : Arguments} {body : List Stmt} {scope : Scope} {dV kV doc pm cdv ct oc : Value} {an od : Option Addr} {osl : Array (Option Value)} {f : Addr} {args : List Value} {binds : List (Str × Value)}
  {Q E : Value → Shared → Prop} {K : Frag} {p : Program} {loose : List Str} {news : List (Addr × Obj)}

theorem frame_mem {b : Addr} (hf : env.frame = some L) (hm : b ∈ (env :: outer).filterMap (·.frame)) : b = L ∨ b ∈ outer.filterMap (·.frame) := by
  obtain ⟨e, he, hfe⟩ := List.mem_filterMap.mp hm
  rcases List.mem_cons.mp he with rfl | he
  · rw [hf] at hfe
    exact .inl (Option.some.inj hfe).symm
  · exact .inr (List.mem_filterMap.mpr ⟨e, he, hfe⟩)

theorem binds_Kz {fd : FuncData} {args : List Value} {T : Addr} {o : Obj} {items : Array Value} {n : Nat} {k : Option (Array Value) → Sem (List (Str × Value))} (X : K.In s.heap) (hd : fd.defaults = .ref T) (ho : K.lookup T = some o) (hs : o.data = .seq items n)
    (h₁ : bindArgs fd ⟨args, []⟩ = seqItems? fd.defaults >>= k) (h₂ : k (some items) = pure (List.zip (fd.params.args.map (·.arg)) args)) : BindsTo s fd ⟨args, []⟩ (List.zip (fd.params.args.map (·.arg)) args) := binds_K X hd ho hs h₁ h₂
theorem enterS (B : Below A₀ base outer h₀) (F : Fr h₀ L s.heap m) (X : K.In h₀) (N : News h₀ L s.heap news) (T : Top p loose mean mg mb h₀) (D : KtsDicts (outer.filterMap (·.frame)) h₀) (hA : A.frames = some (env :: outer)) (hf : env.frame = some L) (hke : env.scope.kind = .function)
    (ho : K.lookup f = some ⟨oc, od, .func (fnOf name qual params body scope dV kV doc pm an cdv ct), osl⟩) (hcd : codeIn K cdv qual = true) (hroom : A.depth < recursionLimit)
    (hbind : BindsTo s (fnOf name qual params body scope dV kV doc pm an cdv ct) ⟨args, []⟩ binds) (hloc : ∀ y ∈ binds, scope.names.lookup y.1 = some .local)
    (h : ∀ g L' h₁ tk, (∀ b o, b ∉ news.map (·.1) → s.heap.get? b = some o → g.get? b = some o) → Fr g L' h₁ (fun y => binds.reverse.lookup y) → News g L' h₁ news → Below A base (env :: outer) g → K.In g → Top p loose mean mg mb g → (∀ p ∈ news, p.1 < L') →
      KtsDicts ((env :: outer).filterMap (·.frame)) g →
      wpAny (model prog w) (A.deeper (envOf qual scope L' f cdv)) (execs body (envOf qual scope L' f cdv))
        (fun fl s' => Q (match fl with | .ret v => v | _ => .none) s')
        (fun e s' => wpAny (model prog w) (A.deeper (envOf qual scope L' f cdv)) (leaving (envOf qual scope L' f cdv) e) (fun _ s'' => E e s'') (fun e' s'' => E e' s'') s')
        { s with heap := h₁, toks := tk })
    (hco : scope.isCoroutine = false) (hgen : scope.isGenerator = false) (hk : scope.kind = .function)
    (hcell : ∀ x ∈ scope.names, x.2 ≠ .cell) : wpAny (model prog w) A (call (.ref f) args) Q E s := by
  refine enterN B F X N T hA hf hke ho hcd hroom hbind hloc (fun g L' h₁ tk hg F' N' B' X' T' l' => h g L' h₁ tk hg F' N' B' X' T' l' ?_) hco hgen hk hcell
  intro b hb
  rcases frame_mem hf hb with rfl | hb
  · obtain ⟨oL, es, ep, hL, hLd, _⟩ := F.ns
    refine ⟨oL, es, ep, hg _ _ (fun q => ?_) hL, hLd⟩
    obtain ⟨p, hp, e⟩ := List.mem_map.mp q
    exact (N p hp).2.1 e
  · obtain ⟨o, es, n, ho', hd'⟩ := D b hb
    refine ⟨o, es, n, hg _ _ (fun q => ?_) (F.keep _ _ ho'), hd'⟩
    obtain ⟨p, hp, e⟩ := List.mem_map.mp q
    have := (N p hp).2.2
    rw [e, ho'] at this; cases this

theorem extF_of {h g g' h' : Heap} {fs : List Addr} {L' : Addr} {m' : Str → Option Value} {news' : List (Addr × Obj)} (hs : ∀ p ∈ news, h.get? p.1 = some p.2) (hg : ∀ b o, b ∉ news.map (·.1) → h.get? b = some o → g.get? b = some o)
    (T : KtsTurn fs g g') (F' : Fr g' L' h' m') (N' : News g' L' h' news') (hn : ∀ p ∈ news, p ∈ news') : ExtF fs h h' := by
  intro b o e
  by_cases q : b ∈ news.map (·.1)
  · obtain ⟨p, hp, rfl⟩ := List.mem_map.mp q
    have e1 := hs p hp
    rw [e] at e1
    cases e1
    have e2 := (N' p (hn p hp)).1
    exact ⟨fun _ => e2, fun _ => ⟨p.2.slots, e2⟩⟩
  · have e1 := hg b o q e
    refine ⟨fun hb => F'.keep _ _ (T.other b o e1 hb), fun hb => ?_⟩
    obtain ⟨sl, h1⟩ := T.frame b o e1 hb
    exact ⟨sl, F'.keep _ _ h1⟩

theorem ExtF.after {h h' : Heap} (B : Below A₀ base outer h₀) (F : Fr h₀ L h m) (hf : env.frame = some L) (XB : K.In base) (TB : Top p loose mean mg mb base) (D : KtsDicts (outer.filterMap (·.frame)) h₀)
    (x : ExtF ((env :: outer).filterMap (·.frame)) h h') : ∃ h₀', KtsTurn (outer.filterMap (·.frame)) h₀ h₀' ∧ Fr h₀' L h' m ∧ Below A₀ base outer h₀' ∧ K.In h₀' ∧ Top p loose mean mg mb h₀' ∧ KtsDicts (outer.filterMap (·.frame)) h₀' ∧
      ∀ news, News h₀ L h news → News h₀' L h' news := by
  have nL₀ : h₀.get? L = none := kts_self F
  have hin : L ∈ (env :: outer).filterMap (·.frame) := List.mem_filterMap.mpr ⟨env, .head _, hf⟩
  have hsub : ∀ b, b ∈ outer.filterMap (·.frame) → b ∈ (env :: outer).filterMap (·.frame) := fun b hb => by
    obtain ⟨e, he, hfe⟩ := List.mem_filterMap.mp hb
    exact List.mem_filterMap.mpr ⟨e, .tail _ he, hfe⟩
  obtain ⟨T₁, S₁⟩ := kts_turn_at (h := h') (fs := outer.filterMap (·.frame)) (g := h₀)
    (fun b hb => by
      obtain ⟨_, o, ho', _⟩ := B.frames.mem hb
      exact ⟨o, ho'⟩)
    (fun b o e nmem => (x b o (F.keep b o e)).1 (fun q => by
      rcases frame_mem hf q with z | z
      · rw [z, nL₀] at e
        cases e
      · exact nmem z))
    (fun b o e hm => (x b o (F.keep b o e)).2 (hsub b hm))
  have B₃ : Below A₀ base outer (ktsHeap h' (outer.filterMap (·.frame)) h₀) := ⟨B.stack, fun b o e => T₁.other b o (B.stays b o e) (fun hm => by
    rw [(B.frames.mem hm).1] at e
    cases e), B.frames.of_keeps fun b o e _ => by
    obtain ⟨sl', hs'⟩ := T₁.up e
    exact ⟨_, hs', rfl⟩⟩
  obtain ⟨oL, es, ep, hL, hLd, hLk, hLf⟩ := F.ns
  obtain ⟨sl, hs⟩ := (x L oL hL).2 hin
  refine ⟨_, T₁, ⟨⟨_, es, ep, hs, hLd, hLk, hLf⟩, S₁, by rw [T₁.size]; exact F.above⟩, B₃, XB.keeps B₃.stays, TB.keeps B₃.stays, D.turn T₁, fun news N q hq => ⟨?_, (N q hq).2.1, T₁.none_ _ (N q hq).2.2⟩⟩
  refine (x _ _ (N q hq).1).1 (fun z => ?_)
  rcases frame_mem hf z with z | z
  · exact (N q hq).2.1 z
  · obtain ⟨_, o, ho', _⟩ := B.frames.mem z
    rw [(N q hq).2.2] at ho'; cases ho'
end
example : True := by
  k_with "m enterS" => (
(
  apply enterS; (case hA => exact rfl); (case hf => assumption); (case hke => assumption); (case B => k_asm); (case F => k_asm); (case X => k_asm); (case N => k_asm); (case T => k_asm); (case D => k_asm); (case ho => k_is); (case hcd => k_is); (case hroom => k_room); (case hbind => first | exact binds_zip rfl (by kernel_rfl) | exact BindsTo.of_eq rfl | exact (fun f x => binds_Kz (Frag.In.keeps x (Fr.keep f))) (by k_asm) (by k_asm) rfl (by k_is) rfl rfl (by kernel_rfl) | exact (fun f x => binds_K (Frag.In.keeps x (Fr.keep f))) (by k_asm) (by k_asm) rfl (by k_is) rfl rfl rfl); (case hcell => decide); (case hloc => exact locs rfl); (case hco => exact rfl); (case hgen => exact rfl); (case hk => exact rfl); k_whole; intro g' L' h' tk' hg' F' N' B' X' T' hlt' D'; (try dsimp only); (try k_fold))
    )
  trivial
end T4
section T5
theorem fn_ga : typeLookup (.type "function") "__getattribute__" = pure (some (.builtin "object.__getattribute__")) := by rw [typeLookup_type, builtinLookup_eq_fast]; kernel_rfl
theorem fn_lk : typeLookup (.type "function") "__name__" = pure (some (.builtin "function.__name__")) := by rw [typeLookup_type, builtinLookup_eq_fast]; kernel_rfl
theorem fn_typeOf : typeOf (.builtin "function.__name__") = pure (.type "getset_descriptor") := by kernel_rfl
theorem fn_entry : entryFor table "function.__name__" = some Builtin.«function.__name__» := entryFor_of_tree (by kernel_rfl)
theorem fn_owner : (".".intercalate ("function.__name__".cutAt '.').dropLast) = "function" := by
  have e0 : "function.__name__".cutAt '.' = ["function", "__name__"] := by first | rfl | decide +kernel
  rw [e0]; decide +kernel
theorem fn_sub : isSubtype (.type "function") (.type "function") = pure true := by rw [isSubtype_type]; kernel_rfl
theorem fn_slot : Slot "function" "__getattribute__" "object.__getattribute__" :=
  .of (owner := "object") (n := "__getattribute__") fn_ga (by decide +kernel) (by decide +kernel) (by decide +kernel)
    (by first | exact .inl (by decide +kernel) | exact .inr (by decide +kernel)) (by rw [isSubtype_type]; kernel_rfl)
section
variable {prog : Program} {w : World} {A : Around} {E : Value → Shared → Prop} {h : Heap} {g : Array GenState} {d : Drawn} {t : Nat} {os : OsState} {a : Addr} {o : Obj} {fd : FuncData}
theorem fn_get {R : Result → Shared → Prop} (hx : h.get? a = some o) (hc : o.cls = .type "function") (hd : o.data = .func fd) (hz : fd.name.length ≤ sizeLine) (hq : R (.ok (.ret (.str fd.name t))) ⟨h, g, d, t + 1, os⟩) :
    codeAny (model prog w) A (.call (.builtin "getset_descriptor.__get__") ⟨[.builtin "function.__name__", .ref a, .type "function"], []⟩) R ⟨h, g, d, t, os⟩ := by
  have hT : (⟨h, g, d, t, os⟩ : Shared).TypeIs (.ref a) "function" := ⟨_, hx, hc⟩
  have hT5 : (⟨h, g, d, t, os⟩ : Shared).TypeIs (.builtin "function.__name__") "getset_descriptor" := fn_typeOf
  have f8 : isSubtype (.type "function") (.type (".".intercalate ("function.__name__".cutAt '.').dropLast)) = pure true := by rw [fn_owner]; exact fn_sub
  refine codeAny_call_builtin F.slot_gs_get.plain F.entry_gs_get (F.slot_gs_get.check _ _ _ _ _ _ _ _ hT5 (F.args_gs_get _ _ _) ?_)
  repeat (any_goals (first | assumption | wp_step))
  refine ⟨Code.quiet_builtin _ (by decide +kernel), codeAny_builtin fn_entry ?_⟩
  unfold Builtin.«function.__name__»
  show wpAny _ _ (do retStr ((← funcData (.ref a)).name)) _ _ _
  refine wpAny_bind (m := funcData (.ref a)) ?_
  unfold funcData
  refine wpAny_bind (wpAny_load hx ?_)
  rw [hd]
  refine wpAny_pure ?_
  unfold retStr
  first
    | exact wpAny_bind (wpAny_mkStr (wpAny_pure hq) hz)
    | exact wpAny_bind (wpAny_bind (wpAny_mkStr (wpAny_pure hq) hz))
theorem fn_entry_ga {tk : Tok} {Q : PySem.Fin → Shared → Prop} (hx : h.get? a = some o) (hc : o.cls = .type "function") (hd : o.data = .func fd) (hz : fd.name.length ≤ sizeLine) (hq : Q (.done (.ret (.str fd.name t))) ⟨h, g, d, t + 1, os⟩) :
    wpAny (model prog w) A (Builtin.«object.__getattribute__» ⟨[.ref a, .str "__name__" tk], []⟩) Q E ⟨h, g, d, t, os⟩ := by
  have hT : (⟨h, g, d, t, os⟩ : Shared).TypeIs (.ref a) "function" := ⟨_, hx, hc⟩
  have hT5 : (⟨h, g, d, t, os⟩ : Shared).TypeIs (.builtin "function.__name__") "getset_descriptor" := fn_typeOf
  have f4 := fn_lk
  have f5 := fn_typeOf
  have f6 := F.slot_gs_get.lookup
  have f7 := F.slot_gs_set.lookup
  repeat (any_goals (first | assumption | wp_step))
  refine fn_get hx hc hd hz ?_
  repeat (any_goals (first | assumption | wp_step))
theorem fn_call {tk : Tok} {R : Result → Shared → Prop} (hx : h.get? a = some o) (hc : o.cls = .type "function") (hd : o.data = .func fd) (hz : fd.name.length ≤ sizeLine) (hq : R (.ok (.ret (.str fd.name t))) ⟨h, g, d, t + 1, os⟩) :
    codeAny (model prog w) A (.call (.builtin "object.__getattribute__") ⟨[.ref a, .str "__name__" tk], []⟩) R ⟨h, g, d, t, os⟩ :=
  codeAny_call_builtin fn_slot.plain (entryFor_of_tree (by kernel_rfl)) (fn_slot.check _ _ _ _ _ _ _ _ (show (⟨h, g, d, t, os⟩ : Shared).TypeIs (.ref a) "function" from ⟨_, hx, hc⟩) (by unfold argsOk; kernel_rfl) (fn_entry_ga hx hc hd hz hq))
theorem fn_by {tk : Tok} {fill expr : Bool} {Q : Value → Shared → Prop} (hx : h.get? a = some o) (hc : o.cls = .type "function") (hd : o.data = .func fd) (hz : fd.name.length ≤ sizeLine) (hq : Q (.str fd.name t) ⟨h, g, d, t + 1, os⟩) :
    wpAny (model prog w) A (getAttrBy (.ref a) (.str "__name__" tk) fill expr) Q E ⟨h, g, d, t, os⟩ := by
  have hT : (⟨h, g, d, t, os⟩ : Shared).TypeIs (.ref a) "function" := ⟨_, hx, hc⟩
  have f2 := fn_slot.lookup
  have f3 := fn_slot.bind (.ref a)
  have hx0 : (expr && onTheHeap (Value.builtin "object.__getattribute__")) = false := by cases expr <;> rfl
  repeat (any_goals (first | assumption | wp_step))
  refine fn_call hx hc hd hz ?_
  repeat (any_goals (first | assumption | wp_step))
theorem fn_attr {expr : Bool} {Q : Value → Shared → Prop} (hx : h.get? a = some o) (hc : o.cls = .type "function") (hd : o.data = .func fd) (hz : fd.name.length ≤ sizeLine) (hq : Q (.str fd.name (t + 1)) ⟨h, g, d, t + 1 + 1, os⟩) :
    wpAny (model prog w) A (getAttr (.ref a) "__name__" expr) Q E ⟨h, g, d, t, os⟩ := by
  unfold getAttr
  repeat (any_goals (first | assumption | with_reducible apply fn_by hx hc hd hz | wp_step))
end
theorem fnName_K {prog : Program} {w : World} {A : Around} {E : Value → Shared → Prop} {s : Shared} {K : Frag} {h₀ : Heap} {L a : Addr} {m : Str → Option Value} {expr : Bool} {Q : Value → Shared → Prop} {od : Option Addr} {osl : Array (Option Value)} {name qual : Str} {params : Arguments} {body : List Stmt} {scope : Scope} {dV kV doc pm cdv ct : Value} {an : Option Addr}
    (F : Fr h₀ L s.heap m) (X : K.In h₀) (ho : K.lookup a = some ⟨.type "function", od, .func (fnOf name qual params body scope dV kV doc pm an cdv ct), osl⟩) (hz : name.length ≤ sizeLine) (h : Q (.str name (s.toks + 1)) { s with toks := s.toks + 1 + 1 }) :
    wpAny (model prog w) A (getAttr (.ref a) "__name__" expr) Q E s := by
  obtain ⟨hp, g, d, t, os⟩ := s
  exact fn_attr ((X.keeps F.keep) _ _ ho) rfl rfl hz h
example : True := by
  k_with "getAttr ref" => (
(k_here; (with_reducible show wpAny _ _ (getAttr (Value.ref _) (PySem.Str.ofString "__name__") _) _ _ _); k_dflt (apply fnName_K; (case F => k_asm); (case X => k_asm); (case ho => k_is); (case hz => decide +kernel); k_whole); (try dsimp only))
    )
  trivial
end T5
section T6
noncomputable abbrev tab4 (a b c d : Str) (k : Int) : Str := if k = 0 then a else if k = 1 then b else if k = 2 then c else d
noncomputable abbrev tab6 (a b c d e f : Str) (k : Int) : Str := if k = 0 then a else if k = 1 then b else if k = 2 then c else if k = 3 then d else if k = 4 then e else f
noncomputable def placeOf (y : Int) : Str := tab4 (Str.ofString "a") (Str.ofString "m.n.b") (Str.ofString "~") (Str.ofString "c:d") (Int.fmod (Int.fdiv y 8) 4)
noncomputable def nameOf (y : Int) : Str := tab6 (Str.ofString "f") (Str.ofString "<g>") (Str.ofString "<") (Str.ofString "e.g>") (Str.ofString "n\n.o") (Str.ofString "q.") (Int.fmod (Int.fdiv (Int.fdiv y 8) 4) 6)
noncomputable def lineNo (y : Int) : Int := if Int.fmod (Int.fdiv (Int.fdiv y 8) 24) 2 = 1 then Int.fdiv y 8 else 0

section
variable {prog : Program} {w : World} {A : Around} {E : Value → Shared → Prop} {s : Shared}
theorem four_of {k : Int} (h0 : 0 ≤ k) (h1 : k < 4) : k = 0 ∨ k = 1 ∨ k = 2 ∨ k = 3 := by
  obtain ⟨n, rfl⟩ := Int.eq_ofNat_of_zero_le h0
  have h : n < 4 := Int.ofNat_lt.mp h1
  match n, h with
  | 0, _ => exact .inl rfl
  | 1, _ => exact .inr (.inl rfl)
  | 2, _ => exact .inr (.inr (.inl rfl))
  | 3, _ => exact .inr (.inr (.inr rfl))
theorem six_of {k : Int} (h0 : 0 ≤ k) (h1 : k < 6) : k = 0 ∨ k = 1 ∨ k = 2 ∨ k = 3 ∨ k = 4 ∨ k = 5 := by
  obtain ⟨n, rfl⟩ := Int.eq_ofNat_of_zero_le h0
  have h : n < 6 := Int.ofNat_lt.mp h1
  match n, h with
  | 0, _ => exact .inl rfl
  | 1, _ => exact .inr (.inl rfl)
  | 2, _ => exact .inr (.inr (.inl rfl))
  | 3, _ => exact .inr (.inr (.inr (.inl rfl)))
  | 4, _ => exact .inr (.inr (.inr (.inr (.inl rfl))))
  | 5, _ => exact .inr (.inr (.inr (.inr (.inr rfl))))
theorem item_tab4 {value slice : Expr} {p : Addr} {a b c d : Str} {t1 t2 t3 t4 : Tok} {k : Int} {u : Tok} {Q : Value → Shared → Prop} (ht : IsTup s.heap p #[.str a t1, .str b t2, .str c t3, .str d t4]) (h0 : 0 ≤ k) (h1 : k < 4)
    (h : ∀ t, Q (.str (tab4 a b c d k) t) s)
    (hs : subscripted slice false (.ref p) (.int k u) = operate [.ref p, .int k u] (getItem (.ref p) (.int k u))) :
    wpAny (model prog w) A (subscriptTail value slice (.ref p) (.int k u)) Q E s := by
  rcases four_of h0 h1 with rfl | rfl | rfl | rfl
  · exact item_tupleT (l := [_, _, _, _]) ht (by decide) (by decide) rfl rfl (h t1) hs
  · exact item_tupleT (l := [_, _, _, _]) ht (by decide) (by decide) rfl rfl (h t2) hs
  · exact item_tupleT (l := [_, _, _, _]) ht (by decide) (by decide) rfl rfl (h t3) hs
  · exact item_tupleT (l := [_, _, _, _]) ht (by decide) (by decide) rfl rfl (h t4) hs
theorem item_tab6 {value slice : Expr} {p : Addr} {a b c d e f : Str} {t1 t2 t3 t4 t5 t6 : Tok} {k : Int} {u : Tok} {Q : Value → Shared → Prop} (ht : IsTup s.heap p #[.str a t1, .str b t2, .str c t3, .str d t4, .str e t5, .str f t6]) (h0 : 0 ≤ k) (h1 : k < 6)
    (h : ∀ t, Q (.str (tab6 a b c d e f k) t) s)
    (hs : subscripted slice false (.ref p) (.int k u) = operate [.ref p, .int k u] (getItem (.ref p) (.int k u))) :
    wpAny (model prog w) A (subscriptTail value slice (.ref p) (.int k u)) Q E s := by
  rcases six_of h0 h1 with rfl | rfl | rfl | rfl | rfl | rfl
  · exact item_tupleT (l := [_, _, _, _, _, _]) ht (by decide) (by decide) rfl rfl (h t1) hs
  · exact item_tupleT (l := [_, _, _, _, _, _]) ht (by decide) (by decide) rfl rfl (h t2) hs
  · exact item_tupleT (l := [_, _, _, _, _, _]) ht (by decide) (by decide) rfl rfl (h t3) hs
  · exact item_tupleT (l := [_, _, _, _, _, _]) ht (by decide) (by decide) rfl rfl (h t4) hs
  · exact item_tupleT (l := [_, _, _, _, _, _]) ht (by decide) (by decide) rfl rfl (h t5) hs
  · exact item_tupleT (l := [_, _, _, _, _, _]) ht (by decide) (by decide) rfl rfl (h t6) hs
end
example : True := by
  k_with "subscriptTail" => (
(k_here; (with_reducible show wpAny _ _ (subscriptTail _ _ (Value.ref _) (Value.int (Int.fmod _ _) _)) _ _ _); k_dflt (apply item_tab4 (News.isTup (by k_asm) (by k_mem)); (case h0 => exact Int.fmod_nonneg_of_pos _ (by decide)); (case h1 => exact Int.fmod_lt_of_pos _ (by decide)); (case hs => with_unfolding_all rfl); k_whole); intro t')
    )
  k_with "subscriptTail" => (
(k_here; (with_reducible show wpAny _ _ (subscriptTail _ _ (Value.ref _) (Value.int (Int.fmod _ _) _)) _ _ _); k_dflt (apply item_tab6 (News.isTup (by k_asm) (by k_mem)); (case h0 => exact Int.fmod_nonneg_of_pos _ (by decide)); (case h1 => exact Int.fmod_lt_of_pos _ (by decide)); (case hs => with_unfolding_all rfl); k_whole); intro t')
    )
  trivial
theorem close0 {g h h' : Heap} {L' : Addr} {m' : Str → Option Value} {news : List (Addr × Obj)} (F' : Fr g L' h' m') (N' : News g L' h' news) (hg : g = h) : Ext h h' ∧ ∀ a o, (a, o) ∈ news → h.get? a = none ∧ h'.get? a = some o := by
  subst hg
  exact ⟨F'.keep, fun a o hm => ⟨(N' _ hm).2.2, (N' _ hm).1⟩⟩
theorem tab4_all {P : Str → Prop} {a b c d : Str} (ha : P a) (hb : P b) (hc : P c) (hd : P d) (k : Int) : P (tab4 a b c d k) := by
  unfold tab4
  split
  · exact ha
  · split
    · exact hb
    · split
      · exact hc
      · exact hd
theorem tab6_all {P : Str → Prop} {a b c d e f : Str} (ha : P a) (hb : P b) (hc : P c) (hd : P d) (he : P e) (hf : P f) (k : Int) : P (tab6 a b c d e f k) := by
  unfold tab6
  split
  · exact ha
  · split
    · exact hb
    · split
      · exact hc
      · split
        · exact hd
        · split
          · exact he
          · exact hf
theorem placeOf_len (y : Int) : (placeOf y).length ≤ 10 := tab4_all (P := fun x => x.length ≤ 10) (by decide +kernel) (by decide +kernel) (by decide +kernel) (by decide +kernel) _
theorem nameOf_len (y : Int) : (nameOf y).length ≤ 10 := tab6_all (P := fun x => x.length ≤ 10) (by decide +kernel) (by decide +kernel) (by decide +kernel) (by decide +kernel) (by decide +kernel) (by decide +kernel) _
theorem placeOf_ok (y : Int) : PyData.strOk (placeOf y) = true := tab4_all (P := fun x => PyData.strOk x = true) (by decide +kernel) (by decide +kernel) (by decide +kernel) (by decide +kernel) _
theorem nameOf_ok (y : Int) : PyData.strOk (nameOf y) = true := tab6_all (P := fun x => PyData.strOk x = true) (by decide +kernel) (by decide +kernel) (by decide +kernel) (by decide +kernel) (by decide +kernel) (by decide +kernel) _
theorem zOf_bounds {y : Int} (h0 : 0 ≤ y) (h1 : y < 1000000) : 0 ≤ Int.fdiv y 8 ∧ Int.fdiv y 8 < 125000 := by
  have e : Int.fdiv y 8 = y / 8 := Int.fdiv_eq_ediv_of_nonneg _ (by omega)
  rw [e]; omega
theorem lineNo_bounds {y : Int} (h0 : 0 ≤ y) (h1 : y < 1000000) : 0 ≤ lineNo y ∧ lineNo y < 125000 := by
  have := zOf_bounds h0 h1
  unfold lineNo
  split <;> omega
end T6
section T7
example : True := by
  w_top off
  trivial
theorem fill : PySem.Challenge.rw_pe0125_01 = PySem.Challenge.rw_pe0125_01 ∧ hd.heap_39 = hd.heap_39 := by
  k_fill
  exact ⟨rfl, rfl⟩

noncomputable def IntAt (n : Int) (s : Shared) (v : Value) (s₁ : Shared) : Prop := ∃ t tk, v = .int n t ∧ s₁ = { s with toks := tk }
theorem if_to {prog : Program} {w : World} {A : Around} {E : Value → Shared → Prop} {s : Shared} {env : Env} {test body orelse : Expr} {pos : Pos} {Q : Value → Shared → Prop} {n : Int} (h0 : wpAny (model prog w) A (eval (.IfExp test body orelse pos) env) (IntAt n s) E s) (h : ∀ t tk, Q (.int n t) { s with toks := tk }) :
    wpAny (model prog w) A (eval (.IfExp test body orelse pos) env) Q E s :=
  wpAny_mono h0 (fun v s₁ ⟨t, tk, e1, e2⟩ => by subst e1; subst e2; exact h t tk) fun _ _ x => x
theorem line_pos {y : Int} {t : Tok} (h : Int.fmod (Int.fdiv (Int.fdiv y 8) 24) 2 = 1) : Value.int (Int.fdiv y 8) t = Value.int (lineNo y) t := congrArg (Value.int · t) (if_pos h).symm
theorem line_neg {y : Int} {t : Tok} (h : Int.fmod (Int.fdiv (Int.fdiv y 8) 24) 2 ≠ 1) : Value.int 0 t = Value.int (lineNo y) t := congrArg (Value.int · t) (if_neg h).symm
noncomputable def Line1 : Prop := True
example : True := by
  k_with "IntAt" => (
first | exact ⟨_, _, line_pos (by with_reducible assumption), rfl⟩ | exact ⟨_, _, line_neg (by with_reducible assumption), rfl⟩
    )
  k_with "eval IfExp" => (
(k_here; (fail_if_success (with_reducible show wpAny _ _ _ (IntAt _ _) _ _)); (with_reducible rename Line1 => hL9); (with_reducible refine if_to (n := lineNo y) ?_ ?_); (all_goals (try intro t9 tk9)))
    )
  trivial
section
variable {prog : Program} {w : World} {A₀ A : Around} {s : Shared} {base h₀ : Heap} {outer : List Env} {L : Addr} {m mg mb : Str → Option Value} {mean : ExcName → Option Value} {tp : Program} {tl₀ : List Str} {env : Env} {Q E : Value → Shared → Prop} {news : List (Addr × Obj)}

set_option maxHeartbeats 8000000 in
theorem three_at {y : Int} {t : Tok} (B : Below A₀ base outer h₀) (F : Fr h₀ L s.heap m) (X : (hd.heap_39 w.params).In h₀) (T : Top tp tl₀ mean mg mb h₀) (hf : env.frame = some L) (hk : env.scope.kind = .function)
   (hy : 0 ≤ y) (hy2 : y < 1000000)
   (h : ∀ a t1 t2 t3 h' tk, Ext s.heap h' → s.heap.get? a = none → h'.get? a = some (tupO [.str (placeOf y) t1, .int (lineNo y) t2, .str (nameOf y) t3]) → Q (.ref a) { s with heap := h', toks := tk }) :
   wpAny (model prog w) (AT 600 1000 env outer) (call (.ref 92) [.int y t]) Q E s := by
  have hL1 : Line1 := True.intro
  walk_at "m enter"
  k_steps
  all_goals (
    have cl := close0 (by assumption) (by assumption) (by assumption)
    exact h _ _ _ _ _ _ cl.1 (cl.2 _ _ (List.Mem.head _)).1 (cl.2 _ _ (List.Mem.head _)).2)
theorem three_use {y : Int} {t : Tok} (B : Below A₀ base outer h₀) (F : Fr h₀ L s.heap m) (X : (hd.heap_39 w.params).In h₀) (N : News h₀ L s.heap news) (T : Top tp tl₀ mean mg mb h₀) (hA : A.frames = some (env :: outer)) (hf : env.frame = some L) (hk : env.scope.kind = .function)
   (hh : A.handled = none) (hg : A.guards = some []) (hd : A.depth ≤ 600) (hu : A.units ≤ 1000) (hy : 0 ≤ y) (hy2 : y < 1000000)
   (h : ∀ a t1 t2 t3 h' tk, Fr h₀ L h' m → News h₀ L h' ((a, tupO [.str (placeOf y) t1, .int (lineNo y) t2, .str (nameOf y) t3]) :: news) → (∀ p ∈ news, p.1 ≠ a) → Q (.ref a) { s with heap := h', toks := tk }) :
   wpAny (model prog w) A (call (.ref 92) [.int y t]) Q E s :=
  wpAny_le (three_at B F X T hf hk hy hy2 fun a t1 t2 t3 h' tk x n o => h a t1 t2 t3 h' tk (x.fr F) (x.cons F N n o) (News.ne N n)) hh hA hg hd hu
end
noncomputable def AllNe (d : Nat) : List (Addr × Obj) → Prop
  | [] => True
  | p :: r => @Ne Nat p.1 d ∧ AllNe d r
theorem allNe_of {d : Addr} : ∀ {l : List (Addr × Obj)}, (∀ p ∈ l, p.1 ≠ d) → AllNe d l
  | [], _ => trivial
  | p :: _, h => ⟨h p (.head _), allNe_of fun q hq => h q (.tail _ hq)⟩
example : True := by
  k_with "call ref" => (
(k_here; (with_reducible show wpAny _ _ (call (Value.ref 92) [Value.int _ _]) _ _ _); k_dflt (apply three_use; (case hA => exact rfl); (case hf => exact rfl); (case hk => exact rfl); (case F => k_asm); (case B => k_asm); (case X => k_asm); (case N => k_asm); (case T => k_asm); (case hh => exact rfl); (case hg => exact rfl); (case hd => exact Nat.le_of_ble_eq_true rfl); (case hu => exact Nat.le_of_ble_eq_true rfl); (case hy => k_asm); (case hy2 => k_asm); k_whole; intro a' t1' t2' t3' h' tk' F' N' l1; (try (replace l1 := allNe_of l1; simp only [AllNe, and_true] at l1)); (try k_sweep)))
    )
  trivial
end T7
section T8
theorem aLt_mem {d : Nat} {l : List (Addr × Obj)} (h : AllLt d l) : ∀ p ∈ l, @LT.lt Nat _ p.1 d := by
  induction l with
  | nil => intro p hp; cases hp
  | cons q r ih =>
    intro p hp
    rcases List.mem_cons.mp hp with rfl | hp
    · exact h.1
    · exact ih h.2 p hp
theorem aNe_mem {d : Nat} {l : List (Addr × Obj)} (h : AllNe d l) : ∀ p ∈ l, @Ne Nat p.1 d := by
  induction l with
  | nil => intro p hp; cases hp
  | cons q r ih =>
    intro p hp
    rcases List.mem_cons.mp hp with rfl | hp
    · exact h.1
    · exact ih h.2 p hp
theorem neL {a D : Nat} {o : Obj} {l : List (Addr × Obj)} (h : AllLt D l) (m : (a, o) ∈ l) : @Ne Nat a D := Nat.ne_of_lt (aLt_mem h _ m)
theorem neG {a D : Nat} {o : Obj} {l : List (Addr × Obj)} (h : AllLt D l) (m : (a, o) ∈ l) : @Ne Nat D a := Nat.ne_of_gt (aLt_mem h _ m)
theorem neA {a D : Nat} {o : Obj} {l : List (Addr × Obj)} (h : AllNe D l) (m : (a, o) ∈ l) : @Ne Nat a D := aNe_mem h _ m
theorem neB {a D : Nat} {o : Obj} {l : List (Addr × Obj)} (h : AllNe D l) (m : (a, o) ∈ l) : @Ne Nat D a := Ne.symm (aNe_mem h _ m)
theorem ne1s {a : Nat} : @Ne Nat (a + 1) a := Nat.ne_of_gt (Nat.lt_succ_self _)
theorem ne1s' {a : Nat} : @Ne Nat a (a + 1) := Nat.ne_of_lt (Nat.lt_succ_self _)
theorem ne2s {a : Nat} : @Ne Nat (a + 1 + 1) a := Nat.ne_of_gt (Nat.lt_succ_of_lt (Nat.lt_succ_self _))
theorem ne2s' {a : Nat} : @Ne Nat a (a + 1 + 1) := Nat.ne_of_lt (Nat.lt_succ_of_lt (Nat.lt_succ_self _))
theorem neT {a x d : Nat} {o : Obj} {l : List (Addr × Obj)} (hx : x < d) (h : AllLt x l) (m : (a, o) ∈ l) : @Ne Nat a d := Nat.ne_of_lt (Nat.lt_trans (aLt_mem h _ m) hx)
theorem neU {a x d : Nat} {o : Obj} {l : List (Addr × Obj)} (hx : x < d) (h : AllLt x l) (m : (a, o) ∈ l) : @Ne Nat d a := Nat.ne_of_gt (Nat.lt_trans (aLt_mem h _ m) hx)
end T8
local macro_rules | `(tactic| k_lt $h:ident) => `(tactic| (replace $h := allLt_of $h; try dsimp only [List.cons_append, List.nil_append] at $h:ident))
section T9
example : True := by
  k_with "m ne" => (
(refine neN ?_; (try dsimp only); first
  | with_reducible assumption
  | exact Ne.symm (by with_reducible assumption)
  | exact ne1s | exact ne1s' | exact ne2s | exact ne2s'
  | exact neL (by with_reducible assumption) (by (repeat (first | exact List.Mem.head _ | refine List.Mem.tail _ ?_)))
  | exact neG (by with_reducible assumption) (by (repeat (first | exact List.Mem.head _ | refine List.Mem.tail _ ?_)))
  | exact neA (by with_reducible assumption) (by (repeat (first | exact List.Mem.head _ | refine List.Mem.tail _ ?_)))
  | exact neB (by with_reducible assumption) (by (repeat (first | exact List.Mem.head _ | refine List.Mem.tail _ ?_)))
  | exact Nat.ne_of_lt (by with_reducible assumption)
  | exact Nat.ne_of_gt (by with_reducible assumption)
  | exact neT (by with_reducible assumption) (by with_reducible assumption) (by (repeat (first | exact List.Mem.head _ | refine List.Mem.tail _ ?_)))
  | exact neU (by with_reducible assumption) (by with_reducible assumption) (by (repeat (first | exact List.Mem.head _ | refine List.Mem.tail _ ?_)))
  | omega)
    )
  trivial
end T9
local macro_rules | `(tactic| k_ne) => `(tactic| walk_at "m ne")
section T10
theorem allL {D : Nat} {l tl : List (Addr × Obj)} (h : AllLt D l) (m : ∀ p ∈ tl, p ∈ l) : ∀ p ∈ tl, @Ne Nat p.1 D := fun p hp => Nat.ne_of_lt (aLt_mem h p (m p hp))
theorem allA {D : Nat} {l tl : List (Addr × Obj)} (h : AllNe D l) (m : ∀ p ∈ tl, p ∈ l) : ∀ p ∈ tl, @Ne Nat p.1 D := fun p hp => aNe_mem h p (m p hp)
theorem allT {x D : Nat} {l tl : List (Addr × Obj)} (hx : x < D) (h : AllLt x l) (m : ∀ p ∈ tl, p ∈ l) : ∀ p ∈ tl, @Ne Nat p.1 D := fun p hp => Nat.ne_of_lt (Nat.lt_trans (aLt_mem h p (m p hp)) hx)
example : True := by
  k_with "m in" => (
first | with_reducible assumption | (refine List.mem_cons_of_mem _ ?_; walk_at "m in") | (refine List.mem_append_left _ ?_; walk_at "m in") | (refine List.mem_append_right _ ?_; walk_at "m in")
    )
  k_with "m all" => (
first
  | exact List.forall_mem_nil _
  | (refine List.forall_mem_cons.mpr (And.intro ?_ ?_); (focus k_ne); k_all)
  | exact allL (by with_reducible assumption) (by intro p9 hp9; walk_at "m in")
  | exact allA (by with_reducible assumption) (by intro p9 hp9; walk_at "m in")
  | exact allT (by with_reducible assumption) (by with_reducible assumption) (by intro p9 hp9; walk_at "m in")
  | (refine List.forall_mem_append.mpr (And.intro ?_ ?_); (focus k_all); k_all)
    )
  trivial
end T10
local macro_rules | `(tactic| k_all) => `(tactic| walk_at "m all")
section T11
example : True := by
  w_top off
  trivial
example : True := by
  k_with "m steps" => (
repeat' (first | (k_unfold; (try dsimp only)) | (k_end; wrow_close) | ((with_reducible show wpAny _ _ (exec _ _) _ _ _); k_fold) | walk1 | (dsimp only; walk1) | (leave1; walk_say "STEP leave1"; try dsimp only) | fail "no step")
    )
  trivial
end T11
section T12
example : True := by
  w_top off
  trivial
theorem fill3 : PySem.Challenge.rw_pe0125_01 = PySem.Challenge.rw_pe0125_01 ∧ hd.heap_39 = hd.heap_39 := by
  k_fill
  exact ⟨rfl, rfl⟩

noncomputable def innerOf (y : Int) : Bool := placeOf y == Str.ofString "~" && lineNo y == 0
noncomputable def refusedOf (y : Int) : Bool := (List.any [4, 5, 7] fun x => x == Int.fmod y 8) || (Int.fmod y 8 == 6 && !innerOf y)
noncomputable def failText (z : Str) : Str := Str.ofString "{" ++ z ++ Str.ofString " func_std_string() failed}"
noncomputable def wholeText (y : Int) : Str := placeOf y ++ Str.ofString ":" ++ Str.ofString (toString (lineNo y)) ++ Str.ofString "(" ++ nameOf y ++ Str.ofString ")"
noncomputable def lineText (y : Int) (z : Str) : Str := if refusedOf y then failText z else if innerOf y then (if nameOf y == Str.ofString "<g>" then Str.ofString "{g}" else nameOf y) else wholeText y
section
variable {y : Int} {z : Str}
theorem lt_1 (h : (List.any [4, 5, 7] fun x => x == Int.fmod y 8) = true) : lineText y z = failText z ∧ refusedOf y = true := by
  have e : refusedOf y = true := by unfold refusedOf; rw [h]; rfl
  exact ⟨by unfold lineText; rw [if_pos e], e⟩
theorem lt_b (h : (Int.fmod y 8 == 6 && !(placeOf y == Str.ofString "~" && lineNo y == 0)) = true) : lineText y z = failText z ∧ refusedOf y = true := by
  have e : refusedOf y = true := by unfold refusedOf innerOf; rw [h, Bool.or_true]
  exact ⟨by unfold lineText; rw [if_pos e], e⟩
theorem no_b (h : (List.any [4, 5, 7] fun x => x == Int.fmod y 8) = false) (h6 : (Int.fmod y 8 == 6 && !(placeOf y == Str.ofString "~" && lineNo y == 0)) = false) : refusedOf y = false := by
  unfold refusedOf innerOf; rw [h, h6]; rfl
theorem lt_4 (h : (List.any [4, 5, 7] fun x => x == Int.fmod y 8) = false) (h6 : (Int.fmod y 8 == 6 && !(placeOf y == Str.ofString "~" && lineNo y == 0)) = false) (hi : (placeOf y == Str.ofString "~" && lineNo y == 0) = true) (hn : (nameOf y == Str.ofString "<g>") = true) : lineText y z = Str.ofString "{g}" ∧ refusedOf y = false := by
  have e := no_b h h6
  have i : innerOf y = true := hi
  exact ⟨by unfold lineText; rw [e, if_neg Bool.false_ne_true, if_pos i, if_pos hn], e⟩
theorem lt_5 (h : (List.any [4, 5, 7] fun x => x == Int.fmod y 8) = false) (h6 : (Int.fmod y 8 == 6 && !(placeOf y == Str.ofString "~" && lineNo y == 0)) = false) (hi : (placeOf y == Str.ofString "~" && lineNo y == 0) = true) (hn : (nameOf y == Str.ofString "<g>") = false) : lineText y z = nameOf y ∧ refusedOf y = false := by
  have e := no_b h h6
  have i : innerOf y = true := hi
  exact ⟨by unfold lineText; rw [e, if_neg Bool.false_ne_true, if_pos i, hn, if_neg Bool.false_ne_true], e⟩
theorem lt_6 (h : (List.any [4, 5, 7] fun x => x == Int.fmod y 8) = false) (h6 : (Int.fmod y 8 == 6 && !(placeOf y == Str.ofString "~" && lineNo y == 0)) = false) (hi : (placeOf y == Str.ofString "~" && lineNo y == 0) = false) : lineText y z = wholeText y ∧ refusedOf y = false := by
  have e := no_b h h6
  have i : innerOf y = false := hi
  exact ⟨by unfold lineText; rw [e, if_neg Bool.false_ne_true, i, if_neg Bool.false_ne_true], e⟩
noncomputable def BoolAt (b : Bool) (s : Shared) (v : Value) (s₁ : Shared) : Prop := v = .bool b ∧ ∃ tk, s₁ = { s with toks := tk }
noncomputable def TrueAt (b : Bool) (s : Shared) (c : Bool) (s₁ : Shared) : Prop := c = b ∧ ∃ tk, s₁ = { s with toks := tk }
noncomputable def Line3 : Prop := True
section
variable {prog : Program} {w : World} {A : Around} {E : Value → Shared → Prop} {s : Shared} {env : Env} {e1 e2 : Expr} {pos : Pos} {b1 b2 : Bool}
theorem and2 {Q : Value → Shared → Prop} (h1 : wpAny (model prog w) A (eval e1 env) (BoolAt b1 s) E s) (h2 : ∀ tk, wpAny (model prog w) A (eval e2 env) (BoolAt b2 s) E { s with toks := tk }) (h : ∀ tk, Q (.bool (b1 && b2)) { s with toks := tk }) :
    wpAny (model prog w) A (eval (.BoolOp .And [e1, e2] pos) env) Q E s := by
  refine BoolOp_and (wpAny_mono h1 (fun v s1 he => ?_) fun _ _ x => x)
  obtain ⟨rfl, tk, rfl⟩ := he
  refine wpAny_truthy_bool ?_
  cases b1 with
  | false => rw [if_neg Bool.false_ne_true]; exact h tk
  | true =>
    rw [if_pos rfl]
    refine BoolOp_one (wpAny_mono (h2 tk) (fun v s2 he => ?_) fun _ _ x => x)
    obtain ⟨rfl, tk2, rfl⟩ := he
    exact h tk2
theorem and2T {Q : Bool → Shared → Prop} {whole : Sem Value} (h1 : wpAny (model prog w) A (isTrue e1 env (eval e1 env)) (TrueAt b1 s) E s) (h2 : ∀ tk, wpAny (model prog w) A (isTrue e2 env (eval e2 env)) (TrueAt b2 s) E { s with toks := tk }) (h : ∀ tk, Q (b1 && b2) { s with toks := tk }) :
    wpAny (model prog w) A (isTrue (.BoolOp .And [e1, e2] pos) env whole) Q E s := by
  refine isTrue_and (wpAny_mono h1 (fun v s1 he => ?_) fun _ _ x => x)
  obtain ⟨rfl, tk, rfl⟩ := he
  cases v with
  | false => rw [if_neg Bool.false_ne_true]; exact h tk
  | true =>
    rw [if_pos rfl]
    refine isTrue_and (wpAny_mono (h2 tk) (fun v s2 he => ?_) fun _ _ x => x)
    obtain ⟨rfl, tk2, rfl⟩ := he
    cases v with
    | false => rw [if_neg Bool.false_ne_true]; exact h tk2
    | true => rw [if_pos rfl]; exact isTrue_and_nil (h tk2)
end
example : True := by
  k_with "BoolAt" => (
exact ⟨rfl, _, rfl⟩
    )
  k_with "TrueAt" => (
exact ⟨rfl, _, rfl⟩
    )
  k_with "eval BoolOp" => (
(k_here; (with_reducible rename Line3 => hL9); (with_reducible refine and2 (b1 := placeOf y == Str.ofString "~") (b2 := lineNo y == 0) ?_ ?_ ?_); (all_goals (try intro tk9)))
    )
  k_with "isTrue BoolOp" => (
(k_here; (with_reducible rename Line3 => hL9); (with_reducible refine and2T (b1 := Int.fmod y 8 == 6) (b2 := !(placeOf y == Str.ofString "~" && lineNo y == 0)) ?_ ?_ ?_); (all_goals (try intro tk9)))
    )
  trivial
end

section
variable {prog : Program} {w : World} {A₀ A : Around} {s : Shared} {base h₀ : Heap} {outer : List Env} {L : Addr} {m mg mb : Str → Option Value} {mean : ExcName → Option Value} {tp : Program} {tl₀ : List Str} {env : Env} {Q E : Value → Shared → Prop} {news : List (Addr × Obj)}

set_option maxHeartbeats 8000000 in
theorem line_at {y : Int} {t u : Tok} {z : Str} (B : Below A₀ base outer h₀) (F : Fr h₀ L s.heap m) (X : (hd.heap_39 w.params).In h₀) (T : Top tp tl₀ mean mg mb h₀) (hf : env.frame = some L) (hk : env.scope.kind = .function)
   (hy : 0 ≤ y) (hy2 : y < 1000000) (hz : z.length ≤ 1000)
   (h : ∀ a t1 h' tk, Ext s.heap h' → s.heap.get? a = none → h'.get? a = some (tupO [.str (lineText y z) t1, .bool (refusedOf y)]) → Q (.ref a) { s with heap := h', toks := tk }) :
   wpAny (model prog w) (AT 590 990 env outer) (call (.ref 106) [.int y t, .str z u]) Q E s := by
  have hp1 := placeOf_len y
  have hn1 := nameOf_len y
  obtain ⟨hl0, hl1⟩ := lineNo_bounds hy hy2
  have hL3 : Line3 := True.intro
  walk_at "m enter"
  walk_at "m steps"
  all_goals (
       have cl := close0 (by with_reducible assumption) (by with_reducible assumption) (by with_reducible assumption)
       first
         | (have e12 := lt_1 (z := z) (by with_reducible assumption); rw [e12.1, e12.2] at h)
         | (have e12 := lt_b (z := z) (by with_reducible assumption); rw [e12.1, e12.2] at h)
         | (have e12 := lt_4 (z := z) (by with_reducible assumption) (by with_reducible assumption) (by with_reducible assumption) (by with_reducible assumption); rw [e12.1, e12.2] at h)
         | (have e12 := lt_5 (z := z) (by with_reducible assumption) (by with_reducible assumption) (by with_reducible assumption) (by with_reducible assumption); rw [e12.1, e12.2] at h)
         | (have e12 := lt_6 (z := z) (by with_reducible assumption) (by with_reducible assumption) (by with_reducible assumption); rw [e12.1, e12.2] at h)
       exact h _ _ _ _ cl.1 (cl.2 _ _ (List.Mem.head _)).1 (cl.2 _ _ (List.Mem.head _)).2)
theorem line_use {y : Int} {t u : Tok} {z : Str} (B : Below A₀ base outer h₀) (F : Fr h₀ L s.heap m) (X : (hd.heap_39 w.params).In h₀) (N : News h₀ L s.heap news) (T : Top tp tl₀ mean mg mb h₀) (hA : A.frames = some (env :: outer)) (hf : env.frame = some L) (hk : env.scope.kind = .function)
   (hh : A.handled = none) (hg : A.guards = some []) (hd : A.depth ≤ 590) (hu : A.units ≤ 990) (hy : 0 ≤ y) (hy2 : y < 1000000) (hz : z.length ≤ 1000)
   (h : ∀ a t1 h' tk, Fr h₀ L h' m → News h₀ L h' ((a, tupO [.str (lineText y z) t1, .bool (refusedOf y)]) :: news) → (∀ p ∈ news, p.1 ≠ a) → Q (.ref a) { s with heap := h', toks := tk }) :
   wpAny (model prog w) A (call (.ref 106) [.int y t, .str z u]) Q E s :=
  wpAny_le (line_at B F X T hf hk hy hy2 hz fun a t1 h' tk x n o => h a t1 h' tk (x.fr F) (x.cons F N n o) (News.ne N n)) hh hA hg hd hu
end
end T12
section T13
example : True := by
  w_top off
  trivial
theorem fill4 : PySem.Challenge.rw_pe0125_01 = PySem.Challenge.rw_pe0125_01 ∧ hd.heap_39 = hd.heap_39 := by
  k_fill
  exact ⟨rfl, rfl⟩

noncomputable def bareGo : List Int → List Int → List Int
  | k, [] => k
  | k, c :: r => if c = 58 ∨ c = 10 then k else bareGo (if c = 46 then [] else k ++ [c]) r
noncomputable def bareOf (x : Str) : Str := KStt.txt (bareGo [] (KStt.codes x))
noncomputable def BareInv (pre : List Int) (kept : Str) : Prop := ∀ r, bareGo [] (pre ++ r) = bareGo (KStt.codes kept) r
theorem bi_nil : (Str.ofString "").length ≤ ([] : List Int).length ∧ BareInv [] (Str.ofString "") := by
  have e : KStt.codes (Str.ofString "") = [] := by decide +kernel
  exact ⟨by decide +kernel, fun r => by rw [e]; rfl⟩
theorem stop_no {n : Nat} (h : List.isEmpty (Builtin.Str.occurrences (Str.ofString ":\n") (Str.mk #[n]) 0 (Str.length (Str.ofString ":\n")) 1) = true) : ¬ ((n : Int) = 58 ∨ (n : Int) = 10) := by
  have e := StrLaws.found_one (Str.ofString ":\n") n
  rw [h] at e
  have e2 : (Str.ofString ":\n").cps.toList = [58, 10] := by decide +kernel
  rw [e2] at e
  have e3 : ¬ n ∈ [58, 10] := by
    intro q
    rw [decide_eq_true q] at e
    cases e
  simp only [List.mem_cons, List.not_mem_nil, or_false, not_or] at e3
  omega
theorem stop_yes {n : Nat} (h : List.isEmpty (Builtin.Str.occurrences (Str.ofString ":\n") (Str.mk #[n]) 0 (Str.length (Str.ofString ":\n")) 1) = false) : (n : Int) = 58 ∨ (n : Int) = 10 := by
  have e := StrLaws.found_one (Str.ofString ":\n") n
  rw [h] at e
  have e2 : (Str.ofString ":\n").cps.toList = [58, 10] := by decide +kernel
  rw [e2] at e
  have e3 : n ∈ [58, 10] := of_decide_eq_true e.symm
  simp only [List.mem_cons, List.not_mem_nil, or_false] at e3
  omega
theorem dot_yes {n : Nat} (h : (Str.mk #[n] == Str.ofString ".") = true) : (n : Int) = 46 := by
  have e := eq_of_beq h
  have e2 : Str.ofString "." = Str.mk #[46] := by decide +kernel
  rw [e2] at e
  injection e with e
  have : [n] = [46] := congrArg Array.toList e
  simp at this
  omega
theorem dot_no {n : Nat} (h : (Str.mk #[n] == Str.ofString ".") = false) : (n : Int) ≠ 46 := by
  intro q
  have : n = 46 := by omega
  subst this
  have e2 : Str.ofString "." = Str.mk #[46] := by decide +kernel
  rw [e2] at h
  simp at h
theorem codes_append (a b : Str) : KStt.codes (a ++ b) = KStt.codes a ++ KStt.codes b := by
  unfold KStt.codes
  rw [Str.cps_append, Array.toList_append, List.map_append]
theorem codes_one (n : Nat) : KStt.codes (Str.mk #[n]) = [(n : Int)] := rfl
theorem bi_dot {pre : List Int} {n : Nat} {kept : Str} (hl : kept.length ≤ pre.length) (h : BareInv pre kept) (h1 : List.isEmpty (Builtin.Str.occurrences (Str.ofString ":\n") (Str.mk #[n]) 0 (Str.length (Str.ofString ":\n")) 1) = true) (h2 : (Str.mk #[n] == Str.ofString ".") = true) :
    (Str.ofString "").length ≤ (pre ++ [(n : Int)]).length ∧ BareInv (pre ++ [(n : Int)]) (Str.ofString "") := by
  have e : KStt.codes (Str.ofString "") = [] := by decide +kernel
  have e0 : (Str.ofString "").length = 0 := by decide +kernel
  refine ⟨by rw [e0]; exact Nat.zero_le _, fun r => ?_⟩
  rw [List.append_assoc, List.singleton_append, h, e, bareGo, if_neg (stop_no h1), if_pos (dot_yes h2)]
theorem bi_add {pre : List Int} {n : Nat} {kept : Str} (hl : kept.length ≤ pre.length) (h : BareInv pre kept) (h1 : List.isEmpty (Builtin.Str.occurrences (Str.ofString ":\n") (Str.mk #[n]) 0 (Str.length (Str.ofString ":\n")) 1) = true) (h2 : (Str.mk #[n] == Str.ofString ".") = false) :
    (kept ++ Str.mk #[n]).length ≤ (pre ++ [(n : Int)]).length ∧ BareInv (pre ++ [(n : Int)]) (kept ++ Str.mk #[n]) := by
  have e0 : (Str.mk #[n]).length = 1 := rfl
  refine ⟨by rw [Str.length_append, e0, List.length_append, List.length_singleton]; omega, fun r => ?_⟩
  rw [List.append_assoc, List.singleton_append, h, bareGo, if_neg (stop_no h1), if_neg (dot_no h2), codes_append, codes_one]
theorem bare_stop {x kept : Str} {pre post : List Int} {n : Nat} (h : BareInv pre kept) (e : KStt.codes x = pre ++ (n : Int) :: post) (h1 : List.isEmpty (Builtin.Str.occurrences (Str.ofString ":\n") (Str.mk #[n]) 0 (Str.length (Str.ofString ":\n")) 1) = false) : bareOf x = kept := by
  unfold bareOf
  rw [e, h, bareGo, if_pos (stop_yes h1), KStt.txt_codes]
theorem bare_end {x kept : Str} (h : BareInv (KStt.codes x) kept) : bareOf x = kept := by
  unfold bareOf
  have := h []
  rw [List.append_nil] at this
  rw [this, bareGo, KStt.txt_codes]
theorem close1 {g h h' : Heap} {L' : Addr} {m' : Str → Option Value} (F' : Fr g L' h' m') (hg : g = h) : Ext h h' := by
  subst hg
  exact F'.keep
section
variable {prog : Program} {w : World} {A₀ A : Around} {s : Shared} {base h₀ : Heap} {outer : List Env} {L : Addr} {m mg mb : Str → Option Value} {mean : ExcName → Option Value} {tp : Program} {tl₀ : List Str} {env : Env} {Q E : Value → Shared → Prop} {news : List (Addr × Obj)}

set_option maxHeartbeats 1000000 in
theorem bare_at {x : Str} {t : Tok} (B : Below A₀ base outer h₀) (F : Fr h₀ L s.heap m) (X : (hd.heap_39 w.params).In h₀) (T : Top tp tl₀ mean mg mb h₀) (hf : env.frame = some L) (hk : env.scope.kind = .function)
   (hx : x.length ≤ 10000)
   (h : ∀ t1 h' tk, Ext s.heap h' → Q (.str (bareOf x) t1) { s with heap := h', toks := tk }) :
   wpAny (model prog w) (AT 600 1000 env outer) (call (.ref 113) [.str x t]) Q E s := by
  k_with "pyIter str" => k_state (fun pre kept => kept.length ≤ pre.length ∧ BareInv pre kept) "kept"
  k_with "state" => first | exact bi_nil | exact bi_dot (by with_reducible assumption) (by with_reducible assumption) (by with_reducible assumption) (by with_reducible assumption) | exact bi_add (by with_reducible assumption) (by with_reducible assumption) (by with_reducible assumption) (by with_reducible assumption)
  walk_at "m enter"
  walk_at "m steps"
  · have e := bare_stop (x := x) (by with_reducible assumption) (by with_reducible assumption) (by with_reducible assumption)
    rw [e] at h
    exact h _ _ _ (close1 (by assumption) (by assumption))
  · have e := bare_end (x := x) (by with_reducible assumption)
    rw [e] at h
    exact h _ _ _ (close1 (by assumption) (by assumption))
end
end T13
section T14
example : True := by
  w_top off
  trivial
theorem fill5 : PySem.Challenge.rw_pe0125_01 = PySem.Challenge.rw_pe0125_01 ∧ hd.heap_39 = hd.heap_39 := by
  k_fill
  exact ⟨rfl, rfl⟩

open PySem.Builtin PySem.Builtin.Str in
theorem first_spec (x : Str) (c hi : Nat) (hh : hi ≤ x.length) :
    (occurrences x ⟨#[c]⟩ 0 hi 1 = [] ∧ ∀ i, i < hi → x.cps.toList[i]? ≠ some c) ∨
    ∃ i r, occurrences x ⟨#[c]⟩ 0 hi 1 = i :: r ∧ i < hi ∧ x.cps.toList[i]? = some c ∧ ∀ k, k < i → x.cps.toList[k]? ≠ some c := by
  have at1 : ∀ i, StrLaws.At x ⟨#[c]⟩ hi i ↔ (i < hi ∧ x.cps.toList[i]? = some c) := fun i => by
    have q := StrLaws.subAt_one x c i
    have e1 : (⟨#[c]⟩ : Str).length = 1 := rfl
    constructor
    · rintro ⟨h1, h2⟩
      rw [e1] at h1
      exact ⟨by omega, q.mp ⟨by rw [e1]; omega, h2⟩⟩
    · rintro ⟨h1, h2⟩
      exact ⟨by rw [e1]; omega, (q.mpr h2).2⟩
  rw [StrLaws.occ_eq]
  rcases StrLaws.occ_first x ⟨#[c]⟩ hi 1 (Nat.le_refl 1) (List.range' 0 (hi + 1 - 0)) 0 (fun i _ => Nat.zero_le i) with ⟨h0, hn⟩ | ⟨pre, a, post, e, h0, ha, hn⟩
  · refine .inl ⟨by rw [h0], fun i hi' hc => ?_⟩
    exact hn i (by rw [List.mem_range'_1]; omega) ((at1 i).mpr ⟨hi', hc⟩)
  · have hs := StrLaws.range'_split_from e
    have ha' := (at1 a).mp ha
    refine .inr ⟨a, ((forIn (List.range' 0 (hi + 1 - 0)) ((#[] : Array Nat), 0) (StrLaws.occBody x ⟨#[c]⟩ hi 1)).run.fst.toList).tail, ?_, ha'.1, ha'.2, fun k hk hc => hn k (hs.2 k (Nat.zero_le _) hk) ((at1 k).mpr ⟨by omega, hc⟩)⟩
    generalize (forIn (List.range' 0 (hi + 1 - 0)) ((#[] : Array Nat), 0) (StrLaws.occBody x ⟨#[c]⟩ hi 1)).run.fst = arr at h0
    have h1 : arr.toList[0]? = some a := by simpa using h0
    cases hL : arr.toList with
    | nil => rw [hL] at h1; cases h1
    | cons b t => rw [hL] at h1; simp at h1; rw [h1]; rfl
open PySem.Builtin PySem.Builtin.Str in
theorem last_spec (x : Str) (c hi : Nat) (hh : hi ≤ x.length) :
    (lastOccurrence x ⟨#[c]⟩ 0 hi = none ∧ ∀ i, i < hi → x.cps.toList[i]? ≠ some c) ∨
    ∃ i, lastOccurrence x ⟨#[c]⟩ 0 hi = some i ∧ i < hi ∧ x.cps.toList[i]? = some c ∧ ∀ k, i < k → k < hi → x.cps.toList[k]? ≠ some c := by
  have at1 : ∀ i, StrLaws.At x ⟨#[c]⟩ hi i ↔ (i < hi ∧ x.cps.toList[i]? = some c) := fun i => by
    have q := StrLaws.subAt_one x c i
    have e1 : (⟨#[c]⟩ : Str).length = 1 := rfl
    constructor
    · rintro ⟨h1, h2⟩
      rw [e1] at h1
      exact ⟨by omega, q.mp ⟨by rw [e1]; omega, h2⟩⟩
    · rintro ⟨h1, h2⟩
      exact ⟨by rw [e1]; omega, (q.mpr h2).2⟩
  rw [StrLaws.last_eq]
  have key := StrLaws.last_run x ⟨#[c]⟩ hi (List.range' 0 (hi + 1 - 0)) [] none (fun _ h => nomatch h) (fun _ h => nomatch h) (by simpa using List.pairwise_lt_range' (s := 0) (n := hi + 1 - 0))
  have mem : ∀ i, StrLaws.At x ⟨#[c]⟩ hi i → i ∈ [] ++ List.range' 0 (hi + 1 - 0) := fun i hi' => by have := ((at1 i).mp hi').1; simp [List.mem_range'] <;> omega
  cases hr : (forIn (List.range' 0 (hi + 1 - 0)) none (StrLaws.lastBody x ⟨#[c]⟩ hi)).run with
  | none => rw [hr] at key; exact .inl ⟨rfl, fun i hi' hc => key i (mem i ((at1 i).mpr ⟨hi', hc⟩)) ((at1 i).mpr ⟨hi', hc⟩)⟩
  | some a => rw [hr] at key; exact .inr ⟨a, rfl, ((at1 a).mp key.1).1, ((at1 a).mp key.1).2, fun k hk hk2 hc => key.2 k (mem k ((at1 k).mpr ⟨hk2, hc⟩)) hk ((at1 k).mpr ⟨hk2, hc⟩)⟩

theorem fromIndex_zero (n : Nat) : fromIndex n 0 = 0 := by unfold fromIndex; simp
theorem fromIndex_nat (n e : Nat) (h : e ≤ n) : min (fromIndex n (e : Int)) n = e := by
  unfold fromIndex
  rw [if_neg (Int.not_lt.mpr (Int.natCast_nonneg e)), Int.max_eq_right (Int.natCast_nonneg e), Int.toNat_natCast, Nat.min_eq_left h]
theorem find_line (x : Str) : (Txt.find x (Str.ofString "\n") = -1 ∧ ∀ i, i < x.length → x.cps.toList[i]? ≠ some 10) ∨
    ∃ i : Nat, Txt.find x (Str.ofString "\n") = i ∧ i < x.length ∧ x.cps.toList[i]? = some 10 ∧ ∀ k, k < i → x.cps.toList[k]? ≠ some 10 := by
  have e : Str.ofString "\n" = ⟨#[10]⟩ := by decide +kernel
  rw [e]
  unfold Txt.find
  rcases first_spec x 10 x.length (Nat.le_refl _) with ⟨h0, h⟩ | ⟨i, r, h0, h1, h2, h3⟩
  · rw [h0]; exact .inl ⟨rfl, h⟩
  · rw [h0]; exact .inr ⟨i, rfl, h1, h2, h3⟩
theorem find4_spec (x : Str) (e : Nat) (he : e ≤ x.length) : (find4 x (Str.ofString ":") 0 (e : Int) = -1 ∧ ∀ i, i < e → x.cps.toList[i]? ≠ some 58) ∨
    ∃ i : Nat, find4 x (Str.ofString ":") 0 (e : Int) = i ∧ i < e ∧ x.cps.toList[i]? = some 58 ∧ ∀ k, k < i → x.cps.toList[k]? ≠ some 58 := by
  have e1 : Str.ofString ":" = ⟨#[58]⟩ := by decide +kernel
  rw [e1]
  unfold find4
  rw [fromIndex_zero, fromIndex_nat _ _ he]
  rcases first_spec x 58 e he with ⟨h0, h⟩ | ⟨i, r, h0, h1, h2, h3⟩
  · rw [h0]; exact .inl ⟨rfl, h⟩
  · rw [h0]; exact .inr ⟨i, rfl, h1, h2, h3⟩
theorem rfind4_spec (x : Str) (e : Nat) (he : e ≤ x.length) : (rfind4 x (Str.ofString ".") 0 (e : Int) = -1 ∧ ∀ i, i < e → x.cps.toList[i]? ≠ some 46) ∨
    ∃ i : Nat, rfind4 x (Str.ofString ".") 0 (e : Int) = i ∧ i < e ∧ x.cps.toList[i]? = some 46 ∧ ∀ k, i < k → k < e → x.cps.toList[k]? ≠ some 46 := by
  have e1 : Str.ofString "." = ⟨#[46]⟩ := by decide +kernel
  rw [e1]
  unfold rfind4
  rw [fromIndex_zero, fromIndex_nat _ _ he]
  rcases last_spec x 46 e he with ⟨h0, h⟩ | ⟨i, h0, h1, h2, h3⟩
  · rw [h0]; exact .inl ⟨rfl, h⟩
  · rw [h0]; exact .inr ⟨i, rfl, h1, h2, h3⟩

theorem bg_stop : ∀ (a k : List Int) (c : Int) (r : List Int), (∀ d ∈ a, ¬ (d = 58 ∨ d = 10)) → (c = 58 ∨ c = 10) → bareGo k (a ++ c :: r) = bareGo k a
  | [], k, c, r, _, hc => by rw [List.nil_append]; simp only [bareGo, if_pos hc]
  | d :: a, k, c, r, ha, hc => by
    rw [List.cons_append, bareGo, bareGo, if_neg (ha d (.head _)), if_neg (ha d (.head _))]
    exact bg_stop a _ c r (fun e he => ha e (.tail _ he)) hc
theorem bg_nodot : ∀ (a k : List Int), (∀ d ∈ a, ¬ (d = 58 ∨ d = 10)) → (∀ d ∈ a, d ≠ 46) → bareGo k a = k ++ a
  | [], k, _, _ => by rw [bareGo, List.append_nil]
  | d :: a, k, ha, hd => by
    rw [bareGo, if_neg (ha d (.head _)), if_neg (hd d (.head _)), bg_nodot a _ (fun e he => ha e (.tail _ he)) (fun e he => hd e (.tail _ he)), List.append_assoc, List.singleton_append]
theorem bg_dot : ∀ (b k d : List Int), (∀ e ∈ b, ¬ (e = 58 ∨ e = 10)) → (∀ e ∈ d, ¬ (e = 58 ∨ e = 10)) → (∀ e ∈ d, e ≠ 46) → bareGo k (b ++ 46 :: d) = d
  | [], k, d, _, h1, h2 => by
    rw [List.nil_append, bareGo, if_neg (by decide), if_pos rfl, bg_nodot d [] h1 h2, List.nil_append]
  | c :: b, k, d, h0, h1, h2 => by
    rw [List.cons_append, bareGo, if_neg (h0 c (.head _))]
    exact bg_dot b _ d (fun e he => h0 e (.tail _ he)) h1 h2
theorem bare_cut (l : List Nat) (st en : Nat) (hen : en ≤ l.length) (h1 : ∀ i, i < en → l[i]? ≠ some 58 ∧ l[i]? ≠ some 10) (h2 : en = l.length ∨ l[en]? = some 58 ∨ l[en]? = some 10)
    (h3 : (st = 0 ∧ ∀ i, i < en → l[i]? ≠ some 46) ∨ (0 < st ∧ st ≤ en ∧ l[st - 1]? = some 46 ∧ ∀ i, st ≤ i → i < en → l[i]? ≠ some 46)) :
    bareGo [] (l.map fun (c : Nat) => (c : Int)) = ((l.take en).drop st).map fun (c : Nat) => (c : Int) := by
  have hmem : ∀ (P : Nat → Prop), (∀ i c, i < en → l[i]? = some c → P c) → ∀ c ∈ l.take en, P c := by
    intro P hP c hc
    obtain ⟨i, hi, e⟩ := List.mem_iff_getElem.mp hc
    rw [List.length_take] at hi
    have : l[i]? = some c := by
      rw [List.getElem?_eq_getElem (by omega), ← e, List.getElem_take]
    exact hP i c (by omega) this
  have hns : ∀ d ∈ (l.take en).map (fun (c : Nat) => (c : Int)), ¬ (d = 58 ∨ d = 10) := by
    intro d hd
    obtain ⟨c, hc, rfl⟩ := List.mem_map.mp hd
    have := hmem (fun c => c ≠ 58 ∧ c ≠ 10) (fun i c hi e => ⟨fun q => (h1 i hi).1 (q ▸ e), fun q => (h1 i hi).2 (q ▸ e)⟩) c hc
    omega
  have hcut : bareGo [] (l.map fun (c : Nat) => (c : Int)) = bareGo [] ((l.take en).map fun (c : Nat) => (c : Int)) := by
    rcases h2 with h2 | h2
    · rw [h2, List.take_length]
    · have hlt : en < l.length := by
        rcases Nat.lt_or_ge en l.length with q | q
        · exact q
        · rw [List.getElem?_eq_none q] at h2
          rcases h2 with h2 | h2 <;> cases h2
      have hl : l = l.take en ++ l[en] :: l.drop (en + 1) := by
        rw [← List.drop_eq_getElem_cons hlt, List.take_append_drop]
      have hc : ((l[en] : Nat) : Int) = 58 ∨ ((l[en] : Nat) : Int) = 10 := by
        rw [List.getElem?_eq_getElem hlt] at h2
        rcases h2 with h2 | h2
        · left; have := Option.some.inj h2; omega
        · right; have := Option.some.inj h2; omega
      have e : (l.map fun (c : Nat) => (c : Int)) = ((l.take en).map fun (c : Nat) => (c : Int)) ++ (l[en] : Int) :: ((l.drop (en + 1)).map fun (c : Nat) => (c : Int)) := by
        have := congrArg (List.map fun (c : Nat) => (c : Int)) hl
        rwa [List.map_append, List.map_cons] at this
      rw [e, bg_stop _ _ _ _ hns hc]
  rw [hcut]
  rcases h3 with ⟨rfl, h3⟩ | ⟨hst, hse, h4, h5⟩
  · rw [List.drop_zero, bg_nodot _ _ hns, List.nil_append]
    intro d hd
    obtain ⟨c, hc, rfl⟩ := List.mem_map.mp hd
    have := hmem (fun c => c ≠ 46) (fun i c hi e q => h3 i hi (q ▸ e)) c hc
    omega
  · have hlt : st - 1 < (l.take en).length := by rw [List.length_take]; omega
    have hl : l.take en = (l.take en).take (st - 1) ++ (l.take en)[st - 1] :: (l.take en).drop st := by
      have q := List.drop_eq_getElem_cons hlt
      have e : st - 1 + 1 = st := by omega
      rw [e] at q
      rw [← q, List.take_append_drop]
    have hc : (l.take en)[st - 1] = 46 := by
      have : l[st - 1]? = some (l.take en)[st - 1] := by
        rw [List.getElem?_eq_getElem (by omega), List.getElem_take]
      rw [h4] at this
      exact (Option.some.inj this).symm
    have e : ((l.take en).map fun (c : Nat) => (c : Int)) = (((l.take en).take (st - 1)).map fun (c : Nat) => (c : Int)) ++ 46 :: (((l.take en).drop st).map fun (c : Nat) => (c : Int)) := by
      have q := congrArg (List.map fun (c : Nat) => (c : Int)) hl
      rw [List.map_append, List.map_cons, hc] at q
      exact q
    rw [e] at hns ⊢
    refine bg_dot _ _ _ (fun d hd => hns d (List.mem_append_left _ hd)) (fun d hd => hns d (List.mem_append_right _ (.tail _ hd))) ?_
    intro d hd
    obtain ⟨c, hc, rfl⟩ := List.mem_map.mp hd
    obtain ⟨i, hi, q⟩ := List.mem_iff_getElem.mp hc
    rw [List.length_drop, List.length_take] at hi
    have h6 : l[st + i]? = some c := by
      rw [List.getElem?_eq_getElem (by omega), ← q, List.getElem_drop, List.getElem_take]
    have := h5 (st + i) (by omega) (by omega)
    intro q2
    have : c = 46 := by omega
    exact h5 (st + i) (by omega) (by omega) (this ▸ h6)
theorem bare_slice {x : Str} {st en : Nat} (hse : st ≤ en) (hen : en ≤ x.length) (h1 : ∀ i, i < en → x.cps.toList[i]? ≠ some 58 ∧ x.cps.toList[i]? ≠ some 10) (h2 : en = x.length ∨ x.cps.toList[en]? = some 58 ∨ x.cps.toList[en]? = some 10)
    (h3 : (st = 0 ∧ ∀ i, i < en → x.cps.toList[i]? ≠ some 46) ∨ (0 < st ∧ st ≤ en ∧ x.cps.toList[st - 1]? = some 46 ∧ ∀ i, st ≤ i → i < en → x.cps.toList[i]? ≠ some 46)) :
    Txt.slice x (some (st : Int)) (some (en : Int)) = bareOf x := by
  have q := eq_of_beq (slice_closesL (x := x) (i := (st : Int)) (j := (en : Int)) (by omega) (by omega) (by omega))
  rw [q]
  unfold bareOf KStt.codes
  have hlen : x.cps.toList.length = x.length := by simp [Str.length]
  rw [bare_cut x.cps.toList st en (by rw [hlen]; exact hen) h1 (by rw [hlen]; exact h2) h3]
  unfold KStt.txt
  rw [List.map_map]
  have e : (Int.toNat ∘ fun (c : Nat) => (c : Int)) = id := by funext c; simp
  rw [e, List.map_id, List.drop_take]
  congr 3 <;> first | rfl | exact Int.toNat_sub _ _ | omega
theorem strip_law {x : Str} {r : Int} (hr : 0 ≤ Txt.find x (Str.ofString "\n") ∧ r = Txt.find x (Str.ofString "\n") ∨ ¬ 0 ≤ Txt.find x (Str.ofString "\n") ∧ r = (x.length : Int)) :
    (0 ≤ find4 x (Str.ofString ":") 0 r → 0 ≤ rfind4 x (Str.ofString ".") 0 (find4 x (Str.ofString ":") 0 r) → Txt.slice x (some (rfind4 x (Str.ofString ".") 0 (find4 x (Str.ofString ":") 0 r) + 1)) (some (find4 x (Str.ofString ":") 0 r)) = bareOf x) ∧
    (0 ≤ find4 x (Str.ofString ":") 0 r → ¬ 0 ≤ rfind4 x (Str.ofString ".") 0 (find4 x (Str.ofString ":") 0 r) → Txt.slice x (some 0) (some (find4 x (Str.ofString ":") 0 r)) = bareOf x) ∧
    (¬ 0 ≤ find4 x (Str.ofString ":") 0 r → 0 ≤ rfind4 x (Str.ofString ".") 0 r → Txt.slice x (some (rfind4 x (Str.ofString ".") 0 r + 1)) (some r) = bareOf x) ∧
    (¬ 0 ≤ find4 x (Str.ofString ":") 0 r → ¬ 0 ≤ rfind4 x (Str.ofString ".") 0 r → Txt.slice x (some 0) (some r) = bareOf x) := by
  have hN : ∃ e1 : Nat, r = (e1 : Int) ∧ e1 ≤ x.length ∧ (∀ i, i < e1 → x.cps.toList[i]? ≠ some 10) ∧ (e1 = x.length ∨ x.cps.toList[e1]? = some 10) := by
    rcases find_line x with ⟨h0, h⟩ | ⟨i, h0, h1, h2, h3⟩
    · rcases hr with ⟨q, _⟩ | ⟨_, rfl⟩
      · omega
      · exact ⟨x.length, rfl, Nat.le_refl _, h, .inl rfl⟩
    · rcases hr with ⟨_, rfl⟩ | ⟨q, _⟩
      · exact ⟨i, h0, by omega, h3, .inr h2⟩
      · omega
  obtain ⟨e1, rfl, he1, hn1, hn2⟩ := hN
  rcases find4_spec x e1 he1 with ⟨h0, h⟩ | ⟨e2, h0, h1, h2, h3⟩
  · refine ⟨fun q => by omega, fun q => by omega, fun _ => ?_, fun _ => ?_⟩
    · rcases rfind4_spec x e1 he1 with ⟨r0, r1⟩ | ⟨st, r0, r1, r2, r3⟩
      · exact fun q => by omega
      · intro _
        rw [r0]
        exact bare_slice (st := st + 1) (en := e1) (by omega) he1 (fun i hi => ⟨h i hi, hn1 i hi⟩) (hn2.imp_right .inr) (.inr ⟨by omega, by omega, r2, fun i hi hi2 => r3 i (by omega) hi2⟩)
    · rcases rfind4_spec x e1 he1 with ⟨r0, r1⟩ | ⟨st, r0, r1, r2, r3⟩
      · intro _
        exact bare_slice (st := 0) (en := e1) (by omega) he1 (fun i hi => ⟨h i hi, hn1 i hi⟩) (hn2.imp_right .inr) (.inl ⟨rfl, r1⟩)
      · exact fun q => by omega
  · rw [h0]
    refine ⟨fun _ => ?_, fun _ => ?_, fun q => by omega, fun q => by omega⟩
    · rcases rfind4_spec x e2 (by omega) with ⟨r0, r1⟩ | ⟨st, r0, r1, r2, r3⟩
      · exact fun q => by omega
      · intro _
        rw [r0]
        exact bare_slice (st := st + 1) (en := e2) (by omega) (by omega) (fun i hi => ⟨h3 i hi, hn1 i (by omega)⟩) (.inr (.inl h2)) (.inr ⟨by omega, by omega, r2, fun i hi hi2 => r3 i (by omega) hi2⟩)
    · rcases rfind4_spec x e2 (by omega) with ⟨r0, r1⟩ | ⟨st, r0, r1, r2, r3⟩
      · intro _
        exact bare_slice (st := 0) (en := e2) (by omega) (by omega) (fun i hi => ⟨h3 i hi, hn1 i (by omega)⟩) (.inr (.inl h2)) (.inl ⟨rfl, r1⟩)
      · exact fun q => by omega

section
variable {prog : Program} {w : World} {A₀ A : Around} {s : Shared} {base h₀ : Heap} {outer : List Env} {L : Addr} {m mg mb : Str → Option Value} {mean : ExcName → Option Value} {tp : Program} {tl₀ : List Str} {env : Env} {Q E : Value → Shared → Prop} {news : List (Addr × Obj)}

set_option maxHeartbeats 1000000 in
theorem strip_at {x : Str} {t : Tok} (B : Below A₀ base outer h₀) (F : Fr h₀ L s.heap m) (X : (hd.heap_39 w.params).In h₀) (T : Top tp tl₀ mean mg mb h₀) (hf : env.frame = some L) (hk : env.scope.kind = .function)
   (hx : x.length ≤ 10000)
   (h : ∀ t1 h' tk, Ext s.heap h' → Q (.str (bareOf x) t1) { s with heap := h', toks := tk }) :
   wpAny (model prog w) (AT 600 1000 env outer) (call (.ref 36) [.str x t]) Q E s := by
  walk_at "m enter"
  k_steps
  all_goals (
    have sl := strip_law (by with_reducible assumption)
    first
      | (have e := sl.1 (by with_reducible assumption) (by with_reducible assumption); rw [← e] at h)
      | (have e := sl.2.1 (by with_reducible assumption) (by with_reducible assumption); rw [← e] at h)
      | (have e := sl.2.2.1 (by with_reducible assumption) (by with_reducible assumption); rw [← e] at h)
      | (have e := sl.2.2.2 (by with_reducible assumption) (by with_reducible assumption); rw [← e] at h)
    exact h _ _ _ (close1 (by assumption) (by assumption)))
end
end T14
section T15
example : True := by
  w_top off
  trivial
theorem fill6 : PySem.Challenge.rw_pe0125_01 = PySem.Challenge.rw_pe0125_01 ∧ hd.heap_39 = hd.heap_39 := by
  k_fill
  exact ⟨rfl, rfl⟩

noncomputable def ellOf (x : Str) : Bool := Txt.startswith x (Str.ofString "{") && Txt.endswith x (Str.ofString "func_std_string() failed}") && decide (26 ≤ x.length)
theorem ell_1 {x : Str} (h : Txt.startswith x (Str.ofString "{") = false) : ellOf x = false := by unfold ellOf; rw [h]; rfl
theorem ell_2 {x : Str} (h : Txt.endswith x (Str.ofString "func_std_string() failed}") = false) : ellOf x = false := by unfold ellOf; rw [h, Bool.and_false]; rfl
theorem ell_3 {x : Str} (h : ((x.length : Nat) : Int) - ((25 : Nat) : Int) < ((1 : Nat) : Int)) : ellOf x = false := by
  unfold ellOf
  have : ¬ 26 ≤ x.length := by omega
  rw [decide_eq_false this, Bool.and_false]
theorem ell_4 {x : Str} (h1 : Txt.startswith x (Str.ofString "{") = true) (h2 : Txt.endswith x (Str.ofString "func_std_string() failed}") = true) (h : ¬ ((x.length : Nat) : Int) - ((25 : Nat) : Int) < ((1 : Nat) : Int)) : ellOf x = true := by
  unfold ellOf
  have : 26 ≤ x.length := by omega
  rw [h1, h2, decide_eq_true this]; rfl

section
variable {prog : Program} {w : World} {A₀ A : Around} {s : Shared} {base h₀ : Heap} {outer : List Env} {L : Addr} {m mg mb : Str → Option Value} {mean : ExcName → Option Value} {tp : Program} {tl₀ : List Str} {env : Env} {Q E : Value → Shared → Prop} {news : List (Addr × Obj)}

set_option maxHeartbeats 1000000 in
theorem ell_at {x : Str} {t u : Tok} (B : Below A₀ base outer h₀) (F : Fr h₀ L s.heap m) (X : (hd.heap_39 w.params).In h₀) (T : Top tp tl₀ mean mg mb h₀) (hf : env.frame = some L) (hk : env.scope.kind = .function)
   (hx : x.length ≤ 10000)
   (h : ∀ h' tk, Ext s.heap h' → Q (.bool (ellOf x)) { s with heap := h', toks := tk }) :
   wpAny (model prog w) (AT 600 1000 env outer) (call (.ref 29) [.str (Str.ofString "{...func_std_string() failed}") u, .str x t]) Q E s := by
  walk_at "m enter"
  walk_at "m steps"
  all_goals (first
    | exact (0 : Int)
    | exact absurd (by with_reducible assumption) (List.not_mem_nil)
    | exact absurd (by with_reducible assumption : List.isEmpty (Builtin.Str.occurrences (Str.ofString "{...func_std_string() failed}") (Str.ofString "...") 0 (Str.length (Str.ofString "{...func_std_string() failed}")) 1) = true) (by decide +kernel)
    | (have e := ell_4 (by with_reducible assumption) (by with_reducible assumption) (by with_reducible assumption)
       rw [e] at h
       exact h _ _ (close1 (by assumption) (by assumption)))
    | (have e := ell_1 (by with_reducible assumption)
       rw [e] at h
       exact h _ _ (close1 (by assumption) (by assumption)))
    | (have e := ell_2 (by with_reducible assumption)
       rw [e] at h
       exact h _ _ (close1 (by assumption) (by assumption)))
    | (have e := ell_3 (by with_reducible assumption)
       rw [e] at h
       exact h _ _ (close1 (by assumption) (by assumption))))
end
end T15
section T16
example : True := by
  w_top off
  trivial
theorem fill2 : PySem.Challenge.rw_pe0125_01 = PySem.Challenge.rw_pe0125_01 ∧ hd.heap_39 = hd.heap_39 := by
  k_fill
  exact ⟨rfl, rfl⟩

noncomputable def thingObj (y : Int) (t1 t2 t3 t4 : Tok) : Obj :=
  if Int.fmod y 8 = 4 then tupO [.str (placeOf y) t1, .int (lineNo y) t2]
  else if Int.fmod y 8 = 5 then { cls := .type "list", data := .seq [.str (placeOf y) t1, .int (lineNo y) t2, .str (nameOf y) t3].toArray }
  else if Int.fmod y 8 = 6 then tupO [.str (placeOf y) t1, .int (lineNo y) t2, .str (nameOf y) t3, .str (Str.ofString "x") t4]
  else if Int.fmod y 8 = 7 then tupO [.str (placeOf y) t1, .str (nameOf y) t3, .int (lineNo y) t2]
  else tupO [.str (placeOf y) t1, .int (lineNo y) t2, .str (nameOf y) t3]

section
variable {prog : Program} {w : World} {A₀ A : Around} {s : Shared} {base h₀ : Heap} {outer : List Env} {L : Addr} {m mg mb : Str → Option Value} {mean : ExcName → Option Value} {tp : Program} {tl₀ : List Str} {env : Env} {Q E : Value → Shared → Prop} {news : List (Addr × Obj)}

set_option maxHeartbeats 8000000 in
theorem thing_at {y : Int} {t : Tok} (B : Below A₀ base outer h₀) (F : Fr h₀ L s.heap m) (X : (hd.heap_39 w.params).In h₀) (T : Top tp tl₀ mean mg mb h₀) (hf : env.frame = some L) (hk : env.scope.kind = .function)
   (hy : 0 ≤ y) (hy2 : y < 1000000)
   (h : ∀ a t1 t2 t3 t4 h' tk, Ext s.heap h' → s.heap.get? a = none → h'.get? a = some (thingObj y t1 t2 t3 t4) → Q (.ref a) { s with heap := h', toks := tk }) :
   wpAny (model prog w) (AT 590 990 env outer) (call (.ref 99) [.int y t]) Q E s := by
  walk_at "m enter"
  walk_at "m steps"
  all_goals (
    have cl := close0 (by assumption) (by assumption) (by assumption)
    have e : thingObj y = thingObj y := rfl
    first
      | (have e4 : Int.fmod y 8 = 4 := by assumption
         simp only [thingObj, e4, if_true] at h)
      | (have e4 : Int.fmod y 8 ≠ 4 := by assumption
         have e5 : Int.fmod y 8 = 5 := by assumption
         simp only [thingObj, if_neg e4, if_pos e5] at h)
      | (have e4 : Int.fmod y 8 ≠ 4 := by assumption
         have e5 : Int.fmod y 8 ≠ 5 := by assumption
         have e6 : Int.fmod y 8 = 6 := by assumption
         simp only [thingObj, if_neg e4, if_neg e5, if_pos e6] at h)
      | (have e4 : Int.fmod y 8 ≠ 4 := by assumption
         have e5 : Int.fmod y 8 ≠ 5 := by assumption
         have e6 : Int.fmod y 8 ≠ 6 := by assumption
         have e7 : Int.fmod y 8 = 7 := by assumption
         simp only [thingObj, if_neg e4, if_neg e5, if_neg e6, if_pos e7] at h)
      | (have e4 : Int.fmod y 8 ≠ 4 := by assumption
         have e5 : Int.fmod y 8 ≠ 5 := by assumption
         have e6 : Int.fmod y 8 ≠ 6 := by assumption
         have e7 : Int.fmod y 8 ≠ 7 := by assumption
         simp only [thingObj, if_neg e4, if_neg e5, if_neg e6, if_neg e7] at h)
    first
      | exact h _ _ _ _ _ _ _ cl.1 (cl.2 _ _ (List.Mem.head _)).1 (cl.2 _ _ (List.Mem.head _)).2
      | exact h _ _ _ _ 0 _ _ cl.1 (cl.2 _ _ (List.Mem.head _)).1 (cl.2 _ _ (List.Mem.head _)).2
      | exact h _ _ _ 0 0 _ _ cl.1 (cl.2 _ _ (List.Mem.head _)).1 (cl.2 _ _ (List.Mem.head _)).2)
theorem thing_use {y : Int} {t : Tok} (B : Below A₀ base outer h₀) (F : Fr h₀ L s.heap m) (X : (hd.heap_39 w.params).In h₀) (N : News h₀ L s.heap news) (T : Top tp tl₀ mean mg mb h₀) (hA : A.frames = some (env :: outer)) (hf : env.frame = some L) (hk : env.scope.kind = .function)
   (hh : A.handled = none) (hg : A.guards = some []) (hd : A.depth ≤ 590) (hu : A.units ≤ 990) (hy : 0 ≤ y) (hy2 : y < 1000000)
   (h : ∀ a t1 t2 t3 t4 h' tk, Fr h₀ L h' m → News h₀ L h' ((a, thingObj y t1 t2 t3 t4) :: news) → (∀ p ∈ news, p.1 ≠ a) → Q (.ref a) { s with heap := h', toks := tk }) :
   wpAny (model prog w) A (call (.ref 99) [.int y t]) Q E s :=
  wpAny_le (thing_at B F X T hf hk hy hy2 fun a t1 t2 t3 t4 h' tk x n o => h a t1 t2 t3 t4 h' tk (x.fr F) (x.cons F N n o) (News.ne N n)) hh hA hg hd hu
end
end T16
section T17
example : True := by
  w_top off
  trivial
theorem fill7 : PySem.Challenge.rw_pe0125_01 = PySem.Challenge.rw_pe0125_01 ∧ hd.heap_39 = hd.heap_39 := by
  k_fill
  exact ⟨rfl, rfl⟩

theorem closeN1 {h g h' h₀ : Heap} {L L' a : Addr} {o : Obj} {m' : Str → Option Value} {news' : List (Addr × Obj)} (F' : Fr g L' h' m') (N' : News g L' h' news') (hg : ∀ b o', b ∉ [(a, o)].map (·.1) → h.get? b = some o' → g.get? b = some o') (N : News h₀ L h [(a, o)]) (hm : (a, o) ∈ news') : Ext h h' :=
  ext_of (fun p hp => (N p hp).1) hg F' N' (fun p hp => by rcases List.mem_cons.mp hp with rfl | hp; exact hm; cases hp)
noncomputable def fssText (x : Str) (i : Int) (y : Str) : Str :=
  if (x == Str.ofString "~" && i == 0) = true then (if Txt.startswith y (Str.ofString "<") = true then (if Txt.endswith y (Str.ofString ">") = true then Str.ofString "{" ++ Txt.slice y (some 1) (some (-1)) ++ Str.ofString "}" else y) else y)
  else x ++ Str.ofString ":" ++ Str.ofString (toString i) ++ Str.ofString "(" ++ y ++ Str.ofString ")"

section
variable {x y : Str} {i : Int}
theorem ft_1 (h : (x == Str.ofString "~" && i == 0) = true) (h1 : Txt.startswith y (Str.ofString "<") = true) (h2 : Txt.endswith y (Str.ofString ">") = true) : fssText x i y = Str.ofString "{" ++ Txt.slice y (some 1) (some (-1)) ++ Str.ofString "}" := by
  unfold fssText; rw [if_pos h, if_pos h1, if_pos h2]
theorem ft_2 (h : (x == Str.ofString "~" && i == 0) = true) (h2 : Txt.endswith y (Str.ofString ">") = false) : fssText x i y = y := by
  unfold fssText; rw [if_pos h, h2, if_neg Bool.false_ne_true, ite_self]
theorem ft_3 (h : (x == Str.ofString "~" && i == 0) = true) (h1 : Txt.startswith y (Str.ofString "<") = false) : fssText x i y = y := by
  unfold fssText; rw [if_pos h, h1, if_neg Bool.false_ne_true]
theorem ft_4 (h : (x == Str.ofString "~" && i == 0) = false) : fssText x i y = x ++ Str.ofString ":" ++ Str.ofString (toString i) ++ Str.ofString "(" ++ y ++ Str.ofString ")" := by
  unfold fssText; rw [h, if_neg Bool.false_ne_true]
end
section
variable {prog : Program} {w : World} {A₀ A : Around} {s : Shared} {base h₀ : Heap} {outer : List Env} {L : Addr} {m mg mb : Str → Option Value} {mean : ExcName → Option Value} {tp : Program} {tl₀ : List Str} {env : Env} {Q E : Value → Shared → Prop} {news : List (Addr × Obj)}

set_option maxHeartbeats 4000000 in
theorem fss_at {a : Addr} {x y : Str} {t u v : Tok} {i : Int} (B : Below A₀ base outer h₀) (F : Fr h₀ L s.heap m) (X : (hd.heap_39 w.params).In h₀) (T : Top tp tl₀ mean mg mb h₀) (hf : env.frame = some L) (hk : env.scope.kind = .function)
   (N : News h₀ L s.heap [(a, tupO [.str x t, .int i u, .str y v])]) (hox : PyData.strOk x = true) (hx : x.length ≤ 10) (hy : y.length ≤ 2000) (h1 : 0 ≤ i) (h2 : i < 200000)
   (h : ∀ t1 h' tk, Ext s.heap h' → Q (.str (fssText x i y) t1) { s with heap := h', toks := tk }) :
   wpAny (model prog w) (AT 600 1000 env outer) (call (.ref 71) [.ref a]) Q E s := by
  walk_at "m enterN"
  walk_at "m steps"
  all_goals (
    have cl := closeN1 (by assumption) (by assumption) (by assumption) N (by k_mem)
    first
      | (have e := ft_4 (y := y) (by with_reducible assumption); rw [e] at h)
      | (have e := ft_3 (by with_reducible assumption) (by with_reducible assumption); rw [e] at h)
      | (have e := ft_2 (by with_reducible assumption) (by with_reducible assumption); rw [e] at h)
      | (have e := ft_1 (by with_reducible assumption) (by with_reducible assumption) (by with_reducible assumption); rw [e] at h)
    exact h _ _ _ cl)
theorem fss_use {a : Addr} {x y : Str} {t u v : Tok} {i : Int} (B : Below A₀ base outer h₀) (F : Fr h₀ L s.heap m) (X : (hd.heap_39 w.params).In h₀) (N : News h₀ L s.heap news) (T : Top tp tl₀ mean mg mb h₀) (hA : A.frames = some (env :: outer)) (hf : env.frame = some L) (hk : env.scope.kind = .function)
   (hh : A.handled = none) (hg : A.guards = some []) (hd : A.depth ≤ 600) (hu : A.units ≤ 1000)
   (hm : (a, tupO [.str x t, .int i u, .str y v]) ∈ news) (hox : PyData.strOk x = true) (hx : x.length ≤ 10) (hy : y.length ≤ 2000) (h1 : 0 ≤ i) (h2 : i < 200000)
   (h : ∀ t1 h' tk, Fr h₀ L h' m → News h₀ L h' news → Q (.str (fssText x i y) t1) { s with heap := h', toks := tk }) :
   wpAny (model prog w) A (call (.ref 71) [.ref a]) Q E s :=
  wpAny_le (fss_at B F X T hf hk (fun p hp => by rcases List.mem_cons.mp hp with rfl | hp; exact N _ hm; cases hp) hox hx hy h1 h2 fun t1 h' tk e => h t1 h' tk (e.fr F) (e.news N)) hh hA hg hd hu
end
example : True := by
  k_with "call ref" => (
(k_here; (with_reducible show wpAny _ _ (call (Value.ref 71) [Value.ref _]) _ _ _); k_dflt (apply fss_use; (case hA => exact rfl); (case hf => exact rfl); (case hk => exact rfl); (case F => k_asm); (case B => k_asm); (case X => k_asm); (case N => k_asm); (case T => k_asm); (case hh => exact rfl); (case hg => exact rfl); (case hd => exact Nat.le_of_ble_eq_true rfl); (case hu => exact Nat.le_of_ble_eq_true rfl); (case hm => k_mem); (case hox => first | with_reducible assumption | decide +kernel); (case hx => first | omega | decide +kernel); (case hy => omega); (case h1 => first | omega | decide); (case h2 => first | omega | decide); k_whole; intro t1' h' tk' F' N'; (try k_sweep)))
    )
  trivial
end T17
section T18
example : True := by
  w_top off
  trivial
theorem fill8 : PySem.Challenge.rw_pe0125_01 = PySem.Challenge.rw_pe0125_01 ∧ hd.heap_39 = hd.heap_39 := by
  k_fill
  exact ⟨rfl, rfl⟩

noncomputable def failS (z : Str) : Str := Str.empty ++ Str.ofString "<" ++ z ++ Str.ofString " " ++ Str.ofString "func_std_string" ++ Str.ofString "() failed>"
theorem closeF1 {h g g' h' h₀ : Heap} {fs : List Addr} {L L' a : Addr} {o : Obj} {m' : Str → Option Value} {news' : List (Addr × Obj)} (F' : Fr g' L' h' m') (N' : News g' L' h' news') (T : KtsTurn fs g g') (hg : ∀ b o', b ∉ [(a, o)].map (·.1) → h.get? b = some o' → g.get? b = some o') (N : News h₀ L h [(a, o)]) (hm : (a, o) ∈ news') : ExtF fs h h' :=
  extF_of (fun p hp => (N p hp).1) hg T F' N' (fun p hp => by rcases List.mem_cons.mp hp with rfl | hp; exact hm; cases hp)
noncomputable def sixText (x : Str) (i : Int) (y z : Str) : Str := if (x == Str.ofString "~" && i == 0) = true then fssText x i y else failS z
theorem sx_yes {x y z : Str} {i : Int} (h : (x == Str.ofString "~" && i == 0) = true) : sixText x i y z = fssText x i y := if_pos h
theorem sx_no {x y z : Str} {i : Int} (h : (x == Str.ofString "~" && i == 0) = false) : sixText x i y z = failS z := by unfold sixText; rw [h, if_neg Bool.false_ne_true]
theorem fail_sum {z : Str} (hz : z.length ≤ 1000) : Str.length Str.empty + String.length "<" + Str.length z + String.length " " + String.length "func_std_string" + String.length "() failed>" ≤ 16777216 := by
  have e0 : Str.length Str.empty = 0 := rfl
  have e1 : String.length "<" = 1 := by decide +kernel
  have e2 : String.length " " = 1 := by decide +kernel
  have e3 : String.length "func_std_string" = 15 := by decide +kernel
  have e4 : String.length "() failed>" = 10 := by decide +kernel
  omega
example : True := by
  k_with "joinParts" => (
(k_here; (with_reducible refine joinParts_nilE ?_); (with_reducible refine joinParts_nil ?_ (hsz := by (simp only [PySem.Str.length_append, PySem.ofString_length, sizeLine_eq]; exact fail_sum (by with_reducible assumption)))))
    )
  trivial

section
variable {prog : Program} {w : World} {A₀ A : Around} {s : Shared} {base h₀ : Heap} {outer : List Env} {L : Addr} {m mg mb : Str → Option Value} {mean : ExcName → Option Value} {tp : Program} {tl₀ : List Str} {env : Env} {Q E : Value → Shared → Prop} {news : List (Addr × Obj)}

set_option maxHeartbeats 4000000 in
theorem safe2_at {a : Addr} {x y r z : Str} {t u v k q : Tok} {i : Int} (B : Below A₀ base outer h₀) (F : Fr h₀ L s.heap m) (X : (hd.heap_39 w.params).In h₀) (T : Top tp tl₀ mean mg mb h₀) (hf : env.frame = some L) (hk : env.scope.kind = .function)
   (XB : (hd.heap_39 w.params).In base) (TB : Top tp tl₀ mean mg mb base) (D : KtsDicts (outer.filterMap (·.frame)) h₀)
   (N : News h₀ L s.heap [(a, tupO [.str x t, .int i u])]) (hox : PyData.strOk x = true) (hoy : PyData.strOk y = true) (hx : x.length ≤ 10) (hy : y.length ≤ 10) (h1 : 0 ≤ i) (h2 : i < 200000) (hz : z.length ≤ 1000)
   (h : ∀ t1 h' tk, ExtF ((env :: outer).filterMap (·.frame)) s.heap h' → Q (.str (failS z) t1) { s with heap := h', toks := tk }) :
   wpAny (model prog w) (AT 560 960 env outer) (call (.ref 22) [.ref a, .str z q, .ref 71]) Q E s := by
  walk_at "m enterS"
  walk_at "m steps"
  all_goals (
    have cl := closeF1 (by assumption) (by assumption) (by assumption) (by assumption) N (by k_mem)
    exact h _ _ _ cl)
set_option maxHeartbeats 4000000 in
theorem safe5_at {a : Addr} {x y r z : Str} {t u v k q : Tok} {i : Int} (B : Below A₀ base outer h₀) (F : Fr h₀ L s.heap m) (X : (hd.heap_39 w.params).In h₀) (T : Top tp tl₀ mean mg mb h₀) (hf : env.frame = some L) (hk : env.scope.kind = .function)
   (XB : (hd.heap_39 w.params).In base) (TB : Top tp tl₀ mean mg mb base) (D : KtsDicts (outer.filterMap (·.frame)) h₀)
   (N : News h₀ L s.heap [(a, { cls := .type "list", data := .seq [.str x t, .int i u, .str y v].toArray })]) (hox : PyData.strOk x = true) (hoy : PyData.strOk y = true) (hx : x.length ≤ 10) (hy : y.length ≤ 10) (h1 : 0 ≤ i) (h2 : i < 200000) (hz : z.length ≤ 1000)
   (h : ∀ t1 h' tk, ExtF ((env :: outer).filterMap (·.frame)) s.heap h' → Q (.str (failS z) t1) { s with heap := h', toks := tk }) :
   wpAny (model prog w) (AT 560 960 env outer) (call (.ref 22) [.ref a, .str z q, .ref 71]) Q E s := by
  walk_at "m enterS"
  walk_at "m steps"
  all_goals (
    have cl := closeF1 (by assumption) (by assumption) (by assumption) (by assumption) N (by k_mem)
    exact h _ _ _ cl)
set_option maxHeartbeats 4000000 in
theorem safe7_at {a : Addr} {x y r z : Str} {t u v k q : Tok} {i : Int} (B : Below A₀ base outer h₀) (F : Fr h₀ L s.heap m) (X : (hd.heap_39 w.params).In h₀) (T : Top tp tl₀ mean mg mb h₀) (hf : env.frame = some L) (hk : env.scope.kind = .function)
   (XB : (hd.heap_39 w.params).In base) (TB : Top tp tl₀ mean mg mb base) (D : KtsDicts (outer.filterMap (·.frame)) h₀)
   (N : News h₀ L s.heap [(a, tupO [.str x t, .str y v, .int i u])]) (hox : PyData.strOk x = true) (hoy : PyData.strOk y = true) (hx : x.length ≤ 10) (hy : y.length ≤ 10) (h1 : 0 ≤ i) (h2 : i < 200000) (hz : z.length ≤ 1000)
   (h : ∀ t1 h' tk, ExtF ((env :: outer).filterMap (·.frame)) s.heap h' → Q (.str (failS z) t1) { s with heap := h', toks := tk }) :
   wpAny (model prog w) (AT 560 960 env outer) (call (.ref 22) [.ref a, .str z q, .ref 71]) Q E s := by
  walk_at "m enterS"
  walk_at "m steps"
  all_goals (
    have cl := closeF1 (by assumption) (by assumption) (by assumption) (by assumption) N (by k_mem)
    exact h _ _ _ cl)
set_option maxHeartbeats 4000000 in
theorem safe6_at {a : Addr} {x y r z : Str} {t u v k q : Tok} {i : Int} (B : Below A₀ base outer h₀) (F : Fr h₀ L s.heap m) (X : (hd.heap_39 w.params).In h₀) (T : Top tp tl₀ mean mg mb h₀) (hf : env.frame = some L) (hk : env.scope.kind = .function)
   (XB : (hd.heap_39 w.params).In base) (TB : Top tp tl₀ mean mg mb base) (D : KtsDicts (outer.filterMap (·.frame)) h₀)
   (N : News h₀ L s.heap [(a, tupO [.str x t, .int i u, .str y v, .str r k])]) (hox : PyData.strOk x = true) (hoy : PyData.strOk y = true) (hx : x.length ≤ 10) (hy : y.length ≤ 10) (h1 : 0 ≤ i) (h2 : i < 200000) (hz : z.length ≤ 1000)
   (h : ∀ t1 h' tk, ExtF ((env :: outer).filterMap (·.frame)) s.heap h' → Q (.str (sixText x i y z) t1) { s with heap := h', toks := tk }) :
   wpAny (model prog w) (AT 560 960 env outer) (call (.ref 22) [.ref a, .str z q, .ref 71]) Q E s := by
  walk_at "m enterS"
  walk_at "m steps"
  all_goals (first
    | (have e := sx_no (y := y) (z := z) (by with_reducible assumption)
       rw [e] at h
       have cl := closeF1 (by assumption) (by assumption) (by assumption) (by assumption) N (by k_mem)
       exact h _ _ _ cl)
    | (have e := sx_yes (y := y) (z := z) (by with_reducible assumption)
       rw [e] at h
       have cl := closeN1 (by assumption) (by assumption) (by assumption) N (by k_mem)
       first
         | (have e := ft_3 (by with_reducible assumption) (by with_reducible assumption); rw [e] at h)
         | (have e := ft_2 (by with_reducible assumption) (by with_reducible assumption); rw [e] at h)
         | (have e := ft_1 (by with_reducible assumption) (by with_reducible assumption) (by with_reducible assumption); rw [e] at h)
       exact h _ _ _ (cl.toF _)))
set_option maxHeartbeats 4000000 in
theorem safe3_at {a : Addr} {x y r z : Str} {t u v k q : Tok} {i : Int} (B : Below A₀ base outer h₀) (F : Fr h₀ L s.heap m) (X : (hd.heap_39 w.params).In h₀) (T : Top tp tl₀ mean mg mb h₀) (hf : env.frame = some L) (hk : env.scope.kind = .function)
   (XB : (hd.heap_39 w.params).In base) (TB : Top tp tl₀ mean mg mb base) (D : KtsDicts (outer.filterMap (·.frame)) h₀)
   (N : News h₀ L s.heap [(a, tupO [.str x t, .int i u, .str y v])]) (hox : PyData.strOk x = true) (hoy : PyData.strOk y = true) (hx : x.length ≤ 10) (hy : y.length ≤ 10) (h1 : 0 ≤ i) (h2 : i < 200000) (hz : z.length ≤ 1000)
   (h : ∀ t1 h' tk, ExtF ((env :: outer).filterMap (·.frame)) s.heap h' → Q (.str (fssText x i y) t1) { s with heap := h', toks := tk }) :
   wpAny (model prog w) (AT 560 960 env outer) (call (.ref 22) [.ref a, .str z q, .ref 71]) Q E s := by
  walk_at "m enterS"
  walk_at "m steps"
  all_goals (
    have cl := closeN1 (by assumption) (by assumption) (by assumption) N (by k_mem)
    exact h _ _ _ (cl.toF _))
end
end T18
section T19
theorem fill9 : PySem.Challenge.rw_pe0125_01 = PySem.Challenge.rw_pe0125_01 ∧ hd.heap_39 = hd.heap_39 := by
  k_fill
  exact ⟨rfl, rfl⟩

noncomputable def safeText (y : Int) (z : Str) : Str := if refusedOf y then failS z else fssText (placeOf y) (lineNo y) (nameOf y)
theorem st_any {y : Int} {z : Str} (h : (List.any [4, 5, 7] fun x => x == Int.fmod y 8) = true) : safeText y z = failS z := by
  have e : refusedOf y = true := by unfold refusedOf; rw [h]; rfl
  unfold safeText; rw [if_pos e]
theorem st_six {y : Int} {z : Str} (h : Int.fmod y 8 = 6) : safeText y z = sixText (placeOf y) (lineNo y) (nameOf y) z := by
  have e0 : (List.any [4, 5, 7] fun x => x == Int.fmod y 8) = false := by rw [h]; decide
  unfold safeText sixText refusedOf innerOf
  rw [e0, h]
  cases hq : (placeOf y == Str.ofString "~" && lineNo y == 0) <;> simp
theorem st_else {y : Int} {z : Str} (h4 : Int.fmod y 8 ≠ 4) (h5 : Int.fmod y 8 ≠ 5) (h6 : Int.fmod y 8 ≠ 6) (h7 : Int.fmod y 8 ≠ 7) : safeText y z = fssText (placeOf y) (lineNo y) (nameOf y) := by
  have e : refusedOf y = false := by
    unfold refusedOf
    rw [beq_false_of_ne h6]
    simp only [List.any_cons, List.any_nil, Bool.or_false, Bool.false_and, beq_false_of_ne (Ne.symm h4), beq_false_of_ne (Ne.symm h5), beq_false_of_ne (Ne.symm h7)]
  unfold safeText; rw [e, if_neg Bool.false_ne_true]

section
variable {prog : Program} {w : World} {A₀ A : Around} {s : Shared} {base h₀ : Heap} {outer : List Env} {L : Addr} {m mg mb : Str → Option Value} {mean : ExcName → Option Value} {tp : Program} {tl₀ : List Str} {env : Env} {Q E : Value → Shared → Prop} {news : List (Addr × Obj)}

theorem safe_at {a : Addr} {y : Int} {z : Str} {t1 t2 t3 t4 q : Tok} (B : Below A₀ base outer h₀) (F : Fr h₀ L s.heap m) (X : (hd.heap_39 w.params).In h₀) (T : Top tp tl₀ mean mg mb h₀) (hf : env.frame = some L) (hk : env.scope.kind = .function)
   (XB : (hd.heap_39 w.params).In base) (TB : Top tp tl₀ mean mg mb base) (D : KtsDicts (outer.filterMap (·.frame)) h₀)
   (N : News h₀ L s.heap [(a, thingObj y t1 t2 t3 t4)]) (hy : 0 ≤ y) (hy2 : y < 1000000) (hz : z.length ≤ 1000)
   (h : ∀ t1 h' tk, ExtF ((env :: outer).filterMap (·.frame)) s.heap h' → Q (.str (safeText y z) t1) { s with heap := h', toks := tk }) :
   wpAny (model prog w) (AT 560 960 env outer) (call (.ref 22) [.ref a, .str z q, .ref 71]) Q E s := by
  have hp := placeOf_len y
  have hn := nameOf_len y
  have hop := placeOf_ok y
  have hon := nameOf_ok y
  obtain ⟨hl0, hl1⟩ := lineNo_bounds hy hy2
  by_cases h4 : Int.fmod y 8 = 4
  · have e : thingObj y t1 t2 t3 t4 = tupO [.str (placeOf y) t1, .int (lineNo y) t2] := by unfold thingObj; rw [if_pos h4]
    rw [e] at N
    rw [st_any (by rw [h4]; decide)] at h
    exact safe2_at (y := nameOf y) (r := z) (v := t1) (k := t1) B F X T hf hk XB TB D N hop hon hp hn hl0 (by omega) hz h
  by_cases h5 : Int.fmod y 8 = 5
  · have e : thingObj y t1 t2 t3 t4 = { cls := .type "list", data := .seq [.str (placeOf y) t1, .int (lineNo y) t2, .str (nameOf y) t3].toArray } := by unfold thingObj; rw [if_neg h4, if_pos h5]
    rw [e] at N
    rw [st_any (by rw [h5]; decide)] at h
    exact safe5_at (r := z) (k := t1) B F X T hf hk XB TB D N hop hon hp hn hl0 (by omega) hz h
  by_cases h6 : Int.fmod y 8 = 6
  · have e : thingObj y t1 t2 t3 t4 = tupO [.str (placeOf y) t1, .int (lineNo y) t2, .str (nameOf y) t3, .str (Str.ofString "x") t4] := by unfold thingObj; rw [if_neg h4, if_neg h5, if_pos h6]
    rw [e] at N
    rw [st_six h6] at h
    exact safe6_at B F X T hf hk XB TB D N hop hon hp hn hl0 (by omega) hz h
  by_cases h7 : Int.fmod y 8 = 7
  · have e : thingObj y t1 t2 t3 t4 = tupO [.str (placeOf y) t1, .str (nameOf y) t3, .int (lineNo y) t2] := by unfold thingObj; rw [if_neg h4, if_neg h5, if_neg h6, if_pos h7]
    rw [e] at N
    rw [st_any (by rw [h7]; decide)] at h
    exact safe7_at (r := z) (k := t1) B F X T hf hk XB TB D N hop hon hp hn hl0 (by omega) hz h
  · have e : thingObj y t1 t2 t3 t4 = tupO [.str (placeOf y) t1, .int (lineNo y) t2, .str (nameOf y) t3] := by unfold thingObj; rw [if_neg h4, if_neg h5, if_neg h6, if_neg h7]
    rw [e] at N
    rw [st_else h4 h5 h6 h7] at h
    exact safe3_at (r := z) (k := t1) B F X T hf hk XB TB D N hop hon hp hn hl0 (by omega) hz h
end

theorem tab6_cases {P : Str → Prop} (y : Int) (h1 : P (Str.ofString "f")) (h2 : P (Str.ofString "<g>")) (h3 : P (Str.ofString "<")) (h4 : P (Str.ofString "e.g>")) (h5 : P (Str.ofString "n\n.o")) (h6 : P (Str.ofString "q.")) : P (nameOf y) := tab6_all h1 h2 h3 h4 h5 h6 _
theorem starts_cat (a b c : Str) (hc : c.length ≤ a.length) : Txt.startswith (a ++ b) c = Txt.startswith a c := by
  unfold Txt.startswith
  rw [StrLaws.subAt_eq, StrLaws.subAt_eq, Str.length_append, Str.cps_append, Array.toList_append, List.drop_zero, List.drop_zero]
  have e : a.cps.toList.length = a.length := by simp [Str.length]
  rw [List.take_append_of_le_length (by rw [e]; exact hc)]
  have d1 : decide (0 + c.length ≤ a.length + b.length) = true := decide_eq_true (by omega)
  have d2 : decide (0 + c.length ≤ a.length) = true := decide_eq_true (by omega)
  rw [d1, d2]
theorem ends_cat (a c : Str) : Txt.endswith (a ++ c) c = true := by
  unfold Txt.endswith
  rw [StrLaws.subAt_eq, Str.length_append, Str.cps_append, Array.toList_append]
  have e : a.cps.toList.length = a.length := by simp [Str.length]
  have ec : c.cps.toList.length = c.length := by simp [Str.length]
  have d1 : decide (0 + c.length ≤ a.length + c.length) = true := decide_eq_true (by omega)
  rw [d1, Nat.add_sub_cancel, List.drop_append_of_le_length (by omega), List.drop_of_length_le (by omega), List.nil_append, List.take_of_length_le (by omega)]
  simp
theorem place_starts (y : Int) (c : Str) (hc : c = Str.ofString "<" ∨ c = Str.ofString "{") (r : Str) : Txt.startswith (placeOf y ++ r) c = false := by
  have hl : c.length = 1 := by rcases hc with rfl | rfl <;> decide +kernel
  have hp : 1 ≤ (placeOf y).length := tab4_all (P := fun x => 1 ≤ x.length) (by decide +kernel) (by decide +kernel) (by decide +kernel) (by decide +kernel) _
  rw [starts_cat _ _ _ (by omega)]
  rcases hc with rfl | rfl
  · exact tab4_all (P := fun x => Txt.startswith x (Str.ofString "<") = false) (by decide +kernel) (by decide +kernel) (by decide +kernel) (by decide +kernel) _
  · exact tab4_all (P := fun x => Txt.startswith x (Str.ofString "{") = false) (by decide +kernel) (by decide +kernel) (by decide +kernel) (by decide +kernel) _
theorem wholeText_eq (y : Int) : wholeText y = placeOf y ++ (Str.ofString ":" ++ Str.ofString (toString (lineNo y)) ++ Str.ofString "(" ++ nameOf y ++ Str.ofString ")") := by
  unfold wholeText
  simp only [Str.append_assoc]
theorem whole_fss {y : Int} (h : innerOf y = false) : fssText (placeOf y) (lineNo y) (nameOf y) = wholeText y := ft_4 h
theorem inner_fss {y : Int} (h : innerOf y = true) : fssText (placeOf y) (lineNo y) (nameOf y) = if nameOf y == Str.ofString "<g>" then Str.ofString "{g}" else nameOf y := by
  have h' : (placeOf y == Str.ofString "~" && lineNo y == 0) = true := h
  unfold fssText
  rw [if_pos h']
  exact tab6_cases (P := fun n => (if Txt.startswith n (Str.ofString "<") = true then (if Txt.endswith n (Str.ofString ">") = true then Str.ofString "{" ++ Txt.slice n (some 1) (some (-1)) ++ Str.ofString "}" else n) else n) = if n == Str.ofString "<g>" then Str.ofString "{g}" else n) y
    (by decide +kernel) (by decide +kernel) (by decide +kernel) (by decide +kernel) (by decide +kernel) (by decide +kernel)
theorem ofString_ok (x : String) : PyData.strOk (Str.ofString x) = true := by
  rw [Str.ofString_eq_toList]
  unfold PyData.strOk
  rw [Array.all_eq_true]
  intro i hi
  simp only [List.size_toArray, List.length_map] at hi
  simp only [List.getElem_toArray, List.getElem_map, decide_eq_true_eq]
  have := (x.toList[i]).valid
  unfold UInt32.isValidChar Nat.isValidChar at this
  show (x.toList[i]).val.toNat < 0x110000
  omega
theorem append_ok {a b : Str} (ha : PyData.strOk a = true) (hb : PyData.strOk b = true) : PyData.strOk (a ++ b) = true := by
  unfold PyData.strOk at *
  rw [Str.cps_append, Array.all_append, ha, hb]; rfl
theorem slice_inner (m : Str) : Txt.slice (Str.ofString "<" ++ m ++ Str.ofString ">") (some 1) (some (-1)) = m := by
  have e1 : Str.ofString "<" = ⟨#[60]⟩ := by decide +kernel
  have e2 : Str.ofString ">" = ⟨#[62]⟩ := by decide +kernel
  rw [e1, e2]
  have hlen : ((⟨#[60]⟩ : Str) ++ m ++ (⟨#[62]⟩ : Str)).length = m.length + 2 := by
    rw [Str.length_append, Str.length_append]
    show 1 + m.length + 1 = m.length + 2
    omega
  have q : Txt.slice ((⟨#[60]⟩ : Str) ++ m ++ (⟨#[62]⟩ : Str)) (some 1) (some (-1)) = Txt.slice ((⟨#[60]⟩ : Str) ++ m ++ (⟨#[62]⟩ : Str)) (some ((1 : Nat) : Int)) (some ((m.length + 1 : Nat) : Int)) := by
    unfold Txt.slice
    rw [StrLaws.sliceIdx_neg_hi (some 1) _ (by decide) (by rw [hlen]; omega), hlen]
    have : (-1 : Int) + ((m.length + 2 : Nat) : Int) = ((m.length + 1 : Nat) : Int) := by omega
    rw [this]
    rfl
  rw [q, eq_of_beq (slice_closesL (x := (⟨#[60]⟩ : Str) ++ m ++ (⟨#[62]⟩ : Str)) (i := ((1 : Nat) : Int)) (j := ((m.length + 1 : Nat) : Int)) (by omega) (by omega) (by rw [hlen]; omega))]
  have hc : ((⟨#[60]⟩ : Str) ++ m ++ (⟨#[62]⟩ : Str)).cps.toList = 60 :: (m.cps.toList ++ [62]) := by
    rw [Str.cps_append, Str.cps_append, Array.toList_append, Array.toList_append]; rfl
  rw [hc]
  have e3 : ((1 : Nat) : Int).toNat = 1 := rfl
  have e4 : (((m.length + 1 : Nat) : Int) - ((1 : Nat) : Int)).toNat = m.cps.toList.length := by
    have : m.cps.toList.length = m.length := by simp [Str.length]
    omega
  rw [e3, e4, List.drop_succ_cons, List.drop_zero, List.take_append_of_le_length (Nat.le_refl _), List.take_length, Array.toArray_toList]
theorem failS_eq (z : Str) : failS z = Str.ofString "<" ++ (z ++ Str.ofString " func_std_string() failed") ++ Str.ofString ">" := by
  unfold failS
  have e0 : Str.empty ++ Str.ofString "<" = Str.ofString "<" := by decide +kernel
  have e1 : Str.ofString " func_std_string() failed" = Str.ofString " " ++ Str.ofString "func_std_string" ++ Str.ofString "() failed" := by decide +kernel
  have e2 : Str.ofString "() failed>" = Str.ofString "() failed" ++ Str.ofString ">" := by decide +kernel
  rw [e0, e1, e2]
  simp only [Str.append_assoc]
theorem failText_eq (z : Str) : failText z = Str.ofString "{" ++ (z ++ Str.ofString " func_std_string() failed") ++ Str.ofString "}" := by
  unfold failText
  have e1 : Str.ofString " func_std_string() failed}" = Str.ofString " func_std_string() failed" ++ Str.ofString "}" := by decide +kernel
  rw [e1]
  simp only [Str.append_assoc]
theorem fss_plain {n : Str} (h : Txt.startswith n (Str.ofString "<") = false ∨ Txt.endswith n (Str.ofString ">") = false) : fssText (Str.ofString "~") 0 n = n := by
  have q : (Str.ofString "~" == Str.ofString "~" && (0 : Int) == 0) = true := by decide +kernel
  rcases h with h | h
  · exact ft_3 q h
  · exact ft_2 q h
theorem line_law (y : Int) (z : Str) : fssText (Str.ofString "~") 0 (safeText y z) = lineText y z := by
  have q : (Str.ofString "~" == Str.ofString "~" && (0 : Int) == 0) = true := by decide +kernel
  cases hr : refusedOf y with
  | true =>
    have e1 : safeText y z = failS z := by unfold safeText; rw [if_pos hr]
    have e2 : lineText y z = failText z := by unfold lineText; rw [if_pos hr]
    rw [e1, e2, failS_eq, failText_eq]
    rw [ft_1 q ?_ (ends_cat _ _), slice_inner]
    have e3 : (Str.ofString "<" ++ (z ++ Str.ofString " func_std_string() failed") ++ Str.ofString ">") = Str.ofString "<" ++ (z ++ Str.ofString " func_std_string() failed" ++ Str.ofString ">") := by simp only [Str.append_assoc]
    rw [e3, starts_cat _ _ _ (Nat.le_refl _)]
    decide +kernel
  | false =>
    have e1 : safeText y z = fssText (placeOf y) (lineNo y) (nameOf y) := by unfold safeText; rw [hr, if_neg Bool.false_ne_true]
    rw [e1]
    cases hi : innerOf y with
    | true =>
      have e2 : lineText y z = if nameOf y == Str.ofString "<g>" then Str.ofString "{g}" else nameOf y := by unfold lineText; rw [hr, if_neg Bool.false_ne_true, if_pos hi]
      rw [e2, inner_fss hi]
      refine fss_plain ?_
      exact tab6_cases (P := fun n => Txt.startswith (if n == Str.ofString "<g>" then Str.ofString "{g}" else n) (Str.ofString "<") = false ∨ Txt.endswith (if n == Str.ofString "<g>" then Str.ofString "{g}" else n) (Str.ofString ">") = false) y
        (by decide +kernel) (by decide +kernel) (by decide +kernel) (by decide +kernel) (by decide +kernel) (by decide +kernel)
    | false =>
      have e2 : lineText y z = wholeText y := by unfold lineText; rw [hr, if_neg Bool.false_ne_true, hi, if_neg Bool.false_ne_true]
      rw [e2, whole_fss hi]
      exact fss_plain (.inl (by rw [wholeText_eq]; exact place_starts y _ (.inl rfl) _))
theorem ell_law (y : Int) (z : Str) : ellOf (lineText y z) = refusedOf y := by
  cases hr : refusedOf y with
  | true =>
    have e2 : lineText y z = failText z := by unfold lineText; rw [if_pos hr]
    rw [e2]
    unfold ellOf
    have h1 : Txt.startswith (failText z) (Str.ofString "{") = true := by
      have e3 : failText z = Str.ofString "{" ++ (z ++ Str.ofString " func_std_string() failed}") := by unfold failText; simp only [Str.append_assoc]
      rw [e3, starts_cat _ _ _ (Nat.le_refl _)]
      decide +kernel
    have h2 : Txt.endswith (failText z) (Str.ofString "func_std_string() failed}") = true := by
      have e3 : failText z = Str.ofString "{" ++ z ++ Str.ofString " " ++ Str.ofString "func_std_string() failed}" := by
        unfold failText
        have e1 : Str.ofString " func_std_string() failed}" = Str.ofString " " ++ Str.ofString "func_std_string() failed}" := by decide +kernel
        rw [e1]
        simp only [Str.append_assoc]
      rw [e3]
      exact ends_cat _ _
    have h3 : 26 ≤ (failText z).length := by
      unfold failText
      rw [Str.length_append, Str.length_append]
      have a1 : (Str.ofString "{").length = 1 := by decide +kernel
      have a2 : (Str.ofString " func_std_string() failed}").length = 26 := by decide +kernel
      omega
    rw [h1, h2, decide_eq_true h3]; rfl
  | false =>
    cases hi : innerOf y with
    | true =>
      have e2 : lineText y z = if nameOf y == Str.ofString "<g>" then Str.ofString "{g}" else nameOf y := by unfold lineText; rw [hr, if_neg Bool.false_ne_true, if_pos hi]
      rw [e2]
      exact tab6_cases (P := fun n => ellOf (if n == Str.ofString "<g>" then Str.ofString "{g}" else n) = false) y
        (by decide +kernel) (by decide +kernel) (by decide +kernel) (by decide +kernel) (by decide +kernel) (by decide +kernel)
    | false =>
      have e2 : lineText y z = wholeText y := by unfold lineText; rw [hr, if_neg Bool.false_ne_true, hi, if_neg Bool.false_ne_true]
      rw [e2]
      exact ell_1 (by rw [wholeText_eq]; exact place_starts y _ (.inr rfl) _)
theorem lineText_len {y : Int} (h0 : 0 ≤ y) (h1 : y < 1000000) (z : Str) : (lineText y z).length ≤ z.length + 40 := by
  have hp := placeOf_len y
  have hn := nameOf_len y
  obtain ⟨hl0, hl1⟩ := lineNo_bounds h0 h1
  have ht : (Str.ofString (toString (lineNo y))).length ≤ 6 := toString_length_le hl0 (by decide) (by omega)
  unfold lineText
  split
  · unfold failText
    rw [Str.length_append, Str.length_append]
    have a1 : (Str.ofString "{").length = 1 := by decide +kernel
    have a2 : (Str.ofString " func_std_string() failed}").length = 26 := by decide +kernel
    omega
  · split
    · split
      · have a1 : (Str.ofString "{g}").length = 3 := by decide +kernel
        omega
      · omega
    · unfold wholeText
      simp only [Str.length_append]
      have a1 : (Str.ofString ":").length = 1 := by decide +kernel
      have a2 : (Str.ofString "(").length = 1 := by decide +kernel
      have a3 : (Str.ofString ")").length = 1 := by decide +kernel
      omega
theorem lineText_ok (y : Int) {z : Str} (hz : PyData.strOk z = true) : PyData.strOk (lineText y z) = true := by
  unfold lineText
  split
  · exact append_ok (append_ok (ofString_ok _) hz) (ofString_ok _)
  · split
    · split
      · exact ofString_ok _
      · exact nameOf_ok y
    · exact append_ok (append_ok (append_ok (append_ok (append_ok (placeOf_ok y) (ofString_ok _)) (ofString_ok _)) (ofString_ok _)) (nameOf_ok y)) (ofString_ok _)
theorem safeText_len {y : Int} (h0 : 0 ≤ y) (h1 : y < 1000000) (z : Str) : (safeText y z).length ≤ z.length + 40 := by
  have hp := placeOf_len y
  have hn := nameOf_len y
  obtain ⟨hl0, hl1⟩ := lineNo_bounds h0 h1
  have ht : (Str.ofString (toString (lineNo y))).length ≤ 6 := toString_length_le hl0 (by decide) (by omega)
  unfold safeText
  split
  · unfold failS
    simp only [Str.length_append]
    have a0 : Str.empty.length = 0 := rfl
    have a1 : (Str.ofString "<").length = 1 := by decide +kernel
    have a2 : (Str.ofString " ").length = 1 := by decide +kernel
    have a3 : (Str.ofString "func_std_string").length = 15 := by decide +kernel
    have a4 : (Str.ofString "() failed>").length = 10 := by decide +kernel
    omega
  · cases hi : innerOf y with
    | true =>
      rw [inner_fss hi]
      split
      · have a1 : (Str.ofString "{g}").length = 3 := by decide +kernel
        omega
      · omega
    | false =>
      rw [whole_fss hi]
      unfold wholeText
      simp only [Str.length_append]
      have a1 : (Str.ofString ":").length = 1 := by decide +kernel
      have a2 : (Str.ofString "(").length = 1 := by decide +kernel
      have a3 : (Str.ofString ")").length = 1 := by decide +kernel
      omega
theorem bareGo_len : ∀ (l k : List Int), (bareGo k l).length ≤ k.length + l.length
  | [], k => by simp [bareGo]
  | c :: l, k => by
    rw [bareGo]
    split
    · omega
    · have := bareGo_len l (if c = 46 then [] else k ++ [c])
      split at this
      · rename_i q
        rw [if_pos q]
        simp only [List.length_nil, List.length_cons] at *
        omega
      · rename_i q
        rw [if_neg q]
        simp only [List.length_append, List.length_cons, List.length_nil] at *
        omega
theorem bareOf_len (x : Str) : (bareOf x).length ≤ x.length := by
  unfold bareOf
  rw [KStt.txt_length]
  have := bareGo_len (KStt.codes x) []
  rw [KStt.codes_length] at this
  simpa using this
theorem bareGo_mem (P : Int → Prop) : ∀ (l k : List Int), (∀ c ∈ k, P c) → (∀ c ∈ l, P c) → ∀ c ∈ bareGo k l, P c
  | [], k, hk, _ => by rw [bareGo]; exact hk
  | d :: l, k, hk, hl => by
    rw [bareGo]
    split
    · exact hk
    · refine bareGo_mem P l _ ?_ (fun c hc => hl c (.tail _ hc))
      split
      · intro c hc; cases hc
      · intro c hc
        rcases List.mem_append.mp hc with hc | hc
        · exact hk c hc
        · rw [List.mem_singleton.mp hc]; exact hl d (.head _)
theorem bareOf_ok {x : Str} (hx : PyData.strOk x = true) : PyData.strOk (bareOf x) = true := by
  unfold PyData.strOk at *
  have hc : ∀ c ∈ KStt.codes x, c < 1114112 := by
    intro c hc
    unfold KStt.codes at hc
    obtain ⟨n, hn, rfl⟩ := List.mem_map.mp hc
    have := Array.all_eq_true'.mp hx n (Array.mem_toList_iff.mp hn)
    have := of_decide_eq_true this
    omega
  have hb := bareGo_mem (fun c => c < 1114112) (KStt.codes x) [] (fun _ h => nomatch h) hc
  rw [Array.all_eq_true']
  intro n hn
  unfold bareOf KStt.txt at hn
  rw [List.mem_toArray] at hn
  obtain ⟨c, hc', rfl⟩ := List.mem_map.mp hn
  have := hb c hc'
  exact decide_eq_true (by omega)
end T19
section T20
theorem fill10 : PySem.Challenge.rw_pe0125_01 = PySem.Challenge.rw_pe0125_01 ∧ hd.heap_39 = hd.heap_39 := by
  k_fill
  exact ⟨rfl, rfl⟩

section
variable {prog : Program} {w : World} {A₀ A : Around} {s : Shared} {base h₀ : Heap} {outer : List Env} {L : Addr} {m mg mb : Str → Option Value} {mean : ExcName → Option Value} {tp : Program} {tl₀ : List Str} {env : Env} {Q E : Value → Shared → Prop} {news : List (Addr × Obj)}

theorem bare_use {x : Str} {t : Tok} (B : Below A₀ base outer h₀) (F : Fr h₀ L s.heap m) (X : (hd.heap_39 w.params).In h₀) (N : News h₀ L s.heap news) (T : Top tp tl₀ mean mg mb h₀) (hA : A.frames = some (env :: outer)) (hf : env.frame = some L) (hk : env.scope.kind = .function)
   (hh : A.handled = none) (hg : A.guards = some []) (hd : A.depth ≤ 600) (hu : A.units ≤ 1000) (hx : x.length ≤ 10000)
   (h : ∀ t1 h' tk, Fr h₀ L h' m → News h₀ L h' news → Q (.str (bareOf x) t1) { s with heap := h', toks := tk }) :
   wpAny (model prog w) A (call (.ref 113) [.str x t]) Q E s :=
  wpAny_le (bare_at B F X T hf hk hx fun t1 h' tk e => h t1 h' tk (e.fr F) (e.news N)) hh hA hg hd hu
theorem strip_use {x : Str} {t : Tok} (B : Below A₀ base outer h₀) (F : Fr h₀ L s.heap m) (X : (hd.heap_39 w.params).In h₀) (N : News h₀ L s.heap news) (T : Top tp tl₀ mean mg mb h₀) (hA : A.frames = some (env :: outer)) (hf : env.frame = some L) (hk : env.scope.kind = .function)
   (hh : A.handled = none) (hg : A.guards = some []) (hd : A.depth ≤ 600) (hu : A.units ≤ 1000) (hx : x.length ≤ 10000)
   (h : ∀ t1 h' tk, Fr h₀ L h' m → News h₀ L h' news → Q (.str (bareOf x) t1) { s with heap := h', toks := tk }) :
   wpAny (model prog w) A (call (.ref 36) [.str x t]) Q E s :=
  wpAny_le (strip_at B F X T hf hk hx fun t1 h' tk e => h t1 h' tk (e.fr F) (e.news N)) hh hA hg hd hu
theorem ell_use {x : Str} {t u : Tok} (B : Below A₀ base outer h₀) (F : Fr h₀ L s.heap m) (X : (hd.heap_39 w.params).In h₀) (N : News h₀ L s.heap news) (T : Top tp tl₀ mean mg mb h₀) (hA : A.frames = some (env :: outer)) (hf : env.frame = some L) (hk : env.scope.kind = .function)
   (hh : A.handled = none) (hg : A.guards = some []) (hd : A.depth ≤ 600) (hu : A.units ≤ 1000) (hx : x.length ≤ 10000)
   (h : ∀ h' tk, Fr h₀ L h' m → News h₀ L h' news → Q (.bool (ellOf x)) { s with heap := h', toks := tk }) :
   wpAny (model prog w) A (call (.ref 29) [.str (Str.ofString "{...func_std_string() failed}") u, .str x t]) Q E s :=
  wpAny_le (ell_at B F X T hf hk hx fun h' tk e => h h' tk (e.fr F) (e.news N)) hh hA hg hd hu
end
example : True := by
  k_with "call ref" => (
(k_here; (with_reducible show wpAny _ _ (call (Value.ref 113) [Value.str _ _]) _ _ _); k_dflt (apply bare_use; (case hA => exact rfl); (case hf => exact rfl); (case hk => exact rfl); (case F => k_asm); (case B => k_asm); (case X => k_asm); (case N => k_asm); (case T => k_asm); (case hh => exact rfl); (case hg => exact rfl); (case hd => exact Nat.le_of_ble_eq_true rfl); (case hu => exact Nat.le_of_ble_eq_true rfl); (case hx => first | omega | (have hq := lineText_len (by k_asm) (by k_asm) _; omega)); k_whole; intro t1' h' tk' F' N'; (try k_sweep)))
    )
  k_with "call ref" => (
(k_here; (with_reducible show wpAny _ _ (call (Value.ref 36) [Value.str _ _]) _ _ _); k_dflt (apply strip_use; (case hA => exact rfl); (case hf => exact rfl); (case hk => exact rfl); (case F => k_asm); (case B => k_asm); (case X => k_asm); (case N => k_asm); (case T => k_asm); (case hh => exact rfl); (case hg => exact rfl); (case hd => exact Nat.le_of_ble_eq_true rfl); (case hu => exact Nat.le_of_ble_eq_true rfl); (case hx => omega); k_whole; intro t1' h' tk' F' N'; (try k_sweep)))
    )
  k_with "call ref" => (
(k_here; (with_reducible show wpAny _ _ (call (Value.ref 29) [Value.str _ _, Value.str _ _]) _ _ _); k_dflt (apply ell_use; (case hA => exact rfl); (case hf => exact rfl); (case hk => exact rfl); (case F => k_asm); (case B => k_asm); (case X => k_asm); (case N => k_asm); (case T => k_asm); (case hh => exact rfl); (case hg => exact rfl); (case hd => exact Nat.le_of_ble_eq_true rfl); (case hu => exact Nat.le_of_ble_eq_true rfl); (case hx => omega); k_whole; intro h' tk' F' N'; (try k_sweep)))
    )
  k_with "call ref" => (
(k_here; (with_reducible show wpAny _ _ (call (Value.ref 106) [Value.int _ _, Value.str _ _]) _ _ _); k_dflt (apply line_use; (case hA => exact rfl); (case hf => exact rfl); (case hk => exact rfl); (case F => k_asm); (case B => k_asm); (case X => k_asm); (case N => k_asm); (case T => k_asm); (case hh => exact rfl); (case hg => exact rfl); (case hd => exact Nat.le_of_ble_eq_true rfl); (case hu => exact Nat.le_of_ble_eq_true rfl); (case hy => k_asm); (case hy2 => k_asm); (case hz => omega); k_whole; intro a' t1' h' tk' F' N' l1; (try (replace l1 := allNe_of l1)); (try k_sweep)))
    )
  k_with "call ref" => (
(k_here; (with_reducible show wpAny _ _ (call (Value.ref 99) [Value.int _ _]) _ _ _); k_dflt (apply thing_use; (case hA => exact rfl); (case hf => exact rfl); (case hk => exact rfl); (case F => k_asm); (case B => k_asm); (case X => k_asm); (case N => k_asm); (case T => k_asm); (case hh => exact rfl); (case hg => exact rfl); (case hd => exact Nat.le_of_ble_eq_true rfl); (case hu => exact Nat.le_of_ble_eq_true rfl); (case hy => k_asm); (case hy2 => k_asm); k_whole; intro a' t1' t2' t3' t4' h' tk' F' N' l1; (try (replace l1 := allNe_of l1)); (try k_sweep)))
    )
  trivial

section
variable {prog : Program} {w : World} {A : Around} {E : Value → Shared → Prop} {s : Shared} {h₀ : Heap} {L d : Addr} {m : Str → Option Value} {news : List (Addr × Obj)} {o : Obj} {kvs : List (Str × Value)} {x : Str} {t : Tok}
theorem dict_at (N : News h₀ L s.heap news) (hm : (d, o) ∈ news) (hd : o.IsDictOf (strKind prog w) kvs) : s.heap.DictOf (strKind prog w) d kvs := Heap.dictOf_iff.mpr ⟨o, (N _ hm).1, hd⟩
theorem dget {dflt : Value} {Q : Value → Shared → Prop} (N : News h₀ L s.heap news) (hm : (d, o) ∈ news) (hd : o.IsDictOf (strKind prog w) kvs) (lo : (d == sysModules) = false)
    (h : Q ((valueAt kvs x).getD dflt) { s with toks := s.toks + 1 }) : wpAny (model prog w) A (call (.builtin "dict.get") [.ref d, .str x t, dflt]) Q E s := by
  have hD := (dict_at N hm hd).mapOf
  exact call_meetsIn F.slot_dict_get hD.typeIs F.entry_dict_get (F.args_dict_get_3 _ _ _) (meets_dict_get_default (strKind prog w) d (strKind_is prog w x t) lo dflt) ⟨_, hD, h⟩
theorem dset {v : Value} {g : Obj → List (Addr × Obj)} {Q : Unit → Shared → Prop} (F : Fr h₀ L s.heap m) (N : News h₀ L s.heap news) (U : UpdF d o news g) (hd : o.IsDictOf (strKind prog w) kvs) (hz : kvs.length ≤ sizeLine)
    (h : ∀ h' o', Fr h₀ L h' m → News h₀ L h' (g o') → o'.IsDictOf (strKind prog w) (stored kvs x v) → Q () { s with heap := h', toks := s.toks + 1 }) :
    wpAny (model prog w) A (setItem (.ref d) (.str x t) v) Q E s := by
  obtain ⟨pre, post, rfl, hg, a, b⟩ := U.split
  have z := N (d, o) (List.mem_append.mpr (.inr (.head _)))
  refine wpAny_setItem_pairs (strKind_is prog w x t) (Heap.dictOf_iff.mpr ⟨o, z.1, hd⟩) (fun h' hd' hs => ?_) hz
  obtain ⟨o', ho', hd''⟩ := Heap.dictOf_iff.mp hd'
  exact h h' o' (F.change hs z.2.1 z.2.2) (hg o' ▸ news_set N a b hs ho') hd''
theorem din {Q : Value → Shared → Prop} (N : News h₀ L s.heap news) (hm : (d, o) ∈ news) (hd : o.IsDictOf (strKind prog w) kvs) (lo : (d == sysModules) = false)
    (h : Q (.bool (valueAt kvs x).isSome) { s with toks := s.toks + 1 }) : wpAny (model prog w) A (compareOp .In (.str x t) (.ref d)) Q E s :=
  wpAny_in_of (strKind_is prog w x t) lo (dict_at N hm hd).mapOf h
theorem ditem {value slice : Expr} {v : Value} {Q : Value → Shared → Prop} (N : News h₀ L s.heap news) (hm : (d, o) ∈ news) (hd : o.IsDictOf (strKind prog w) kvs) (hv : valueAt kvs x = some v)
    (h : Q v { s with toks := s.toks + 1 })
    (hs : subscripted slice false (.ref d) (.str x t) = operate [.ref d, .str x t] (getItem (.ref d) (.str x t))) : wpAny (model prog w) A (subscriptTail value slice (.ref d) (.str x t)) Q E s :=
  tail_any (dict_at N hm hd).mapOf.typeIs slot_dict_getitem.lookup (wpAny_getItem_of (strKind_is prog w x t) (dict_at N hm hd).mapOf hv h) hs
end

noncomputable def getT (tab : List (Str × Int × Int)) (x : Str) : Option (Int × Int) := (tab.find? fun kv => kv.1 = x).map (·.2)
noncomputable def putT (tab : List (Str × Int × Int)) (x : Str) (v : Int × Int) : List (Str × Int × Int) :=
  if tab.any (fun kv => kv.1 = x) then tab.map (fun kv => if kv.1 = x then (kv.1, v) else kv) else tab ++ [(x, v)]
theorem putT_len (tab : List (Str × Int × Int)) (x : Str) (v : Int × Int) : (putT tab x v).length ≤ tab.length + 1 := by
  unfold putT
  split
  · rw [List.length_map]; omega
  · rw [List.length_append, List.length_singleton]; exact Nat.le_refl _
structure LSt where
  rows : List (Str × Bool × Str)
  ahead : Str
  tab : List (Str × Int × Int)
noncomputable def bump (tab : List (Str × Int × Int)) (a : Str) (y : Int) : List (Str × Int × Int) := putT tab a (((getT tab a).getD (0, 0)).1 + 1, ((getT tab a).getD (0, 0)).2 + y)
noncomputable def lstep (q : LSt) (y : Int) : LSt :=
  ⟨q.rows ++ [(lineText y q.ahead, refusedOf y, bareOf (lineText y q.ahead))], bareOf (lineText y q.ahead), bump q.tab (bareOf (lineText y q.ahead)) y⟩
noncomputable def lrun (ys : List Int) : LSt := ys.foldl lstep ⟨[], Str.ofString "row", []⟩
theorem lrun_snoc (ys : List Int) (y : Int) : lrun (ys ++ [y]) = lstep (lrun ys) y := by unfold lrun; rw [List.foldl_append]; rfl
structure LOk (q : LSt) (n : Nat) : Prop where
  ahead : q.ahead.length ≤ 3 + 40 * n
  ok : PyData.strOk q.ahead = true
  tab : q.tab.length ≤ n
  rows : q.rows.length = n
theorem lok_step {q : LSt} {n : Nat} {y : Int} (h : LOk q n) (h0 : 0 ≤ y) (h1 : y < 1000000) : LOk (lstep q y) (n + 1) := by
  refine ⟨?_, ?_, ?_, ?_⟩
  · have a := lineText_len h0 h1 q.ahead
    have b := bareOf_len (lineText y q.ahead)
    have c := h.ahead
    show (bareOf (lineText y q.ahead)).length ≤ _
    omega
  · exact bareOf_ok (lineText_ok y h.ok)
  · show (bump q.tab _ y).length ≤ _
    exact Nat.le_trans (putT_len _ _ _) (Nat.succ_le_succ h.tab)
  · show (q.rows ++ [_]).length = _
    rw [List.length_append, List.length_singleton, h.rows]
theorem lok_run : ∀ (ys : List Int), (∀ y ∈ ys, 0 ≤ y ∧ y < 1000000) → LOk (lrun ys) ys.length := by
  have key : ∀ (ys : List Int) (q : LSt) (n : Nat), LOk q n → (∀ y ∈ ys, 0 ≤ y ∧ y < 1000000) → LOk (ys.foldl lstep q) (n + ys.length) := by
    intro ys
    induction ys with
    | nil => intro q n h _; exact h
    | cons y r ih =>
      intro q n h hy
      have := ih (lstep q y) (n + 1) (lok_step h (hy y (.head _)).1 (hy y (.head _)).2) (fun z hz => hy z (.tail _ hz))
      rw [List.foldl_cons, List.length_cons]
      have e : n + (r.length + 1) = n + 1 + r.length := by omega
      rw [e]; exact this
  intro ys hy
  have := key ys ⟨[], Str.ofString "row", []⟩ 0 ⟨by decide +kernel, by decide +kernel, Nat.le_refl _, rfl⟩ hy
  rw [Nat.zero_add] at this
  exact this

inductive TabIn (led : List (Addr × Obj)) : List (Str × Value) → List (Str × Int × Int) → Prop
  | nil : TabIn led [] []
  | cons {k : Str} {p : Addr} {c v : Int} {t1 t2 : Tok} {kvs : List (Str × Value)} {tab : List (Str × Int × Int)} : (p, tupO [.int c t1, .int v t2]) ∈ led → TabIn led kvs tab → TabIn led ((k, .ref p) :: kvs) ((k, c, v) :: tab)
inductive RowsIn (led : List (Addr × Obj)) : List Value → List (Str × Bool × Str) → Prop
  | nil : RowsIn led [] []
  | cons {p : Addr} {l a : Str} {r : Bool} {t1 t2 : Tok} {vs : List Value} {rows : List (Str × Bool × Str)} : (p, tupO [.str l t1, .bool r, .str a t2]) ∈ led → RowsIn led vs rows → RowsIn led (.ref p :: vs) ((l, r, a) :: rows)
theorem TabIn.mono {led led' : List (Addr × Obj)} (hs : ∀ p ∈ led, p ∈ led') {kvs : List (Str × Value)} {tab : List (Str × Int × Int)} (h : TabIn led kvs tab) : TabIn led' kvs tab := by
  induction h with
  | nil => exact .nil
  | cons hm _ ih => exact .cons (hs _ hm) ih
theorem RowsIn.mono {led led' : List (Addr × Obj)} (hs : ∀ p ∈ led, p ∈ led') {vs : List Value} {rows : List (Str × Bool × Str)} (h : RowsIn led vs rows) : RowsIn led' vs rows := by
  induction h with
  | nil => exact .nil
  | cons hm _ ih => exact .cons (hs _ hm) ih
theorem TabIn.length {led : List (Addr × Obj)} {kvs : List (Str × Value)} {tab : List (Str × Int × Int)} (h : TabIn led kvs tab) : kvs.length = tab.length := by
  induction h with
  | nil => rfl
  | cons _ _ ih => rw [List.length_cons, List.length_cons, ih]
theorem RowsIn.length {led : List (Addr × Obj)} {vs : List Value} {rows : List (Str × Bool × Str)} (h : RowsIn led vs rows) : vs.length = rows.length := by
  induction h with
  | nil => rfl
  | cons _ _ ih => rw [List.length_cons, List.length_cons, ih]
theorem TabIn.value {led : List (Addr × Obj)} {kvs : List (Str × Value)} {tab : List (Str × Int × Int)} (h : TabIn led kvs tab) (x : Str) :
    (valueAt kvs x = none ∧ getT tab x = none) ∨ ∃ p c v t1 t2, valueAt kvs x = some (.ref p) ∧ getT tab x = some (c, v) ∧ (p, tupO [.int c t1, .int v t2]) ∈ led := by
  induction h with
  | nil => exact .inl ⟨rfl, rfl⟩
  | @cons k p c v t1 t2 kvs tab hm _ ih =>
    by_cases hk : k = x
    · subst hk
      exact .inr ⟨p, c, v, t1, t2, by simp [valueAt], by simp [getT], hm⟩
    · have e1 : valueAt ((k, Value.ref p) :: kvs) x = valueAt kvs x := by unfold valueAt; rw [List.find?_cons_of_neg (by simpa using hk)]
      have e2 : getT ((k, c, v) :: tab) x = getT tab x := by unfold getT; rw [List.find?_cons_of_neg (by simpa using hk)]
      rw [e1, e2]; exact ih
theorem TabIn.any {led : List (Addr × Obj)} {kvs : List (Str × Value)} {tab : List (Str × Int × Int)} (h : TabIn led kvs tab) (x : Str) : (kvs.any fun kv => kv.1 = x) = tab.any fun kv => kv.1 = x := by
  induction h with
  | nil => rfl
  | cons _ _ ih => simp only [List.any_cons, ih]
theorem TabIn.append {led : List (Addr × Obj)} {kvs : List (Str × Value)} {tab : List (Str × Int × Int)} (h : TabIn led kvs tab) {k : Str} {p : Addr} {c v : Int} {t1 t2 : Tok} (hm : (p, tupO [.int c t1, .int v t2]) ∈ led) : TabIn led (kvs ++ [(k, .ref p)]) (tab ++ [(k, c, v)]) := by
  induction h with
  | nil => exact .cons hm .nil
  | cons hq _ ih => exact .cons hq ih
theorem RowsIn.append {led : List (Addr × Obj)} {vs : List Value} {rows : List (Str × Bool × Str)} (h : RowsIn led vs rows) {p : Addr} {l a : Str} {r : Bool} {t1 t2 : Tok} (hm : (p, tupO [.str l t1, .bool r, .str a t2]) ∈ led) : RowsIn led (vs ++ [.ref p]) (rows ++ [(l, r, a)]) := by
  induction h with
  | nil => exact .cons hm .nil
  | cons hq _ ih => exact .cons hq ih
theorem TabIn.store {led : List (Addr × Obj)} {kvs : List (Str × Value)} {tab : List (Str × Int × Int)} (h : TabIn led kvs tab) {x : Str} {p : Addr} {c v : Int} {t1 t2 : Tok} (hm : (p, tupO [.int c t1, .int v t2]) ∈ led) : TabIn led (stored kvs x (.ref p)) (putT tab x (c, v)) := by
  unfold stored putT
  rw [h.any x]
  split
  · rename_i hq0
    clear hq0
    induction h with
    | nil => exact .nil
    | @cons k q c' v' t1' t2' kvs tab hq _ ih =>
      rw [List.map_cons, List.map_cons]
      by_cases hk : k = x
      · rw [if_pos hk, if_pos hk]; exact .cons hm ih
      · rw [if_neg hk, if_neg hk]; exact .cons hq ih
  · exact h.append hm
end T20
section T21
theorem fill10b : PySem.Challenge.rw_pe0125_01 = PySem.Challenge.rw_pe0125_01 ∧ hd.heap_39 = hd.heap_39 := by
  k_fill
  exact ⟨rfl, rfl⟩

inductive LJ (prog : Program) (w : World) (ns : List Int) (i : Nat) (m : Str → Option Value) (nx : List (Addr × Obj)) : Prop
  | mk (a d : Addr) (vs : List Value) (n : Nat) (o : Obj) (kvs : List (Str × Value)) (tl : List (Addr × Obj)) (t : Tok) (e : nx = (a, listOf (List.toArray vs) n) :: (d, o) :: tl) (hne : @Ne Nat a d) (hoff : OwnOff tl [a, d]) (lo : (d == sysModules) = false)
    (e1 : m (Str.ofString "lines") = some (.ref a)) (e2 : m (Str.ofString "table") = some (.ref d)) (e3 : m (Str.ofString "ahead") = some (.str (lrun (ns.take i)).ahead t))
    (hR : RowsIn tl vs (lrun (ns.take i)).rows) (hd : o.IsDictOf (strKind prog w) kvs) (hT : TabIn tl kvs (lrun (ns.take i)).tab)
theorem chain3 {m : Str → Option Value} {x1 x2 x3 : Str} {v1 v2 v3 : Value} (h1 : m x1 = some v1) (h2 : m x2 = some v2) (h3 : m x3 = some v3) :
    m = fun y => if y = x1 then some v1 else if y = x2 then some v2 else if y = x3 then some v3 else m y := by
  funext y
  by_cases e1 : y = x1
  · subst e1; rw [if_pos rfl, h1]
  · rw [if_neg e1]
    by_cases e2 : y = x2
    · subst e2; rw [if_pos rfl, h2]
    · rw [if_neg e2]
      by_cases e3 : y = x3
      · subst e3; rw [if_pos rfl, h3]
      · rw [if_neg e3]

theorem take_succ {ns : List Int} {i : Nat} {n : Int} (h : ns[i]? = some n) : ns.take (i + 1) = ns.take i ++ [n] := by simp [List.take_add_one, h]
theorem allLt_mem {d : Nat} {l : List (Addr × Obj)} (h : AllLt d l) : ∀ p ∈ l, @LT.lt Nat _ p.1 d := by
  induction l with
  | nil => intro p hp; cases hp
  | cons q r ih =>
    intro p hp
    rcases List.mem_cons.mp hp with e | hp
    · rw [e]; exact h.1
    · exact ih h.2 p hp
theorem ledger_loop {prog : Program} {w : World} {A : Around} {E : Value → Shared → Prop} {s : Shared} {env : Env} {h₀ : Heap} {body : List Stmt} {Q : Flow → Shared → Prop} {l a d : Addr} {o : Obj} {vs : List Value} {ns : List Int} {t : Tok} {m₀ : Str → Option Value}
    (hh : A.handled = none) (hl : h₀.IsList l vs.toArray) (hi : IntsAre vs ns) (F : Fr h₀ env.locals s.heap m₀) (N : News h₀ env.locals s.heap [(d, o), (a, listOf #[] 0)]) (hne : @Ne Nat a d) (lo : (d == sysModules) = false) (hd : o.IsDictOf (strKind prog w) [])
    (e1 : m₀ (Str.ofString "lines") = some (.ref a)) (e2 : m₀ (Str.ofString "table") = some (.ref d)) (e3 : m₀ (Str.ofString "ahead") = some (.str (Str.ofString "row") t))
    (turn : ∀ i n t a d us k o kvs tl tt (u : Str → Option Value) h tk own, ns[i]? = some n → @Ne Nat a d → OwnOff own (a :: d :: tl.map (·.1)) → OwnOff (tl ++ own) [a, d] → (d == sysModules) = false → RowsIn tl us (lrun (ns.take i)).rows → o.IsDictOf (strKind prog w) kvs → TabIn tl kvs (lrun (ns.take i)).tab →
      Fr h₀ env.locals h (fun y => if y = Str.ofString "y" then some (.int n t) else if y = Str.ofString "lines" then some (.ref a) else if y = Str.ofString "table" then some (.ref d) else if y = Str.ofString "ahead" then some (.str (lrun (ns.take i)).ahead tt) else u y) →
      News h₀ env.locals h ((a, listOf (List.toArray us) k) :: (d, o) :: (tl ++ own)) →
      wpAny (model prog w) A (execs body env) (InvPostG h₀ env.locals (LJ prog w ns (i + 1)) own { s with heap := h, toks := tk } Q) E { s with heap := h, toks := tk })
    (done : ∀ a d us k o kvs tl tt (u : Str → Option Value) h tk, @Ne Nat a d → OwnOff tl [a, d] → (d == sysModules) = false → RowsIn tl us (lrun ns).rows → o.IsDictOf (strKind prog w) kvs → TabIn tl kvs (lrun ns).tab →
      Fr h₀ env.locals h (fun y => if y = Str.ofString "lines" then some (.ref a) else if y = Str.ofString "table" then some (.ref d) else if y = Str.ofString "ahead" then some (.str (lrun ns).ahead tt) else u y) →
      News h₀ env.locals h ((a, listOf (List.toArray us) k) :: (d, o) :: tl) → Q .next { s with heap := h, toks := tk }) :
    wpAny (model prog w) A (pyIter (.ref l)) (fun it s₂ => LoopAtV prog w A h₀ env (Str.ofString "y") body Q E it s₂) E s := by
  refine iter_invG (LJ prog w ns) hh hl hi F (news := [(a, listOf #[] 0), (d, o)]) (fun p hp => N p (by rcases List.mem_cons.mp hp with rfl | hp; exact .tail _ (.head _); rcases List.mem_cons.mp hp with rfl | hp; exact .head _; cases hp)) ?_ ?_ ?_
  · exact ⟨a, d, [], 0, o, [], [], t, rfl, hne, fun _ h => (nomatch h), lo, e1, e2, e3, .nil, hd, .nil⟩
  · rintro i n t' m₁ news₁ h tk own hn - hoff ⟨a, d, us, k, o, kvs, tl, tt, rfl, hne, htl, lo, e1, e2, e3, hR, hd, hT⟩ F₁ N₁
    rw [chain3 e1 e2 e3] at F₁
    refine turn i n t' a d us k o kvs tl tt m₁ h tk own hn hne (by simpa using hoff) (fun p hp b hb => ?_) lo hR hd hT F₁ N₁
    rcases List.mem_append.mp hp with hp | hp
    · exact htl p hp b hb
    · refine hoff p hp b ?_
      rcases List.mem_cons.mp hb with rfl | hb
      · exact .head _
      · rcases List.mem_cons.mp hb with rfl | hb
        · exact .tail _ (.head _)
        · cases hb
  · rintro m₁ news₁ h tk ⟨a, d, us, k, o, kvs, tl, tt, rfl, hne, htl, lo, e1, e2, e3, hR, hd, hT⟩ F₁ N₁
    rw [List.take_length] at e3 hR hT
    rw [chain3 e1 e2 e3] at F₁
    exact done a d us k o kvs tl tt m₁ h tk hne htl lo hR hd hT F₁ N₁
theorem ledger_end {prog : Program} {w : World} {h₀ h' : Heap} {L a d p q : Addr} {ns : List Int} {i k : Nat} {n c v : Int} {m' : Str → Option Value} {own news' tl : List (Addr × Obj)} {us : List Value} {o : Obj} {kvs : List (Str × Value)} {t1 t2 t3 t4 tt : Tok} {s₁ : Shared} {tk : Nat}
    (hn : ns[i]? = some n) (F : Fr h₀ L h' m') (N : News h₀ L h' news') (hne : @Ne Nat a d) (hoff : OwnOff own (a :: d :: tl.map (·.1))) (htl : OwnOff (tl ++ own) [a, d]) (lo : (d == sysModules) = false) (hR : RowsIn tl us (lrun (ns.take i)).rows) (hT : TabIn tl kvs (lrun (ns.take i)).tab)
    (hcv : ((getT (lrun (ns.take i)).tab (bareOf (lineText n (lrun (ns.take i)).ahead))).getD (0, 0)) = (c, v))
    (hd : o.IsDictOf (strKind prog w) (stored kvs (bareOf (lineText n (lrun (ns.take i)).ahead)) (.ref q)))
    (e1 : m' (Str.ofString "lines") = some (.ref a)) (e2 : m' (Str.ofString "table") = some (.ref d)) (e3 : m' (Str.ofString "ahead") = some (.str (bareOf (lineText n (lrun (ns.take i)).ahead)) tt))
    (ma : (a, listOf ((List.toArray us).push (.ref p)) k) ∈ news') (md : (d, o) ∈ news') (mp : (p, tupO [.str (lineText n (lrun (ns.take i)).ahead) t1, .bool (refusedOf n), .str (bareOf (lineText n (lrun (ns.take i)).ahead)) t2]) ∈ news') (mq : (q, tupO [.int (c + 1) t3, .int (v + n) t4]) ∈ news')
    (ms : ∀ x ∈ tl ++ own, x ∈ news') (hp : ∀ x ∈ own, @Ne Nat x.1 p) (hq : ∀ x ∈ own, @Ne Nat x.1 q) (pa : @Ne Nat p a) (pd : @Ne Nat p d) (qa : @Ne Nat q a) (qd : @Ne Nat q d) :
    InvEndG h₀ L (LJ prog w ns (i + 1)) own s₁ { s₁ with heap := h', toks := tk } := by
  have er : lrun (ns.take (i + 1)) = lstep (lrun (ns.take i)) n := by rw [take_succ hn, lrun_snoc]
  have sub : ∀ x ∈ tl, x ∈ (q, tupO [.int (c + 1) t3, .int (v + n) t4]) :: (p, tupO [.str (lineText n (lrun (ns.take i)).ahead) t1, .bool (refusedOf n), .str (bareOf (lineText n (lrun (ns.take i)).ahead)) t2]) :: tl := fun x hx => .tail _ (.tail _ hx)
  refine InvEndG.intro (nx := (a, listOf ((List.toArray us).push (.ref p)) k) :: (d, o) :: (q, tupO [.int (c + 1) t3, .int (v + n) t4]) :: (p, tupO [.str (lineText n (lrun (ns.take i)).ahead) t1, .bool (refusedOf n), .str (bareOf (lineText n (lrun (ns.take i)).ahead)) t2]) :: tl) F N ?_ ?_ ?_ ?_
  · refine ⟨a, d, us ++ [.ref p], k, o, _, _, tt, by rw [List.push_toArray], hne, ?_, lo, e1, e2, by rw [er]; exact e3, ?_, hd, ?_⟩
    · intro x hx b hb
      rcases List.mem_cons.mp hx with rfl | hx
      · rcases List.mem_cons.mp hb with rfl | hb
        · exact qa
        · rw [List.mem_singleton.mp hb]; exact qd
      · rcases List.mem_cons.mp hx with rfl | hx
        · rcases List.mem_cons.mp hb with rfl | hb
          · exact pa
          · rw [List.mem_singleton.mp hb]; exact pd
        · exact htl x (List.mem_append_left _ hx) b hb
    · rw [er]
      exact (hR.mono sub).append (.tail _ (.head _))
    · rw [er]
      show TabIn _ _ (bump _ _ _)
      unfold bump
      rw [hcv]
      exact (hT.mono sub).store (.head _)
  · intro x hx b hb
    simp only [List.map_cons] at hb
    rcases List.mem_cons.mp hb with rfl | hb
    · exact hoff x hx _ (.head _)
    · rcases List.mem_cons.mp hb with rfl | hb
      · exact hoff x hx _ (.tail _ (.head _))
      · rcases List.mem_cons.mp hb with rfl | hb
        · exact hq x hx
        · rcases List.mem_cons.mp hb with rfl | hb
          · exact hp x hx
          · exact hoff x hx b (.tail _ (.tail _ hb))
  · intro x hx
    rcases List.mem_cons.mp hx with rfl | hx
    · exact ma
    · rcases List.mem_cons.mp hx with rfl | hx
      · exact md
      · rcases List.mem_cons.mp hx with rfl | hx
        · exact mq
        · rcases List.mem_cons.mp hx with rfl | hx
          · exact mp
          · exact ms x (List.mem_append_left _ hx)
  · exact fun x hx => ms x (List.mem_append_right _ hx)
theorem dgetT {prog : Program} {w : World} {A : Around} {E : Value → Shared → Prop} {s : Shared} {h₀ : Heap} {L d : Addr} {news led : List (Addr × Obj)} {o : Obj} {kvs : List (Str × Value)} {tab : List (Str × Int × Int)} {x : Str} {t : Tok} {dflt : Value} {Q : Value → Shared → Prop}
    (N : News h₀ L s.heap news) (hm : (d, o) ∈ news) (hd : o.IsDictOf (strKind prog w) kvs) (lo : (d == sysModules) = false) (hT : TabIn led kvs tab) (hs : ∀ x ∈ led, x ∈ news)
    (h0 : (getT tab x).getD (0, 0) = (0, 0) → Q dflt { s with toks := s.toks + 1 })
    (h1 : ∀ p c v t1 t2, (getT tab x).getD (0, 0) = (c, v) → (p, tupO [.int c t1, .int v t2]) ∈ led → (p, { cls := .type "tuple", data := .seq #[.int c t1, .int v t2] }) ∈ news → Q (.ref p) { s with toks := s.toks + 1 }) :
    wpAny (model prog w) A (call (.builtin "dict.get") [.ref d, .str x t, dflt]) Q E s := by
  refine dget N hm hd lo ?_
  rcases hT.value x with ⟨e1, e2⟩ | ⟨p, c, v, t1, t2, e1, e2, hp⟩
  · rw [e1]; exact h0 (by rw [e2]; rfl)
  · rw [e1]; exact h1 p c v t1 t2 (by rw [e2]; rfl) hp (hs _ hp)
example : True := by
  k_with "call builtin:dict.get" => (
(k_here; (with_reducible show wpAny _ _ (call (Value.builtin _) [Value.ref _, Value.str _ _, Value.ref _]) _ _ _); k_dflt (apply dgetT; (case N => k_asm); (case hm => k_mem); (case hd => k_asm); (case lo => k_asm); (case hT => k_asm); (case hs => (intro x' hx'; (repeat (first | exact List.mem_append_left _ hx' | refine List.Mem.tail _ ?_))))); (all_goals first | (intro p' c' v' t1' t2' hg' hm' hm2') | intro hg'))
    )
  k_with "setItem ref str" => (
(k_here; (with_reducible show wpAny _ _ (setItem (Value.ref _) (Value.str _ _) (Value.ref _)) _ _ _); k_dflt (apply dset; (case F => k_asm); (case N => k_asm); (case U => k_updF); (case hd => k_asm); (case hz => (rw [sizeLine_eq]; omega))); intro h' o' F' N' hd'; (try dsimp only at N'); (try k_sweep))
    )
  trivial

inductive ItemsIn (led : List (Addr × Obj)) : List (Str × Value) → List Value → Prop
  | nil : ItemsIn led [] []
  | cons {k : Str} {v : Value} {p : Addr} {t : Tok} {kvs : List (Str × Value)} {us : List Value} : (p, tupO [.str k t, v]) ∈ led → ItemsIn led kvs us → ItemsIn led ((k, v) :: kvs) (.ref p :: us)
theorem ItemsIn.mono {led led' : List (Addr × Obj)} (hs : ∀ p ∈ led, p ∈ led') {kvs : List (Str × Value)} {us : List Value} (h : ItemsIn led kvs us) : ItemsIn led' kvs us := by
  induction h with
  | nil => exact .nil
  | cons hm _ ih => exact .cons (hs _ hm) ih
noncomputable def ledOf (h : Heap) (as : List Addr) : List (Addr × Obj) := as.filterMap fun a => (h.get? a).map fun o => (a, o)
theorem ledOf_get {h : Heap} {as : List Addr} {p : Addr × Obj} (hp : p ∈ ledOf h as) : h.get? p.1 = some p.2 ∧ p.1 ∈ as := by
  obtain ⟨a, ha, e⟩ := List.mem_filterMap.mp hp
  cases q : h.get? a with
  | none => rw [q] at e; cases e
  | some o => rw [q] at e; cases e; exact ⟨q, ha⟩
theorem mem_ledOf {h : Heap} {as : List Addr} {a : Addr} {o : Obj} (ha : a ∈ as) (e : h.get? a = some o) : (a, o) ∈ ledOf h as := List.mem_filterMap.mpr ⟨a, ha, by rw [e]; rfl⟩
theorem str_of_is {prog : Program} {w : World} {k : Str} {key : Value} (h : (strKind prog w).is k key = true) : ∃ t, key = .str k t := by
  have h' : Value.isStrOf k key = true := h
  cases key with
  | str x t =>
    have e : x = k := by
      unfold Value.isStrOf at h'
      have := eq_of_beq h'
      first | exact this | exact this.symm
    exact ⟨t, by rw [e]⟩
  | _ => cases h'
theorem items_of {prog : Program} {w : World} {h : Heap} (led : List (Addr × Obj)) (as : List Addr) : ∀ (kvs : List (Str × Value)), as.length = kvs.length → (∀ a ∈ as, ∀ o, h.get? a = some o → (a, o) ∈ led) →
    (∀ (j : Nat) (a : Addr), as[j]? = some a → ∃ key k x, kvs[j]? = some (k, x) ∧ (strKind prog w).is k key = true ∧ h.get? a = some { cls := .type "tuple", data := .seq #[key, x] }) → ItemsIn led kvs (as.map Value.ref) := by
  induction as with
  | nil =>
    intro kvs hl hm hp
    cases kvs with
    | nil => exact .nil
    | cons kv kvs => cases hl
  | cons a as ih =>
    intro kvs hl hm hp
    cases kvs with
    | nil => cases hl
    | cons kv kvs =>
      obtain ⟨k, v⟩ := kv
      obtain ⟨key, k', x, e1, e2, e3⟩ := hp 0 a rfl
      cases e1
      obtain ⟨t, rfl⟩ := str_of_is e2
      exact .cons (t := t) (hm a (.head _) _ e3) (ih kvs (Nat.succ.inj hl) (fun b hb => hm b (.tail _ hb)) fun j b hj => hp (j + 1) b hj)
theorem list_items {prog : Program} {w : World} {A : Around} {E : Value → Shared → Prop} {s : Shared} {h₀ : Heap} {L d v : Addr} {m : Str → Option Value} {news : List (Addr × Obj)} {o : Obj} {kvs : List (Str × Value)} {Q : Value → Shared → Prop}
    (hh : A.handled = none) (F : Fr h₀ L s.heap m) (N : News h₀ L s.heap news) (hvw : (v, { cls := .type "dict_items", data := .fields #[.ref d] }) ∈ news) (hmd : (d, o) ∈ news) (hod : o.IsDictOf (strKind prog w) kvs) (hn : kvs.length ≤ sizeLine)
    (h : ∀ B us c tl h' tk, Fr h₀ L h' m → News h₀ L h' ((B, listOf (List.toArray us) c) :: (tl ++ news)) → ItemsIn tl kvs us → (∀ q ∈ news, q.1 < B) → (∀ p ∈ tl, B < p.1) → Q (.ref B) { s with heap := h', toks := tk }) :
    wpAny (model prog w) A (call (.type "list") [.ref v]) Q E s := by
  obtain ⟨ep, hat⟩ := (dict_at N hmd hod).dictAt
  refine kdx_call (knd := strKind prog w) (kvs := kvs) (ep := ep) hh ⟨_, (N _ hvw).1, rfl, rfl⟩ hat hn fun h' tk acc c as hk hS hl hG hacc => ?_
  have ea : acc = (as.map Value.ref).toArray := by rw [← hacc, Array.toArray_toList]
  subst ea
  refine h s.heap.objs.size (as.map Value.ref) c (ledOf h' as) h' tk (F.keeps hk) (fun q hq => ?_) (items_of _ as kvs hl (fun a ha o e => mem_ledOf ha e) hG.pairs) (fun q hq => Heap.lt_size (N q hq).1) (fun p hp => hG.above _ (ledOf_get hp).2)
  rcases List.mem_cons.mp hq with rfl | hq
  · exact ⟨hS, kdx_fresh F (Nat.le_refl _)⟩
  · rcases List.mem_append.mp hq with hq | hq
    · exact ⟨(ledOf_get hq).1, kdx_fresh F (Nat.le_of_lt (hG.above _ (ledOf_get hq).2))⟩
    · exact ⟨hk _ _ (N q hq).1, (N q hq).2⟩
example : True := by
  k_with "call type:list" => (
(k_here; (with_reducible show wpAny _ _ (call (Value.type _) [Value.ref _]) _ _ _); k_dflt (apply list_items; (case hh => exact rfl); (case F => k_asm); (case N => k_asm); (case hvw => k_mem); (case hmd => k_mem); (case hod => k_asm); (case hn => (rw [sizeLine_eq]; omega))); intro B' us' c' tl' h' tk' F' N' hI' l1 l2'; (try k_lt l1); (try k_sweep))
    )
  k_with "newTuple" => (
(k_here; k_dflt (apply kup_newTuple; (case F => k_asm); (case N => k_asm); (case hz => kmk_size)); intro D' h' F' N' l1; (try k_lt l1); (try k_sweep))
    )
  trivial
end T21
section T22
example : True := by
  w_top off
  trivial
theorem fill11 : PySem.Challenge.rw_pe0125_01 = PySem.Challenge.rw_pe0125_01 ∧ hd.heap_39 = hd.heap_39 := by
  k_fill
  exact ⟨rfl, rfl⟩

structure LedgerOut (led : List (Addr × Obj)) (ns : List Int) (r a b : Addr) (us us' : List Value) (k c : Nat) (kvs : List (Str × Value)) : Prop where
  r : (r, tupO [.ref a, .ref b]) ∈ led
  a : (a, listOf us.toArray k) ∈ led
  b : (b, listOf us'.toArray c) ∈ led
  rows : RowsIn led us (lrun ns).rows
  tab : TabIn led kvs (lrun ns).tab
  items : ItemsIn led kvs us'

section
variable {prog : Program} {w : World} {A₀ A : Around} {s : Shared} {base h₀ : Heap} {outer : List Env} {L : Addr} {m mg mb : Str → Option Value} {mean : ExcName → Option Value} {tp : Program} {tl₀ : List Str} {env : Env} {Q E : Value → Shared → Prop} {news : List (Addr × Obj)}

set_option maxHeartbeats 400000 in
theorem ledger_at {l : Addr} {vs : List Value} {ns : List Int} (B : Below A₀ base outer h₀) (F : Fr h₀ L s.heap m) (X : (hd.heap_39 w.params).In h₀) (T : Top tp tl₀ mean mg mb h₀) (hf : env.frame = some L) (hk : env.scope.kind = .function)
   (hl : s.heap.IsList l vs.toArray) (hi : IntsAre vs ns) (hn : ∀ y ∈ ns, 0 ≤ y ∧ y < 1000000) (hlen : ns.length ≤ 20)
   (post : ∀ led r a b us us' k c kvs h' tk, Ext s.heap h' → (∀ p ∈ led, s.heap.get? p.1 = none ∧ h'.get? p.1 = some p.2) → LedgerOut led ns r a b us us' k c kvs → Q (.ref r) { s with heap := h', toks := tk }) :
   wpAny (model prog w) (AT 500 900 env outer) (call (.ref 120) [.ref l]) Q E s := by
  walk_at "m enter"
  subst_vars
  k_with "pyIter ref" => (
    refine' ledger_loop (ns := ns) ?hhZ1 ?hlZ1 ?hiZ1 ?FZ1 ?NZ1 ?hneZ1 ?loZ1 ?hdZ1 ?e1Z1 ?e2Z1 ?e3Z1 ?turnZ1 ?doneZ1
    case hhZ1 => exact rfl
    case FZ1 => k_asm
    case NZ1 => k_asm
    case hlZ1 => k_asm
    case hiZ1 => k_asm
    case hneZ1 => k_ne
    case loZ1 => k_asm
    case hdZ1 => k_asm
    case e1Z1 => rfl
    case e2Z1 => rfl
    case e3Z1 => rfl
    all_goals first
      | (intro i n t a d us k o kvs tl tt u h tk own hni hne hoff htl lo hR hd hT F' N'
         obtain ⟨hy0, hy1⟩ := hn n (List.mem_of_getElem? hni)
         have hilt : i < ns.length := by
           rcases Nat.lt_or_ge i ns.length with q | q
           · exact q
           · rw [List.getElem?_eq_none q] at hni; cases hni
         have hok := lok_run (ns.take i) (fun y hy => hn y (List.mem_of_mem_take hy))
         have hok1 := hok.ahead
         have hok2 := hok.tab
         have hok3 := hT.length
         have hok4 := hR.length
         have hok5 := hok.rows
         have hok7 := lineText_len hy0 hy1 (lrun (ns.take i)).ahead
         have hok6 : (ns.take i).length ≤ i := by rw [List.length_take]; omega
         try k_sweep)
      | (intro a d us k o kvs tl tt u h tk hne htl lo hR hd hT F' N'
         have hok := lok_run ns hn
         have hok2 := hok.tab
         have hok3 := hT.length
         try k_sweep))
  walk_at "m steps"
  all_goals first
    | ((with_reducible show InvEndG _ _ _ _ _ _)
       refine' ledger_end ?hnZ2 ?FZ2 ?NZ2 ?hneZ2 ?hoffZ2 ?htlZ2 ?loZ2 ?hRZ2 ?hTZ2 ?hcvZ2 ?hdZ2 ?e1Z2 ?e2Z2 ?e3Z2 ?maZ2 ?mdZ2 ?mpZ2 ?mqZ2 ?msZ2 ?hpZ2 ?hqZ2 ?_ ?_ ?_ ?_
       case hnZ2 => exact hni
       case FZ2 => k_asm
       case NZ2 => k_asm
       case hneZ2 => exact hne
       case hoffZ2 => exact hoff
       case htlZ2 => exact htl
       case loZ2 => exact lo
       case hRZ2 => exact hR
       case hTZ2 => exact hT
       case hcvZ2 => with_reducible assumption
       case hdZ2 => with_reducible assumption
       case e1Z2 => rfl
       case e2Z2 => rfl
       case e3Z2 => rfl
       case maZ2 => (repeat (first | exact List.Mem.head _ | refine List.Mem.tail _ ?_))
       case mdZ2 => (repeat (first | exact List.Mem.head _ | refine List.Mem.tail _ ?_))
       case mqZ2 => (repeat (first | exact List.Mem.head _ | refine List.Mem.tail _ ?_))
       case mpZ2 => (repeat (first | exact List.Mem.head _ | refine List.Mem.tail _ ?_))
       case msZ2 => (intro x hx; repeat (first | exact hx | refine List.Mem.tail _ ?_))
       case hpZ2 => exact fun x hx => Nat.ne_of_lt (aLt_mem (by with_reducible assumption) x (by walk_at "m in"))
       case hqZ2 => exact fun x hx => Nat.ne_of_lt (aLt_mem (by with_reducible assumption) x (by walk_at "m in"))
       all_goals first | k_ne | omega)
    | skip
  have cl := close0 (by with_reducible assumption) (by with_reducible assumption) rfl
  exact post _ _ a _ us _ k _ kvs _ _ cl.1 (fun p hp => cl.2 p.1 p.2 hp) ⟨.head _, .tail _ (.tail _ (List.mem_append_right _ (.tail _ (.head _)))), .tail _ (.head _),
    hR.mono fun p hp => .tail _ (.tail _ (List.mem_append_right _ (.tail _ (.tail _ (.tail _ hp))))),
    hT.mono fun p hp => .tail _ (.tail _ (List.mem_append_right _ (.tail _ (.tail _ (.tail _ hp))))),
    ItemsIn.mono (fun p hp => .tail _ (.tail _ (List.mem_append_left _ hp))) (by with_reducible assumption)⟩
end
end T22
section T23
section
variable {prog : Program} {w : World} {A : Around} {E : Value → Shared → Prop} {s : Shared}

theorem tnext_item {it t : Addr} {i : Nat} {items : Array Value} {x : Value} {Q : Value → Shared → Prop} (hit : s.heap.IsTupleIter it t i) (ht : s.heap.IsTuple t items) (hx : items[i]? = some x)
    (hQ : ∀ h', h'.IsTupleIter it t (i + 1) → Heap.SameBut it s.heap h' → Q x { s with heap := h' }) : wpAny (model prog w) A (Builtin.SmallTypes.nextOf (.ref it)) Q E s := by
  obtain ⟨o, ho, hc, hd⟩ := id hit
  obtain ⟨ot, hot, _, nt, hdt⟩ := ht
  unfold Builtin.SmallTypes.nextOf
  refine wpAny_bind (wpAny_callSpecial?_slot (name := Str.ofString "__next__") hit.typeIs F.slot_tuple_iterator_next
    (wpAny_call_entry F.slot_tuple_iterator_next hit.typeIs F.entry_tuple_iterator_next ?_ (F.args_tuple_iterator_next_1 _)))
  show wpAny _ _ (field (.ref it) 0 >>= _) _ _ s
  refine wpAny_bind (wpAny_field ho hd (x := .ref t) rfl ?_)
  show wpAny _ _ (if (Value.ref t == Value.none) = true then _ else _) _ _ s
  rw [if_neg (show ¬ ((Value.ref t == Value.none) = true) from Bool.false_ne_true)]
  show wpAny _ _ (field (.ref it) 1 >>= _) _ _ s
  refine wpAny_bind (wpAny_field ho hd (x := .int i 0) rfl ?_)
  show wpAny _ _ (seqItems? (.ref t) >>= _) _ _ s
  refine wpAny_bind (wpAny_seqItems hot hdt ?_)
  simp only [Int.toNat_natCast, hx]
  refine wpAny_bind (wpAny_setField ho hd (by simp) (wpAny_pure ⟨x, rfl, wpAny_pure (hQ _ ?_ (Heap.SameBut.update ..))⟩))
  exact ⟨_, Heap.get?_update_self _ ho (Obj.isFreed_of_fields (Obj.data_mapFields hd _)), (Obj.cls_mapFields ..).trans hc, by rw [Obj.data_mapFields hd]; simp [rawInt]⟩

theorem tnext_end {it t : Addr} {i : Nat} {items : Array Value} {Q : Value → Shared → Prop} (hh : A.handled = none) (hit : s.heap.IsTupleIter it t i) (ht : s.heap.IsTuple t items) (hx : items[i]? = none)
    (hE : ∀ h' e, Heap.ExtBut it s.heap h' → (∃ o, h'.get? e = some o ∧ o.cls = .type "StopIteration") → E (.ref e) { s with heap := h' }) : wpAny (model prog w) A (Builtin.SmallTypes.nextOf (.ref it)) Q E s := by
  obtain ⟨o, ho, hc, hd⟩ := id hit
  obtain ⟨ot, hot, _, nt, hdt⟩ := ht
  unfold Builtin.SmallTypes.nextOf
  refine wpAny_bind (wpAny_callSpecial?_slot (name := Str.ofString "__next__") hit.typeIs F.slot_tuple_iterator_next
    (wpAny_call_entry F.slot_tuple_iterator_next hit.typeIs F.entry_tuple_iterator_next ?_ (F.args_tuple_iterator_next_1 _)))
  show wpAny _ _ (field (.ref it) 0 >>= _) _ _ s
  refine wpAny_bind (wpAny_field ho hd (x := .ref t) rfl ?_)
  show wpAny _ _ (if (Value.ref t == Value.none) = true then _ else _) _ _ s
  rw [if_neg (show ¬ ((Value.ref t == Value.none) = true) from Bool.false_ne_true)]
  show wpAny _ _ (field (.ref it) 1 >>= _) _ _ s
  refine wpAny_bind (wpAny_field ho hd (x := .int i 0) rfl ?_)
  show wpAny _ _ (seqItems? (.ref t) >>= _) _ _ s
  refine wpAny_bind (wpAny_seqItems hot hdt ?_)
  simp only [Int.toNat_natCast, hx]
  refine wpAny_bind (wpAny_rule (wpAny_bind (wpAny_setField ho hd (by simp) ?_)))
  show wpAny _ _ (newExc (.type "StopIteration") [] >>= _) _ _ _
  refine wpAny_bind ?_
  simp only [newExc, newTuple]
  refine wpAny_bind (wpAny_newObj_type ?_ (by size_fits))
  refine wpAny_bind (m := firstArgMember _ _) (wpAny_of_eq (a := Value.none) (by first | rfl | (simp only [firstArgMember]; rfl)) ?_)
  refine wpAny_newObj_type ?_ (by size_fits)
  simp only [raiseNew]
  refine wpAny_bind (wpAny_handled ?_)
  first | rw [show A.in1.handled = none from hh] | rw [hh]
  refine wpAny_bind (wpAny_pure (wpAny_throw ?_))
  exact hE _ _ (((Heap.SameBut.update ..).extBut.push _).push _) ⟨_, Heap.get?_push_size _ rfl, rfl⟩

theorem tzip_item {z TI TO i1 i2 q1 q2 : Addr} {k : Nat} {xs ys : Array Value} {x y a b : Value} {Q : Value → Shared → Prop} (D : ZipApart z TI TO i1 i2 q1 q2)
    (hz : IsZip s.heap z TI TO .none) (hTI : IsPair s.heap TI (.ref i1) (.ref i2)) (hTO : IsPair s.heap TO a b)
    (h1 : s.heap.IsTupleIter i1 q1 k) (h2 : s.heap.IsTupleIter i2 q2 k) (hq1 : s.heap.IsTuple q1 xs) (hq2 : s.heap.IsTuple q2 ys) (hx : xs[k]? = some x) (hy : ys[k]? = some y)
    (hQ : ∀ h', IsZip h' z TI TO (rawInt s.heap.objs.size) → IsPair h' TO x y → h'.IsTupleIter i1 q1 (k + 1) → h'.IsTupleIter i2 q2 (k + 1) → IsPair h' s.heap.objs.size x y → h'.objs.size = s.heap.objs.size + 1 →
      (∀ c o, c ≠ z → c ≠ TO → c ≠ i1 → c ≠ i2 → s.heap.get? c = some o → h'.get? c = some o) → Q (.ref s.heap.objs.size) { s with heap := h' }) :
    wpAny (model prog w) A (Builtin.«zip.__next__» ⟨[.ref z], []⟩) (fun fin s' => ∃ v, fin = .done (.ret v) ∧ Q v s') E s := by
  show wpAny _ _ (field (.ref z) 2 >>= _) _ _ _
  refine wpAny_bind (wpAny_field hz rfl (x := .bool false) rfl ?_)
  show wpAny _ _ (field (.ref z) 3 >>= _) _ _ _
  refine wpAny_bind (wpAny_field hz rfl (x := .ref TI) rfl ?_)
  refine wpAny_bind (wpAny_seqItems hTI rfl ?_)
  show wpAny _ _ (Builtin.SmallTypes.ownedTupleIsFree (.ref z) >>= _) _ _ _
  refine wpAny_bind ?_
  unfold Builtin.SmallTypes.ownedTupleIsFree
  refine wpAny_bind (wpAny_field hz rfl (x := .none) rfl (wpAny_pure ?_))
  simp only [if_true]
  refine wpAny_bind (wpAny_rule ?_)
  refine wpAny_bind (wpAny_field hz rfl (x := .ref TO) rfl ?_)
  refine wpAny_bind (wpAny_setField_rec hz (by simp) fun g₁ hz₁ hs₁ => ?_)
  replace hz₁ : IsZip g₁ z TI TO .ellipsis := hz₁
  refine wpAny_bind ?_
  simp only [List.zipIdx_cons, List.zipIdx_nil, List.forIn_cons, List.forIn_nil]
  refine wpAny_bind (wpAny_bind (wpAny_onRaise ?_))
  show wpAny _ _ (Builtin.SmallTypes.nextOf (.ref i1) >>= _) _ _ _
  refine wpAny_bind (tnext_item (h1.extBut hs₁.extBut D.i1z) (hq1.extBut hs₁.extBut D.l1z) hx fun g₂ h1₂ hs₂ => wpAny_pure ?_)
  have hTO₂ : IsPair g₂ TO a b := hs₂.extBut _ _ D.TOi1 (hs₁.extBut _ _ D.TOz hTO)
  refine wpAny_bind (wpAny_seqItems hTO₂ rfl ?_)
  refine wpAny_bind (wpAny_updateSeq_pair hTO₂ fun g₃ hTO₃ hs₃ => ?_)
  replace hTO₃ : IsPair g₃ TO x b := hTO₃
  refine wpAny_bind (wpAny_letGo (wpAny_pure ?_))
  refine wpAny_bind (wpAny_bind (wpAny_onRaise ?_))
  show wpAny _ _ (Builtin.SmallTypes.nextOf (.ref i2) >>= _) _ _ _
  refine wpAny_bind (tnext_item (((h2.extBut hs₁.extBut D.i2z).extBut hs₂.extBut D.i12.symm).extBut hs₃.extBut D.TOi2.symm)
    (((hq2.extBut hs₁.extBut D.l2z).extBut hs₂.extBut D.l2i1).extBut hs₃.extBut D.l2TO) hy fun g₄ h2₄ hs₄ => wpAny_pure ?_)
  have hTO₄ : IsPair g₄ TO x b := hs₄.extBut _ _ D.TOi2 hTO₃
  refine wpAny_bind (wpAny_seqItems hTO₄ rfl ?_)
  refine wpAny_bind (wpAny_updateSeq_pair hTO₄ fun g₅ hTO₅ hs₅ => ?_)
  replace hTO₅ : IsPair g₅ TO x y := hTO₅
  refine wpAny_bind (wpAny_letGo (wpAny_pure (wpAny_pure ?_)))
  refine wpAny_bind (wpAny_seqItems hTO₅ rfl ?_)
  refine wpAny_bind (wpAny_newTuple ?_)
  have hsz : g₅.objs.size = s.heap.objs.size := by rw [hs₅.1, hs₄.1, hs₃.1, hs₂.1, hs₁.1]
  have hz₅ : IsZip g₅ z TI TO .ellipsis := hs₅.extBut _ _ D.TOz.symm (hs₄.extBut _ _ D.i2z.symm (hs₃.extBut _ _ D.TOz.symm (hs₂.extBut _ _ D.i1z.symm hz₁)))
  have hk₅ : ∀ c o, c ≠ z → c ≠ TO → c ≠ i1 → c ≠ i2 → s.heap.get? c = some o → g₅.get? c = some o := fun c o c1 c2 c3 c4 e =>
    hs₅.extBut _ _ c2 (hs₄.extBut _ _ c4 (hs₃.extBut _ _ c2 (hs₂.extBut _ _ c3 (hs₁.extBut _ _ c1 e))))
  have h1₅ : g₅.IsTupleIter i1 q1 (k + 1) := ((h1₂.extBut hs₃.extBut D.TOi1.symm).extBut hs₄.extBut D.i12).extBut hs₅.extBut D.TOi1.symm
  have h2₅ : g₅.IsTupleIter i2 q2 (k + 1) := h2₄.extBut hs₅.extBut D.TOi2.symm
  have hzlt : z < g₅.objs.size := Heap.lt_size hz₅
  show wpAny _ _ (Builtin.SmallTypes.ownedTupleHandOut (.ref z) (.ref g₅.objs.size) >>= _) _ _ _
  refine wpAny_bind ?_
  unfold Builtin.SmallTypes.ownedTupleHandOut
  have hz₆ : IsZip (g₅.push { cls := .type "tuple", data := .seq #[x, y] }) z TI TO .ellipsis := Heap.get?_push_of_some _ hz₅
  refine wpAny_bind (wpAny_setField_rec hz₆ (by simp) fun g₇ hz₇ hs₇ => ?_)
  replace hz₇ : IsZip g₇ z TI TO (rawInt g₅.objs.size) := hz₇
  refine wpAny_setField_rec hz₇ (by simp) fun g₈ hz₈ hs₈ => ?_
  replace hz₈ : IsZip g₈ z TI TO (rawInt g₅.objs.size) := hz₈
  have up : ∀ c o, c ≠ z → g₅.get? c = some o → g₈.get? c = some o := fun c o c1 e => hs₈.extBut _ _ c1 (hs₇.extBut _ _ c1 (Heap.get?_push_of_some _ e))
  have hT₈ : IsPair g₈ g₅.objs.size x y := hs₈.extBut _ _ (Nat.ne_of_gt hzlt) (hs₇.extBut _ _ (Nat.ne_of_gt hzlt) (Heap.get?_push_size _ rfl))
  have hz8 : g₈.objs.size = g₅.objs.size + 1 := by rw [hs₈.1, hs₇.1, Heap.size_push]
  rw [hsz] at hz₈ hT₈ hz8
  refine wpAny_pure ⟨_, rfl, ?_⟩
  show Q (.ref g₅.objs.size) _
  rw [hsz]
  refine hQ g₈ hz₈ (up _ _ D.TOz hTO₅) ?_ ?_ hT₈ hz8 fun c o c1 c2 c3 c4 e => up c o c1 (hk₅ c o c1 c2 c3 c4 e)
  · obtain ⟨o, ho, r⟩ := h1₅; exact ⟨o, up _ o D.i1z ho, r⟩
  · obtain ⟨o, ho, r⟩ := h2₅; exact ⟨o, up _ o D.i2z ho, r⟩

theorem tzip_end {z TI TO i1 i2 q1 q2 : Addr} {k : Nat} {xs : Array Value} {Q : Fin → Shared → Prop} (hh : A.handled = none) (D : ZipApart z TI TO i1 i2 q1 q2)
    (hz : IsZip s.heap z TI TO .none) (hTI : IsPair s.heap TI (.ref i1) (.ref i2)) (h1 : s.heap.IsTupleIter i1 q1 k) (hq1 : s.heap.IsTuple q1 xs) (hx : xs[k]? = none)
    (hE : ∀ h' e, (∀ c o, c ≠ z → c ≠ TO → c ≠ i1 → c ≠ i2 → s.heap.get? c = some o → h'.get? c = some o) → (∃ o, h'.get? e = some o ∧ o.cls = .type "StopIteration") → E (.ref e) { s with heap := h' }) :
    wpAny (model prog w) A (Builtin.«zip.__next__» ⟨[.ref z], []⟩) Q E s := by
  show wpAny _ _ (field (.ref z) 2 >>= _) _ _ _
  refine wpAny_bind (wpAny_field hz rfl (x := .bool false) rfl ?_)
  show wpAny _ _ (field (.ref z) 3 >>= _) _ _ _
  refine wpAny_bind (wpAny_field hz rfl (x := .ref TI) rfl ?_)
  refine wpAny_bind (wpAny_seqItems hTI rfl ?_)
  show wpAny _ _ (Builtin.SmallTypes.ownedTupleIsFree (.ref z) >>= _) _ _ _
  refine wpAny_bind ?_
  unfold Builtin.SmallTypes.ownedTupleIsFree
  refine wpAny_bind (wpAny_field hz rfl (x := .none) rfl (wpAny_pure ?_))
  simp only [if_true]
  refine wpAny_bind (wpAny_rule ?_)
  refine wpAny_bind (wpAny_field hz rfl (x := .ref TO) rfl ?_)
  refine wpAny_bind (wpAny_setField_rec hz (by simp) fun g₁ hz₁ hs₁ => ?_)
  replace hz₁ : IsZip g₁ z TI TO .ellipsis := hz₁
  refine wpAny_bind ?_
  simp only [List.zipIdx_cons, List.zipIdx_nil, List.forIn_cons, List.forIn_nil]
  refine wpAny_bind (wpAny_bind (wpAny_onRaise ?_))
  show wpAny _ _ (Builtin.SmallTypes.nextOf (.ref i1) >>= _) _ _ _
  refine wpAny_bind (tnext_end hh (h1.extBut hs₁.extBut D.i1z) (hq1.extBut hs₁.extBut D.l1z) hx fun g₂ e hs₂ he => ?_)
  obtain ⟨oe, hoe, hce⟩ := he
  have hz₂ : IsZip g₂ z TI TO .ellipsis := hs₂ _ _ D.i1z.symm hz₁
  have hez : e ≠ z := fun x => by subst x; rw [hz₂] at hoe; cases hoe; simp at hce
  refine wpAny_setField_rec hz₂ (by simp) fun g₃ _ hs₃ => hE g₃ e (fun c o c1 _ c3 _ x => hs₃.extBut _ _ c1 (hs₂ _ _ c3 (hs₁.extBut _ _ c1 x))) ⟨oe, hs₃.extBut _ _ hez hoe, hce⟩

theorem tupIter_at {h h' : Heap} {a t : Addr} {i : Nat} (x : h.IsTupleIter a t i) (e : ∀ o, h.get? a = some o → h'.get? a = some o) : h'.IsTupleIter a t i := let ⟨o, ho, r⟩ := x; ⟨o, e _ ho, r⟩
theorem tup_at {h h' : Heap} {a : Addr} {xs : Array Value} (x : h.IsTuple a xs) (e : ∀ o, h.get? a = some o → h'.get? a = some o) : h'.IsTuple a xs := let ⟨o, ho, r⟩ := x; ⟨o, e _ ho, r⟩

structure TZ (z TI TO i1 i2 q1 q2 : Addr) (xs ys : Array Value) (i : Nat) (h : Heap) : Prop where
  hz : IsZip h z TI TO .none
  hTI : IsPair h TI (.ref i1) (.ref i2)
  hTO : ∃ a b, IsPair h TO a b
  h1 : h.IsTupleIter i1 q1 i
  h2 : h.IsTupleIter i2 q2 i
  hq1 : h.IsTuple q1 xs
  hq2 : h.IsTuple q2 ys
structure TZmid (z TI TO i1 i2 q1 q2 : Addr) (xs ys : Array Value) (i : Nat) (T : Addr) (h : Heap) : Prop where
  hz : IsZip h z TI TO (rawInt T)
  hTI : IsPair h TI (.ref i1) (.ref i2)
  hTO : ∃ a b, IsPair h TO a b
  h1 : h.IsTupleIter i1 q1 (i + 1)
  h2 : h.IsTupleIter i2 q2 (i + 1)
  hq1 : h.IsTuple q1 xs
  hq2 : h.IsTuple q2 ys
  n1 : T ≠ z
  n2 : T ≠ TO
  n3 : T ≠ i1
  n4 : T ≠ i2

theorem off4 {a b d e c : Addr} (h : c ∉ [a, b, d, e]) : c ≠ a ∧ c ≠ b ∧ c ≠ d ∧ c ≠ e := ⟨fun x => h (x ▸ .head _), fun x => h (x ▸ .tail _ (.head _)), fun x => h (x ▸ .tail _ (.tail _ (.head _))), fun x => h (x ▸ .tail _ (.tail _ (.tail _ (.head _))))⟩
theorem in4 {a b d e c : Addr} (h : c ∈ [a, b, d, e]) : c = a ∨ c = b ∨ c = d ∨ c = e := by
  rcases List.mem_cons.mp h with h | h
  · exact .inl h
  rcases List.mem_cons.mp h with h | h
  · exact .inr (.inl h)
  rcases List.mem_cons.mp h with h | h
  · exact .inr (.inr (.inl h))
  · exact .inr (.inr (.inr (List.mem_singleton.mp h)))
theorem tzip_walks (hh : A.handled = none) (z TI TO i1 i2 q1 q2 : Addr) (D : ZipApart z TI TO i1 i2 q1 q2) {n : Nat} (xs ys : Array Value) (hxn : xs.size = n) (hyn : ys.size = n) :
    WalksU prog w A z [z, TI, TO, i1, i2, q1, q2] [z, TO, i1, i2] n (fun i vals => ∃ x y, xs[i]? = some x ∧ ys[i]? = some y ∧ vals = #[x, y])
      (TZ z TI TO i1 i2 q1 q2 xs ys) (TZmid z TI TO i1 i2 q1 q2 xs ys) where
  sub := fun c hc => by
    rcases in4 hc with rfl | rfl | rfl | rfl
    · exact .head _
    · exact .tail _ (.tail _ (.head _))
    · exact .tail _ (.tail _ (.tail _ (.head _)))
    · exact .tail _ (.tail _ (.tail _ (.tail _ (.head _))))
  frame := fun i h h' hst hk => by
    obtain ⟨hz, hTI, ⟨a, b, hTO⟩, h1, h2, hq1, hq2⟩ := hst
    exact ⟨hk z (.head _) _ hz, hk TI (.tail _ (.head _)) _ hTI, ⟨a, b, hk TO (.tail _ (.tail _ (.head _))) _ hTO⟩, tupIter_at h1 fun o e => hk i1 (.tail _ (.tail _ (.tail _ (.head _)))) o e, tupIter_at h2 fun o e => hk i2 (.tail _ (.tail _ (.tail _ (.tail _ (.head _))))) o e,
      tup_at hq1 fun o e => hk q1 (.tail _ (.tail _ (.tail _ (.tail _ (.tail _ (.head _)))))) o e, tup_at hq2 fun o e => hk q2 (.tail _ (.tail _ (.tail _ (.tail _ (.tail _ (.tail _ (.head _))))))) o e⟩
  item := fun i s Q E hi hst hQ => by
    obtain ⟨hz, hTI, ⟨a, b, hTO⟩, h1, h2, hq1, hq2⟩ := hst
    have hix : i < xs.size := by omega
    have hiy : i < ys.size := by omega
    have hT : s.TypeIs (.ref z) "zip" := ⟨_, hz, rfl⟩
    unfold pyNext
    refine wpAny_bind (wpAny_attempt (wpAny_callSpecial?_slot (name := Str.ofString "__next__") hT F.slot_zip_next
      (wpAny_call_entry F.slot_zip_next hT F.entry_zip_next
        (tzip_item D hz hTI hTO h1 h2 hq1 hq2 (Array.getElem?_eq_getElem hix) (Array.getElem?_eq_getElem hiy) fun h' a1 a2 a3 a4 a5 a6 hk => wpAny_pure ?_) (F.args_zip_next_1 _))))
    have lt : ∀ {c o}, s.heap.get? c = some o → s.heap.objs.size ≠ c := fun e => Nat.ne_of_gt (Heap.lt_size e)
    exact hQ s.heap.objs.size #[xs[i], ys[i]] h' s.toks ⟨_, _, Array.getElem?_eq_getElem hix, Array.getElem?_eq_getElem hiy, rfl⟩ ⟨_, a5, rfl, _, rfl⟩
      ⟨a1, hk _ _ D.TIz D.TITO D.TIi1 D.TIi2 hTI, ⟨_, _, a2⟩, a3, a4, tup_at hq1 fun o e => hk _ o D.l1z D.l1TO D.l1i1 D.l1i2 e, tup_at hq2 fun o e => hk _ o D.l2z D.l2TO D.l2i1 D.l2i2 e,
        lt hz, lt hTO, (by obtain ⟨_, e, _⟩ := h1; exact lt e), (by obtain ⟨_, e, _⟩ := h2; exact lt e)⟩
      fun c o hc e => hk c o (off4 hc).1 (off4 hc).2.1 (off4 hc).2.2.1 (off4 hc).2.2.2 e
  go := fun elts k pos i T s Q E hm hQ => by
    obtain ⟨hz, hTI, ⟨a, b, hTO⟩, h1, h2, hq1, hq2, _⟩ := hm
    refine wpAny_letOwnedTupleGo_zip hz fun h' hz' hs' => hQ h' ⟨hz', hs'.extBut _ _ D.TIz hTI, ⟨a, b, hs'.extBut _ _ D.TOz hTO⟩, h1.extBut hs'.extBut D.i1z, h2.extBut hs'.extBut D.i2z,
      hq1.extBut hs'.extBut D.l1z, hq2.extBut hs'.extBut D.l2z⟩ fun c o hc e => hs'.extBut _ _ (off4 hc).1 e
  apart := fun i T h hm hT => by
    obtain ⟨_, _, _, _, _, _, _, t1, t2, t3, t4⟩ := hm
    rcases in4 hT with rfl | rfl | rfl | rfl
    · exact t1 rfl
    · exact t2 rfl
    · exact t3 rfl
    · exact t4 rfl
  done := fun s Q E hst hQ => by
    obtain ⟨hz, hTI, ⟨a, b, hTO⟩, h1, h2, hq1, hq2⟩ := hst
    have hT : s.TypeIs (.ref z) "zip" := ⟨_, hz, rfl⟩
    unfold pyNext
    refine wpAny_bind (wpAny_attempt (wpAny_callSpecial?_slot (name := Str.ofString "__next__") hT F.slot_zip_next
      (wpAny_call_entry F.slot_zip_next hT F.entry_zip_next (tzip_end hh D hz hTI h1 hq1 (Array.getElem?_eq_none (by omega)) fun h' e hk he => ?_) (F.args_zip_next_1 _))))
    obtain ⟨o, ho, hc⟩ := he
    refine wpAny_bind (wpAny_isInstance (T := "StopIteration") (b := true) ⟨o, ho, hc⟩ isSubtype_stop ?_)
    exact wpAny_pure (hQ h' s.toks fun c o hc e => hk c o (off4 hc).1 (off4 hc).2.1 (off4 hc).2.2.1 (off4 hc).2.2.2 e)
  self := fun i s Q E hst hQ => wpAny_pyIter_zip hst.1 hQ

theorem tzip_new (q1 q2 : Addr) (xs ys : Array Value) :
    Meets (Builtin.«zip.__new__» ⟨[.type "zip", .ref q1, .ref q2], []⟩) (fun _ R s => s.heap.IsTuple q1 xs ∧ s.heap.IsTuple q2 ys ∧
      ∀ h', TZ (s.heap.objs.size + 4) (s.heap.objs.size + 2) (s.heap.objs.size + 3) s.heap.objs.size (s.heap.objs.size + 1) q1 q2 xs ys 0 h' → h'.objs.size = s.heap.objs.size + 5 →
        (∀ b o, s.heap.get? b = some o → h'.get? b = some o) → R (.ok (.ret (.ref (s.heap.objs.size + 4)))) { s with heap := h' }) :=
  .of_wp fun prog w A R s h => by
    obtain ⟨hp, g, d, tk, os⟩ := s; obtain ⟨hq1, hq2, h⟩ := h
    have hsub := sub_zip
    have hT1 : Heap.IsTuple (Shared.heap ⟨hp, g, d, tk, os⟩) q1 xs := hq1
    have hT2 : Heap.IsTuple (Shared.heap ⟨hp.push { cls := .type "tuple_iterator", data := .fields #[.ref q1, .int 0 0] }, g, d, tk, os⟩) q2 ys := Heap.IsTuple.push hq2 _
    wp_walk using wpAny_pyIter_tuple hT1, wpAny_pyIter_tuple hT2
    refine ⟨_, rfl, ?_⟩
    let g1 := hp.push { cls := .type "tuple_iterator", data := .fields #[.ref q1, .int 0 0] }
    let g2 := g1.push { cls := .type "tuple_iterator", data := .fields #[.ref q2, .int 0 0] }
    let g3 := g2.push { cls := .type "tuple", data := .seq #[.ref hp.objs.size, .ref g1.objs.size] }
    let g4 := g3.push { cls := .type "tuple", data := .seq #[.none, .none] }
    let g5 := g4.push { cls := .type "zip", data := .fields #[.none, .bool false, .bool false, .ref g2.objs.size, .ref g3.objs.size] }
    show R (.ok (.ret (.ref g4.objs.size))) ⟨g5, g, d, tk, os⟩
    have z1 : g1.objs.size = hp.objs.size + 1 := Heap.size_push ..
    have z2 : g2.objs.size = hp.objs.size + 2 := by show (g1.push _).objs.size = _; rw [Heap.size_push, z1]
    have z3 : g3.objs.size = hp.objs.size + 3 := by show (g2.push _).objs.size = _; rw [Heap.size_push, z2]
    have z4 : g4.objs.size = hp.objs.size + 4 := by show (g3.push _).objs.size = _; rw [Heap.size_push, z3]
    have z5 : g5.objs.size = hp.objs.size + 5 := by show (g4.push _).objs.size = _; rw [Heap.size_push, z4]
    have k45 : ∀ b o, g4.get? b = some o → g5.get? b = some o := fun b o e => Heap.get?_push_of_some _ e
    have k34 : ∀ b o, g3.get? b = some o → g4.get? b = some o := fun b o e => Heap.get?_push_of_some _ e
    have k23 : ∀ b o, g2.get? b = some o → g3.get? b = some o := fun b o e => Heap.get?_push_of_some _ e
    have k12 : ∀ b o, g1.get? b = some o → g2.get? b = some o := fun b o e => Heap.get?_push_of_some _ e
    have k01 : ∀ b o, hp.get? b = some o → g1.get? b = some o := fun b o e => Heap.get?_push_of_some _ e
    have a5 : g5.get? g4.objs.size = some { cls := .type "zip", data := .fields #[.none, .bool false, .bool false, .ref g2.objs.size, .ref g3.objs.size] } := Heap.get?_push_size _ rfl
    have a4 : g4.get? g3.objs.size = some { cls := .type "tuple", data := .seq #[.none, .none] } := Heap.get?_push_size _ rfl
    have a3 : g3.get? g2.objs.size = some { cls := .type "tuple", data := .seq #[.ref hp.objs.size, .ref g1.objs.size] } := Heap.get?_push_size _ rfl
    have a2 : g2.get? g1.objs.size = some { cls := .type "tuple_iterator", data := .fields #[.ref q2, .int 0 0] } := Heap.get?_push_size _ rfl
    have a1 : g1.get? hp.objs.size = some { cls := .type "tuple_iterator", data := .fields #[.ref q1, .int 0 0] } := Heap.get?_push_size _ rfl
    have up : ∀ b o, hp.get? b = some o → g5.get? b = some o := fun b o e => k45 _ _ (k34 _ _ (k23 _ _ (k12 _ _ (k01 _ _ e))))
    clear_value g5
    clear k01
    rw [z4]
    rw [z4, z3, z2] at a5
    rw [z3] at a4
    rw [z2, z1] at a3
    rw [z1] at a2
    refine h g5 ⟨a5, k45 _ _ (k34 _ _ a3), ⟨_, _, k45 _ _ a4⟩, ⟨_, k45 _ _ (k34 _ _ (k23 _ _ (k12 _ _ a1))), rfl, rfl⟩, ⟨_, k45 _ _ (k34 _ _ (k23 _ _ a2)), rfl, rfl⟩, ?_, ?_⟩ z5 up
    · exact tup_at hq1 fun o e => up _ _ e
    · exact tup_at hq2 fun o e => up _ _ e

theorem tzip_apart {n q1 q2 : Addr} (h1 : q1 < n) (h2 : q2 < n) : ZipApart (n + 4) (n + 2) (n + 3) n (n + 1) q1 q2 := zipApart_new h1 h2

theorem call_tzip {q1 q2 : Addr} {xs ys : Array Value} {Q : Value → Shared → Prop} (hq1 : s.heap.IsTuple q1 xs) (hq2 : s.heap.IsTuple q2 ys)
    (h : ∀ h', TZ (s.heap.objs.size + 4) (s.heap.objs.size + 2) (s.heap.objs.size + 3) s.heap.objs.size (s.heap.objs.size + 1) q1 q2 xs ys 0 h' → h'.objs.size = s.heap.objs.size + 5 →
      (∀ b o, s.heap.get? b = some o → h'.get? b = some o) → Q (.ref (s.heap.objs.size + 4)) { s with heap := h' }) :
    wpAny (model prog w) A (call (.type "zip") [.ref q1, .ref q2]) Q E s := by
  refine callType_new F.called_zip (by decide) (F.typeCall_zip_2 _ _) (F.newCall_zip_2 _ _) (fun obj => F.args_object_init_3 obj _ _) F.entry_zip_new
    (tzip_new q1 q2 xs ys) ⟨hq1, hq2, fun h' hz hs hk => ?_⟩
  obtain ⟨hzz, r⟩ := id hz
  exact ⟨⟨_, hzz, rfl⟩, h h' hz hs hk⟩
end
end T23
section T24
theorem meas_lt {n i : Nat} (h : i < n) : n + 1 - (i + 1) < n + 1 - i := by omega

noncomputable def NoIt (nx : List (Addr × Obj)) : Prop := ∀ p ∈ nx, p.2.cls ≠ .type "list_iterator" ∧ p.2.cls ≠ .type "dict_itemiterator"
theorem NoIt.nil : NoIt [] := fun _ h => nomatch h
theorem NoIt.cons {p : Addr × Obj} {nx : List (Addr × Obj)} (h1 : p.2.cls ≠ .type "list_iterator") (h2 : p.2.cls ≠ .type "dict_itemiterator") (h : NoIt nx) : NoIt (p :: nx) := fun q hq => by
  rcases List.mem_cons.mp hq with rfl | hq
  · exact ⟨h1, h2⟩
  · exact h q hq
inductive LEnd (L It : Addr) (oIt : Obj) (Jn : Heap → (Str → Option Value) → List (Addr × Obj) → Array GenState → Prop) (s₁ s₂ : Shared) : Prop
  | mk (g h' : Heap) (tk : Nat) (gs : Array GenState) (m' : Str → Option Value) (news' nx : List (Addr × Obj)) (e : s₂ = { s₁ with heap := h', toks := tk, gens := gs }) (F : Fr g L h' m') (N : News g L h' news') (hI : (It, oIt) ∈ news') (hs : ∀ p ∈ nx, p ∈ news') (hn : NoIt nx) (hJ : Jn g m' nx gs)
inductive LInv (L I l len : Nat) (J : Nat → Heap → (Str → Option Value) → List (Addr × Obj) → Array GenState → Prop) (s : Shared) (k : Nat) (s' : Shared) : Prop
  | mk (i : Nat) (g : Heap) (m : Str → Option Value) (nx : List (Addr × Obj)) (gs : Array GenState) (h : Heap) (tk : Nat) (e : s' = { s with heap := h, toks := tk, gens := gs }) (hit : h.IsListIter I l i) (hIg : g.get? I = none) (hne : ∀ p ∈ nx, p.1 ≠ I) (hni : NoIt nx)
      (F : Fr g L h m) (N : News g L h nx) (hJ : J i g m nx gs) (hi : i ≤ len) (hk : k = len + 1 - i)
inductive IInv (L I d len : Nat) (ep : Nat) (J : Nat → Heap → (Str → Option Value) → List (Addr × Obj) → Array GenState → Prop) (s : Shared) (k : Nat) (s' : Shared) : Prop
  | mk (i : Nat) (ok ov : Value) (g : Heap) (m : Str → Option Value) (nx : List (Addr × Obj)) (gs : Array GenState) (h : Heap) (tk : Nat) (e : s' = { s with heap := h, toks := tk, gens := gs }) (hit : IsItemIter h I d i len ep ok ov) (hIg : g.get? I = none) (hne : ∀ p ∈ nx, p.1 ≠ I) (hni : NoIt nx)
      (F : Fr g L h m) (N : News g L h nx) (hJ : J i g m nx gs) (hi : i ≤ len) (hk : k = len + 1 - i)
noncomputable def LPost (L It : Addr) (oIt : Obj) (Jn : Heap → (Str → Option Value) → List (Addr × Obj) → Array GenState → Prop) (s₁ : Shared) (f : Flow) (s₂ : Shared) : Prop := f = .next ∧ LEnd L It oIt Jn s₁ s₂

section
variable {prog : Program} {w : World} {A : Around} {E : Value → Shared → Prop} {s : Shared} {env : Env} {g₀ : Heap} {x : Str} {px : Pos} {body : List Stmt} {Q : Flow → Shared → Prop} {l : Addr} {vs : List Value} {m₀ : Str → Option Value} {news₀ : List (Addr × Obj)}

theorem forList (J : Nat → Heap → (Str → Option Value) → List (Addr × Obj) → Array GenState → Prop) (hh : A.handled = none) (hx : env.kindOf x = some .local)
    (hp : (env.scope.kind == .class || (env.scope.kind == .module && env.locals != env.globals)) = false)
    (hl : ∀ i g m nx gs, J i g m nx gs → g.IsList l vs.toArray)
    (F : Fr g₀ env.locals s.heap m₀) (N : News g₀ env.locals s.heap news₀) (hn : NoIt news₀) (h0 : J 0 g₀ m₀ news₀ s.gens)
    (turn : ∀ i v g m nx gs It oIt h tk E', vs[i]? = some v → J i g m nx gs → (∀ p ∈ nx, p.1 ≠ It) → NoIt nx → Fr g env.locals h (fun y => if y = x then some v else m y) → News g env.locals h ((It, oIt) :: nx) →
      wpAny (model prog w) A (execs body env) (LPost env.locals It oIt (J (i + 1)) { s with heap := h, toks := tk, gens := gs }) E' { s with heap := h, toks := tk, gens := gs })
    (done : ∀ g m nx gs h tk, J vs.length g m nx gs → NoIt nx → Fr g env.locals h m → News g env.locals h nx → Q .next { s with heap := h, toks := tk, gens := gs }) :
    wpAny (model prog w) A (pyIter (.ref l)) (fun it s₂ => codeAny (model prog w) A (.forLoop (.Name x px) it body [] env) (fun r s' => match r with | .ok f => Q f s' | .error e => cameBackBy (model prog w) A env E e s') s₂) E s := by
  have hl₀ := hl _ _ _ _ _ h0
  have hls : s.heap.IsList l vs.toArray := hl₀.at fun o e => F.keep l o e
  refine wpAny_pyIter_list hls ?_
  have hIL : s.heap.objs.size ≠ env.locals := Nat.ne_of_gt F.ns.lt
  refine codeAny_forLoop (LInv env.locals s.heap.objs.size l vs.length J s) ?_ (vs.length + 1)
    ⟨0, g₀, m₀, news₀, s.gens, _, s.toks, rfl, ⟨_, Heap.get?_push_size _ rfl, rfl, rfl⟩, next_is_new F, fun p hp q => ?_, hn, F.push _, fun p hp => ⟨Heap.get?_push_of_some _ (N p hp).1, (N p hp).2⟩, h0, Nat.zero_le _, rfl⟩
  · rintro k s' ⟨i, g, m, nx, gs, h, tk, rfl, hit, hIg, hne, hni, F₁, N₁, hJ, hi, rfl⟩
    have hlg := hl _ _ _ _ _ hJ
    have hlh : h.IsList l vs.toArray := hlg.at fun o e => F₁.keep l o e
    have hgI : ∀ b o, g.get? b = some o → b ≠ s.heap.objs.size := fun b o e q => by rw [q, hIg] at e; cases e
    by_cases hlt : i < vs.length
    · refine wpAny_pyNext_list_item hit hlh (x := vs[i]) (by simp [hlt]) fun h₁ hit₁ hs₁ => ?_
      have F₂ : Fr g env.locals h₁ m := ⟨F₁.ns.extBut hs₁.extBut (Ne.symm hIL), fun b o e => hs₁.extBut b o (hgI b o e) (F₁.keep b o e), F₁.above⟩
      have N₂ : News g env.locals h₁ nx := fun p hp => ⟨hs₁.extBut _ _ (hne p hp) (N₁ p hp).1, (N₁ p hp).2⟩
      refine wpAny_assign_Name (wpAny_storeName_local hx F₂.ns (fun h₂ hn₂ hs₂ => ?_) hp)
      have F₃ := F₂.set hn₂ hs₂
      obtain ⟨oI, hoI, rI⟩ := hit₁
      have hoI₂ : h₂.get? s.heap.objs.size = some oI := hs₂.extBut _ _ hIL hoI
      have N₃ : News g env.locals h₂ ((s.heap.objs.size, oI) :: nx) := fun p hp => by
        rcases List.mem_cons.mp hp with rfl | hp
        · exact ⟨hoI₂, hIL, hIg⟩
        · exact ⟨hs₂.extBut _ _ (N₂ p hp).2.1 (N₂ p hp).1, (N₂ p hp).2⟩
      refine wpAny_mono (turn i vs[i] g m nx gs _ oI h₂ _ _ (by simp [hlt]) hJ hne hni F₃ N₃) (fun f s₃ h₃ => ?_) fun _ _ e => e
      obtain ⟨rfl, g', h', tk', gs', m', news', nx', rfl, F', N', hI', hsub, hni', hJ'⟩ := h₃
      have hoI' := (N' _ hI').1
      have hI1 : ∀ p ∈ nx', p.1 ≠ s.heap.objs.size := fun p hp q => by
        have e := (N' p (hsub p hp)).1
        rw [q, hoI'] at e
        exact (hni' p hp).1 ((congrArg Obj.cls (Option.some.inj e)).symm.trans rI.1)
      exact ⟨vs.length + 1 - (i + 1), meas_lt (by assumption), i + 1, g', m', nx', gs', h', tk', rfl, ⟨oI, hoI', rI⟩, (N' _ hI').2.2, hI1, hni', F', fun p hp => N' p (hsub p hp), hJ', hlt, rfl⟩
    · have hie : i = vs.length := by omega
      subst hie
      refine wpAny_pyNext_list_end hh hit hlh (by simp) fun h₁ hx₁ => wpAny_execs_nil ?_
      exact done g m nx gs h₁ tk hJ hni ⟨F₁.ns.extBut hx₁ (Ne.symm hIL), fun b o e => hx₁ b o (hgI b o e) (F₁.keep b o e), F₁.above⟩ fun p hp => ⟨hx₁ _ _ (hne p hp) (N₁ p hp).1, (N₁ p hp).2⟩
  · exact absurd (Heap.lt_size (N p hp).1) (by rw [q]; exact Nat.lt_irrefl _)
end

section
variable {K : Type} [DecidableEq K] {prog : Program} {w : World} {knd : KeyKind prog w K} {A : Around} {E : Value → Shared → Prop} {s : Shared} {env : Env} {g₀ : Heap} {xk xv : Str} {pk pv pt : Pos} {x1 : Nat} {body : List Stmt} {Q : Flow → Shared → Prop} {v d : Addr} {od : Obj} {kvs : List (K × Value)} {m₀ : Str → Option Value} {news₀ : List (Addr × Obj)}

theorem forItems (J : Nat → Heap → (Str → Option Value) → List (Addr × Obj) → Array GenState → Prop) (hh : A.handled = none) (hxk : env.kindOf xk = some .local) (hxv : env.kindOf xv = some .local)
    (hp : (env.scope.kind == .class || (env.scope.kind == .module && env.locals != env.globals)) = false)
    (hd : ∀ i g m nx gs, J i g m nx gs → (d, od) ∈ nx) (hod : od.IsDictOf knd kvs)
    (hvw : s.heap.get? v = some { cls := .type "dict_items", data := .fields #[.ref d] })
    (F : Fr g₀ env.locals s.heap m₀) (N : News g₀ env.locals s.heap news₀) (hn : NoIt news₀) (h0 : J 0 g₀ m₀ news₀ s.gens)
    (turn : ∀ i k key va g m nx gs It oIt h tk E', kvs[i]? = some (k, va) → knd.is k key = true → J i g m nx gs → (∀ p ∈ nx, p.1 ≠ It) → NoIt nx → Fr g env.locals h (fun y => if y = xv then some va else if y = xk then some key else m y) → News g env.locals h ((It, oIt) :: nx) →
      wpAny (model prog w) A (execs body env) (LPost env.locals It oIt (J (i + 1)) { s with heap := h, toks := tk, gens := gs }) E' { s with heap := h, toks := tk, gens := gs })
    (done : ∀ g m nx gs h tk, J kvs.length g m nx gs → NoIt nx → Fr g env.locals h m → News g env.locals h nx → Q .next { s with heap := h, toks := tk, gens := gs }) :
    wpAny (model prog w) A (pyIter (.ref v)) (fun it s₂ => codeAny (model prog w) A (.forLoop (.Tuple [.Name xk pk, .Name xv pv] x1 pt) it body [] env) (fun r s' => match r with | .ok f => Q f s' | .error e => cameBackBy (model prog w) A env E e s') s₂) E s := by
  have hd₀ := N _ (hd _ _ _ _ _ h0)
  obtain ⟨ep, hat⟩ := (Heap.dictOf_iff.mpr ⟨od, hd₀.1, hod⟩ : s.heap.DictOf knd d kvs).dictAt
  have atd : ∀ {h : Heap}, h.get? d = some od → h.DictAt knd d kvs ep := fun {h} e => hat.at' fun o e' => by
    rw [hd₀.1] at e'; cases e'; exact e
  refine wpAny_pyIter_items (knd := knd) (d := d) (kvs := kvs) (ep := ep) ⟨_, hvw, rfl, rfl⟩ hat ?_
  have hIL : s.heap.objs.size ≠ env.locals := Nat.ne_of_gt F.ns.lt
  refine codeAny_forLoop_any (IInv env.locals s.heap.objs.size d kvs.length ep J s) ?_ (kvs.length + 1)
    ⟨0, .none, .none, g₀, m₀, news₀, s.gens, _, s.toks, rfl, Heap.get?_push_size _ rfl, next_is_new F, fun p hp q => ?_, hn, F.push _, fun p hp => ⟨Heap.get?_push_of_some _ (N p hp).1, (N p hp).2⟩, h0, Nat.zero_le _, rfl⟩
  · rintro k s' ⟨i, ok, ov, g, m, nx, gs, h, tk, rfl, hit, hIg, hne, hni, F₁, N₁, hJ, hi, rfl⟩
    have hgI : ∀ b o, g.get? b = some o → b ≠ s.heap.objs.size := fun b o e q => by rw [q, hIg] at e; cases e
    have hdm := hd _ _ _ _ _ hJ
    have hdI : d ≠ s.heap.objs.size := hne _ hdm
    have hm := atd (N₁ _ hdm).1
    by_cases hlt : i < kvs.length
    · obtain ⟨⟨k, va⟩, hkv'⟩ : ∃ kv, kvs[i]? = some kv := ⟨kvs[i], by simp [hlt]⟩
      refine wpAny_pyNext_items_item hit hm hkv' fun key h₁ hkey heo ht₁ hz₁ hk₁ => ?_
      have hiH : s.heap.objs.size < h.objs.size := Heap.lt_size hit
      refine wpAny_letOwnedTupleGo_items heo fun h₂ he₂ hs₂ => ?_
      replace hs₂ : Heap.SameBut s.heap.objs.size h₁ h₂ := hs₂
      have ht₂ : h₂.IsTuple h.objs.size #[key, va] := ⟨_, (hs₂.2 _ (Nat.ne_of_gt hiH)).trans ht₁, rfl, _, rfl⟩
      have hz₂ : h₂.objs.size = h.objs.size + 1 := hs₂.1.trans hz₁
      refine wpAny_assign_Tuple hh ht₂ rfl rfl fun h₃ hx₃ => ?_
      replace hx₃ : Heap.ExtBut h₂.objs.size h₂ h₃ := hx₃
      have old₃ : ∀ b o, b < h.objs.size → h₂.get? b = some o → h₃.get? b = some o := fun b o hb x => hx₃ b o (by rw [hz₂]; exact Nat.ne_of_lt (Nat.lt_succ_of_lt hb)) x
      have up₃ : ∀ b o, b ≠ s.heap.objs.size → h.get? b = some o → h₃.get? b = some o := fun b o hb x => old₃ b o (Heap.lt_size x) (hs₂.extBut b o hb (hk₁ b o hb x))
      have F₃ : Fr g env.locals h₃ m := ⟨F₁.ns.at fun o x => up₃ _ o (Ne.symm hIL) x, fun b o e => up₃ b o (hgI b o e) (F₁.keep b o e), F₁.above⟩
      have N₃ : News g env.locals h₃ ((s.heap.objs.size, _) :: nx) := fun p hp => by
        rcases List.mem_cons.mp hp with rfl | hp
        · exact ⟨old₃ _ _ hiH he₂, hIL, hIg⟩
        · exact ⟨up₃ _ _ (hne p hp) (N₁ p hp).1, (N₁ p hp).2⟩
      show wpAny _ _ (do holding [va] (assign (.Name xk pk) env key); do holding [] (assign (.Name xv pv) env va); pure ()) _ _ _
      refine wpAny_bind (wpAny_holding (wpAny_assign_Name (wpAny_storeName_local hxk F₃.ns (fun h₄ hn₄ hs₄ => ?_) hp)))
      replace hs₄ : Heap.SameBut env.locals h₃ h₄ := hs₄
      have F₄ := F₃.set hn₄ hs₄
      refine wpAny_bind (wpAny_holding (wpAny_assign_Name (wpAny_storeName_local hxv F₄.ns (fun h₅ hn₅ hs₅ => wpAny_pure ?_) hp)))
      replace hs₅ : Heap.SameBut env.locals h₄ h₅ := hs₅
      have F₅ := F₄.set hn₅ hs₅
      have N₅ := (N₃.set hs₄).set hs₅
      refine wpAny_mono (turn i k key va g m nx gs _ _ h₅ _ _ hkv' hkey hJ hne hni F₅ N₅) (fun f s₃ h₆ => ?_) fun _ _ e => e
      obtain ⟨rfl, g', h', tk', gs', m', news', nx', rfl, F', N', hI', hsub, hni', hJ'⟩ := h₆
      have hoI' := (N' _ hI').1
      have hI1 : ∀ p ∈ nx', p.1 ≠ s.heap.objs.size := fun p hp q => by
        have e := (N' p (hsub p hp)).1
        rw [q, hoI'] at e
        exact (hni' p hp).2 (congrArg Obj.cls (Option.some.inj e)).symm
      exact ⟨kvs.length + 1 - (i + 1), meas_lt (by assumption), i + 1, key, va, g', m', nx', gs', h', tk', rfl, hoI', (N' _ hI').2.2, hI1, hni', F', fun p hp => N' p (hsub p hp), hJ', hlt, rfl⟩
    · have hie : i = kvs.length := by omega
      subst hie
      refine wpAny_pyNext_items_end hh hit hm (by simp) fun h₁ hx₁ => wpAny_execs_nil ?_
      exact done g m nx gs h₁ tk hJ hni ⟨F₁.ns.extBut hx₁ (Ne.symm hIL), fun b o e => hx₁ b o (hgI b o e) (F₁.keep b o e), F₁.above⟩ fun p hp => ⟨hx₁ _ _ (hne p hp) (N₁ p hp).1, (N₁ p hp).2⟩
  · exact absurd (Heap.lt_size (N p hp).1) (by rw [q]; exact Nat.lt_irrefl _)
end
end T24
section T25
theorem News.ext {h₀ h h' : Heap} {L D : Addr} {o o' : Obj} {news : List (Addr × Obj)} {g : Obj → List (Addr × Obj)} (N : News h₀ L h news) (U : UpdF D o news g) (hs : Heap.ExtBut D h h') (ho : h'.get? D = some o') : News h₀ L h' (g o') := by
  obtain ⟨pre, post, rfl, hg, a, b⟩ := U.split
  rw [hg o']
  intro p hp
  rcases List.mem_append.mp hp with hp | hp
  · have z := N p (List.mem_append.mpr (.inl hp))
    exact ⟨hs _ _ (a p hp) z.1, z.2⟩
  · rcases List.mem_cons.mp hp with rfl | hp
    · exact ⟨ho, (N (D, o) (List.mem_append.mpr (.inr (.head _)))).2⟩
    · have z := N p (List.mem_append.mpr (.inr (.tail _ hp)))
      exact ⟨hs _ _ (b p hp) z.1, z.2⟩
theorem updF_mem {D : Addr} {o : Obj} {news : List (Addr × Obj)} {g : Obj → List (Addr × Obj)} (U : UpdF D o news g) : (D, o) ∈ news := by
  obtain ⟨pre, post, rfl, hg, a, b⟩ := U.split
  exact List.mem_append.mpr (.inr (.head _))
theorem Fr.ext {h₀ h h' : Heap} {L D : Addr} {m : Str → Option Value} (F : Fr h₀ L h m) (hs : Heap.ExtBut D h h') (hL : D ≠ L) (hn : h₀.get? D = none) : Fr h₀ L h' m :=
  ⟨F.ns.at' fun o e => hs _ _ (Ne.symm hL) e, fun b o e => hs b o (fun q => by rw [q, hn] at e; cases e) (F.keep b o e), F.above⟩

inductive GR (prog : Program) (w : World) (A : Around) (a sz : Addr) (n : Nat) (P : Nat → Value → Prop) (s : Shared) : Prop
  | mk (fp wr : List Addr) (g : Nat) (St : Nat → Shared → Prop) (W : WalksS prog w A.in4 a fp wr (GenOnlyQ g) n P St) (h0 : St 0 s) (hT : ∀ i s', St i s' → s'.TypeIs (.ref a) "generator") (ha : a ∈ fp) (hlt : ∀ b ∈ fp, b < s.heap.objs.size) (hsz : ∀ b ∈ wr, sz ≤ b) : GR prog w A a sz n P s
noncomputable def SumAt (xs ys : Array Value) (j : Nat) (v : Value) : Prop := ∃ a b ta tb t, xs[j]? = some (.int a ta) ∧ ys[j]? = some (.int b tb) ∧ v = .int (a + b) t
noncomputable def AllInts (xs : Array Value) : Prop := ∀ (j : Nat) v, xs[j]? = some v → ∃ a t, v = .int a t

section
variable {prog : Program} {w : World} {A : Around} {E : Value → Shared → Prop} {s : Shared} {h₀ : Heap} {c P L : Addr} {ps : Array Value} {m mg mb : Str → Option Value} {mean : ExcName → Option Value} {p : Program} {loose : List Str} {news : List (Addr × Obj)}

theorem genCode_tab {env : Env} {pos : Pos} {qual : Str} {scope : Scope} {Q : Value → Shared → Prop} (hc : env.code = .ref c) (C : CodeHd s.heap c P) (hP : s.heap.get? P = some (tabObj ps)) (ht : TriplesOk ps.toList)
    (hQ : ∀ code h' tk ps', Heap.ExtBut P s.heap h' → h'.get? P = some (tabObj ps') → TriplesOk ps'.toList → s.heap.objs.size ≤ h'.objs.size → Q code { s with heap := h', toks := tk }) :
    wpAny (model prog w) A (genexprCode env pos qual scope) Q E s := by
  have hok := C.code hP ht
  cases hnf : codeAmong pos ps.toList with
  | none =>
    refine wpAny_genexprCodeX hc hok (C.tab hP) hnf fun c' h' tk hx hge hlt hcode _ htab _ => ?_
    refine hQ _ _ _ _ hx htab.2 ?_ (Nat.le_trans hge (Nat.le_of_lt hlt))
    have hl : (ps ++ #[rawInt pos.line, rawInt pos.col, Value.ref c']).toList = ps.toList ++ [rawInt pos.line, rawInt pos.col, .ref c'] := by simp
    rw [hl]
    exact TriplesOk_snoc _ _ _ _ ht
  | some cv =>
    obtain ⟨o, vs, file, tf, flags, tg, inF, text, tt, op, ho, hd, h11, h2, h7, h9, h10, hop, hpd, htr, hne⟩ := id hok
    unfold genexprCode codeAt
    rw [hc, if_neg (show ¬ ((Value.ref c == Value.none) = true) from Bool.false_ne_true)]
    refine wpAny_bind (wpAny_fieldsOf ho hd ?_)
    rw [h11]
    refine wpAny_bind (wpAny_fieldsOf hop hpd ?_)
    rw [hnf]
    exact wpAny_pure (hQ cv s.heap s.toks ps (Heap.ExtBut.refl _ _) hP ht (Nat.le_refl _))

inductive GZ (prog : Program) (w : World) (A : Around) (h₀ : Heap) (P L : Addr) (m : Str → Option Value) (Q : Value → Shared → Prop) (xv : Value) (s₁ : Shared) : Prop
  | mk (z TI TO i1 i2 q1 q2 : Addr) (xs ys : Array Value) (n : Nat) (sz : Addr) (news : List (Addr × Obj)) (ps : Array Value) (g : Obj → List (Addr × Obj)) (e : xv = .ref z) (D : ZipApart z TI TO i1 i2 q1 q2) (hst : TZ z TI TO i1 i2 q1 q2 xs ys 0 s₁.heap) (hxn : xs.size = n) (hyn : ys.size = n) (hix : AllInts xs) (hiy : AllInts ys) (F : Fr h₀ L s₁.heap m) (N : News h₀ L s₁.heap news) (U : UpdF P (tabObj ps) news g) (ht : TriplesOk ps.toList)
    (hz : sz ≤ z ∧ sz ≤ TO ∧ sz ≤ i1 ∧ sz ≤ i2 ∧ L < sz)
    (hQ : ∀ a h₅ tk gs ps', Fr h₀ L h₅ m → News h₀ L h₅ (g (tabObj ps')) → TriplesOk ps'.toList → (AllBare s₁.gens → AllBare gs) → GR prog w A a sz n (SumAt xs ys) { s₁ with heap := h₅, toks := tk, gens := gs } → Q (.ref a) { s₁ with heap := h₅, toks := tk, gens := gs }) : GZ prog w A h₀ P L m Q xv s₁
theorem ne_tab {h : Heap} {a P : Addr} {o : Obj} {ps : Array Value} {c : Value} (h1 : h.get? a = some o) (hP : h.get? P = some (tabObj ps)) (hc : o.cls = c) (hn : c ≠ .none) : a ≠ P := fun q => hn (by
  rw [q, hP] at h1
  rw [← hc]
  exact congrArg Obj.cls (Option.some.inj h1).symm)
theorem tup_ne : Value.type "tuple" ≠ Value.none := fun e => Value.noConfusion e
theorem tit_ne : Value.type "tuple_iterator" ≠ Value.none := fun e => Value.noConfusion e
theorem zip_ne : Value.type "zip" ≠ Value.none := fun e => Value.noConfusion e
theorem TZ.ne {h : Heap} {z TI TO i1 i2 q1 q2 P : Addr} {xs ys ps : Array Value} {i : Nat} (hst : TZ z TI TO i1 i2 q1 q2 xs ys i h) (hP1 : h.get? P = some (tabObj ps)) : ∀ b ∈ [z, TI, TO, i1, i2, q1, q2], b ≠ P :=
  List.forall_mem_cons.mpr ⟨ne_tab hst.hz hP1 rfl zip_ne, List.forall_mem_cons.mpr ⟨ne_tab hst.hTI hP1 rfl tup_ne, List.forall_mem_cons.mpr ⟨(let ⟨_, _, e⟩ := hst.hTO; ne_tab e hP1 rfl tup_ne),
    List.forall_mem_cons.mpr ⟨(let ⟨_, e, c, _⟩ := hst.h1; ne_tab e hP1 c tit_ne), List.forall_mem_cons.mpr ⟨(let ⟨_, e, c, _⟩ := hst.h2; ne_tab e hP1 c tit_ne), List.forall_mem_cons.mpr ⟨(let ⟨_, e, c, _⟩ := hst.hq1; ne_tab e hP1 c tup_ne),
    List.forall_mem_cons.mpr ⟨(let ⟨_, e, c, _⟩ := hst.hq2; ne_tab e hP1 c tup_ne), List.forall_mem_nil _⟩⟩⟩⟩⟩⟩⟩
theorem TZ.lt {h : Heap} {z TI TO i1 i2 q1 q2 : Addr} {xs ys : Array Value} {i : Nat} (hst : TZ z TI TO i1 i2 q1 q2 xs ys i h) : ∀ b ∈ [z, TI, TO, i1, i2, q1, q2], b < h.objs.size :=
  List.forall_mem_cons.mpr ⟨Heap.lt_size hst.hz, List.forall_mem_cons.mpr ⟨Heap.lt_size hst.hTI, List.forall_mem_cons.mpr ⟨(let ⟨_, _, e⟩ := hst.hTO; Heap.lt_size e),
    List.forall_mem_cons.mpr ⟨(let ⟨_, e, _⟩ := hst.h1; Heap.lt_size e), List.forall_mem_cons.mpr ⟨(let ⟨_, e, _⟩ := hst.h2; Heap.lt_size e), List.forall_mem_cons.mpr ⟨(let ⟨_, e, _⟩ := hst.hq1; Heap.lt_size e),
    List.forall_mem_cons.mpr ⟨(let ⟨_, e, _⟩ := hst.hq2; Heap.lt_size e), List.forall_mem_nil _⟩⟩⟩⟩⟩⟩⟩
theorem wr_le {z TO i1 i2 sz : Addr} (z1 : sz ≤ z) (z2 : sz ≤ TO) (z3 : sz ≤ i1) (z4 : sz ≤ i2) : ∀ b ∈ [z, TO, i1, i2], sz ≤ b :=
  List.forall_mem_cons.mpr ⟨z1, List.forall_mem_cons.mpr ⟨z2, List.forall_mem_cons.mpr ⟨z3, List.forall_mem_cons.mpr ⟨z4, List.forall_mem_nil _⟩⟩⟩⟩

theorem genexp_K {env : Env} {iter : Expr} {xa xb : Str} {pa pb pt pa' pb' pe : Pos} {kt : Nat} {scope : Scope} {cl : List (Str × Addr)} {pos : Pos} {Q : Value → Shared → Prop}
    (_F : Fr h₀ L s.heap m) (T : Top p loose mean mg mb h₀) (C : CodeHd h₀ c P) (hcode : env.code = .ref c) (hge : env.globals = mainGlobals)
    (hh : A.handled = none) (hco : scope.isCoroutine = false) (hclos : closureFor scope env = pure cl) (hcell : ∀ y ∈ scope.names, y.2 ≠ .cell) (h0 : scope.names.lookup (".0" : Str) = some NameKind.local)
    (hxa : scope.names.lookup xa = some .local) (hxb : scope.names.lookup xb = some .local) (hab : xa ≠ xb) (hda : (xa == ("__debug__" : Str)) = false) (hdb : (xb == ("__debug__" : Str)) = false) (hkind : scope.kind = .function) (hroom : A.depth < recursionLimit)
    (h : wpAny (model prog w) A (eval iter env) (GZ prog w A h₀ P L m Q) E s)
    (hs : ∀ x, genFold iter env x = pure x) :
    wpAny (model prog w) A (eval (.GeneratorExp (.BinOp (.Name xa pa') .Add (.Name xb pb') pe) [⟨.Tuple [.Name xa pa, .Name xb pb] kt pt, iter, [], 0⟩] scope pos) env) Q E s := by
  refine wpAny_GeneratorExp_walksQTD hh hco hclos hcell h0 hxa hxb hab hkind hroom (wpAny_mono h (fun xv s₁ h₁ => ?_) fun _ _ e => e) hs
  obtain ⟨z, TI, TO, i1, i2, q1, q2, xs, ys, n, sz, news, ps, g, rfl, D, hst, hxn, hyn, hix, hiy, F₁, N₁, U, ht, ⟨z1, z2, z3, z4, z5⟩, hQ⟩ := h₁
  refine wpAny_pyIter_zip hst.1 ?_
  have hlim : s₁.heap.NoLimit := T.nolimit.keeps F₁.keep
  have hmP := N₁ _ (updF_mem U)
  have hlP : L ≠ P := Ne.symm hmP.2.1
  refine ⟨hlim, genCode_tab hcode (C.keeps F₁.keep) hmP.1 ht fun code h₃ tk₃ ps' hx₃ hP₃ ht₃ hsz₃ => ?_⟩
  have F₃ : Fr h₀ L h₃ m := Fr.ext F₁ hx₃ hmP.2.1 hmP.2.2
  have N₃ := News.ext N₁ U hx₃ hP₃
  obtain ⟨bm, ob, M⟩ := bmod_of_top T
  have M₃ : BMod h₃ env.globals mg bm ob := by rw [hge]; exact M.keeps F₃.keep
  have hl₃ : h₃.NoLimit := T.nolimit.keeps F₃.keep
  refine wpAny_builtinsFor M₃.ns M₃.name M₃.ne M₃.obj M₃.cls M₃.dict M₃.data ?_
  have W := fun (A' : Around) (hA : A'.handled = none) => tzip_walks (prog := prog) (w := w) (A := A') hA z TI TO i1 i2 q1 q2 D xs ys hxn hyn
  have hPne := hst.ne hmP.1
  have hst₃ := (W A hh).frame _ _ h₃ hst fun b hb o e => hx₃ b o (hPne b hb) e
  have hlt := hst₃.lt
  have hwr := wr_le z1 z2 z3 z4
  refine ⟨z, _, _, n, _, _, _, fun _ => true, SumAt xs ys, rfl, W, (fun i vals hv => by obtain ⟨x, y, _, _, e⟩ := hv; exact ⟨x, y, e⟩), hst₃, hlt, hl₃, ?_, ?_, ?_⟩
  · intro hm
    obtain ⟨_, hn, _⟩ := T.nolimit
    exact Nat.lt_irrefl _ (Nat.lt_of_lt_of_le z5 (Nat.le_trans (hwr _ hm) (Nat.le_trans (Nat.le_of_lt hn.lt) F₁.above)))
  · intro href hhref
    refine ⟨fun A' E' i va vb t m₂ hA hD hU hPt hn hma hmb hkp => ?_, fun A' E' i va vb t m₂ hA hD hU hPt hp hn hma hmb hkp => ?_⟩
    · exact wpAny_pure ⟨rfl, _, _, rfl, fun _ _ e => e⟩
    · obtain ⟨x, y, ex, ey, exy⟩ := hPt
      obtain ⟨e1, e2⟩ : va = x ∧ vb = y := by simpa using congrArg Array.toList exy
      subst e1 e2
      obtain ⟨a, ta, rfl⟩ := hix i va ex
      obtain ⟨b, tb, rfl⟩ := hiy i vb ey
      refine wpAny_BinOp (wpAny_Name (wpAny_loadName_local hkind ?_ hn hma (wpAny_Name (wpAny_loadName_local hkind ?_ hn hmb (PyProof.Rows.add_int ?_)) hdb)) hda)
      · simp only [Env.kindOf, genEnv, hxa]
      · simp only [Env.kindOf, genEnv, hxb]
      · exact ⟨⟨a, b, ta, tb, _, ex, ey, rfl⟩, _, _, rfl, fun _ _ e => e⟩
  · intro a h₅ tk gs hgb hag hsz₅ hk₅ WS hat
    have hpass : (passing (fun _ => true) n 0) = List.range n := by
      unfold passing
      simp
    refine hQ a h₅ tk _ ps' ⟨F₃.ns.at' fun o e => hk₅ _ o e, fun b o e => hk₅ b o (F₃.keep b o e), F₃.above⟩ (fun q hq => ⟨hk₅ _ _ (N₃ q hq).1, (N₃ q hq).2⟩) ht₃ (fun G => G.push hgb) ?_
    rw [hpass, List.length_range] at WS
    have WS' := WS.imp (P' := SumAt xs ys) fun j y hy => by
      obtain ⟨i, hij, hF⟩ := hy
      obtain ⟨hj, e⟩ := List.getElem?_eq_some_iff.mp hij
      rw [List.getElem_range] at e
      rw [e]; exact hF
    refine ⟨_, _, _, _, WS', hat, (fun i s' st => st.1.typeIs), List.mem_cons_self, ?_, ?_⟩
    · intro b hb
      show b < h₅.objs.size
      rw [hsz₅]
      have hag' : h₃.objs.size < a := hag
      rcases List.mem_cons.mp hb with rfl | hb
      · exact Nat.lt_succ_self _
      · rcases List.mem_cons.mp hb with rfl | hb
        · exact Nat.lt_succ_of_lt hag
        · exact Nat.lt_succ_of_lt (Nat.lt_trans (List.mem_range.mp hb) hag)
    · intro b hb
      rcases List.mem_cons.mp hb with rfl | hb
      · exact Nat.le_trans z1 (Nat.le_of_lt (hlt z (by simp)))
      · exact hwr b hb

theorem GZ.intro {z TI TO i1 i2 q1 q2 : Addr} {xs ys : Array Value} {n : Nat} {sz : Addr} {g : Obj → List (Addr × Obj)} {Q : Value → Shared → Prop} (D : ZipApart z TI TO i1 i2 q1 q2) (hst : TZ z TI TO i1 i2 q1 q2 xs ys 0 s.heap) (hxn : xs.size = n) (hyn : ys.size = n) (hix : AllInts xs) (hiy : AllInts ys)
    (F : Fr h₀ L s.heap m) (N : News h₀ L s.heap news) (U : UpdF P (tabObj ps) news g) (ht : TriplesOk ps.toList) (hz : sz ≤ z ∧ sz ≤ TO ∧ sz ≤ i1 ∧ sz ≤ i2 ∧ L < sz)
    (h : ∀ a h₅ tk gs ps', Fr h₀ L h₅ m → News h₀ L h₅ (g (tabObj ps')) → TriplesOk ps'.toList → (AllBare s.gens → AllBare gs) → GR prog w A a sz n (SumAt xs ys) { s with heap := h₅, toks := tk, gens := gs } → Q (.ref a) { s with heap := h₅, toks := tk, gens := gs }) :
    GZ prog w A h₀ P L m Q (.ref z) s := ⟨z, TI, TO, i1, i2, q1, q2, xs, ys, n, sz, news, ps, g, rfl, D, hst, hxn, hyn, hix, hiy, F, N, U, ht, hz, h⟩

structure ZipK (h : Heap) (z sz : Addr) (xs ys : Array Value) (L : Addr) : Prop where
  at_ : ∃ TI TO i1 i2 q1 q2, ZipApart z TI TO i1 i2 q1 q2 ∧ TZ z TI TO i1 i2 q1 q2 xs ys 0 h ∧ (sz ≤ z ∧ sz ≤ TO ∧ sz ≤ i1 ∧ sz ≤ i2 ∧ L < sz)
theorem GZ.intro2 {z sz : Addr} {xs ys : Array Value} {n : Nat} {g : Obj → List (Addr × Obj)} {Q : Value → Shared → Prop} (hxn : xs.size = n) (hyn : ys.size = n) (Z : ZipK s.heap z sz xs ys L) (hix : AllInts xs) (hiy : AllInts ys)
    (F : Fr h₀ L s.heap m) (N : News h₀ L s.heap news) (U : UpdF P (tabObj ps) news g) (ht : TriplesOk ps.toList)
    (h : ∀ a h₅ tk gs ps', Fr h₀ L h₅ m → News h₀ L h₅ (g (tabObj ps')) → TriplesOk ps'.toList → (AllBare s.gens → AllBare gs) → GR prog w A a sz n (SumAt xs ys) { s with heap := h₅, toks := tk, gens := gs } → Q (.ref a) { s with heap := h₅, toks := tk, gens := gs }) :
    GZ prog w A h₀ P L m Q (.ref z) s := by
  obtain ⟨TI, TO, i1, i2, q1, q2, D, hst, hz⟩ := Z.at_
  exact GZ.intro D hst hxn hyn hix hiy F N U ht hz h
theorem call_zipK {q1 q2 : Addr} {xs ys : Array Value} {n1 n2 : Nat} {Q : Value → Shared → Prop} (F : Fr h₀ L s.heap m) (N : News h₀ L s.heap news) (h1 : (q1, ({ cls := .type "tuple", data := .seq xs n1 } : Obj)) ∈ news) (h2 : (q2, ({ cls := .type "tuple", data := .seq ys n2 } : Obj)) ∈ news)
    (h : ∀ z sz h', Fr h₀ L h' m → News h₀ L h' news → ZipK h' z sz xs ys L → (∀ p ∈ news, p.1 < sz) → L < sz → Q (.ref z) { s with heap := h' }) :
    wpAny (model prog w) A (call (.type "zip") [.ref q1, .ref q2]) Q E s := by
  have a1 := (N _ h1).1
  have a2 := (N _ h2).1
  refine call_tzip (xs := xs) (ys := ys) ⟨_, a1, rfl, _, rfl⟩ ⟨_, a2, rfl, _, rfl⟩ fun h' hz hsz hk => ?_
  refine h _ s.heap.objs.size h' (F.keeps hk) (fun p hp => ⟨hk _ _ (N p hp).1, (N p hp).2⟩) ⟨_, _, _, _, _, _, tzip_apart (Heap.lt_size a1) (Heap.lt_size a2), hz, ?_⟩ (fun p hp => Heap.lt_size (N p hp).1) F.ns.lt
  exact ⟨Nat.le_add_right _ 4, Nat.le_add_right _ 3, Nat.le_refl _, Nat.le_add_right _ 1, F.ns.lt⟩
theorem call_tupleK {a sz : Addr} {x1 x2 y1 y2 : Int} {t1 t2 t3 t4 : Tok} {Q : Value → Shared → Prop} (F : Fr h₀ L s.heap m) (N : News h₀ L s.heap news) (hlt : ∀ p ∈ news, p.1 < sz) (hL : L < sz) (X : GR prog w A a sz 2 (SumAt #[.int x1 t1, .int x2 t2] #[.int y1 t3, .int y2 t4]) s)
    (h : ∀ D h' tk gs u1 u2, Fr h₀ L h' m → News h₀ L h' ((D, { cls := .type "tuple", data := .seq #[.int (x1 + y1) u1, .int (x2 + y2) u2] }) :: news) → (AllBare s.gens → AllBare gs) → (∀ p ∈ news, p.1 < D) → Q (.ref D) { s with heap := h', toks := tk, gens := gs }) :
    wpAny (model prog w) A (call (.type "tuple") [.ref a]) Q E s := by
  obtain ⟨fp, wr, g, St, W, hst, hT, hI, hfp, hwr⟩ := X
  refine call_tuple_gen (hsz := by rw [sizeLine_eq]; decide) W.in4_3 hT hst hfp hI fun s' acc hm hacc => ?_
  obtain ⟨hp', gs', dr', tk', os'⟩ := s'
  have ed : dr' = s.drawn := hm.drawn
  have eo : os' = s.os := hm.os
  subst ed eo
  have hk : ∀ b o, b < sz → s.heap.get? b = some o → hp'.get? b = some o := fun b o hb e => hm.heap b o (fun hmem => Nat.lt_irrefl _ (Nat.lt_of_lt_of_le hb (hwr b hmem))) e
  have F₁ : Fr h₀ L hp' m := ⟨F.ns.at' fun o e => hk _ o hL e, fun b o e => hk b o (Nat.lt_trans (Nat.lt_of_lt_of_le (Heap.lt_size e) F.above) hL) (F.keep b o e), F.above⟩
  have N₁ : News h₀ L hp' news := fun p hp => ⟨hk _ _ (hlt p hp) (N p hp).1, (N p hp).2⟩
  obtain ⟨hz, hP⟩ := hacc
  have e0 : acc[0]? = some acc[0] := Array.getElem?_eq_getElem (by omega)
  have e1 : acc[1]? = some acc[1] := Array.getElem?_eq_getElem (by omega)
  obtain ⟨a0, b0, ta0, tb0, u1, p1, p2, p3⟩ := hP 0 _ e0
  obtain ⟨a1, b1, ta1, tb1, u2, p4, p5, p6⟩ := hP 1 _ e1
  cases p1
  cases p2
  cases p4
  cases p5
  have ea : acc = #[.int (x1 + y1) u1, .int (x2 + y2) u2] := by
    apply Array.ext
    · simpa using hz
    · intro i hi hi'
      match i, hi, hi' with
      | 0, _, _ => simpa using p3
      | 1, _, _ => simpa using p6
  rw [ea]
  exact h _ _ _ _ u1 u2 (F₁.push _) (News.push F₁ N₁ _) (fun G => G.movedS (s := s) (s' := ⟨hp', gs', s.drawn, tk', s.os⟩) hm) fun p hp => Heap.lt_size (N₁ p hp).1
end
end T25
section T26
noncomputable abbrev PA : Addr := 80

theorem TabIn.at {led : List (Addr × Obj)} {kvs : List (Str × Value)} {tab : List (Str × Int × Int)} (h : TabIn led kvs tab) : ∀ {i : Nat} {k : Str} {va : Value}, kvs[i]? = some (k, va) → ∃ p c v t1 t2, va = .ref p ∧ (p, tupO [.int c t1, .int v t2]) ∈ led := by
  induction h with
  | nil => intro i k va e; simp at e
  | @cons k' p c v t1 t2 kvs tab hm _ ih =>
    intro i k va e
    cases i with
    | zero =>
      rw [List.getElem?_cons_zero] at e
      cases e
      exact ⟨p, c, v, t1, t2, rfl, hm⟩
    | succ i =>
      rw [List.getElem?_cons_succ] at e
      exact ih e
theorem isDict_nodup {prog : Program} {w : World} {o : Obj} {kvs : List (Str × Value)} (h : o.IsDictOf (strKind prog w) kvs) : (kvs.map (·.1)).Nodup := by
  obtain ⟨es, ep, _, _, _, _, hn⟩ := h
  exact hn
theorem stored_take {kvs : List (Str × Value)} (hn : (kvs.map (·.1)).Nodup) {i : Nat} {k : Str} {v : Value} (h : kvs[i]? = some (k, v)) : stored (kvs.take i) k v = kvs.take (i + 1) := by
  have hk : ((kvs.take i).any fun kv => kv.1 = k) = false := by
    rw [Bool.eq_false_iff]
    intro q
    obtain ⟨kv, hm, e⟩ := List.any_eq_true.mp q
    have e := of_decide_eq_true e
    obtain ⟨j, hj⟩ := List.getElem?_of_mem hm
    rw [List.getElem?_take] at hj
    split at hj
    · rename_i hji
      have h1 : (kvs.map (·.1))[j]? = some k := by rw [List.getElem?_map, hj, Option.map_some, e]
      have h2 : (kvs.map (·.1))[i]? = some k := by rw [List.getElem?_map, h]; rfl
      obtain ⟨hi', e2⟩ := List.getElem?_eq_some_iff.mp h2
      obtain ⟨hj', e1⟩ := List.getElem?_eq_some_iff.mp h1
      exact List.pairwise_iff_getElem.mp hn j i hj' hi' hji (e1.trans e2.symm)
    · cases hj
  unfold stored
  rw [hk]
  simp [List.take_add_one, h]

theorem chain2 {m : Str → Option Value} {x1 x2 : Str} {v1 v2 : Value} (h1 : m x1 = some v1) (h2 : m x2 = some v2) :
    m = fun y => if y = x1 then some v1 else if y = x2 then some v2 else m y := by
  funext y
  by_cases e1 : y = x1
  · subst e1; rw [if_pos rfl, h1]
  · rw [if_neg e1]
    by_cases e2 : y = x2
    · subst e2; rw [if_pos rfl, h2]
    · rw [if_neg e2]

inductive C1Post (prog : Program) (w : World) (h₀ : Heap) (L r ds : Addr) (rest : List (Addr × Obj)) (It : Addr) (oIt : Obj) (kvs' : List (Str × Value)) (s : Shared) (f : Flow) (s₂ : Shared) : Prop
  | mk (hf : f = .next) (h' : Heap) (tk' : Nat) (m' : Str → Option Value) (news' : List (Addr × Obj)) (o'' : Obj) (e : s₂ = { s with heap := h', toks := tk' }) (F : Fr h₀ L h' m') (N : News h₀ L h' news') (e1 : m' (Str.ofString "new_callers") = some (.ref r)) (e2 : m' (Str.ofString "source") = some (.ref ds)) (ho : o''.IsDictOf (strKind prog w) kvs')
        (hs : ∀ p ∈ (It, oIt) :: (r, o'') :: rest, p ∈ news')
inductive C2Post (prog : Program) (w : World) (h₀ : Heap) (L r : Addr) (rest tl : List (Addr × Obj)) (It : Addr) (oIt : Obj) (R : List (Str × Value) → List (Addr × Obj) → Prop) (s : Shared) (f : Flow) (s₂ : Shared) : Prop
  | mk (hf : f = .next) (h' : Heap) (tk' : Nat) (gs : Array GenState) (m' : Str → Option Value) (news' : List (Addr × Obj)) (kvs' : List (Str × Value)) (o'' : Obj) (ps' : Array Value) (tn : List (Addr × Obj)) (e : s₂ = { s with heap := h', toks := tk', gens := gs }) (hG : AllBare s.gens → AllBare gs) (F : Fr h₀ L h' m') (N : News h₀ L h' news') (e1 : m' (Str.ofString "new_callers") = some (.ref r)) (ho : o''.IsDictOf (strKind prog w) kvs')
        (htr : TriplesOk ps'.toList) (htn : ∀ p ∈ tn, p.2.cls = .type "tuple") (hR : R kvs' tn)
        (hs : ∀ p ∈ (It, oIt) :: (r, o'') :: (PA, tabObj ps') :: (rest ++ (tn ++ tl)), p ∈ news')
inductive C1Inv (prog : Program) (w : World) (h₀ : Heap) (gs₀ : Array GenState) (r ds : Addr) (rest : List (Addr × Obj)) (kvs : List (Str × Value)) (i : Nat) (g : Heap) (m : Str → Option Value) (nx : List (Addr × Obj)) (gs : Array GenState) : Prop
  | mk (hg : g = h₀) (hgs : gs = gs₀) (o' : Obj) (e : nx = (r, o') :: rest) (ho : o'.IsDictOf (strKind prog w) (kvs.take i)) (e1 : m (Str.ofString "new_callers") = some (.ref r)) (e2 : m (Str.ofString "source") = some (.ref ds)) : C1Inv prog w h₀ gs₀ r ds rest kvs i g m nx gs
inductive C2End (prog : Program) (w : World) (gs₀ : Array GenState) (r : Addr) (rest tl : List (Addr × Obj)) (R : List (Str × Value) → List (Addr × Obj) → Prop) (nx : List (Addr × Obj)) (gs : Array GenState) : Prop
  | mk (hG : AllBare gs₀ → AllBare gs) (o' : Obj) (kvs' : List (Str × Value)) (ps' : Array Value) (tn : List (Addr × Obj)) (e : nx = (r, o') :: (PA, tabObj ps') :: (rest ++ (tn ++ tl))) (ho : o'.IsDictOf (strKind prog w) kvs') (htr : TriplesOk ps'.toList) (htn : ∀ p ∈ tn, p.2.cls = .type "tuple") (hR : R kvs' tn) : C2End prog w gs₀ r rest tl R nx gs
inductive C2Inv (prog : Program) (w : World) (h₀ : Heap) (gs₀ : Array GenState) (r : Addr) (nx₀ rest tl : List (Addr × Obj)) (R : List (Str × Value) → List (Addr × Obj) → Prop) (i : Nat) (g : Heap) (m : Str → Option Value) (nx : List (Addr × Obj)) (gs : Array GenState) : Prop
  | mk (hg : g = h₀) (e1 : m (Str.ofString "new_callers") = some (.ref r)) (h1 : i = 0 → gs = gs₀ ∧ nx = nx₀) (h2 : i ≠ 0 → C2End prog w gs₀ r rest tl R nx gs) : C2Inv prog w h₀ gs₀ r nx₀ rest tl R i g m nx gs
theorem chain1 {m : Str → Option Value} {x1 : Str} {v1 : Value} (h1 : m x1 = some v1) : m = fun y => if y = x1 then some v1 else m y := by
  funext y
  by_cases e1 : y = x1
  · subst e1; rw [if_pos rfl, h1]
  · rw [if_neg e1]
theorem callers_loop1 {prog : Program} {w : World} {A : Around} {E : Value → Shared → Prop} {s : Shared} {env : Env} {h₀ : Heap} {pk pv pt : Pos} {x1 : Nat} {body : List Stmt} {Q : Flow → Shared → Prop} {dt ds q r v : Addr} {od1 od2 o : Obj} {kvs : List (Str × Value)} {tab : List (Str × Int × Int)} {y : Int} {t1 t2 : Tok} {ps : Array Value} {tl news₀ : List (Addr × Obj)} {m₀ : Str → Option Value}
    (hh : A.handled = none) (hxk : env.kindOf (Str.ofString "func") = some .local) (hxv : env.kindOf (Str.ofString "caller") = some .local) (hp : (env.scope.kind == .class || (env.scope.kind == .module && env.locals != env.globals)) = false)
    (F : Fr h₀ env.locals s.heap m₀) (N : News h₀ env.locals s.heap news₀) (hv : (v, { cls := .type "dict_items", data := .fields #[.ref dt] }) ∈ news₀) (hsub : ∀ p ∈ (r, o) :: (PA, tabObj ps) :: (dt, od1) :: (ds, od2) :: (q, tupO [.int 1 t1, .int y t2]) :: tl, p ∈ news₀)
    (htl : ∀ p ∈ tl, p.2.cls = .type "tuple")
    (hd1 : od1.IsDictOf (strKind prog w) kvs) (hT : TabIn tl kvs tab) (hd2 : od2.IsDictOf (strKind prog w) [(a, .ref q)]) (hd0 : o.IsDictOf (strKind prog w) [])
    (e1 : m₀ (Str.ofString "new_callers") = some (.ref r)) (e2 : m₀ (Str.ofString "source") = some (.ref ds))
    (turn : ∀ i k t p c u t3 t4 (m : Str → Option Value) o' It oIt h tk E', kvs[i]? = some (k, .ref p) → (p, tupO [.int c t3, .int u t4]) ∈ tl → @Ne Nat It r → o'.IsDictOf (strKind prog w) (kvs.take i) →
      Fr h₀ env.locals h (fun y => if y = Str.ofString "caller" then some (.ref p) else if y = Str.ofString "func" then some (.str k t) else if y = Str.ofString "new_callers" then some (.ref r) else if y = Str.ofString "source" then some (.ref ds) else m y) →
      News h₀ env.locals h ((It, oIt) :: (r, o') :: (PA, tabObj ps) :: (dt, od1) :: (ds, od2) :: (q, tupO [.int 1 t1, .int y t2]) :: tl) →
      wpAny (model prog w) A (execs body env) (C1Post prog w h₀ env.locals r ds ((PA, tabObj ps) :: (dt, od1) :: (ds, od2) :: (q, tupO [.int 1 t1, .int y t2]) :: tl) It oIt (stored (kvs.take i) k (.ref p)) s) E' { s with heap := h, toks := tk })
    (done : ∀ o' (m : Str → Option Value) h tk, o'.IsDictOf (strKind prog w) kvs →
      Fr h₀ env.locals h (fun y => if y = Str.ofString "new_callers" then some (.ref r) else if y = Str.ofString "source" then some (.ref ds) else m y) → News h₀ env.locals h ((r, o') :: (PA, tabObj ps) :: (dt, od1) :: (ds, od2) :: (q, tupO [.int 1 t1, .int y t2]) :: tl) → Q .next { s with heap := h, toks := tk }) :
    wpAny (model prog w) A (pyIter (.ref v)) (fun it s₂ => codeAny (model prog w) A (.forLoop (.Tuple [.Name (Str.ofString "func") pk, .Name (Str.ofString "caller") pv] x1 pt) it body [] env) (fun r s' => match r with | .ok f => Q f s' | .error e => cameBackBy (model prog w) A env E e s') s₂) E s := by
  have cls_of : ∀ {o : Obj} {kvs : List (Str × Value)}, o.IsDictOf (strKind prog w) kvs → o.cls = .type "dict" := fun {o kvs} h => by
    obtain ⟨es, ep, hx, _⟩ := h
    exact hx.1
  have hni : ∀ o', o'.IsDictOf (strKind prog w) (kvs.take 0) ∨ (∃ i, o'.IsDictOf (strKind prog w) (kvs.take i)) → NoIt ((r, o') :: (PA, tabObj ps) :: (dt, od1) :: (ds, od2) :: (q, tupO [.int 1 t1, .int y t2]) :: tl) := fun o' ho => by
    have hc : o'.cls = .type "dict" := by rcases ho with h | ⟨i, h⟩ <;> exact cls_of h
    refine .cons (by rw [hc]; decide) (by rw [hc]; decide) (.cons (by show Value.none ≠ _; decide) (by show Value.none ≠ _; decide) (.cons (by rw [cls_of hd1]; decide) (by rw [cls_of hd1]; decide) (.cons (by rw [cls_of hd2]; decide) (by rw [cls_of hd2]; decide) (.cons (by show Value.type "tuple" ≠ _; decide) (by show Value.type "tuple" ≠ _; decide) fun p hp => by rw [htl p hp]; decide))))
  have N' : News h₀ env.locals s.heap ((r, o) :: (PA, tabObj ps) :: (dt, od1) :: (ds, od2) :: (q, tupO [.int 1 t1, .int y t2]) :: tl) := fun p hp => N p (hsub p hp)
  refine forItems (knd := strKind prog w) (d := dt) (od := od1) (kvs := kvs)
    (C1Inv prog w h₀ s.gens r ds ((PA, tabObj ps) :: (dt, od1) :: (ds, od2) :: (q, tupO [.int 1 t1, .int y t2]) :: tl) kvs)
    hh hxk hxv hp ?_ hd1 (N _ hv).1 F N' (hni o (.inr ⟨0, by rw [List.take_zero]; exact hd0⟩)) ⟨rfl, rfl, o, rfl, by rw [List.take_zero]; exact hd0, e1, e2⟩ ?_ ?_
  · rintro i g m nx gs ⟨rfl, rfl, o', rfl, _⟩
    exact .tail _ (.tail _ (.head _))
  · rintro i k key va g m nx gs It oIt h tk E' hkv hkey ⟨rfl, rfl, o', rfl, ho', e1', e2'⟩ hne _ F₁ N₁
    obtain ⟨t, rfl⟩ := str_of_is hkey
    obtain ⟨p, c, u, t3, t4, rfl, hm⟩ := hT.at hkv
    rw [chain2 e1' e2'] at F₁
    refine wpAny_mono (turn i k t p c u t3 t4 m o' It oIt h tk E' hkv hm (Ne.symm (hne _ (.head _))) ho' F₁ N₁) (fun f s₂ h₂ => ?_) fun _ _ e => e
    obtain ⟨rfl, h', tk', m', news', o'', rfl, F', N'', e1'', e2'', ho'', hs'⟩ := h₂
    rw [stored_take (isDict_nodup hd1) hkv] at ho''
    exact ⟨rfl, _, h', tk', s.gens, m', news', _, rfl, F', N'', hs' _ (.head _), fun p hp => hs' p (.tail _ hp), hni o'' (.inr ⟨_, ho''⟩), rfl, rfl, o'', rfl, ho'', e1'', e2''⟩
  · rintro g m nx gs h tk ⟨rfl, rfl, o', rfl, ho', e1', e2'⟩ _ F₁ N₁
    rw [List.take_length] at ho'
    rw [chain2 e1' e2'] at F₁
    exact done o' m h tk ho' F₁ N₁

theorem callers_loop2 {prog : Program} {w : World} {A : Around} {E : Value → Shared → Prop} {s : Shared} {env : Env} {h₀ : Heap} {pk pv pt : Pos} {x1 : Nat} {body : List Stmt} {Q : Flow → Shared → Prop} {dt ds q r v : Addr} {od1 od2 o : Obj} {kvs : List (Str × Value)} {a : Str} {y : Int} {t1 t2 : Tok} {ps : Array Value} {tl news₀ : List (Addr × Obj)} {m₀ : Str → Option Value} (R : List (Str × Value) → List (Addr × Obj) → Prop)
    (hh : A.handled = none) (hxk : env.kindOf (Str.ofString "func") = some .local) (hxv : env.kindOf (Str.ofString "caller") = some .local) (hp : (env.scope.kind == .class || (env.scope.kind == .module && env.locals != env.globals)) = false)
    (F : Fr h₀ env.locals s.heap m₀) (N : News h₀ env.locals s.heap news₀) (hv : (v, { cls := .type "dict_items", data := .fields #[.ref ds] }) ∈ news₀) (hsub : ∀ p ∈ (r, o) :: (PA, tabObj ps) :: (dt, od1) :: (ds, od2) :: (q, tupO [.int 1 t1, .int y t2]) :: tl, p ∈ news₀)
    (htl : ∀ p ∈ tl, p.2.cls = .type "tuple") 
    (hd1 : od1.cls = .type "dict") (hd2 : od2.IsDictOf (strKind prog w) [(a, .ref q)]) (hd0 : o.IsDictOf (strKind prog w) kvs)
    (e1 : m₀ (Str.ofString "new_callers") = some (.ref r))
    (turn : ∀ t (m : Str → Option Value) It oIt h tk E', @Ne Nat It r → @Ne Nat It PA → 
      Fr h₀ env.locals h (fun y => if y = Str.ofString "caller" then some (.ref q) else if y = Str.ofString "func" then some (.str a t) else if y = Str.ofString "new_callers" then some (.ref r) else m y) →
      News h₀ env.locals h ((It, oIt) :: (r, o) :: (PA, tabObj ps) :: (dt, od1) :: (ds, od2) :: (q, tupO [.int 1 t1, .int y t2]) :: tl) →
      wpAny (model prog w) A (execs body env) (C2Post prog w h₀ env.locals r [(dt, od1), (ds, od2), (q, tupO [.int 1 t1, .int y t2])] tl It oIt R s) E' { s with heap := h, toks := tk })
    (done : ∀ o' (m : Str → Option Value) h tk gs kvs' ps' tn, (AllBare s.gens → AllBare gs) → o'.IsDictOf (strKind prog w) kvs' → TriplesOk ps'.toList → (∀ p ∈ tn, p.2.cls = .type "tuple") → R kvs' tn →
      Fr h₀ env.locals h (fun y => if y = Str.ofString "new_callers" then some (.ref r) else m y) → News h₀ env.locals h ((r, o') :: (PA, tabObj ps') :: (dt, od1) :: (ds, od2) :: (q, tupO [.int 1 t1, .int y t2]) :: (tn ++ tl)) → Q .next { s with heap := h, toks := tk, gens := gs }) :
    wpAny (model prog w) A (pyIter (.ref v)) (fun it s₂ => codeAny (model prog w) A (.forLoop (.Tuple [.Name (Str.ofString "func") pk, .Name (Str.ofString "caller") pv] x1 pt) it body [] env) (fun r s' => match r with | .ok f => Q f s' | .error e => cameBackBy (model prog w) A env E e s') s₂) E s := by
  have cls_of : ∀ {o : Obj} {kvs : List (Str × Value)}, o.IsDictOf (strKind prog w) kvs → o.cls = .type "dict" := fun {o kvs} h => by
    obtain ⟨es, ep, hx, _⟩ := h
    exact hx.1
  have hni : ∀ o' (ps' : Array Value) (tn : List (Addr × Obj)), o'.cls = .type "dict" → (∀ p ∈ tn, p.2.cls = .type "tuple") → NoIt ((r, o') :: (PA, tabObj ps') :: (dt, od1) :: (ds, od2) :: (q, tupO [.int 1 t1, .int y t2]) :: (tn ++ tl)) := fun o' ps' tn hc htn => by
    refine .cons (by rw [hc]; decide) (by rw [hc]; decide) (.cons (by show Value.none ≠ _; decide) (by show Value.none ≠ _; decide) (.cons (by rw [hd1]; decide) (by rw [hd1]; decide) (.cons (by rw [cls_of hd2]; decide) (by rw [cls_of hd2]; decide) (.cons (by show Value.type "tuple" ≠ _; decide) (by show Value.type "tuple" ≠ _; decide) fun p hp => ?_))))
    have hc : p.2.cls = .type "tuple" := (List.mem_append.mp hp).elim (htn p) (htl p)
    rw [hc]; decide
  have N' : News h₀ env.locals s.heap ((r, o) :: (PA, tabObj ps) :: (dt, od1) :: (ds, od2) :: (q, tupO [.int 1 t1, .int y t2]) :: tl) := fun p hp => N p (hsub p hp)
  refine forItems (knd := strKind prog w) (d := ds) (od := od2) (kvs := [(a, .ref q)])
    (C2Inv prog w h₀ s.gens r ((r, o) :: (PA, tabObj ps) :: (dt, od1) :: (ds, od2) :: (q, tupO [.int 1 t1, .int y t2]) :: tl) [(dt, od1), (ds, od2), (q, tupO [.int 1 t1, .int y t2])] tl R)
    hh hxk hxv hp ?_ hd2 (N _ hv).1 F N' (by have := hni o ps [] (cls_of hd0) (fun _ h => nomatch h); exact this) ⟨rfl, e1, fun _ => ⟨rfl, rfl⟩, fun h => absurd rfl h⟩ ?_ ?_
  · rintro i g m nx gs ⟨rfl, _, h1, h2⟩
    by_cases hi : i = 0
    · rw [(h1 hi).2]; exact .tail _ (.tail _ (.tail _ (.head _)))
    · obtain ⟨_, o', kvs', ps', tn, rfl, _⟩ := h2 hi
      exact .tail _ (.tail _ (.tail _ (.head _)))
  · rintro i k key va g m nx gs It oIt h tk E' hkv hkey ⟨rfl, e1', h1, _⟩ hne _ F₁ N₁
    have hi : i = 0 := by
      obtain ⟨hi, _⟩ := List.getElem?_eq_some_iff.mp hkv
      simpa using hi
    subst hi
    obtain ⟨rfl, rfl⟩ := h1 rfl
    cases hkv
    obtain ⟨t, rfl⟩ := str_of_is hkey
    rw [chain1 e1'] at F₁
    refine wpAny_mono (turn t m It oIt h tk E' (Ne.symm (hne _ (.head _))) (Ne.symm (hne _ (.tail _ (.head _)))) F₁ N₁) (fun f s₂ h₂ => ?_) fun _ _ e => e
    obtain ⟨rfl, h', tk', gs, m', news', kvs', o'', ps', tn, rfl, hG, F', N'', e1'', ho'', htr, htn, hR, hs'⟩ := h₂
    exact ⟨rfl, _, h', tk', gs, m', news', _, rfl, F', N'', hs' _ (.head _), fun p hp => hs' p (.tail _ hp), hni o'' ps' tn (cls_of ho'') htn, rfl, e1'', fun q => absurd q (by decide), fun _ => ⟨hG, o'', kvs', ps', tn, rfl, ho'', htr, htn, hR⟩⟩
  · rintro g m nx gs h tk ⟨rfl, e1', _, h2⟩ _ F₁ N₁
    obtain ⟨hG, o', kvs', ps', tn, rfl, ho', htr, htn, hR⟩ := h2 (by simp)
    rw [chain1 e1'] at F₁
    exact done o' m h tk gs kvs' ps' tn hG ho' htr htn hR F₁ N₁

theorem dinT {prog : Program} {w : World} {A : Around} {E : Value → Shared → Prop} {s : Shared} {h₀ : Heap} {L d : Addr} {news led : List (Addr × Obj)} {o : Obj} {kvs : List (Str × Value)} {tab : List (Str × Int × Int)} {x : Str} {t : Tok} {Q : Value → Shared → Prop}
    (N : News h₀ L s.heap news) (hm : (d, o) ∈ news) (hd : o.IsDictOf (strKind prog w) kvs) (lo : (d == sysModules) = false) (hT : TabIn led kvs tab) (hs : ∀ x ∈ led, x ∈ news)
    (h0 : valueAt kvs x = none → getT tab x = none → Q (.bool false) { s with toks := s.toks + 1 })
    (h1 : ∀ p c v t1 t2, valueAt kvs x = some (.ref p) → getT tab x = some (c, v) → (p, tupO [.int c t1, .int v t2]) ∈ led → (p, { cls := .type "tuple", data := .seq #[.int c t1, .int v t2] }) ∈ news → Q (.bool true) { s with toks := s.toks + 1 }) :
    wpAny (model prog w) A (compareOp .In (.str x t) (.ref d)) Q E s := by
  refine din N hm hd lo ?_
  rcases hT.value x with ⟨e1, e2⟩ | ⟨p, c, v, t1, t2, e1, e2, hp⟩
  · rw [e1]; exact h0 e1 e2
  · rw [e1]; exact h1 p c v t1 t2 e1 e2 hp (hs _ hp)

theorem bump_none {tab : List (Str × Int × Int)} {a : Str} {y : Int} (h : getT tab a = none) : bump tab a y = putT tab a (1, y) := by
  unfold bump; rw [h]; simp
theorem bump_some {tab : List (Str × Int × Int)} {a : Str} {y c v : Int} (h : getT tab a = some (c, v)) : bump tab a y = putT tab a (1 + c, y + v) := by
  unfold bump; rw [h]
  show putT tab a (c + 1, v + y) = _
  rw [Int.add_comm c 1, Int.add_comm v y]
theorem closeP {h₀ h g h' : Heap} {L L' P : Addr} {op : Obj} {m' : Str → Option Value} {rest news' : List (Addr × Obj)} (N : News h₀ L h ((P, op) :: rest)) (hg : ∀ b o, b ∉ ((P, op) :: rest).map (·.1) → h.get? b = some o → g.get? b = some o)
    (F' : Fr g L' h' m') (N' : News g L' h' news') (hr : ∀ p ∈ rest, p ∈ news') : ∀ b o, b ≠ P → h.get? b = some o → h'.get? b = some o := by
  intro b o hb e
  by_cases q : b ∈ rest.map (·.1)
  · obtain ⟨p, hp, rfl⟩ := List.mem_map.mp q
    have e1 := (N p (.tail _ hp)).1
    rw [e] at e1
    cases e1
    exact (N' p (hr p hp)).1
  · refine F'.keep b o (hg b o (fun q' => ?_) e)
    rcases List.mem_cons.mp q' with q' | q'
    · exact hb q'
    · exact q q'
theorem allInts_two {x1 x2 : Int} {t1 t2 : Tok} : AllInts #[.int x1 t1, .int x2 t2] := by
  intro j v h
  match j, h with
  | 0, h => simp at h; exact ⟨_, _, h.symm⟩
  | 1, h => simp at h; exact ⟨_, _, h.symm⟩
  | j + 2, h => simp at h
theorem lt_of_map {l l' : List (Addr × Obj)} {d : Addr} (h : ∀ p ∈ l, p.1 < d) (e : l'.map (·.1) = l.map (·.1)) : ∀ p ∈ l', p.1 < d := fun p hp => by
  have h1 : p.1 ∈ l.map (·.1) := e ▸ List.mem_map_of_mem hp
  obtain ⟨q, hq, e2⟩ := List.mem_map.mp h1
  rw [← e2]; exact h q hq

noncomputable def C2R (a : Str) (y : Int) (tab : List (Str × Int × Int)) (ps : Array Value) (dt ds q : Addr) (od1 od2 : Obj) (t1 t2 : Tok) (tl : List (Addr × Obj)) (kvs' : List (Str × Value)) (tn : List (Addr × Obj)) : Prop :=
  TabIn (tn ++ (q, tupO [.int 1 t1, .int y t2]) :: tl) kvs' (bump tab a y) ∧ ∀ p ∈ tn, ∀ x ∈ (PA, tabObj ps) :: (dt, od1) :: (ds, od2) :: (q, tupO [.int 1 t1, .int y t2]) :: tl, @Ne Nat x.1 p.1
theorem c2_none {prog : Program} {w : World} {h₀ h' : Heap} {L r It dt ds q : Addr} {oIt o'' od1 od2 : Obj} {ps : Array Value} {tl : List (Addr × Obj)} {m' : Str → Option Value} {s : Shared} {a : Str} {y : Int} {t1 t2 : Tok} {tab : List (Str × Int × Int)} {kvs : List (Str × Value)} {tk : Nat}
    (F : Fr h₀ L h' m') (N : News h₀ L h' ((It, oIt) :: (r, o'') :: (PA, tabObj ps) :: (dt, od1) :: (ds, od2) :: (q, tupO [.int 1 t1, .int y t2]) :: tl)) (e : m' (Str.ofString "new_callers") = some (.ref r)) (hd : o''.IsDictOf (strKind prog w) (stored kvs a (.ref q))) (hps : TriplesOk ps.toList) (hT : TabIn tl kvs tab) (hg : getT tab a = none) :
    C2Post prog w h₀ L r [(dt, od1), (ds, od2), (q, tupO [.int 1 t1, .int y t2])] tl It oIt (C2R a y tab ps dt ds q od1 od2 t1 t2 tl) s .next { s with heap := h', toks := tk } := by
  refine ⟨rfl, h', tk, s.gens, m', _, _, o'', ps, [], rfl, id, F, N, e, hd, hps, (fun _ h => nomatch h), ⟨?_, fun _ h => nomatch h⟩, fun _ h => h⟩
  rw [bump_none hg]
  exact TabIn.store (hT.mono (fun _ h => .tail _ h)) (.head _)
theorem c2_some {prog : Program} {w : World} {h₀ h' : Heap} {L r It dt ds q D : Addr} {oIt o'' oX od1 od2 : Obj} {ps ps' : Array Value} {tl : List (Addr × Obj)} {m' : Str → Option Value} {s : Shared} {a : Str} {y c v : Int} {t1 t2 u1 u2 : Tok} {tab : List (Str × Int × Int)} {kvs : List (Str × Value)} {tk : Nat} {gs : Array GenState}
    (F : Fr h₀ L h' m') (N : News h₀ L h' ((D, tupO [.int (1 + c) u1, .int (y + v) u2]) :: (It, oIt) :: (r, o'') :: (PA, tabObj ps') :: (dt, od1) :: (ds, od2) :: (q, tupO [.int 1 t1, .int y t2]) :: tl)) (e : m' (Str.ofString "new_callers") = some (.ref r)) (hd : o''.IsDictOf (strKind prog w) (stored kvs a (.ref D))) (hps : TriplesOk ps'.toList) (hT : TabIn tl kvs tab) (hg : getT tab a = some (c, v))
    (hG : AllBare s.gens → AllBare gs) (l1 : AllLt D ((It, oIt) :: (r, oX) :: (PA, tabObj ps') :: (dt, od1) :: (ds, od2) :: (q, tupO [.int 1 t1, .int y t2]) :: tl)) :
    C2Post prog w h₀ L r [(dt, od1), (ds, od2), (q, tupO [.int 1 t1, .int y t2])] tl It oIt (C2R a y tab ps dt ds q od1 od2 t1 t2 tl) s .next { s with heap := h', toks := tk, gens := gs } := by
  refine ⟨rfl, h', tk, gs, m', _, _, o'', ps', [(D, tupO [.int (1 + c) u1, .int (y + v) u2])], rfl, hG, F, N, e, hd, hps, (fun p hp => by rw [List.mem_singleton.mp hp]), ⟨?_, ?_⟩, ?_⟩
  · rw [bump_some hg]
    exact TabIn.store (hT.mono (fun _ h => .tail _ (.tail _ h))) (.head _)
  · intro p hp x hx
    rw [List.mem_singleton.mp hp]
    exact Nat.ne_of_lt (allLt_mem (l := (PA, tabObj ps) :: (dt, od1) :: (ds, od2) :: (q, tupO [.int 1 t1, .int y t2]) :: tl) (show @LT.lt Nat _ It D ∧ @LT.lt Nat _ r D ∧ _ from l1).2.2 x hx)
  · intro p hp
    simp only [List.cons_append, List.nil_append, List.mem_cons] at hp ⊢
    rcases hp with h | h | h | h | h | h | h | h
    · exact .inr (.inl h)
    · exact .inr (.inr (.inl h))
    · exact .inr (.inr (.inr (.inl h)))
    · exact .inr (.inr (.inr (.inr (.inl h))))
    · exact .inr (.inr (.inr (.inr (.inr (.inl h)))))
    · exact .inr (.inr (.inr (.inr (.inr (.inr (.inl h))))))
    · exact .inl h
    · exact .inr (.inr (.inr (.inr (.inr (.inr (.inr h))))))
end T26
section T27
example : True := by
  w_top off
  trivial
theorem fill12 : PySem.Challenge.rw_pe0125_01 = PySem.Challenge.rw_pe0125_01 ∧ hd.heap_39 = hd.heap_39 := by
  k_fill
  exact ⟨rfl, rfl⟩

theorem codeHd_K {w : World} {h : Heap} (X : (hd.heap_39 w.params).In h) : CodeHd h 84 PA :=
  ⟨_, _, _, _, _, _, _, _, _, X 84 _ (by k_is), rfl, rfl, rfl, rfl, rfl, rfl, rfl, rfl, by decide⟩
section
variable {prog : Program} {w : World} {A₀ A : Around} {s : Shared} {base h₀ : Heap} {outer : List Env} {L : Addr} {m mg mb : Str → Option Value} {mean : ExcName → Option Value} {tp : Program} {tl₀ : List Str} {env : Env} {Q E : Value → Shared → Prop} {news : List (Addr × Obj)}

set_option maxHeartbeats 400000 in
theorem callers_at {dt ds q : Addr} {od1 od2 : Obj} {kvs : List (Str × Value)} {tab : List (Str × Int × Int)} {a : Str} {y : Int} {t1 t2 : Tok} {ps : Array Value} {tl : List (Addr × Obj)}
   (B : Below A₀ base outer h₀) (F : Fr h₀ L s.heap m) (X : (hd.heap_39 w.params).In h₀) (T : Top tp tl₀ mean mg mb h₀) (hf : env.frame = some L) (hk : env.scope.kind = .function)
   (N : News h₀ L s.heap ((PA, tabObj ps) :: (dt, od1) :: (ds, od2) :: (q, tupO [.int 1 t1, .int y t2]) :: tl))
   (hps : TriplesOk ps.toList) (hd1 : od1.IsDictOf (strKind prog w) kvs) (hT : TabIn tl kvs tab) (hd2 : od2.IsDictOf (strKind prog w) [(a, .ref q)]) (htl : ∀ p ∈ tl, p.2.cls = .type "tuple") (hlen : kvs.length ≤ 20) (lo1 : (dt == sysModules) = false) (lo2 : (ds == sysModules) = false)
   (post : ∀ r o' kvs' ps' tn h' tk gs, (∀ b o, b ≠ PA → s.heap.get? b = some o → h'.get? b = some o) → h'.get? PA = some (tabObj ps') → TriplesOk ps'.toList → (AllBare s.gens → AllBare gs) →
     (∀ p ∈ (r, o') :: tn, s.heap.get? p.1 = none ∧ h'.get? p.1 = some p.2) → (∀ p ∈ tn, p.2.cls = .type "tuple") → o'.IsDictOf (strKind prog w) kvs' → (r == sysModules) = false → TabIn (tn ++ (q, tupO [.int 1 t1, .int y t2]) :: tl) kvs' (bump tab a y) →
     Q (.ref r) { s with heap := h', toks := tk, gens := gs }) :
   wpAny (model prog w) (AT 600 1000 env outer) (call (.ref 85) [.ref dt, .ref ds]) Q E s := by
  have hP1 : @Ne Nat dt PA := News.twoPlaces N (p := (dt, od1)) (q := (PA, tabObj ps)) (.tail _ (.head _)) (.head _) (fun e => by
    obtain ⟨es, ep, hx, _⟩ := hd1
    have e2 : od1 = tabObj ps := e
    rw [e2] at hx
    exact absurd hx.1 (by show Value.none ≠ _; decide))
  have hP2 : @Ne Nat ds PA := News.twoPlaces N (p := (ds, od2)) (q := (PA, tabObj ps)) (.tail _ (.tail _ (.head _))) (.head _) (fun e => by
    obtain ⟨es, ep, hx, _⟩ := hd2
    have e2 : od2 = tabObj ps := e
    rw [e2] at hx
    exact absurd hx.1 (by show Value.none ≠ _; decide))
  have hP3 : @Ne Nat q PA := News.twoPlaces N (p := (q, tupO [.int 1 t1, .int y t2])) (q := (PA, tabObj ps)) (.tail _ (.tail _ (.tail _ (.head _)))) (.head _) (fun e => by cases e)
  have hP4 : OwnOff tl [PA] := fun x hx b hb => by
    rw [List.mem_singleton.mp hb]
    refine News.twoPlaces N (p := x) (q := (PA, tabObj ps)) (.tail _ (.tail _ (.tail _ (.tail _ hx)))) (.head _) (fun e => ?_)
    have e2 := htl x hx
    rw [e] at e2
    cases e2
  walk_at "m enterN"
  k_with "exec For" => (with_unfolding_all refine wpAny_For ?_ (by intro _; rfl))
  k_with "pyIter ref" => (
    first
    | (with_unfolding_all refine' callers_loop1 (dt := dt) (ds := ds) (q := q) (od1 := od1) (od2 := od2) (tab := tab) (tl := tl) ?hhZ3 ?hxkZ3 ?hxvZ3 ?hpZ3 ?FZ3 ?NZ3 ?hvZ3 ?hsubZ3 ?htlZ3 ?hd1Z3 ?hTZ3 ?hd2Z3 ?hd0Z3 ?e1Z3 ?e2Z3 ?_ ?_
       case FZ3 => k_asm
       case NZ3 => k_asm
       case hvZ3 => k_mem
       case hsubZ3 => (intro x hx; exact List.Mem.tail _ hx)
       case hd0Z3 => k_asm
       case hd1Z3 => exact hd1
       case hTZ3 => exact hT
       case hd2Z3 => exact hd2
       case htlZ3 => exact htl
       case hhZ3 => exact rfl
       case hxkZ3 => exact rfl
       case hxvZ3 => exact rfl
       case hpZ3 => exact rfl
       case e1Z3 => rfl
       case e2Z3 => rfl
       all_goals first
         | (intro i k t p c u t3 t4 m1 o1 It oIt h tk E' hkv hpm hIr ho1 F' N'
            have hlt : i < kvs.length := (List.getElem?_eq_some_iff.mp hkv).1
            have htk : (kvs.take i).length ≤ i := by rw [List.length_take]; omega
            try k_sweep)
         | (intro o1 m1 h tk ho1 F' N'
            try k_sweep)))
  k_with "pyIter ref" => (
    first
    | (with_unfolding_all refine' callers_loop2 (dt := dt) (ds := ds) (q := q) (od1 := od1) (od2 := od2) (tl := tl) (a := a) (kvs := kvs) (C2R a y tab ps dt ds q od1 od2 t1 t2 tl) ?hhBZ4 ?hxkBZ4 ?hxvBZ4 ?hpBZ4 ?FBZ4 ?NBZ4 ?hvBZ4 ?hsubBZ4 ?htlBZ4 ?hd1BZ4 ?hd2BZ4 ?hd0BZ4 ?e1BZ4 ?_ ?_
       case FBZ4 => k_asm
       case NBZ4 => k_asm
       case hvBZ4 => k_mem
       case hsubBZ4 => (intro x hx; exact List.Mem.tail _ hx)
       case hd0BZ4 => k_asm
       case hd1BZ4 => (obtain ⟨es, ep, hx, _⟩ := hd1; exact hx.1)
       case hd2BZ4 => exact hd2
       case htlBZ4 => exact htl
       case hhBZ4 => exact rfl
       case hxkBZ4 => exact rfl
       case hxvBZ4 => exact rfl
       case hpBZ4 => exact rfl
       case e1BZ4 => rfl
       all_goals first
         | (intro o1 m1 h tk gs kvs' ps' tn hG ho1 htr htn hR F' N'
            try k_sweep)
         | (intro t m1 It oIt h tk E' hIr hIP F' N'
            try k_sweep)))
  k_with "compareOp In str ref" => (
       refine' dinT (led := tl) ?NZ5 ?mZ5 ?dZ5 ?lZ5 hT ?hsZ5 ?_ ?_
       case NZ5 => k_asm
       case mZ5 => k_mem
       case dZ5 => k_asm
       case lZ5 => k_asm
       case hsZ5 => (intro x' hx'; (repeat (first | exact hx' | refine List.Mem.tail _ ?_)))
       all_goals first
         | (intro p' c' v' t3' t4' hv' hg' hm' hm2')
         | (intro hv' hg'))
  k_with "call type:zip" => (
       refine' call_zipK ?FZ6 ?NZ6 ?h1Z6 ?h2Z6 ?_
       case FZ6 => k_asm
       case NZ6 => k_asm
       case h1Z6 => k_mem
       case h2Z6 => k_mem
       intro z' sz' h' F' N' Z' l9 l8
       (try dsimp only at F' N'); (try k_sweep))
  k_with "GZ" => (
       refine' GZ.intro2 (P := PA) (n := 2) ?hxZ7 ?hyZ7 ?ZZ7 ?hixZ7 ?hiyZ7 ?FZ7 ?NZ7 ?UZ7 ?htZ7 ?_
       case ZZ7 => k_asm
       case hxZ7 => exact rfl
       case hyZ7 => exact rfl
       case FZ7 => k_asm
       case NZ7 => k_asm
       case UZ7 => k_updF
       case htZ7 => k_asm
       case hixZ7 => exact allInts_two
       case hiyZ7 => exact allInts_two
       intro a' h' tk' gs' ps' F' N' ht' hG' hR'
       (try dsimp only at F' N'); (try k_sweep))
  k_with "call type:tuple" => (
       refine' call_tupleK ?FZ8 ?NZ8 ?hltZ8 ?hLZ8 ?XZ8 ?_
       case FZ8 => k_asm
       case NZ8 => k_asm
       case XZ8 => k_asm
       case hltZ8 => exact lt_of_map (by with_reducible assumption) (by rfl)
       case hLZ8 => k_asm
       intro D' h' tk' gs' u1 u2 F' N' hG' l1
       (try k_lt l1); (try k_sweep))
  k_with "subscriptTail" => (
       refine' ditem ?NZ9 ?mZ9 ?dZ9 ?vZ9 ?_ ?hsZ9
       case NZ9 => k_asm
       case mZ9 => k_mem
       case dZ9 => k_asm
       case vZ9 => with_reducible assumption
       case hsZ9 => with_unfolding_all rfl)
  k_with "eval GeneratorExp" => (
       with_unfolding_all refine' genexp_K (P := PA) (c := 84) ?FZ10 ?TZ10 ?CZ10 rfl rfl rfl rfl rfl ?hcellZ10 rfl rfl rfl ?habZ10 ?hdaZ10 ?hdbZ10 rfl ?hroomZ10 ?_ ?hsZ10
       case FZ10 => k_asm
       case TZ10 => k_asm
       case CZ10 => exact codeHd_K (by k_asm)
       case hcellZ10 => decide
       case habZ10 => decide
       case hdaZ10 => decide
       case hdbZ10 => decide
       case hroomZ10 => k_room
       case hsZ10 => (intro _; with_unfolding_all rfl))
  walk_at "m steps"
  all_goals first
    | ((with_reducible show C1Post _ _ _ _ _ _ _ _ _ _ _ _ _)
       exact ⟨rfl, _, _, _, _, _, rfl, by k_asm, by k_asm, rfl, rfl, by k_asm, fun _ h => h⟩)
    | skip
  · exact c2_none (by k_asm) (by k_asm) rfl (by k_asm) hps hT (by with_reducible assumption)
  · rename (AllBare _ → AllBare _) => hGa
    revert hGa
    rename (AllBare _ → AllBare _) => hGb
    intro hGa
    exact c2_some (by k_asm) (by k_asm) rfl (by k_asm) (by with_reducible assumption) hT (by with_reducible assumption) (fun q => hGa (hGb q)) (by with_reducible assumption)
  · rename (∀ (b : Addr) (o : Obj), ¬b ∈ _ → _ → _) => hg0
    rename AllLt _ ((PA, tabObj ps) :: (dt, od1) :: (ds, od2) :: (q, _) :: tl) => l0
    refine post _ o1 kvs' ps' tn h tk gs (closeP N hg0 F' N' ?hsubZ11) (N' _ (.tail _ (.head _))).1 htr hG ?hfrZ11 htn ho1 (by with_reducible assumption) hR.1
    case hsubZ11 =>
      intro p hp
      refine .tail _ (.tail _ ?_)
      rcases List.mem_cons.mp hp with rfl | hp
      · exact .head _
      · rcases List.mem_cons.mp hp with rfl | hp
        · exact .tail _ (.head _)
        · rcases List.mem_cons.mp hp with rfl | hp
          · exact .tail _ (.tail _ (.head _))
          · exact .tail _ (.tail _ (.tail _ (List.mem_append_right _ hp)))
    case hfrZ11 =>
      intro p hp
      rcases List.mem_cons.mp hp with rfl | hp
      · exact ⟨fresh_of hg0 N' (.head _) fun x hx => Nat.ne_of_lt (allLt_mem (l := (PA, tabObj ps) :: (dt, od1) :: (ds, od2) :: (q, tupO [.int 1 t1, .int y t2]) :: tl) l0 x hx), (N' _ (.head _)).1⟩
      · have z := N' p (.tail _ (.tail _ (.tail _ (.tail _ (.tail _ (List.mem_append_left _ hp))))))
        exact ⟨fresh_of (a := p.1) (o := p.2) hg0 N' (.tail _ (.tail _ (.tail _ (.tail _ (.tail _ (List.mem_append_left _ hp)))))) fun x hx => hR.2 p hp x hx, z.1⟩
end
end T27
section T28
example : True := by
  w_top off
  trivial
theorem fill13 : PySem.Challenge.rw_pe0125_01 = PySem.Challenge.rw_pe0125_01 ∧ hd.heap_39 = hd.heap_39 := by
  k_fill
  exact ⟨rfl, rfl⟩

structure ExtP (P : Addr) (ps' : Array Value) (h h' : Heap) : Prop where
  keep : ∀ b o, b ≠ P → h.get? b = some o → h'.get? b = some o
  tab : h'.get? P = some (tabObj ps')
theorem ExtP.fr {P : Addr} {ps' : Array Value} {h₀ h h' : Heap} {L : Addr} {m : Str → Option Value} {op : Obj} {news : List (Addr × Obj)} (x : ExtP P ps' h h') (F : Fr h₀ L h m) (N : News h₀ L h news) (hm : (P, op) ∈ news) : Fr h₀ L h' m :=
  Fr.ext F (fun b o hb e => x.keep b o hb e) (N _ hm).2.1 (N _ hm).2.2
theorem ExtP.news {P : Addr} {ps' : Array Value} {h₀ h h' : Heap} {L : Addr} {op : Obj} {news : List (Addr × Obj)} {g : Obj → List (Addr × Obj)} (x : ExtP P ps' h h') (N : News h₀ L h news) (U : UpdF P op news g) : News h₀ L h' (g (tabObj ps')) :=
  News.ext N U (fun b o hb e => x.keep b o hb e) x.tab
theorem ExtP.cons {P : Addr} {ps' : Array Value} {h₀ h h' : Heap} {L : Addr} {m : Str → Option Value} {news led : List (Addr × Obj)} (x : ExtP P ps' h h') (F : Fr h₀ L h m) (N : News h₀ L h' news) (hf : ∀ p ∈ led, h.get? p.1 = none ∧ h'.get? p.1 = some p.2) : News h₀ L h' (led ++ news) := by
  intro p hp
  rcases List.mem_append.mp hp with hp | hp
  · obtain ⟨e1, e2⟩ := hf p hp
    refine ⟨e2, fun q => ?_, ?_⟩
    · obtain ⟨oL, es, ep, hL, r⟩ := F.ns
      rw [← q] at hL; rw [e1] at hL; cases hL
    · cases q : h₀.get? p.1 with
      | none => rfl
      | some o' => rw [F.keep _ _ q] at e1; cases e1
  · exact N p hp
theorem fresh_ne {h h₀ : Heap} {L a : Addr} {news : List (Addr × Obj)} (N : News h₀ L h news) (e : h.get? a = none) : ∀ p ∈ news, p.1 ≠ a := fun p hp q => by
  have := (N p hp).1
  rw [q, e] at this; cases this
section
variable {prog : Program} {w : World} {A₀ A : Around} {s : Shared} {base h₀ : Heap} {outer : List Env} {L : Addr} {m mg mb : Str → Option Value} {mean : ExcName → Option Value} {tp : Program} {tl₀ : List Str} {env : Env} {Q E : Value → Shared → Prop} {news : List (Addr × Obj)}

theorem callers_use {dt ds q : Addr} {od1 od2 : Obj} {kvs : List (Str × Value)} {tab : List (Str × Int × Int)} {a : Str} {y : Int} {t1 t2 : Tok} {ps : Array Value} {tl : List (Addr × Obj)} {g : Obj → List (Addr × Obj)}
   (B : Below A₀ base outer h₀) (F : Fr h₀ L s.heap m) (X : (hd.heap_39 w.params).In h₀) (N : News h₀ L s.heap news) (T : Top tp tl₀ mean mg mb h₀) (hA : A.frames = some (env :: outer)) (hf : env.frame = some L) (hk : env.scope.kind = .function)
   (hh : A.handled = none) (hg : A.guards = some []) (hd : A.depth ≤ 600) (hu : A.units ≤ 1000)
   (U : UpdF PA (tabObj ps) news g) (m1 : (dt, od1) ∈ news) (m2 : (ds, od2) ∈ news) (m3 : (q, tupO [.int 1 t1, .int y t2]) ∈ news) (m4 : ∀ p ∈ tl, p ∈ news)
   (hps : TriplesOk ps.toList) (hd1 : od1.IsDictOf (strKind prog w) kvs) (hT : TabIn tl kvs tab) (hd2 : od2.IsDictOf (strKind prog w) [(a, .ref q)]) (htl : ∀ p ∈ tl, p.2.cls = .type "tuple") (hlen : kvs.length ≤ 20) (lo1 : (dt == sysModules) = false) (lo2 : (ds == sysModules) = false)
   (post : ∀ r o' kvs' ps' tn h' tk gs, Fr h₀ L h' m → News h₀ L h' ((r, o') :: (tn ++ g (tabObj ps'))) → TriplesOk ps'.toList → (AllBare s.gens → AllBare gs) →
     (∀ p ∈ news, p.1 ≠ r) → (∀ p ∈ tn, ∀ x ∈ news, x.1 ≠ p.1) → (∀ p ∈ tn, p.2.cls = .type "tuple") → o'.IsDictOf (strKind prog w) kvs' → (r == sysModules) = false → TabIn (tn ++ (q, tupO [.int 1 t1, .int y t2]) :: tl) kvs' (bump tab a y) →
     Q (.ref r) { s with heap := h', toks := tk, gens := gs }) :
   wpAny (model prog w) A (call (.ref 85) [.ref dt, .ref ds]) Q E s := by
  have N₀ : News h₀ L s.heap ((PA, tabObj ps) :: (dt, od1) :: (ds, od2) :: (q, tupO [.int 1 t1, .int y t2]) :: tl) := fun p hp => by
    rcases List.mem_cons.mp hp with rfl | hp
    · exact N _ (updF_mem U)
    · rcases List.mem_cons.mp hp with rfl | hp
      · exact N _ m1
      · rcases List.mem_cons.mp hp with rfl | hp
        · exact N _ m2
        · rcases List.mem_cons.mp hp with rfl | hp
          · exact N _ m3
          · exact N _ (m4 p hp)
  refine wpAny_le (callers_at B F X T hf hk N₀ hps hd1 hT hd2 htl hlen lo1 lo2 fun r o' kvs' ps' tn h' tk gs hkp htab htr hG hfr htn ho' hlo hTT => ?_) hh hA hg hd hu
  have x : ExtP PA ps' s.heap h' := ⟨hkp, htab⟩
  refine post r o' kvs' ps' tn h' tk gs (x.fr F N (updF_mem U)) ?_ htr hG (fresh_ne N (hfr _ (.head _)).1) (fun p hp => fresh_ne N (hfr p (.tail _ hp)).1) htn ho' hlo hTT
  have := x.cons F (x.news N U) hfr
  exact this
end
example : True := by
  k_with "call ref" => (
(k_here; (with_reducible show wpAny _ _ (call (Value.ref 85) [Value.ref _, Value.ref _]) _ _ _); k_dflt (
  apply callers_use; (case hA => exact rfl); (case hf => exact rfl); (case hk => exact rfl); (case F => k_asm); (case B => k_asm); (case X => k_asm); (case N => k_asm); (case T => k_asm); (case hh => exact rfl); (case hg => exact rfl); (case hd => exact Nat.le_of_ble_eq_true rfl); (case hu => exact Nat.le_of_ble_eq_true rfl);
  (case U => k_updF); (case m1 => k_mem); (case m2 => k_mem); (case hd2 => k_asm); (case m3 => k_mem); (case hd1 => k_asm); (case hT => k_asm); (case m4 => (intro x' hx'; (repeat (first | exact hx' | refine List.Mem.tail _ ?_)))); (case hps => k_asm); (case htl => k_asm); (case hlen => k_asm); (case lo1 => k_asm); (case lo2 => k_asm); k_whole; intro r' o' kvs' ps' tn' h' tk' gs' F' N' htr' hG' hfr' hfn' htn' hd' hlo' hTT'; (try dsimp only at N'); (try k_sweep)))
    )
  trivial
section
variable {prog : Program} {w : World} {A₀ A : Around} {s : Shared} {base h₀ : Heap} {outer : List Env} {L : Addr} {m mg mb : Str → Option Value} {mean : ExcName → Option Value} {tp : Program} {tl₀ : List Str} {env : Env} {Q E : Value → Shared → Prop} {news : List (Addr × Obj)}
theorem led_end {h g h' : Heap} {L' D r P : Addr} {op op' oD o' : Obj} {m' : Str → Option Value} {rest tn : List (Addr × Obj)} (N : News h₀ L h ((P, op) :: rest)) (hg : ∀ b o, b ∉ ((P, op) :: rest).map (·.1) → h.get? b = some o → g.get? b = some o)
    (F' : Fr g L' h' m') (N' : News g L' h' ((D, oD) :: (r, o') :: (tn ++ (P, op') :: rest))) (l1 : AllLt D ((r, o') :: (tn ++ (P, op') :: rest))) (hfr : ∀ p ∈ (P, op) :: rest, p.1 ≠ r) (hfn : ∀ p ∈ tn, ∀ x ∈ (P, op) :: rest, x.1 ≠ p.1) :
    (∀ b o, b ≠ P → h.get? b = some o → h'.get? b = some o) ∧ h'.get? P = some op' ∧ ∀ p ∈ (D, oD) :: (r, o') :: tn, h.get? p.1 = none ∧ h'.get? p.1 = some p.2 := by
  refine ⟨closeP N hg F' N' (fun p hp => .tail _ (.tail _ (List.mem_append_right _ (.tail _ hp)))), (N' _ (.tail _ (.tail _ (List.mem_append_right _ (.head _))))).1, fun p hp => ?_⟩
  rcases List.mem_cons.mp hp with rfl | hp
  · have hl : ∀ p ∈ (P, op) :: rest, p.1 < D := lt_of_map (l := (P, op') :: rest) (fun p hp => allLt_mem (show @LT.lt Nat _ r D ∧ AllLt D (tn ++ (P, op') :: rest) from l1).2 p (List.mem_append_right _ hp)) rfl
    exact ⟨fresh_of hg N' (.head _) fun x hx => Nat.ne_of_lt (hl x hx), (N' _ (.head _)).1⟩
  · rcases List.mem_cons.mp hp with rfl | hp
    · exact ⟨fresh_of hg N' (.tail _ (.head _)) hfr, (N' _ (.tail _ (.head _))).1⟩
    · have z := N' p (.tail _ (.tail _ (List.mem_append_left _ hp)))
      exact ⟨fresh_of (a := p.1) (o := p.2) hg N' (.tail _ (.tail _ (List.mem_append_left _ hp))) (hfn p hp), z.1⟩
set_option maxHeartbeats 400000 in
theorem stats_at {tt ts dt ds q : Addr} {od1 od2 : Obj} {kvs : List (Str × Value)} {tab : List (Str × Int × Int)} {a : Str} {y n1 n2 n3 n4 m1 m2 m3 m4 : Int} {t1 t2 u1 u2 u3 u4 v1 v2 v3 v4 : Tok} {ps : Array Value} {tl : List (Addr × Obj)}
   (B : Below A₀ base outer h₀) (F : Fr h₀ L s.heap m) (X : (hd.heap_39 w.params).In h₀) (T : Top tp tl₀ mean mg mb h₀) (hf : env.frame = some L) (hk : env.scope.kind = .function)
   (N : News h₀ L s.heap ((PA, tabObj ps) :: (tt, tupO [.int n1 u1, .int n2 u2, .int n3 u3, .int n4 u4, .ref dt]) :: (ts, tupO [.int m1 v1, .int m2 v2, .int m3 v3, .int m4 v4, .ref ds]) :: (dt, od1) :: (ds, od2) :: (q, tupO [.int 1 t1, .int y t2]) :: tl))
   (hps : TriplesOk ps.toList) (hd1 : od1.IsDictOf (strKind prog w) kvs) (hT : TabIn tl kvs tab) (hd2 : od2.IsDictOf (strKind prog w) [(a, .ref q)]) (htl : ∀ p ∈ tl, p.2.cls = .type "tuple") (hlen : kvs.length ≤ 20) (lo1 : (dt == sysModules) = false) (lo2 : (ds == sysModules) = false)
   (post : ∀ rr r o' kvs' ps' tn w1 w2 w3 w4 h' tk gs, ExtP PA ps' s.heap h' → TriplesOk ps'.toList → (AllBare s.gens → AllBare gs) →
     (∀ p ∈ (rr, tupO [.int (m1 + n1) w1, .int (m2 + n2) w2, .int (m3 + n3) w3, .int (m4 + n4) w4, .ref r]) :: (r, o') :: tn, s.heap.get? p.1 = none ∧ h'.get? p.1 = some p.2) → (∀ p ∈ tn, p.2.cls = .type "tuple") → o'.IsDictOf (strKind prog w) kvs' → (r == sysModules) = false → TabIn (tn ++ (q, tupO [.int 1 t1, .int y t2]) :: tl) kvs' (bump tab a y) →
     Q (.ref rr) { s with heap := h', toks := tk, gens := gs }) :
   wpAny (model prog w) (AT 590 990 env outer) (call (.ref 78) [.ref tt, .ref ts]) Q E s := by
  have hP1 : @Ne Nat dt PA := News.twoPlaces N (p := (dt, od1)) (q := (PA, tabObj ps)) (.tail _ (.tail _ (.tail _ (.head _)))) (.head _) (fun e => by
    obtain ⟨es, ep, hx, _⟩ := hd1
    have e2 : od1 = tabObj ps := e
    rw [e2] at hx
    exact absurd hx.1 (by show Value.none ≠ _; decide))
  have hP2 : @Ne Nat ds PA := News.twoPlaces N (p := (ds, od2)) (q := (PA, tabObj ps)) (.tail _ (.tail _ (.tail _ (.tail _ (.head _))))) (.head _) (fun e => by
    obtain ⟨es, ep, hx, _⟩ := hd2
    have e2 : od2 = tabObj ps := e
    rw [e2] at hx
    exact absurd hx.1 (by show Value.none ≠ _; decide))
  have hP3 : @Ne Nat q PA := News.twoPlaces N (p := (q, tupO [.int 1 t1, .int y t2])) (q := (PA, tabObj ps)) (.tail _ (.tail _ (.tail _ (.tail _ (.tail _ (.head _)))))) (.head _) (fun e => by cases e)
  have hP5 : @Ne Nat tt PA := News.twoPlaces N (p := (tt, tupO [.int n1 u1, .int n2 u2, .int n3 u3, .int n4 u4, .ref dt])) (q := (PA, tabObj ps)) (.tail _ (.head _)) (.head _) (fun e => by cases e)
  have hP6 : @Ne Nat ts PA := News.twoPlaces N (p := (ts, tupO [.int m1 v1, .int m2 v2, .int m3 v3, .int m4 v4, .ref ds])) (q := (PA, tabObj ps)) (.tail _ (.tail _ (.head _))) (.head _) (fun e => by cases e)
  have hP4 : OwnOff tl [PA] := fun x hx b hb => by
    rw [List.mem_singleton.mp hb]
    refine News.twoPlaces N (p := x) (q := (PA, tabObj ps)) (.tail _ (.tail _ (.tail _ (.tail _ (.tail _ (.tail _ hx)))))) (.head _) (fun e => ?_)
    have e2 := htl x hx
    rw [e] at e2
    cases e2
  walk_at "m enterN"
  walk_at "m steps"
  have cl := led_end N (by with_reducible assumption) (by with_reducible assumption) (by with_reducible assumption) (by with_reducible assumption) (by with_reducible assumption) (by with_reducible assumption)
  exact post _ _ _ _ _ _ _ _ _ _ _ _ _ ⟨cl.1, cl.2.1⟩ (by with_reducible assumption) (by assumption) cl.2.2 (by with_reducible assumption) (by with_reducible assumption) (by with_reducible assumption) (by with_reducible assumption)
theorem stats_use {tt ts dt ds q : Addr} {od1 od2 : Obj} {kvs : List (Str × Value)} {tab : List (Str × Int × Int)} {a : Str} {y n1 n2 n3 n4 m1 m2 m3 m4 : Int} {t1 t2 u1 u2 u3 u4 v1 v2 v3 v4 : Tok} {ps : Array Value} {tl : List (Addr × Obj)} {g : Obj → List (Addr × Obj)}
   (B : Below A₀ base outer h₀) (F : Fr h₀ L s.heap m) (X : (hd.heap_39 w.params).In h₀) (N : News h₀ L s.heap news) (T : Top tp tl₀ mean mg mb h₀) (hA : A.frames = some (env :: outer)) (hf : env.frame = some L) (hk : env.scope.kind = .function)
   (hh : A.handled = none) (hg : A.guards = some []) (hd : A.depth ≤ 590) (hu : A.units ≤ 990)
   (U : UpdF PA (tabObj ps) news g) (e1 : (tt, tupO [.int n1 u1, .int n2 u2, .int n3 u3, .int n4 u4, .ref dt]) ∈ news) (e2 : (ts, tupO [.int m1 v1, .int m2 v2, .int m3 v3, .int m4 v4, .ref ds]) ∈ news) (e3 : (dt, od1) ∈ news) (hd1 : od1.IsDictOf (strKind prog w) kvs) (e4 : (ds, od2) ∈ news) (hd2 : od2.IsDictOf (strKind prog w) [(a, .ref q)]) (e5 : (q, tupO [.int 1 t1, .int y t2]) ∈ news) (hT : TabIn tl kvs tab) (e6 : ∀ p ∈ tl, p ∈ news)
   (hps : TriplesOk ps.toList) (htl : ∀ p ∈ tl, p.2.cls = .type "tuple") (hlen : kvs.length ≤ 20) (lo1 : (dt == sysModules) = false) (lo2 : (ds == sysModules) = false)
   (post : ∀ rr r o' kvs' ps' tn w1 w2 w3 w4 h' tk gs, Fr h₀ L h' m → News h₀ L h' ((rr, tupO [.int (m1 + n1) w1, .int (m2 + n2) w2, .int (m3 + n3) w3, .int (m4 + n4) w4, .ref r]) :: (r, o') :: (tn ++ g (tabObj ps'))) → TriplesOk ps'.toList → (AllBare s.gens → AllBare gs) →
     (∀ p ∈ news, p.1 ≠ rr) → (∀ p ∈ news, p.1 ≠ r) → (∀ p ∈ tn, ∀ x ∈ news, x.1 ≠ p.1) → (∀ p ∈ tn, p.2.cls = .type "tuple") → o'.IsDictOf (strKind prog w) kvs' → (r == sysModules) = false → TabIn (tn ++ (q, tupO [.int 1 t1, .int y t2]) :: tl) kvs' (bump tab a y) →
     Q (.ref rr) { s with heap := h', toks := tk, gens := gs }) :
   wpAny (model prog w) A (call (.ref 78) [.ref tt, .ref ts]) Q E s := by
  have N₀ : News h₀ L s.heap ((PA, tabObj ps) :: (tt, tupO [.int n1 u1, .int n2 u2, .int n3 u3, .int n4 u4, .ref dt]) :: (ts, tupO [.int m1 v1, .int m2 v2, .int m3 v3, .int m4 v4, .ref ds]) :: (dt, od1) :: (ds, od2) :: (q, tupO [.int 1 t1, .int y t2]) :: tl) := fun p hp => by
    rcases List.mem_cons.mp hp with rfl | hp
    · exact N _ (updF_mem U)
    · rcases List.mem_cons.mp hp with rfl | hp
      · exact N _ e1
      · rcases List.mem_cons.mp hp with rfl | hp
        · exact N _ e2
        · rcases List.mem_cons.mp hp with rfl | hp
          · exact N _ e3
          · rcases List.mem_cons.mp hp with rfl | hp
            · exact N _ e4
            · rcases List.mem_cons.mp hp with rfl | hp
              · exact N _ e5
              · exact N _ (e6 p hp)
  refine wpAny_le (stats_at B F X T hf hk N₀ hps hd1 hT hd2 htl hlen lo1 lo2 fun rr r o' kvs' ps' tn w1 w2 w3 w4 h' tk gs x htr hG hfr htn ho' hlo hTT => ?_) hh hA hg hd hu
  refine post rr r o' kvs' ps' tn w1 w2 w3 w4 h' tk gs (x.fr F N (updF_mem U)) ?_ htr hG (fresh_ne N (hfr _ (.head _)).1) (fresh_ne N (hfr _ (.tail _ (.head _))).1) (fun p hp => fresh_ne N (hfr p (.tail _ (.tail _ hp))).1) htn ho' hlo hTT
  have := x.cons F (x.news N U) hfr
  exact this
end
end T28
section T29
theorem fill14a : PySem.Challenge.rw_pe0125_01 = PySem.Challenge.rw_pe0125_01 ∧ hd.heap_39 = hd.heap_39 := by
  k_fill
  exact ⟨rfl, rfl⟩

noncomputable def ExtFP (P : Addr) (fs : List Addr) (h h' : Heap) : Prop := ∀ b o, b ≠ P → h.get? b = some o → (b ∉ fs → h'.get? b = some o) ∧ (b ∈ fs → ∃ sl, h'.get? b = some { o with slots := sl })

section
variable {prog : Program} {w : World} {A₀ A : Around} {s : Shared} {base h₀ : Heap} {outer : List Env} {L : Addr} {m mg mb : Str → Option Value} {mean : ExcName → Option Value} {tp : Program} {tl₀ : List Str} {env : Env} {Q E : Value → Shared → Prop} {news : List (Addr × Obj)} {K : Frag}

theorem ExtFP.after {h h' : Heap} {P : Addr} {op : Obj} (hP : (P, op) ∈ news) (N : News h₀ L h news) (B : Below A₀ base outer h₀) (F : Fr h₀ L h m) (hf : env.frame = some L) (XB : K.In base) (TB : Top tp tl₀ mean mg mb base) (D : KtsDicts (outer.filterMap (·.frame)) h₀)
    (x : ExtFP P ((env :: outer).filterMap (·.frame)) h h') : ∃ h₀', KtsTurn (outer.filterMap (·.frame)) h₀ h₀' ∧ Fr h₀' L h' m ∧ Below A₀ base outer h₀' ∧ K.In h₀' ∧ Top tp tl₀ mean mg mb h₀' ∧ KtsDicts (outer.filterMap (·.frame)) h₀' ∧
      (∀ led, News h₀ L h led → (∀ p ∈ led, p.1 ≠ P) → News h₀' L h' led) ∧ (∀ b, h₀.get? b = none → h₀'.get? b = none) := by
  have nP : ∀ b o, h₀.get? b = some o → b ≠ P := fun b o e q => by rw [q, (N _ hP).2.2] at e; cases e
  have nLP : L ≠ P := Ne.symm (N _ hP).2.1
  have nL₀ : h₀.get? L = none := kts_self F
  have hin : L ∈ (env :: outer).filterMap (·.frame) := List.mem_filterMap.mpr ⟨env, .head _, hf⟩
  have hsub : ∀ b, b ∈ outer.filterMap (·.frame) → b ∈ (env :: outer).filterMap (·.frame) := fun b hb => by
    obtain ⟨e, he, hfe⟩ := List.mem_filterMap.mp hb
    exact List.mem_filterMap.mpr ⟨e, .tail _ he, hfe⟩
  obtain ⟨T₁, S₁⟩ := kts_turn_at (h := h') (fs := outer.filterMap (·.frame)) (g := h₀)
    (fun b hb => by
      obtain ⟨_, o, ho', _⟩ := B.frames.mem hb
      exact ⟨o, ho'⟩)
    (fun b o e nmem => (x b o (nP b o e) (F.keep b o e)).1 (fun q => by
      rcases frame_mem hf q with z | z
      · rw [z, nL₀] at e
        cases e
      · exact nmem z))
    (fun b o e hm => (x b o (nP b o e) (F.keep b o e)).2 (hsub b hm))
  have B₃ : Below A₀ base outer (ktsHeap h' (outer.filterMap (·.frame)) h₀) := ⟨B.stack, fun b o e => T₁.other b o (B.stays b o e) (fun hm => by
    rw [(B.frames.mem hm).1] at e
    cases e), B.frames.of_keeps fun b o e _ => by
    obtain ⟨sl', hs'⟩ := T₁.up e
    exact ⟨_, hs', rfl⟩⟩
  obtain ⟨oL, es, ep, hL, hLd, hLk, hLf⟩ := F.ns
  obtain ⟨sl, hs⟩ := (x L oL nLP hL).2 hin
  refine ⟨_, T₁, ⟨⟨_, es, ep, hs, hLd, hLk, hLf⟩, S₁, by rw [T₁.size]; exact F.above⟩, B₃, XB.keeps B₃.stays, TB.keeps B₃.stays, D.turn T₁, fun led NN hne q hq => ⟨?_, (NN q hq).2.1, T₁.none_ _ (NN q hq).2.2⟩, T₁.none_⟩
  refine (x _ _ (hne q hq) (NN q hq).1).1 (fun z => ?_)
  rcases frame_mem hf z with z | z
  · exact (NN q hq).2.1 z
  · obtain ⟨_, o, ho', _⟩ := B.frames.mem z
    rw [(NN q hq).2.2] at ho'; cases ho'

theorem safe_use {a : Addr} {y : Int} {z : Str} {t1 t2 t3 t4 q : Tok} (B : Below A₀ base outer h₀) (F : Fr h₀ L s.heap m) (X : (hd.heap_39 w.params).In h₀) (N : News h₀ L s.heap news) (T : Top tp tl₀ mean mg mb h₀) (hA : A.frames = some (env :: outer)) (hf : env.frame = some L) (hk : env.scope.kind = .function)
   (hh : A.handled = none) (hg : A.guards = some []) (hdp : A.depth ≤ 560) (hu : A.units ≤ 960)
   (XB : (hd.heap_39 w.params).In base) (TB : Top tp tl₀ mean mg mb base) (D : KtsDicts (outer.filterMap (·.frame)) h₀)
   (hm : (a, thingObj y t1 t2 t3 t4) ∈ news) (hy : 0 ≤ y) (hy2 : y < 1000000) (hz : z.length ≤ 1000)
   (h : ∀ t1 h₀' h' tk, KtsTurn (outer.filterMap (·.frame)) h₀ h₀' → Fr h₀' L h' m → News h₀' L h' news → Below A₀ base outer h₀' → (hd.heap_39 w.params).In h₀' → Top tp tl₀ mean mg mb h₀' → KtsDicts (outer.filterMap (·.frame)) h₀' → Q (.str (safeText y z) t1) { s with heap := h', toks := tk }) :
   wpAny (model prog w) A (call (.ref 22) [.ref a, .str z q, .ref 71]) Q E s :=
  wpAny_le (safe_at B F X T hf hk XB TB D (fun p hp => by rcases List.mem_cons.mp hp with rfl | hp; exact N _ hm; cases hp) hy hy2 hz fun t1 h' tk x => by
    obtain ⟨h₀', T', F', B', X', TT', D', NN⟩ := x.after B F hf XB TB D
    exact h t1 h₀' h' tk T' F' (NN _ N) B' X' TT' D') hh hA hg hdp hu

theorem fss2_use {a : Addr} {y : Int} {z : Str} {t u v : Tok} (B : Below A₀ base outer h₀) (F : Fr h₀ L s.heap m) (X : (hd.heap_39 w.params).In h₀) (N : News h₀ L s.heap news) (T : Top tp tl₀ mean mg mb h₀) (hA : A.frames = some (env :: outer)) (hf : env.frame = some L) (hk : env.scope.kind = .function)
   (hh : A.handled = none) (hg : A.guards = some []) (hd : A.depth ≤ 600) (hu : A.units ≤ 1000)
   (hm : (a, tupO [.str (Str.ofString "~") t, .int 0 u, .str (safeText y z) v]) ∈ news) (hy : 0 ≤ y) (hy2 : y < 1000000) (hz : z.length ≤ 1000)
   (h : ∀ t1 h' tk, Fr h₀ L h' m → News h₀ L h' news → Q (.str (lineText y z) t1) { s with heap := h', toks := tk }) :
   wpAny (model prog w) A (call (.ref 71) [.ref a]) Q E s := by
  have hl := safeText_len hy hy2 z
  refine fss_use B F X N T hA hf hk hh hg hd hu hm (by decide +kernel) (by decide +kernel) (by omega) (Int.le_refl 0) (by decide) fun t1 h' tk F' N' => ?_
  rw [line_law]
  exact h t1 h' tk F' N'
theorem ell2_use {y : Int} {z : Str} {t u : Tok} (B : Below A₀ base outer h₀) (F : Fr h₀ L s.heap m) (X : (hd.heap_39 w.params).In h₀) (N : News h₀ L s.heap news) (T : Top tp tl₀ mean mg mb h₀) (hA : A.frames = some (env :: outer)) (hf : env.frame = some L) (hk : env.scope.kind = .function)
   (hh : A.handled = none) (hg : A.guards = some []) (hd : A.depth ≤ 600) (hu : A.units ≤ 1000) (hy : 0 ≤ y) (hy2 : y < 1000000) (hz : z.length ≤ 1000)
   (h : ∀ h' tk, Fr h₀ L h' m → News h₀ L h' news → Q (.bool (refusedOf y)) { s with heap := h', toks := tk }) :
   wpAny (model prog w) A (call (.ref 29) [.str (Str.ofString "{...func_std_string() failed}") u, .str (lineText y z) t]) Q E s := by
  have hl := lineText_len hy hy2 z
  refine ell_use B F X N T hA hf hk hh hg hd hu (by omega) fun h' tk F' N' => ?_
  rw [ell_law]
  exact h h' tk F' N'
end
example : True := by
  k_with "call ref" => (
(k_here; (with_reducible show wpAny _ _ (call (Value.ref 22) [Value.ref _, Value.str _ _, Value.ref 71]) _ _ _); k_dflt (apply safe_use; (case hA => exact rfl); (case hf => exact rfl); (case hk => exact rfl); (case F => k_asm); (case B => k_asm); (case X => k_asm); (case N => k_asm); (case T => k_asm); (case hh => exact rfl); (case hg => exact rfl); (case hdp => exact Nat.le_of_ble_eq_true rfl); (case hu => exact Nat.le_of_ble_eq_true rfl); (case XB => k_asm); (case TB => k_asm); (case D => k_asm); (case hm => k_mem); (case hy => k_asm); (case hy2 => k_asm); (case hz => omega); k_whole; intro t1' g' h' tk' TT' F' N' B' X' T' D'; (try k_sweep)))
    )
  k_with "call ref" => (
(k_here; (with_reducible show wpAny _ _ (call (Value.ref 71) [Value.ref _]) _ _ _); k_dflt (apply fss2_use; (case hA => exact rfl); (case hf => exact rfl); (case hk => exact rfl); (case F => k_asm); (case B => k_asm); (case X => k_asm); (case N => k_asm); (case T => k_asm); (case hh => exact rfl); (case hg => exact rfl); (case hd => exact Nat.le_of_ble_eq_true rfl); (case hu => exact Nat.le_of_ble_eq_true rfl); (case hm => k_mem); (case hy => k_asm); (case hy2 => k_asm); (case hz => omega); k_whole; intro t1' h' tk' F' N'; (try k_sweep)))
    )
  k_with "call ref" => (
(k_here; (with_reducible show wpAny _ _ (call (Value.ref 29) [Value.str _ _, Value.str (lineText _ _) _]) _ _ _); k_dflt (apply ell2_use; (case hA => exact rfl); (case hf => exact rfl); (case hk => exact rfl); (case F => k_asm); (case B => k_asm); (case X => k_asm); (case N => k_asm); (case T => k_asm); (case hh => exact rfl); (case hg => exact rfl); (case hd => exact Nat.le_of_ble_eq_true rfl); (case hu => exact Nat.le_of_ble_eq_true rfl); (case hy => k_asm); (case hy2 => k_asm); (case hz => omega); k_whole; intro h' tk' F' N'; (try k_sweep)))
    )
  k_with "call ref" => (
(k_here; (with_reducible show wpAny _ _ (call (Value.ref 78) [Value.ref _, Value.ref _]) _ _ _); k_dflt (apply stats_use; (case hA => exact rfl); (case hf => exact rfl); (case hk => exact rfl); (case F => k_asm); (case B => k_asm); (case X => k_asm); (case N => k_asm); (case T => k_asm); (case hh => exact rfl); (case hg => exact rfl); (case hd => exact Nat.le_of_ble_eq_true rfl); (case hu => exact Nat.le_of_ble_eq_true rfl); (case U => k_updF); (case e1 => k_mem); (case e2 => k_mem); (case e3 => k_mem); (case e4 => k_mem); (case hd2 => k_asm); (case e5 => k_mem); (case hd1 => k_asm); (case hT => k_asm); (case e6 => (intro x' hx'; (repeat (first | exact hx' | refine List.Mem.tail _ ?_)))); (case hps => k_asm); (case htl => k_asm); (case hlen => omega); (case lo1 => k_asm); (case lo2 => k_asm); k_whole; intro rr' r' o' kvs' ps' tn' w1' w2' w3' w4' h' tk' gs' F' N' htr' hG' hfr1' hfr2' hfn' htn' hd' hlo' hTT'; (try dsimp only at N'); (try k_sweep)))
    )
  trivial

noncomputable def lenSum (rows : List (Str × Bool × Str)) : Int := (rows.map fun r => ((r.1.length : Nat) : Int)).sum
noncomputable def refSum (rows : List (Str × Bool × Str)) : Int := (rows.map fun r => if r.2.1 then (1 : Int) else 0).sum
theorem lenSum_snoc (rows : List (Str × Bool × Str)) (r : Str × Bool × Str) : lenSum (rows ++ [r]) = ((r.1.length : Nat) : Int) + lenSum rows := by
  unfold lenSum
  rw [List.map_append, List.sum_append, List.map_singleton, List.sum_singleton, Int.add_comm]
theorem refSum_snoc (rows : List (Str × Bool × Str)) (r : Str × Bool × Str) : refSum (rows ++ [r]) = (if r.2.1 then (1 : Int) else 0) + refSum rows := by
  unfold refSum
  rw [List.map_append, List.sum_append, List.map_singleton, List.sum_singleton, Int.add_comm]
theorem sum_snoc (ys : List Int) (y : Int) : (ys ++ [y]).sum = y + ys.sum := by
  rw [List.sum_append, List.sum_singleton, Int.add_comm]

structure RJ (prog : Program) (w : World) (ys : List Int) (m : Str → Option Value) (nx : List (Addr × Obj)) (a tt dt : Addr) (us : List Value) (k : Nat) (u1 u2 u3 u4 tz : Tok) (od : Obj) (kvs : List (Str × Value)) (ps : Array Value) (tl : List (Addr × Obj)) : Prop where
  nx : nx = (a, listOf (List.toArray us) k) :: (tt, tupO [.int (ys.length : Int) u1, .int ys.sum u2, .int (lenSum (lrun ys).rows) u3, .int (refSum (lrun ys).rows) u4, .ref dt]) :: (dt, od) :: (PA, tabObj ps) :: tl
  e1 : m (Str.ofString "lines") = some (.ref a)
  e2 : m (Str.ofString "total") = some (.ref tt)
  e3 : m (Str.ofString "ahead") = some (.str (lrun ys).ahead tz)
  rows : RowsIn tl us (lrun ys).rows
  dict : od.IsDictOf (strKind prog w) kvs
  tab : TabIn tl kvs (lrun ys).tab
  tup : ∀ p ∈ tl, p.2.cls = .type "tuple"
  tri : TriplesOk ps.toList
  lo : (dt == sysModules) = false
structure RG (K : Frag) (tp : Program) (tl₀ : List Str) (mean : ExcName → Option Value) (mg mb : Str → Option Value) (A₀ : Around) (base : Heap) (outer : List Env) (g₀ g : Heap) : Prop where
  turn : KtsTurn (outer.filterMap (·.frame)) g₀ g
  B : Below A₀ base outer g
  X : K.In g
  T : Top tp tl₀ mean mg mb g
  D : KtsDicts (outer.filterMap (·.frame)) g

inductive RX (prog : Program) (w : World) (ys : List Int) (m : Str → Option Value) (nx : List (Addr × Obj)) : Prop
  | mk (a tt dt : Addr) (us : List Value) (k : Nat) (u1 u2 u3 u4 tz : Tok) (od : Obj) (kvs : List (Str × Value)) (ps : Array Value) (tl : List (Addr × Obj)) (J : RJ prog w ys m nx a tt dt us k u1 u2 u3 u4 tz od kvs ps tl) : RX prog w ys m nx
structure RE (K : Frag) (tp : Program) (tl₀ : List Str) (mean : ExcName → Option Value) (mg mb : Str → Option Value) (A₀ : Around) (base : Heap) (outer : List Env) (prog : Program) (w : World) (ys : List Int) (gs₀ : Array GenState) (g₀ g : Heap) (m : Str → Option Value) (nx : List (Addr × Obj)) (gs : Array GenState) : Prop where
  hG : AllBare gs₀ → AllBare gs
  GG : RG K tp tl₀ mean mg mb A₀ base outer g₀ g
  J : RX prog w ys m nx
structure RI (K : Frag) (tp : Program) (tl₀ : List Str) (mean : ExcName → Option Value) (mg mb : Str → Option Value) (A₀ : Around) (base : Heap) (outer : List Env) (prog : Program) (w : World) (l : Addr) (vs : List Value) (ns : List Int) (gs₀ : Array GenState) (g₀ : Heap) (i : Nat) (g : Heap) (m : Str → Option Value) (nx : List (Addr × Obj)) (gs : Array GenState) : Prop where
  hl : g.IsList l vs.toArray
  hG : AllBare gs₀ → AllBare gs
  GG : RG K tp tl₀ mean mg mb A₀ base outer g₀ g
  J : RX prog w (ns.take i) m nx

theorem isDict_cls {prog : Program} {w : World} {o : Obj} {kvs : List (Str × Value)} (h : o.IsDictOf (strKind prog w) kvs) : o.cls = .type "dict" := by
  obtain ⟨es, ep, hx, _⟩ := h
  exact hx.1
theorem RJ.noIt {prog : Program} {w : World} {ys : List Int} {m : Str → Option Value} {nx : List (Addr × Obj)} {a tt dt : Addr} {us : List Value} {k : Nat} {u1 u2 u3 u4 tz : Tok} {od : Obj} {kvs : List (Str × Value)} {ps : Array Value} {tl : List (Addr × Obj)} (J : RJ prog w ys m nx a tt dt us k u1 u2 u3 u4 tz od kvs ps tl) : NoIt nx := by
  rw [J.nx]
  refine .cons (by show Value.type "list" ≠ _; decide) (by show Value.type "list" ≠ _; decide) (.cons (by show Value.type "tuple" ≠ _; decide) (by show Value.type "tuple" ≠ _; decide) (.cons (by rw [isDict_cls J.dict]; decide) (by rw [isDict_cls J.dict]; decide) (.cons (by show Value.none ≠ _; decide) (by show Value.none ≠ _; decide) fun p hp => by rw [J.tup p hp]; decide)))
theorem neTL : Value.type "tuple" ≠ Value.type "list" := by decide
theorem neDL : Value.type "dict" ≠ Value.type "list" := by decide
theorem neNL : Value.none ≠ Value.type "list" := by decide
theorem neTN : Value.type "tuple" ≠ Value.none := by decide
theorem neDN : Value.type "dict" ≠ Value.none := by decide
theorem news_ne_cls {h₀ h : Heap} {L : Addr} {news : List (Addr × Obj)} (N : News h₀ L h news) {p q : Addr × Obj} (hp : p ∈ news) (hq : q ∈ news) {c d : Value} (h1 : p.2.cls = c) (h2 : q.2.cls = d) (hne : c ≠ d) : @Ne Nat p.1 q.1 :=
  News.twoPlaces N hp hq fun e => hne (by rw [← h1, ← h2, e])

section
variable {prog : Program} {w : World} {A₀ A : Around} {s : Shared} {base g₀ : Heap} {outer : List Env} {m₀ mg mb : Str → Option Value} {mean : ExcName → Option Value} {tp : Program} {tl₀ : List Str} {env : Env} {E : Value → Shared → Prop} {news : List (Addr × Obj)} {K : Frag} {px : Pos} {body : List Stmt} {Q : Flow → Shared → Prop} {l : Addr} {vs : List Value} {ns : List Int}

theorem report_loop {a tt dt : Addr} {k : Nat} {u1 u2 u3 u4 tz : Tok} {od : Obj} {ps : Array Value} (hh : A.handled = none) (hx : env.kindOf (Str.ofString "y") = some .local)
    (hp : (env.scope.kind == .class || (env.scope.kind == .module && env.locals != env.globals)) = false)
    (hl : g₀.IsList l vs.toArray) (hi : IntsAre vs ns) (hlf : l ∉ outer.filterMap (·.frame)) (G : RG K tp tl₀ mean mg mb A₀ base outer g₀ g₀)
    (F : Fr g₀ env.locals s.heap m₀) (N : News g₀ env.locals s.heap news) (f1 : (a, listOf #[] k) ∈ news) (f2 : (tt, tupO [.int 0 u1, .int 0 u2, .int 0 u3, .int 0 u4, .ref dt]) ∈ news) (f3 : (dt, od) ∈ news) (f4 : (PA, tabObj ps) ∈ news)
    (e1 : m₀ (Str.ofString "lines") = some (.ref a)) (e2 : m₀ (Str.ofString "total") = some (.ref tt)) (e3 : m₀ (Str.ofString "ahead") = some (.str (Str.ofString "row") tz)) (hd0 : od.IsDictOf (strKind prog w) []) (htri0 : TriplesOk ps.toList) (lo0 : (dt == sysModules) = false)
    (turn : ∀ i n t g (m : Str → Option Value) a tt dt us k u1 u2 u3 u4 tz od kvs ps tl It oIt h tk gs E', ns[i]? = some n → (AllBare s.gens → AllBare gs) → Below A₀ base outer g → K.In g → Top tp tl₀ mean mg mb g → KtsDicts (outer.filterMap (·.frame)) g →
      RowsIn tl us (lrun (ns.take i)).rows → od.IsDictOf (strKind prog w) kvs → TabIn tl kvs (lrun (ns.take i)).tab → (∀ p ∈ tl, p.2.cls = .type "tuple") → TriplesOk ps.toList → (dt == sysModules) = false →
      (@Ne Nat It a ∧ @Ne Nat It tt ∧ @Ne Nat It dt ∧ @Ne Nat It PA ∧ @Ne Nat tt a ∧ @Ne Nat dt a ∧ @Ne Nat PA a ∧ @Ne Nat tt PA ∧ @Ne Nat dt PA) → OwnOff tl [a, PA] →
      Fr g env.locals h (fun y => if y = Str.ofString "y" then some (.int n t) else if y = Str.ofString "lines" then some (.ref a) else if y = Str.ofString "total" then some (.ref tt) else if y = Str.ofString "ahead" then some (.str (lrun (ns.take i)).ahead tz) else m y) →
      News g env.locals h ((It, oIt) :: (a, listOf (List.toArray us) k) :: (tt, tupO [.int ((ns.take i).length : Int) u1, .int (ns.take i).sum u2, .int (lenSum (lrun (ns.take i)).rows) u3, .int (refSum (lrun (ns.take i)).rows) u4, .ref dt]) :: (dt, od) :: (PA, tabObj ps) :: tl) →
      wpAny (model prog w) A (execs body env) (LPost env.locals It oIt (RE K tp tl₀ mean mg mb A₀ base outer prog w (ns.take i ++ [n]) s.gens g) { s with heap := h, toks := tk, gens := gs }) E' { s with heap := h, toks := tk, gens := gs })
    (done : ∀ g (m : Str → Option Value) a tt dt us k u1 u2 u3 u4 tz od kvs ps tl h tk gs, (AllBare s.gens → AllBare gs) → KtsTurn (outer.filterMap (·.frame)) g₀ g → Below A₀ base outer g → K.In g → Top tp tl₀ mean mg mb g → KtsDicts (outer.filterMap (·.frame)) g →
      RowsIn tl us (lrun ns).rows → od.IsDictOf (strKind prog w) kvs → TabIn tl kvs (lrun ns).tab → (∀ p ∈ tl, p.2.cls = .type "tuple") → TriplesOk ps.toList → (dt == sysModules) = false →
      Fr g env.locals h (fun y => if y = Str.ofString "lines" then some (.ref a) else if y = Str.ofString "total" then some (.ref tt) else if y = Str.ofString "ahead" then some (.str (lrun ns).ahead tz) else m y) →
      News g env.locals h ((a, listOf (List.toArray us) k) :: (tt, tupO [.int (ns.length : Int) u1, .int ns.sum u2, .int (lenSum (lrun ns).rows) u3, .int (refSum (lrun ns).rows) u4, .ref dt]) :: (dt, od) :: (PA, tabObj ps) :: tl) → Q .next { s with heap := h, toks := tk, gens := gs }) :
    wpAny (model prog w) A (pyIter (.ref l)) (fun it s₂ => codeAny (model prog w) A (.forLoop (.Name (Str.ofString "y") px) it body [] env) (fun r s' => match r with | .ok f => Q f s' | .error e => cameBackBy (model prog w) A env E e s') s₂) E s := by
  have hlen : vs.length = ns.length := hi.length
  have J0 : RJ prog w [] m₀ [(a, listOf #[] k), (tt, tupO [.int 0 u1, .int 0 u2, .int 0 u3, .int 0 u4, .ref dt]), (dt, od), (PA, tabObj ps)] a tt dt [] k u1 u2 u3 u4 tz od [] ps [] := ⟨rfl, e1, e2, e3, .nil, hd0, .nil, (fun _ h => nomatch h), htri0, lo0⟩
  have hsub : ∀ p ∈ [(a, listOf #[] k), (tt, tupO [.int 0 u1, .int 0 u2, .int 0 u3, .int 0 u4, .ref dt]), (dt, od), (PA, tabObj ps)], p ∈ news := fun p hp => by
    rcases List.mem_cons.mp hp with rfl | hp
    · exact f1
    · rcases List.mem_cons.mp hp with rfl | hp
      · exact f2
      · rcases List.mem_cons.mp hp with rfl | hp
        · exact f3
        · rw [List.mem_singleton.mp hp]; exact f4
  refine forList (RI K tp tl₀ mean mg mb A₀ base outer prog w l vs ns s.gens g₀)
    hh hx hp (fun i g m nx gs h => h.1) F (fun p hp => N p (hsub p hp)) J0.noIt ⟨hl, id, G, a, tt, dt, [], k, u1, u2, u3, u4, tz, od, [], ps, [], by rw [List.take_zero]; exact J0⟩ ?_ ?_
  · rintro i v g m nx gs It oIt h tk E' hv ⟨hlg, hG, GG, a, tt, dt, us, k, u1, u2, u3, u4, tz, od, kvs, ps, tl, J⟩ hne hni F₁ N₁
    have hin : i < ns.length := by
      obtain ⟨h1, _⟩ := List.getElem?_eq_some_iff.mp hv
      omega
    obtain ⟨t, hx'⟩ := hi.get i ns[i] (by simp [hin])
    have hv' : v = .int ns[i] t := by
      rw [hx'] at hv; exact (Option.some.inj hv).symm
    subst hv'
    have hn : ns[i]? = some ns[i] := by simp [hin]
    obtain ⟨rfl, e1, e2, e3, hR, hd, hT, htl, htri, hlo⟩ := J
    rw [chain3 e1 e2 e3] at F₁
    have mI : (It, oIt) ∈ (It, oIt) :: (a, listOf (List.toArray us) k) :: (tt, tupO [.int ((ns.take i).length : Int) u1, .int (ns.take i).sum u2, .int (lenSum (lrun (ns.take i)).rows) u3, .int (refSum (lrun (ns.take i)).rows) u4, .ref dt]) :: (dt, od) :: (PA, tabObj ps) :: tl := .head _
    have ma : (a, listOf (List.toArray us) k) ∈ (It, oIt) :: (a, listOf (List.toArray us) k) :: (tt, tupO [.int ((ns.take i).length : Int) u1, .int (ns.take i).sum u2, .int (lenSum (lrun (ns.take i)).rows) u3, .int (refSum (lrun (ns.take i)).rows) u4, .ref dt]) :: (dt, od) :: (PA, tabObj ps) :: tl := .tail _ (.head _)
    have c1 : (tupO [.int ((ns.take i).length : Int) u1, .int (ns.take i).sum u2, .int (lenSum (lrun (ns.take i)).rows) u3, .int (refSum (lrun (ns.take i)).rows) u4, .ref dt]).cls = .type "tuple" := rfl
    have c2 := isDict_cls hd
    refine wpAny_mono (turn i ns[i] t g m a tt dt us k u1 u2 u3 u4 tz od kvs ps tl It oIt h tk gs E' hn hG GG.B GG.X GG.T GG.D hR hd hT htl htri hlo
      ⟨Ne.symm (hne _ (.head _)), Ne.symm (hne _ (.tail _ (.head _))), Ne.symm (hne _ (.tail _ (.tail _ (.head _)))), Ne.symm (hne _ (.tail _ (.tail _ (.tail _ (.head _))))),
        news_ne_cls N₁ (.tail _ (.tail _ (.head _))) (.tail _ (.head _)) c1 rfl neTL, news_ne_cls N₁ (.tail _ (.tail _ (.tail _ (.head _)))) (.tail _ (.head _)) c2 rfl neDL,
        news_ne_cls N₁ (p := (PA, tabObj ps)) (.tail _ (.tail _ (.tail _ (.tail _ (.head _))))) (.tail _ (.head _)) rfl rfl neNL,
        news_ne_cls N₁ (q := (PA, tabObj ps)) (.tail _ (.tail _ (.head _))) (.tail _ (.tail _ (.tail _ (.tail _ (.head _))))) c1 rfl neTN, news_ne_cls N₁ (q := (PA, tabObj ps)) (.tail _ (.tail _ (.tail _ (.head _)))) (.tail _ (.tail _ (.tail _ (.tail _ (.head _))))) c2 rfl neDN⟩
      (fun p hp b hb => by
        rcases List.mem_cons.mp hb with rfl | hb
        · exact news_ne_cls N₁ (.tail _ (.tail _ (.tail _ (.tail _ (.tail _ hp))))) ma (htl p hp) rfl neTL
        · rw [List.mem_singleton.mp hb]
          exact news_ne_cls N₁ (q := (PA, tabObj ps)) (.tail _ (.tail _ (.tail _ (.tail _ (.tail _ hp))))) (.tail _ (.tail _ (.tail _ (.tail _ (.head _))))) (htl p hp) rfl neTN) F₁ N₁) (fun f s₃ h₃ => ?_) fun _ _ e => e
    obtain ⟨rfl, g', h', tk', gs', m', news', nx', e, F', N', hI', hsub', hni', hG', GG', a', tt', dt', us', k', w1, w2, w3, w4, tz', od', kvs', ps', tl', J'⟩ := h₃
    rw [← take_succ hn] at J'
    exact ⟨rfl, g', h', tk', gs', m', news', nx', e, F', N', hI', hsub', hni', (let ⟨o, ho, r⟩ := hlg; ⟨o, GG'.turn.other _ _ ho hlf, r⟩), hG', ⟨GG.turn.trans GG'.turn, GG'.B, GG'.X, GG'.T, GG'.D⟩, a', tt', dt', us', k', w1, w2, w3, w4, tz', od', kvs', ps', tl', J'⟩
  · rintro g m nx gs h tk ⟨hlg, hG, GG, a, tt, dt, us, k, u1, u2, u3, u4, tz, od, kvs, ps, tl, J⟩ _ F₁ N₁
    have ht : ns.take vs.length = ns := by rw [hlen, List.take_length]
    rw [ht] at J
    obtain ⟨rfl, e1, e2, e3, hR, hd, hT, htl, htri, hlo⟩ := J
    rw [chain3 e1 e2 e3] at F₁
    exact done g m a tt dt us k u1 u2 u3 u4 tz od kvs ps tl h tk gs hG GG.turn GG.B GG.X GG.T GG.D hR hd hT htl htri hlo F₁ N₁
end

theorem report_fresh {prog : Program} {w : World} {h g h' : Heap} {L' D a tt dt : Addr} {oD od : Obj} {ol ot : Obj} {kvs : List (Str × Value)} {tl : List (Addr × Obj)} {ps : Array Value} (N' : News g L' h' ((D, oD) :: (a, ol) :: (tt, ot) :: (dt, od) :: (PA, tabObj ps) :: tl)) (c1 : oD.cls = .type "tuple") (c2 : ol.cls = .type "list") (c3 : ot.cls = .type "tuple") (hd : od.IsDictOf (strKind prog w) kvs) (htl : ∀ p ∈ tl, p.2.cls = .type "tuple")
    (cl : ∀ p ∈ (D, oD) :: (a, ol) :: (tt, ot) :: (dt, od) :: (PA, tabObj ps) :: tl, p.1 ≠ PA → h.get? p.1 = none ∧ h'.get? p.1 = some p.2) : ∀ p ∈ (D, oD) :: (a, ol) :: (tt, ot) :: (dt, od) :: tl, h.get? p.1 = none ∧ h'.get? p.1 = some p.2 := by
  have mP : (PA, tabObj ps) ∈ (D, oD) :: (a, ol) :: (tt, ot) :: (dt, od) :: (PA, tabObj ps) :: tl := .tail _ (.tail _ (.tail _ (.tail _ (.head _))))
  intro p hp
  rcases List.mem_cons.mp hp with rfl | hp
  · exact cl _ (.head _) (news_ne_cls N' (q := (PA, tabObj ps)) (.head _) mP c1 rfl neTN)
  · rcases List.mem_cons.mp hp with rfl | hp
    · exact cl _ (.tail _ (.head _)) (news_ne_cls N' (q := (PA, tabObj ps)) (.tail _ (.head _)) mP c2 rfl (Ne.symm neNL))
    · rcases List.mem_cons.mp hp with rfl | hp
      · exact cl _ (.tail _ (.tail _ (.head _))) (news_ne_cls N' (q := (PA, tabObj ps)) (.tail _ (.tail _ (.head _))) mP c3 rfl neTN)
      · rcases List.mem_cons.mp hp with rfl | hp
        · exact cl _ (.tail _ (.tail _ (.tail _ (.head _)))) (news_ne_cls N' (q := (PA, tabObj ps)) (.tail _ (.tail _ (.tail _ (.head _)))) mP (isDict_cls hd) rfl neDN)
        · exact cl p (.tail _ (.tail _ (.tail _ (.tail _ (.tail _ hp))))) (news_ne_cls N' (q := (PA, tabObj ps)) (.tail _ (.tail _ (.tail _ (.tail _ (.tail _ hp))))) mP (htl p hp) rfl neTN)
theorem report_end {prog : Program} {w : World} {K : Frag} {tp : Program} {tl₀ : List Str} {mean : ExcName → Option Value} {mg mb : Str → Option Value} {A₀ : Around} {base g g' h' : Heap} {outer : List Env} {L It a rr r p q : Addr} {oIt o' : Obj} {ys : List Int} {n b : Int} {us : List Value} {k : Nat} {m' : Str → Option Value} {news' tl tn : List (Addr × Obj)}
    {w1 w2 w3 w4 t1 t2 t3 t4 tz : Tok} {kvs' : List (Str × Value)} {ps' : Array Value} {gs₀ gs : Array GenState} {s₁ : Shared} {tk : Nat}
    (F : Fr g' L h' m') (N : News g' L h' news') (GG : RG K tp tl₀ mean mg mb A₀ base outer g g') (hG : AllBare gs₀ → AllBare gs) (hR : RowsIn tl us (lrun ys).rows) (htl : ∀ p ∈ tl, p.2.cls = .type "tuple") (htn : ∀ p ∈ tn, p.2.cls = .type "tuple")
    (hTT : TabIn (tn ++ (q, tupO [.int 1 t3, .int n t4]) :: tl) kvs' (bump (lrun ys).tab (bareOf (lineText n (lrun ys).ahead)) n)) (hd : o'.IsDictOf (strKind prog w) kvs') (htri : TriplesOk ps'.toList) (hlo : (r == sysModules) = false) (hb : b = if refusedOf n then 1 else 0)
    (e1 : m' (Str.ofString "lines") = some (.ref a)) (e2 : m' (Str.ofString "total") = some (.ref rr)) (e3 : m' (Str.ofString "ahead") = some (.str (bareOf (lineText n (lrun ys).ahead)) tz))
    (mt : (rr, tupO [.int (1 + (ys.length : Int)) w1, .int (n + ys.sum) w2, .int (((lineText n (lrun ys).ahead).length : Nat) + lenSum (lrun ys).rows) w3, .int (b + refSum (lrun ys).rows) w4, .ref r]) ∈ news')
    (md : (r, o') ∈ news') (ma : (a, listOf ((List.toArray us).push (.ref p)) k) ∈ news') (mp : (p, tupO [.str (lineText n (lrun ys).ahead) t1, .bool (refusedOf n), .str (bareOf (lineText n (lrun ys).ahead)) t2]) ∈ news') (mq : (q, tupO [.int 1 t3, .int n t4]) ∈ news') (mI : (It, oIt) ∈ news') (mP : (PA, tabObj ps') ∈ news') (mn : ∀ x ∈ tn, x ∈ news') (ms : ∀ x ∈ tl, x ∈ news') :
    LPost L It oIt (RE K tp tl₀ mean mg mb A₀ base outer prog w (ys ++ [n]) gs₀ g) s₁ .next { s₁ with heap := h', toks := tk, gens := gs } := by
  have htl' : ∀ x ∈ tn ++ (q, tupO [.int 1 t3, .int n t4]) :: (p, tupO [.str (lineText n (lrun ys).ahead) t1, .bool (refusedOf n), .str (bareOf (lineText n (lrun ys).ahead)) t2]) :: tl, x.2.cls = .type "tuple" := by
    intro x hx
    rcases List.mem_append.mp hx with hx | hx
    · exact htn x hx
    · rcases List.mem_cons.mp hx with rfl | hx
      · rfl
      · rcases List.mem_cons.mp hx with rfl | hx
        · rfl
        · exact htl x hx
  have er : lrun (ys ++ [n]) = lstep (lrun ys) n := lrun_snoc ys n
  have J : RJ prog w (ys ++ [n]) m' ((a, listOf (List.toArray (us ++ [.ref p])) k) :: (rr, tupO [.int ((ys ++ [n]).length : Int) w1, .int (ys ++ [n]).sum w2, .int (lenSum (lrun (ys ++ [n])).rows) w3, .int (refSum (lrun (ys ++ [n])).rows) w4, .ref r]) :: (r, o') :: (PA, tabObj ps') :: (tn ++ (q, tupO [.int 1 t3, .int n t4]) :: (p, tupO [.str (lineText n (lrun ys).ahead) t1, .bool (refusedOf n), .str (bareOf (lineText n (lrun ys).ahead)) t2]) :: tl))
      a rr r (us ++ [.ref p]) k w1 w2 w3 w4 tz o' kvs' ps' (tn ++ (q, tupO [.int 1 t3, .int n t4]) :: (p, tupO [.str (lineText n (lrun ys).ahead) t1, .bool (refusedOf n), .str (bareOf (lineText n (lrun ys).ahead)) t2]) :: tl) := by
    refine ⟨rfl, e1, e2, by rw [er]; exact e3, ?_, hd, ?_, htl', htri, hlo⟩
    · rw [er]
      exact (hR.mono fun x hx => List.mem_append_right _ (.tail _ (.tail _ hx))).append (List.mem_append_right _ (.tail _ (.head _)))
    · rw [er]
      refine hTT.mono fun x hx => ?_
      rcases List.mem_append.mp hx with hx | hx
      · exact List.mem_append_left _ hx
      · rcases List.mem_cons.mp hx with rfl | hx
        · exact List.mem_append_right _ (.head _)
        · exact List.mem_append_right _ (.tail _ (.tail _ hx))
  refine ⟨rfl, g', h', tk, gs, m', news', _, rfl, F, N, mI, ?_, J.noIt, hG, GG, _, _, _, _, _, _, _, _, _, _, _, _, _, _, J⟩
  intro x hx
  rcases List.mem_cons.mp hx with rfl | hx
  · rw [← List.push_toArray]; exact ma
  · rcases List.mem_cons.mp hx with rfl | hx
    · have x1 : ((ys ++ [n]).length : Int) = 1 + (ys.length : Int) := by rw [List.length_append, List.length_singleton]; omega
      have x2 : lenSum (lrun (ys ++ [n])).rows = ((lineText n (lrun ys).ahead).length : Nat) + lenSum (lrun ys).rows := by rw [er]; exact lenSum_snoc _ _
      have x3 : refSum (lrun (ys ++ [n])).rows = b + refSum (lrun ys).rows := by rw [er, hb]; exact refSum_snoc _ _
      rw [x1, sum_snoc, x2, x3]; exact mt
    · rcases List.mem_cons.mp hx with rfl | hx
      · exact md
      · rcases List.mem_cons.mp hx with rfl | hx
        · exact mP
        · rcases List.mem_append.mp hx with hx | hx
          · exact mn x hx
          · rcases List.mem_cons.mp hx with rfl | hx
            · exact mq
            · rcases List.mem_cons.mp hx with rfl | hx
              · exact mp
              · exact ms x hx
theorem closeFP {h g₀ g h' : Heap} {L' P : Addr} {op : Obj} {fs : List Addr} {m' : Str → Option Value} {news' : List (Addr × Obj)} (hg : ∀ b o, b ∉ [(P, op)].map (·.1) → h.get? b = some o → g₀.get? b = some o) (T : KtsTurn fs g₀ g) (F' : Fr g L' h' m') (N' : News g L' h' news') :
    ExtFP P fs h h' ∧ ∀ p ∈ news', p.1 ≠ P → h.get? p.1 = none ∧ h'.get? p.1 = some p.2 := by
  refine ⟨fun b o hb e => ?_, fun p hp hne => ⟨?_, (N' p hp).1⟩⟩
  · have e1 := hg b o (fun q => hb (List.mem_singleton.mp q)) e
    refine ⟨fun hb => F'.keep _ _ (T.other b o e1 hb), fun hb => ?_⟩
    obtain ⟨sl, h1⟩ := T.frame b o e1 hb
    exact ⟨sl, F'.keep _ _ h1⟩
  · cases e : h.get? p.1 with
    | none => rfl
    | some o =>
      have e1 := hg p.1 o (fun q => hne (List.mem_singleton.mp q)) e
      obtain ⟨sl, e2⟩ := T.up e1
      rw [(N' p hp).2.2] at e2
      cases e2
end T29
section T30
example : True := by
  w_top off
  trivial
theorem fill14 : PySem.Challenge.rw_pe0125_01 = PySem.Challenge.rw_pe0125_01 ∧ hd.heap_39 = hd.heap_39 := by
  k_fill
  exact ⟨rfl, rfl⟩
example : True := by
  k_with "exec For Name Name cons nil" => (
(k_here; with_unfolding_all refine wpAny_For ?_ (by intro _; rfl))
    )
  trivial
theorem strPairs_one {x : Str} {t : Tok} {v : Value} {prog : Program} {w : World} {o : Obj} (h : o.IsDictOf (strKind prog w) (strPairs [(.str x t, v)])) : o.IsDictOf (strKind prog w) [(x, v)] := h
example : True := by
  k_with "eval Dict" => (
(k_here; k_dflt (
  apply kdn_eval (knd := strKind _ _); (case F => k_asm); (case N => k_asm); (case hbig => exact Top.nolimit (by k_asm)); (case hall => rfl); (case hl => rfl); (case h0 => exact List.cons_ne_nil _ _); (case hlen => exact Nat.le_of_ble_eq_true rfl)); intro d' h' o' F' N' l1 lo' hd'; (try k_lt l1))
    )
  k_with "KdnMade" => (
(k_here; k_dflt (
  apply kdn_made_str; (case F => k_asm); (case N => k_asm); (case U => k_updF); (case hd => k_asm); (case hk => rfl); (case hn => (show List.Nodup [_]; simp)); intro h' o' F' N' hd'); (try dsimp only at N'); (replace hd' := strPairs_one hd'); (try k_sweep))
    )
  trivial
theorem int_yes {b : Bool} {t : Tok} (h : b = true) : Value.int 1 t = Value.int (if b then 1 else 0) t := by rw [h]; rfl
theorem int_no {b : Bool} {t : Tok} (h : b = false) : Value.int 0 t = Value.int (if b then 1 else 0) t := by rw [h]; rfl
noncomputable def Line14 : Prop := True
example : True := by
  k_with "IntAt" => (
first | exact ⟨_, _, int_yes (by with_reducible assumption), rfl⟩ | exact ⟨_, _, int_no (by with_reducible assumption), rfl⟩
    )
  k_with "eval IfExp" => (
(k_here; (fail_if_success (with_reducible show wpAny _ _ _ (IntAt _ _) _ _)); (with_reducible rename Line14 => hL9); (with_reducible refine if_to (n := if refusedOf n then 1 else 0) ?_ ?_); (all_goals (try intro t9 tk9)))
    )
  trivial
section
variable {prog : Program} {w : World} {A₀ A : Around} {s : Shared} {base h₀ : Heap} {outer : List Env} {L : Addr} {m mg mb : Str → Option Value} {mean : ExcName → Option Value} {tp : Program} {tl₀ : List Str} {env : Env} {Q E : Value → Shared → Prop} {news : List (Addr × Obj)}

set_option maxHeartbeats 1000000 in
theorem report_at {l : Addr} {vs : List Value} {ns : List Int} {ps : Array Value} (B : Below A₀ base outer h₀) (F : Fr h₀ L s.heap m) (X : (hd.heap_39 w.params).In h₀) (T : Top tp tl₀ mean mg mb h₀) (hf : env.frame = some L) (hk : env.scope.kind = .function)
   (XB : (hd.heap_39 w.params).In base) (TB : Top tp tl₀ mean mg mb base) (D : KtsDicts (outer.filterMap (·.frame)) h₀) (N : News h₀ L s.heap [(PA, tabObj ps)]) (hps : TriplesOk ps.toList)
   (hl : s.heap.IsList l vs.toArray) (hi : IntsAre vs ns) (hn : ∀ y ∈ ns, 0 ≤ y ∧ y < 1000000) (hlen : ns.length ≤ 20)
   (post : ∀ r a tt dt us k u1 u2 u3 u4 od kvs ps' tl h' tk gs, ExtFP PA ((env :: outer).filterMap (·.frame)) s.heap h' → h'.get? PA = some (tabObj ps') → TriplesOk ps'.toList → (AllBare s.gens → AllBare gs) →
     (∀ p ∈ (r, tupO [.ref a, .ref tt]) :: (a, listOf (List.toArray us) k) :: (tt, tupO [.int (ns.length : Int) u1, .int ns.sum u2, .int (lenSum (lrun ns).rows) u3, .int (refSum (lrun ns).rows) u4, .ref dt]) :: (dt, od) :: tl, s.heap.get? p.1 = none ∧ h'.get? p.1 = some p.2) →
     RowsIn tl us (lrun ns).rows → od.IsDictOf (strKind prog w) kvs → TabIn tl kvs (lrun ns).tab → (dt == sysModules) = false → Q (.ref r) { s with heap := h', toks := tk, gens := gs }) :
   wpAny (model prog w) (AT 500 900 env outer) (call (.ref 127) [.ref l]) Q E s := by
  have hlP : l ≠ PA := fun q => by
    obtain ⟨o, ho, hc, _⟩ := hl
    rw [q, (N _ (.head _)).1] at ho
    cases ho
    cases hc
  have hL14 : Line14 := True.intro
  walk_at "m enterS"
  k_with "pyIter ref" => (
       rename KtsDicts _ _ => D1
       rename (∀ (b : Addr) (o : Obj), ¬b ∈ _ → _ → _) => hg0
       with_unfolding_all refine' report_loop (K := hd.heap_39 w.params) (ns := ns) (outer := env :: outer) ?hhZ12 ?hxZ12 ?hpZ12 ?hlZ12 ?hiZ12 ?hlfZ12 ?GZ12 ?FZ12 ?NZ12 ?f1Z12 ?f2Z12 ?f3Z12 ?f4Z12 ?e1Z12 ?e2Z12 ?e3Z12 ?hd0Z12 ?htriZ12 ?lo0Z12 ?_ ?_
       case FZ12 => k_asm
       case NZ12 => k_asm
       case hlZ12 => (obtain ⟨o, ho, r⟩ := hl; exact ⟨o, hg0 _ _ (fun q => hlP (List.mem_singleton.mp q)) ho, r⟩)
       case hlfZ12 => (intro q; obtain ⟨o, es, n, ho, hd⟩ := D1 _ q; obtain ⟨o', ho', _, n', hd'⟩ := hl; rw [hg0 _ _ (fun q => hlP (List.mem_singleton.mp q)) ho'] at ho; cases ho; rw [hd'] at hd; cases hd)
       case hiZ12 => exact hi
       case hhZ12 => exact rfl
       case hxZ12 => exact rfl
       case hpZ12 => exact rfl
       case GZ12 => exact ⟨KtsTurn.refl, by k_asm, by k_asm, by k_asm, by k_asm⟩
       case e1Z12 => exact rfl
       case e2Z12 => exact rfl
       case e3Z12 => exact rfl
       case f1Z12 => k_mem
       case f2Z12 => k_mem
       case f3Z12 => k_mem
       case f4Z12 => k_mem
       case hd0Z12 => k_asm
       case htriZ12 => k_asm
       case lo0Z12 => k_asm
       all_goals first
         | (intro i n t g m1 a tt dt us k u1 u2 u3 u4 tz od kvs ps1 tl It oIt h tk gs E' hni hG B' X' T' D' hR hdd hT htl htri hlo hne hoff F' N'
            have n1 := hne.1
            have n2 := hne.2.1
            have n3 := hne.2.2.1
            have n4 := hne.2.2.2.1
            have n5 := hne.2.2.2.2.1
            have n6 := hne.2.2.2.2.2.1
            have n7 := hne.2.2.2.2.2.2.1
            have n8 := hne.2.2.2.2.2.2.2.1
            have n9 := hne.2.2.2.2.2.2.2.2
            clear hne
            obtain ⟨hy0, hy1⟩ := hn n (List.mem_of_getElem? hni)
            have hilt : i < ns.length := (List.getElem?_eq_some_iff.mp hni).1
            have hok := lok_run (ns.take i) (fun y hy => hn y (List.mem_of_mem_take hy))
            have hok1 := hok.ahead
            have hok2 := hok.tab
            have hok3 := hT.length
            have hok4 := hR.length
            have hok5 := hok.rows
            have hok6 : (ns.take i).length ≤ i := by rw [List.length_take]; omega
            have hok7 := lineText_len hy0 hy1 (lrun (ns.take i)).ahead
            try k_sweep)
         | (intro g m1 a tt dt us k u1 u2 u3 u4 tz od kvs ps1 tl h tk gs hG TT' B' X' T' D' hR hdd hT htl htri hlo F' N'
            try k_sweep))
  walk_at "m steps"
  all_goals first
    | ((with_reducible show LPost _ _ _ _ _ _ _)
       rename (AllBare _ → AllBare _) => hGa
       revert hGa
       rename (AllBare _ → AllBare _) => hGb
       intro hGa
       refine' report_end (tl := tl) ?FZ13 ?NZ13 ?GGZ13 (fun q => hGa (hGb q)) hR htl (by with_reducible assumption) ?hTTZ13 ?hdZ13 ?htriZ13 ?hloZ13 ?hbZ13 ?e1Z13 ?e2Z13 ?e3Z13 ?mtZ13 ?mdZ13 ?maZ13 ?mpZ13 ?mqZ13 ?mIZ13 ?mPZ13 ?mnZ13 ?msZ13
       case FZ13 => k_asm
       case NZ13 => k_asm
       case GGZ13 => exact ⟨by k_asm, by k_asm, by k_asm, by k_asm, by k_asm⟩
       case hTTZ13 => with_reducible assumption
       case hdZ13 => with_reducible assumption
       case htriZ13 => with_reducible assumption
       case hloZ13 => with_reducible assumption
       case hbZ13 => first | rfl | exact (if_pos (by with_reducible assumption)).symm | exact (if_neg (by with_reducible assumption)).symm | exact (if_neg (by rw [(by with_reducible assumption : refusedOf n = false)]; exact Bool.false_ne_true)).symm
       case e1Z13 => exact rfl
       case e2Z13 => exact rfl
       case e3Z13 => exact rfl
       case mtZ13 => exact .head _
       case mdZ13 => exact .tail _ (.head _)
       case maZ13 => exact .tail _ (.tail _ (List.mem_append_right _ (by k_mem)))
       case mpZ13 => exact .tail _ (.tail _ (List.mem_append_right _ (by k_mem)))
       case mqZ13 => exact .tail _ (.tail _ (List.mem_append_right _ (by k_mem)))
       case mIZ13 => exact .tail _ (.tail _ (List.mem_append_right _ (by k_mem)))
       case mPZ13 => exact .tail _ (.tail _ (List.mem_append_right _ (by k_mem)))
       case mnZ13 => exact fun x hx => .tail _ (.tail _ (List.mem_append_left _ hx))
       case msZ13 => (intro x hx; refine .tail _ (.tail _ (List.mem_append_right _ ?_)); (repeat (first | exact hx | refine List.Mem.tail _ ?_))))
    | skip
  rename (∀ (b : Addr) (o : Obj), ¬b ∈ _ → _ → _) => hg0
  rename KtsTurn _ _ _ => TT1
  have cl := closeFP hg0 TT1 (by with_reducible assumption) (by with_reducible assumption)
  rename News _ _ _ ((_, _) :: (_, listOf _ _) :: _) => N1
  exact post _ _ _ _ _ _ _ _ _ _ _ _ _ _ _ _ _ cl.1 (N1 _ (.tail _ (.tail _ (.tail _ (.tail _ (.head _)))))).1 (by with_reducible assumption) (by assumption) (report_fresh N1 rfl rfl rfl (by with_reducible assumption) (by with_reducible assumption) cl.2) (by with_reducible assumption) (by with_reducible assumption) (by with_reducible assumption) (by with_reducible assumption)
end
end T30
section T31
theorem fill15 : PySem.Challenge.rw_pe0125_01 = PySem.Challenge.rw_pe0125_01 ∧ hd.heap_39 = hd.heap_39 := by
  k_fill
  exact ⟨rfl, rfl⟩
section
variable {prog : Program} {w : World} {A₀ A : Around} {s : Shared} {base h₀ : Heap} {outer : List Env} {L : Addr} {m mg mb : Str → Option Value} {mean : ExcName → Option Value} {tp : Program} {tl₀ : List Str} {env : Env} {Q E : Value → Shared → Prop} {news : List (Addr × Obj)}

theorem News.consAll {h h' : Heap} {led : List (Addr × Obj)} (F : Fr h₀ L h m) (N : News h₀ L h' news) (hf : ∀ p ∈ led, h.get? p.1 = none ∧ h'.get? p.1 = some p.2) : News h₀ L h' (led ++ news) := by
  intro p hp
  rcases List.mem_append.mp hp with hp | hp
  · obtain ⟨e1, e2⟩ := hf p hp
    refine ⟨e2, fun q => ?_, ?_⟩
    · obtain ⟨oL, es, ep, hL, r⟩ := F.ns
      rw [← q] at hL; rw [e1] at hL; cases hL
    · cases q : h₀.get? p.1 with
      | none => rfl
      | some o' => rw [F.keep _ _ q] at e1; cases e1
  · exact N p hp

theorem ledger_use {l : Addr} {vs : List Value} {ns : List Int} {k₀ : Nat} (B : Below A₀ base outer h₀) (F : Fr h₀ L s.heap m) (X : (hd.heap_39 w.params).In h₀) (N : News h₀ L s.heap news) (T : Top tp tl₀ mean mg mb h₀) (hA : A.frames = some (env :: outer)) (hf : env.frame = some L) (hk : env.scope.kind = .function)
   (hh : A.handled = none) (hg : A.guards = some []) (hdp : A.depth ≤ 500) (hu : A.units ≤ 900)
   (hl : (l, listOf vs.toArray k₀) ∈ news) (hi : IntsAre vs ns) (hn : ∀ y ∈ ns, 0 ≤ y ∧ y < 1000000) (hlen : ns.length ≤ 20)
   (post : ∀ led r a b us us' k c kvs h' tk, Fr h₀ L h' m → News h₀ L h' ((r, tupO [.ref a, .ref b]) :: (a, listOf us.toArray k) :: (b, listOf us'.toArray c) :: (news ++ led)) → RowsIn led us (lrun ns).rows → TabIn led kvs (lrun ns).tab → ItemsIn led kvs us' →
      (∀ p ∈ news, p.1 ≠ r) → (∀ p ∈ news, p.1 ≠ a) → (∀ p ∈ news, p.1 ≠ b) → OwnOff led (news.map (·.1)) → Q (.ref r) { s with heap := h', toks := tk }) :
   wpAny (model prog w) A (call (.ref 120) [.ref l]) Q E s := by
  refine wpAny_le (ledger_at B F X T hf hk ⟨_, (N _ hl).1, rfl, _, rfl⟩ hi hn hlen fun led r a b us us' k c kvs h' tk x hfr O => ?_) hh hA hg hdp hu
  have N1 : News h₀ L h' (led ++ news) := News.consAll F (x.news N) hfr
  refine post led r a b us us' k c kvs h' tk (x.fr F) (fun p hp => ?_) O.rows O.tab O.items (fresh_ne N (hfr _ O.r).1) (fresh_ne N (hfr _ O.a).1) (fresh_ne N (hfr _ O.b).1) (fun p hp b hb => by obtain ⟨x, hx, rfl⟩ := List.mem_map.mp hb; exact Ne.symm (fresh_ne N (hfr p hp).1 x hx))
  rcases List.mem_cons.mp hp with rfl | hp
  · exact N1 _ (List.mem_append_left _ O.r)
  · rcases List.mem_cons.mp hp with rfl | hp
    · exact N1 _ (List.mem_append_left _ O.a)
    · rcases List.mem_cons.mp hp with rfl | hp
      · exact N1 _ (List.mem_append_left _ O.b)
      · exact N1 p ((List.mem_append.mp hp).elim (fun h => List.mem_append_right _ h) fun h => List.mem_append_left _ h)

theorem report_use {l : Addr} {vs : List Value} {ns : List Int} {k₀ : Nat} {ps : Array Value} {g : Obj → List (Addr × Obj)} (B : Below A₀ base outer h₀) (F : Fr h₀ L s.heap m) (X : (hd.heap_39 w.params).In h₀) (N : News h₀ L s.heap news) (T : Top tp tl₀ mean mg mb h₀) (hA : A.frames = some (env :: outer)) (hf : env.frame = some L) (hk : env.scope.kind = .function)
   (hh : A.handled = none) (hg : A.guards = some []) (hdp : A.depth ≤ 500) (hu : A.units ≤ 900)
   (XB : (hd.heap_39 w.params).In base) (TB : Top tp tl₀ mean mg mb base) (D : KtsDicts (outer.filterMap (·.frame)) h₀) (U : UpdF PA (tabObj ps) news g) (hps : TriplesOk ps.toList)
   (hl : (l, listOf vs.toArray k₀) ∈ news) (hi : IntsAre vs ns) (hn : ∀ y ∈ ns, 0 ≤ y ∧ y < 1000000) (hlen : ns.length ≤ 20)
   (post : ∀ r a tt dt us k u1 u2 u3 u4 od kvs ps' tl h₀' h' tk gs, KtsTurn (outer.filterMap (·.frame)) h₀ h₀' → Fr h₀' L h' m → News h₀' L h' ((r, tupO [.ref a, .ref tt]) :: (a, listOf (List.toArray us) k) :: (tt, tupO [.int (ns.length : Int) u1, .int ns.sum u2, .int (lenSum (lrun ns).rows) u3, .int (refSum (lrun ns).rows) u4, .ref dt]) :: (dt, od) :: (g (tabObj ps') ++ tl)) →
      Below A₀ base outer h₀' → (hd.heap_39 w.params).In h₀' → Top tp tl₀ mean mg mb h₀' → KtsDicts (outer.filterMap (·.frame)) h₀' → TriplesOk ps'.toList → (AllBare s.gens → AllBare gs) →
      (∀ p ∈ news, p.1 ≠ r) → (∀ p ∈ news, p.1 ≠ a) → (∀ p ∈ news, p.1 ≠ tt) → (∀ p ∈ news, p.1 ≠ dt) → OwnOff tl (news.map (·.1)) →
      RowsIn tl us (lrun ns).rows → od.IsDictOf (strKind prog w) kvs → TabIn tl kvs (lrun ns).tab → (dt == sysModules) = false → Q (.ref r) { s with heap := h', toks := tk, gens := gs }) :
   wpAny (model prog w) A (call (.ref 127) [.ref l]) Q E s := by
  have N₀ : News h₀ L s.heap [(PA, tabObj ps)] := fun p hp => by
    rw [List.mem_singleton.mp hp]; exact N _ (updF_mem U)
  refine wpAny_le (report_at B F X T hf hk XB TB D N₀ hps ⟨_, (N _ hl).1, rfl, _, rfl⟩ hi hn hlen fun r a tt dt us k u1 u2 u3 u4 od kvs ps' tl h' tk gs x htab htr hG hfr hR hd hT hlo => ?_) hh hA hg hdp hu
  obtain ⟨h₀', TT, F', B', X', T', D', NN, hnone⟩ := x.after (updF_mem U) N B F hf XB TB D
  obtain ⟨pre, suf, rfl, hgg, o1, o2⟩ := U.split
  have hN1 : ∀ q ∈ (r, tupO [.ref a, .ref tt]) :: (a, listOf (List.toArray us) k) :: (tt, tupO [.int (ns.length : Int) u1, .int ns.sum u2, .int (lenSum (lrun ns).rows) u3, .int (refSum (lrun ns).rows) u4, .ref dt]) :: (dt, od) :: tl, h'.get? q.1 = some q.2 ∧ q.1 ≠ L ∧ h₀'.get? q.1 = none := fun q hq => by
    obtain ⟨e1, e2⟩ := hfr q hq
    refine ⟨e2, fun z => ?_, hnone _ ?_⟩
    · obtain ⟨oL, es, ep, hL, rr⟩ := F.ns
      rw [← z] at hL; rw [e1] at hL; cases hL
    · cases z : h₀.get? q.1 with
      | none => rfl
      | some o' => rw [F.keep _ _ z] at e1; cases e1
  have N2 : News h₀' L h' (pre ++ (PA, tabObj ps') :: suf) := fun q hq => by
    rcases List.mem_append.mp hq with hq | hq
    · exact NN pre (fun z hz => N z (List.mem_append_left _ hz)) o1 q hq
    · rcases List.mem_cons.mp hq with rfl | hq
      · have z := N _ (updF_mem U)
        exact ⟨htab, z.2.1, hnone _ z.2.2⟩
      · exact NN suf (fun z hz => N z (List.mem_append_right _ (.tail _ hz))) o2 q hq
  refine post r a tt dt us k u1 u2 u3 u4 od kvs ps' tl h₀' h' tk gs TT F' (fun q hq => ?_) B' X' T' D' htr hG (fresh_ne N (hfr _ (.head _)).1) (fresh_ne N (hfr _ (.tail _ (.head _))).1) (fresh_ne N (hfr _ (.tail _ (.tail _ (.head _)))).1) (fresh_ne N (hfr _ (.tail _ (.tail _ (.tail _ (.head _))))).1)
    (fun p hp b hb => by obtain ⟨x, hx, rfl⟩ := List.mem_map.mp hb; exact Ne.symm (fresh_ne N (hfr p (.tail _ (.tail _ (.tail _ (.tail _ hp))))).1 x hx)) hR hd hT hlo
  rw [hgg] at hq
  rcases List.mem_cons.mp hq with rfl | hq
  · exact hN1 _ (.head _)
  · rcases List.mem_cons.mp hq with rfl | hq
    · exact hN1 _ (.tail _ (.head _))
    · rcases List.mem_cons.mp hq with rfl | hq
      · exact hN1 _ (.tail _ (.tail _ (.head _)))
      · rcases List.mem_cons.mp hq with rfl | hq
        · exact hN1 _ (.tail _ (.tail _ (.tail _ (.head _))))
        · rcases List.mem_append.mp hq with hq | hq
          · exact N2 q hq
          · exact hN1 _ (.tail _ (.tail _ (.tail _ (.tail _ hq))))

theorem good_end {cw : ClaimW} {cl : Str → Option Addr} {mean : ExcName → Option Value} {args : List WData} {s₁ : Shared} {h₀' h' : Heap} {ps' : Array Value} {gs : Array GenState} {tk : Nat} (C : CodeHd s₁.heap 84 PA) (hP : s₁.heap.get? PA = some (tabObj #[]))
   (TT : KtsTurn [] (ghostOf s₁.heap [(84, PA)]) h₀') (F : Fr h₀' L h' m) (N : News h₀' L h' news) (hm : (PA, tabObj ps') ∈ news) (hG : AllBare gs) (hr : ∀ cls, cw.raises args cls = false) (hp : cw.post args (.bool true) args = true) :
   GoodWG cw cl mean args s₁ (.ok (.ret (.bool true))) { s₁ with heap := h', toks := tk, gens := gs } := by
  have keep : ∀ b o, b ≠ PA → s₁.heap.get? b = some o → h'.get? b = some o := fun b o hb e => F.keep _ _ (TT.other _ _ (ghost_ne e (by intro q; exact hb (List.mem_singleton.mp q))) (fun q => nomatch q))
  refine ⟨.inl ⟨.bool true, .bool true, [], rfl, hr, .bool true, hp, unshared_nil⟩, ⟨fun b o e => ?_, fun b o e => ?_⟩, rfl, hG⟩
  · by_cases hb : b = PA
    · subst hb
      rw [hP] at e
      cases e
      exact .inr (.inl ⟨(C.tab hP).isCodeTable, rfl, #[], ps', rfl, by rw [Array.empty_append]; exact (N _ hm).1⟩)
    · exact .inl (keep b o hb e)
  · by_cases hb : b = PA
    · subst hb; exact ⟨_, (N _ hm).1⟩
    · exact ⟨o, keep b o hb e⟩
end
example : True := by
  k_with "call ref" => (
(k_here; (with_reducible show wpAny _ _ (call (Value.ref 120) [Value.ref _]) _ _ _); k_dflt (apply ledger_use; (case hA => exact rfl); (case hf => exact rfl); (case hk => exact rfl); (case F => k_asm); (case B => k_asm); (case X => k_asm); (case N => k_asm); (case T => k_asm); (case hh => exact rfl); (case hg => exact rfl); (case hdp => exact Nat.le_of_ble_eq_true rfl); (case hu => exact Nat.le_of_ble_eq_true rfl); (case hl => k_mem); (case hi => k_asm); (case hn => k_asm); (case hlen => k_asm); k_whole; intro led' r' a' b' us' vs' k' c' kvs' h' tk' F' N' hR' hT' hI' f1' f2' f3' f4'; (try dsimp only [List.cons_append, List.nil_append] at N'); (try dsimp only [List.map_cons, List.map_nil] at f4'); (replace f1' := allNe_of f1'; replace f2' := allNe_of f2'; replace f3' := allNe_of f3'); (try k_sweep)))
    )
  k_with "call ref" => (
(k_here; (with_reducible show wpAny _ _ (call (Value.ref 127) [Value.ref _]) _ _ _); k_dflt (apply report_use; (case hA => exact rfl); (case hf => exact rfl); (case hk => exact rfl); (case F => k_asm); (case B => k_asm); (case X => k_asm); (case N => k_asm); (case T => k_asm); (case hh => exact rfl); (case hg => exact rfl); (case hdp => exact Nat.le_of_ble_eq_true rfl); (case hu => exact Nat.le_of_ble_eq_true rfl); (case XB => k_asm); (case TB => k_asm); (case D => k_asm); (case U => k_updF); (case hps => k_asm); (case hl => k_mem); (case hi => k_asm); (case hn => k_asm); (case hlen => k_asm); k_whole; intro r' a' tt' dt' us' k' u1' u2' u3' u4' od' kvs' ps' tl' g' h' tk' gs' TT' F' N' B' X' T' D' htr' hG' f1' f2' f3' f4' f5' hR' hd' hT' hlo'; (try dsimp only at N'); (try dsimp only [List.cons_append, List.nil_append] at N'); (try dsimp only [List.map_cons, List.map_nil] at f5'); (replace f1' := allNe_of f1'; replace f2' := allNe_of f2'; replace f3' := allNe_of f3'; replace f4' := allNe_of f4'); (try k_sweep)))
    )
  trivial
end T31
section T32
example : True := by
  w_top off
  trivial
section
variable {prog : Program} {w : World} {s : Shared} {K : Frag} {p : Program} {loose : List Str} {mean : ExcName → Option Value} {mg mb : Str → Option Value} {news : List (Addr × Obj)}
  {R : Result → Shared → Prop} {name qual : Str} {params : Arguments} {body : List Stmt} {scope : Scope} {dV kV doc pm cdv ct oc : Value} {an od : Option Addr} {osl : Array (Option Value)} {f : Addr} {args : Args} {binds : List (Str × Value)}

theorem enterTop (g : Heap) (hg : g = hideAll s.heap (news.map (·.1))) (hN : ∀ q ∈ news, s.heap.get? q.1 = some q.2) (X : K.In g) (T : Top p loose mean mg mb g)
    (ho : K.lookup f = some ⟨oc, od, .func (fnOf name qual params body scope dV kV doc pm an cdv ct), osl⟩) (hcd : codeIn K cdv qual = true) (hroom : callerA.depth < recursionLimit)
    (hbind : BindsTo s (fnOf name qual params body scope dV kV doc pm an cdv ct) args binds) (hkind : (binds.all fun y => scope.names.lookup y.1 == some .local || scope.names.lookup y.1 == some .cell) = true)
    (hnd : ((cellsFrom 0 scope.names []).map (·.1)).Nodup)
    (h : ∀ L' h₁ tk cells, Fr g L' h₁ (bindL (envOfC qual scope L' f cdv).kindOf binds fun _ => none) → News g L' h₁ (cells ++ news) → CellsAre (bindC (envOfC qual scope L' f cdv).kindOf binds fun _ => none) (cellsFrom (L' + 1) scope.names []) cells → (∀ q ∈ news, q.1 < L') →
      Below callerA g [] g → K.In g → Top p loose mean mg mb g → KtsDicts (([] : List Env).filterMap (·.frame)) g →
      wpAny (model prog w) (callerA.deeper (envOfC qual scope L' f cdv)) (execs body (envOfC qual scope L' f cdv))
        (fun fl s' => R (.ok (.ret (match fl with | .ret v => v | _ => .none))) s')
        (fun e s' => wpAny (model prog w) (callerA.deeper (envOfC qual scope L' f cdv)) (leaving (envOfC qual scope L' f cdv) e) (fun _ s'' => R (.error e) s'') (fun e' s'' => R (.error e') s'') s')
        { s with heap := h₁, toks := tk })
    (hco : scope.isCoroutine = false) (hgen : scope.isGenerator = false) (hk : scope.kind = .function) : codeAny (model prog w) callerA (.call (.ref f) args) R s := by
  have up : ∀ b o, g.get? b = some o → s.heap.get? b = some o := fun b o e => of_hideAll _ (hg ▸ e)
  refine codeAny_call_function hroom (up _ _ (X _ _ ho)) rfl hco hgen rfl ((codeRec_of X hcd).keeps up) (hbind _ _ _ _ ?_)
  refine wpAny_newFunctionEnv_cells hk (kindsX hkind _) fun env' he s' x => ?_
  subst he
  refine ⟨(T.nolimit.keeps up).keeps x.toInCall.keep, codeAny_func ?_⟩
  obtain ⟨h₁, tk, rfl, _⟩ := x.done
  have hk₁ := x.toInCall.keep
  obtain ⟨cells, NC, Y⟩ := Cl.news (h₀ := s.heap) (Nat.le_refl _) fun n c hm => ⟨x.cell n c (lookup_of_mem_nodup (cellsFrom_names scope.names 0 (s.heap.objs.size + 1) [] [] rfl ▸ hnd) hm), x.above n c hm⟩
  refine h s.heap.objs.size h₁ tk cells ⟨x.toInCall.ns, fun b o e => hk₁ b o (up b o e), Nat.le_of_eq (by rw [hg]; exact hideAll_size _ _)⟩ (fun q hq => ?_) Y (fun q hq => Heap.lt_size (hN q hq)) (below_caller g) X T ktsDicts_nil
  rcases List.mem_append.mp hq with hq | hq
  · refine ⟨(NC q hq).1, (NC q hq).2.1, ?_⟩
    cases z : g.get? q.1 with
    | none => rfl
    | some o => have := up _ _ z; rw [(NC q hq).2.2] at this; cases this
  · exact ⟨hk₁ _ _ (hN q hq), Nat.ne_of_lt (Heap.lt_size (hN q hq)), by rw [hg]; exact hideAll_none _ (List.mem_map_of_mem hq)⟩
end
end T32
section T33
open PyProof.Rows.LCg (NsObj ns_obj lst lst_snoc Off3)
structure Src (prog : Program) (w : World) (A : Around) (I : Addr) (n : Nat) (target : Expr) (sup : List (Addr × Obj)) (St : Nat → Heap → Prop) (V : Nat → Value → Heap → Prop) : Prop where
  step : ∀ i (s : Shared) (W : Shared → Prop) (Q : Value → Shared → Prop) (E : Value → Shared → Prop), i < n → St i s.heap →
    (∀ v h', V i v h' → St (i + 1) h' → (∀ b o, b ≠ I → s.heap.get? b = some o → h'.get? b = some o) → Q v { s with heap := h' }) →
    wpAny (model prog w) A (pyNext (.ref I)) (fun r s₁ => match r with | none => W s₁ | some v => wpAny (model prog w) A (letOwnedTupleGo target (.ref I) v) (fun _ s₂ => Q v s₂) E s₁) E s
  stop : ∀ (s : Shared) (Q : Option Value → Shared → Prop) (E : Value → Shared → Prop), St n s.heap → (∀ h', (∀ b o, b ≠ I → s.heap.get? b = some o → h'.get? b = some o) → Q none { s with heap := h' }) → wpAny (model prog w) A (pyNext (.ref I)) Q E s
  self : ∀ i (s : Shared) (Q : Value → Shared → Prop) (E : Value → Shared → Prop), St i s.heap → Q (.ref I) s → wpAny (model prog w) A (pyIter (.ref I)) Q E s
  live : ∀ i h, St i h → ∃ o, h.get? I = some o
  keep : ∀ i h h' o, St i h → h.get? I = some o → h'.get? I = some o → (∀ p ∈ sup, h'.get? p.1 = some p.2) → St i h'

inductive CEnd (g : Heap) (L : Addr) (m : Str → Option Value) (I : Addr) (oI : Obj) (C : Addr) (oC : Obj) (D : Addr) (ys : List Value) (P : List (Addr × Obj) → Prop) (s₁ s₂ : Shared) : Prop
  | mk (h' : Heap) (tk : Nat) (nx : List (Addr × Obj)) (e : s₂ = { s₁ with heap := h', toks := tk }) (F : Fr g L h' m) (N : News g L h' ((I, oI) :: (C, oC) :: (D, lst ys) :: nx)) (off : ∀ p ∈ nx, p.1 ≠ I ∧ p.1 ≠ C ∧ p.1 ≠ D) (hP : P nx)
inductive CInv (g : Heap) (L : Addr) (m : Str → Option Value) (I C D : Addr) (n : Nat) (St : Nat → Heap → Prop) (J : Nat → List Value → List (Addr × Obj) → Prop) (s : Shared) (k : Nat) (s' : Shared) : Prop
  | mk (h : Heap) (tk i : Nat) (ys : List Value) (nx : List (Addr × Obj)) (m' : Str → Option Value) (e : s' = { s with heap := h, toks := tk }) (hi : i ≤ n) (hk : k = n + 1 - i) (hst : St i h) (F : Fr g L h m) (hn : h.Ns C m') (N : News g L h ((D, lst ys) :: nx)) (off : ∀ p ∈ nx, p.1 ≠ I ∧ p.1 ≠ C ∧ p.1 ≠ D) (hJ : J i ys nx)

section
variable {prog : Program} {w : World} {A : Around} {E : Value → Shared → Prop} {env : Env} {g : Heap} {L : Addr} {m : Str → Option Value}

theorem codeAny_compLoop_own {elt target iter : Expr} {ifs : List Expr} {scope : Scope} {pos : Pos} {it acc : Value} {cenv : Env} {R : Result → Shared → Prop} {s : Shared} (J : Nat → Shared → Prop)
    (turn : ∀ n s, J n s → ∀ E', wpAny (model prog w) A (pyNext it) (fun r s₁ => match r with
      | none => R (.ok .next) s₁
      | some v => wpAny (model prog w) A (letOwnedTupleGo target it v) (fun _ s₁' => wpAny (model prog w) A (assign target cenv v) (fun _ s₂ =>
          wpAny (model prog w) A (forIn ifs true fun c r => if r = true then do let ok ← isTrue c cenv (eval c cenv); pure (ForInStep.yield ok) else pure (ForInStep.yield r)) (fun ok s₃ =>
            if ok = true then wpAny (model prog w) A (eval elt cenv) (fun x s₄ =>
              wpAny (model prog w) A (call (.builtin "list.append") [acc, x]) (fun _ s₅ => ∃ m, m < n ∧ J m s₅) E' s₄) E' s₃
            else ∃ m, m < n ∧ J m s₃) E' s₂) E' s₁') E' s₁) E' s)
    (n : Nat) (h : J n s) : codeAny (model prog w) A (.compLoop (.ListComp elt [⟨target, iter, ifs, 0⟩] scope pos) 0 it acc cenv) R s := by
  refine codeAny_loop rfl J (fun n s hI => ?_) n h
  show wpAny _ A ((compTurn (.ListComp elt [⟨target, iter, ifs, 0⟩] scope pos) 0 it acc cenv).onRaise (fun x => do noteFrame x cenv; theTreesLotGoes x)) _ _ s
  refine wpAny_noted ?_
  rw [compTurn_list]
  refine wpAny_bind (wpAny_standAt (wpAny_bind (wpAny_mono (turn n s hI _) (fun r s₁ h₁ => ?_) fun _ _ h' => h')))
  cases r with
  | none => exact wpAny_pure h₁
  | some v =>
    refine wpAny_bind (wpAny_mono h₁ (fun _ s₁' h₁' => ?_) fun _ _ h' => h')
    refine wpAny_bind (wpAny_mono h₁' (fun _ s₂ h₂ => wpAny_bind (wpAny_mono h₂ (fun ok s₃ h₃ => ?_) fun _ _ h' => h')) fun _ _ h' => h')
    cases ok with
    | false => exact wpAny_pure ⟨rfl, h₃⟩
    | true => exact wpAny_bind (wpAny_bind (wpAny_mono h₃ (fun x s₄ h₄ => wpAny_bind (wpAny_mono h₄ (fun _ s₅ h₅ => wpAny_pure (wpAny_pure ⟨rfl, h₅⟩)) fun _ _ h' => h')) fun _ _ h' => h'))

theorem comp_block {elt target iter : Expr} {ifs : List Expr} {scope : Scope} {cl : List (Str × Addr)} {pos : Pos} {s₂ : Shared} {I : Addr} {n : Nat} {sup : List (Addr × Obj)} {St : Nat → Heap → Prop} {V : Nat → Value → Heap → Prop} {TS : Nat → (Str → Option Value) → Prop}
    {J : Nat → List Value → List (Addr × Obj) → Prop} {nx₀ : List (Addr × Obj)} {RR : Value → Addr → Result → Shared → Prop}
    (S : Src prog w A I n target sup St V) (hsz : n ≤ sizeLine) (hcell : ∀ y ∈ scope.names, y.2 ≠ .cell) (hkind : scope.kind = .function)
    (hassign : ∀ i v C m₂ (s : Shared) (Q : Unit → Shared → Prop) E', V i v s.heap → s.heap.Ns C m₂ → (∀ h' tk m₃, h'.Ns C m₃ → TS i m₃ → (∀ b o, b ≠ C → s.heap.get? b = some o → h'.get? b = some o) → Q () { s with heap := h', toks := tk }) →
      wpAny (model prog w) A (assign target (compEnvC scope cl C env) v) Q E' s)
    (hst : St 0 s₂.heap) (F : Fr g L s₂.heap m) (N : News g L s₂.heap nx₀) (hIL : L ≠ I) (hI₀ : g.get? I = none) (off : ∀ p ∈ nx₀, p.1 ≠ I) (h0 : J 0 [] nx₀) (hsup : ∀ i ys nx, J i ys nx → ys.length ≤ i ∧ ∀ p ∈ sup, p ∈ nx)
    (turn : ∀ i ys nx C oC oI D m₃ h tk E', i < n → J i ys nx → NsObj oC m₃ → TS i m₃ → Fr g L h m → News g L h ((I, oI) :: (C, oC) :: (D, lst ys) :: nx) → (∀ p ∈ nx, p.1 ≠ I ∧ p.1 ≠ C ∧ p.1 ≠ D) → ((@Ne Nat I C) ∧ (@Ne Nat I D) ∧ (@Ne Nat C D)) →
      wpAny (model prog w) A (forIn ifs true fun c r => if r = true then do let ok ← isTrue c (compEnvC scope cl C env) (eval c (compEnvC scope cl C env)); pure (ForInStep.yield ok) else pure (ForInStep.yield r)) (fun ok s₃ =>
        if ok = true then wpAny (model prog w) A (eval elt (compEnvC scope cl C env)) (fun y s₄ => CEnd g L m I oI C oC D ys (J (i + 1) (ys ++ [y])) { s₂ with heap := h, toks := tk } s₄) E' s₃
        else CEnd g L m I oI C oC D ys (J (i + 1) ys) { s₂ with heap := h, toks := tk } s₃) E' { s₂ with heap := h, toks := tk })
    (hRR : ∀ D C h tk m' ys nx, Fr g L h m → News g L h ((D, lst ys) :: nx) → (∀ p ∈ nx, p.1 ≠ D) → h.Ns C m' → g.get? C = none → C ≠ L → C ≠ D → D ≠ L → (∀ p ∈ nx, p.1 ≠ C) → J n ys nx → RR (.ref D) C (.ok .next) { s₂ with heap := h, toks := tk }) :
    wpAny (model prog w) A (newList []) (fun acc s₃ => wpAny (model prog w) A (newFunctionEnv scope env.globals cl [] env.qual none .none (some env)) (fun cenv s₄ =>
      codeAny (model prog w) A (.compStart (.ListComp elt [⟨target, iter, ifs, 0⟩] scope pos) 0 (.ref I) acc { cenv with scope := relabel scope env }) (RR acc cenv.locals) s₄) E s₃) E s₂ := by
  refine wpAny_newObj_type (wpAny_newFunctionEnv hcell (by intro y hy; simp at hy) (fun h₁ hns₁ hsb₁ => ?_) hkind)
  dsimp only at hns₁ hsb₁ ⊢
  generalize hH2 : s₂.heap.push { cls := .type "list", dict := none, data := .seq ([] : List Value).toArray } = H2 at hns₁ hsb₁ ⊢
  have hC : H2.objs.size = s₂.heap.objs.size + 1 := by rw [← hH2, Heap.size_push]
  have hDC : s₂.heap.objs.size ≠ H2.objs.size := by rw [hC]; exact Nat.ne_of_lt (Nat.lt_succ_self _)
  have below : ∀ b, b < s₂.heap.objs.size → b ≠ H2.objs.size ∧ b ≠ s₂.heap.objs.size := fun b hb => ⟨by rw [hC]; exact Nat.ne_of_lt (Nat.lt_succ_of_lt hb), Nat.ne_of_lt hb⟩
  obtain ⟨oI₀, hoI₀⟩ := S.live _ _ hst
  have hIlt : I < s₂.heap.objs.size := Heap.lt_size hoI₀
  have hIC : I ≠ H2.objs.size := (below I hIlt).1
  have hID : I ≠ s₂.heap.objs.size := (below I hIlt).2
  have old : ∀ b o, s₂.heap.get? b = some o → h₁.get? b = some o := fun b o e => hsb₁.extBut b o (below b (Heap.lt_size e)).1 (Heap.get?_push_of_some _ (hH2 ▸ Heap.get?_push_of_some _ e))
  have hacc : h₁.get? s₂.heap.objs.size = some (lst []) := hsb₁.extBut _ _ hDC (Heap.get?_push_of_some _ (hH2 ▸ Heap.get?_push_size _ rfl))
  have fresh₀ : ∀ a, s₂.heap.objs.size ≤ a → g.get? a = none := fun a ha => by
    cases e : g.get? a with
    | none => rfl
    | some o' => exact absurd (Heap.lt_size (F.keep a o' e)) (Nat.not_lt.mpr ha)
  have hD₀ : g.get? s₂.heap.objs.size = none := fresh₀ _ (Nat.le_refl _)
  have hC₀ : g.get? H2.objs.size = none := fresh₀ _ (by rw [hC]; exact Nat.le_succ _)
  have hDL : s₂.heap.objs.size ≠ L := Nat.ne_of_gt F.ns.lt
  have hCL : H2.objs.size ≠ L := by rw [hC]; exact Nat.ne_of_gt (Nat.lt_succ_of_lt F.ns.lt)
  have hst₁ : St 0 h₁ := S.keep 0 _ _ _ hst hoI₀ (old _ _ hoI₀) fun p hp => old _ _ (N p ((hsup 0 [] nx₀ h0).2 p hp)).1
  have fr_but : ∀ {h h' : Heap}, Fr g L h m → (∀ b o, b ≠ I → h.get? b = some o → h'.get? b = some o) → Fr g L h' m := fun {h h'} F hk =>
    ⟨F.ns.at' fun o e => hk L o hIL e, fun b o e => hk b o (fun q => by rw [q, hI₀] at e; cases e) (F.keep b o e), F.above⟩
  have loop : ∀ s₃ : Shared, s₃ = { s₂ with heap := h₁, toks := s₂.toks + ([] : List (Str × Value)).length } →
      codeAny (model prog w) A (.compLoop (.ListComp elt [⟨target, iter, ifs, 0⟩] scope pos) 0 (.ref I) (.ref s₂.heap.objs.size) (compEnvC scope cl H2.objs.size env)) (RR (.ref s₂.heap.objs.size) H2.objs.size) s₃ := by
    rintro s₃ rfl
    refine codeAny_compLoop_own (CInv g L m I H2.objs.size s₂.heap.objs.size n St J s₂) ?_ (n + 1) ⟨h₁, _, 0, [], nx₀, _, rfl, Nat.zero_le _, rfl, hst₁, F.keeps old, hns₁, fun p hp => ?_, fun p hp => ?_, h0⟩
    · rintro k s' ⟨h, tk, i, ys, nx, m', rfl, hi, rfl, hst', F', hn', N', off', hJ⟩ E'
      by_cases hlt : i < n
      · refine S.step i _ _ _ E' hlt hst' fun v h₂ hV hst₂ hk₂ => ?_
        have F₂ := fr_but F' hk₂
        have hn₂ : h₂.Ns H2.objs.size m' := hn'.at' fun o e => hk₂ _ o (Ne.symm hIC) e
        refine hassign i v H2.objs.size m' _ _ _ hV hn₂ fun h₃ tk₃ m₃ hn₃ hTS hk₃ => ?_
        obtain ⟨oI, hoI⟩ := S.live _ _ hst₂
        have hoI₃ : h₃.get? I = some oI := hk₃ _ _ hIC hoI
        obtain ⟨oC, hoC, hNC⟩ := ns_obj hn₃
        have F₃ : Fr g L h₃ m := ⟨F₂.ns.at' fun o e => hk₃ L o (Ne.symm hCL) e, fun b o e => hk₃ b o (fun q => by rw [q, hC₀] at e; cases e) (F₂.keep b o e), F₂.above⟩
        have up : ∀ b o, b ≠ I → b ≠ H2.objs.size → h.get? b = some o → h₃.get? b = some o := fun b o hb hc e => hk₃ b o hc (hk₂ b o hb e)
        have N₃ : News g L h₃ ((I, oI) :: (H2.objs.size, oC) :: (s₂.heap.objs.size, lst ys) :: nx) := fun p hp => by
          rcases List.mem_cons.mp hp with rfl | hp
          · exact ⟨hoI₃, Ne.symm hIL, hI₀⟩
          · rcases List.mem_cons.mp hp with rfl | hp
            · exact ⟨hoC, hCL, hC₀⟩
            · have z := N' p hp
              refine ⟨up _ _ ?_ ?_ z.1, z.2⟩
              · rcases List.mem_cons.mp hp with rfl | hp
                · exact Ne.symm hID
                · exact (off' p hp).1
              · rcases List.mem_cons.mp hp with rfl | hp
                · exact hDC
                · exact (off' p hp).2.1
        refine wpAny_mono (turn i ys nx H2.objs.size oC oI s₂.heap.objs.size m₃ h₃ tk₃ E' hlt hJ hNC hTS F₃ N₃ off' ⟨hIC, hID, Ne.symm hDC⟩) (fun ok s₄ h₄ => ?_) fun _ _ e => e
        have fin : ∀ {ys' : List Value} {h₅ : Heap} {tk₅ : Nat} {nx' : List (Addr × Obj)}, Fr g L h₅ m → News g L h₅ ((I, oI) :: (H2.objs.size, oC) :: (s₂.heap.objs.size, lst ys') :: nx') → (∀ p ∈ nx', p.1 ≠ I ∧ p.1 ≠ H2.objs.size ∧ p.1 ≠ s₂.heap.objs.size) → J (i + 1) ys' nx' →
            ∃ mm, mm < n + 1 - i ∧ CInv g L m I H2.objs.size s₂.heap.objs.size n St J s₂ mm { s₂ with heap := h₅, toks := tk₅ } := by
          intro ys' h₅ tk₅ nx' F₅ N₅ off₅ hJ₅
          refine ⟨n + 1 - (i + 1), meas_lt (by assumption), h₅, tk₅, i + 1, ys', nx', m₃, rfl, hlt, rfl, S.keep _ _ _ _ hst₂ hoI (N₅ _ (.head _)).1 fun p hp => (N₅ p (.tail _ (.tail _ (.tail _ ((hsup _ _ _ hJ₅).2 p hp))))).1, F₅, hNC.ns (N₅ _ (.tail _ (.head _))).1, fun p hp => N₅ p (.tail _ (.tail _ hp)), off₅, hJ₅⟩
        cases ok with
        | false =>
          obtain ⟨h₅, tk₅, nx', rfl, F₅, N₅, off₅, hJ₅⟩ := h₄
          exact fin F₅ N₅ off₅ hJ₅
        | true =>
          refine wpAny_mono h₄ (fun y s₅ h₅' => ?_) fun _ _ e => e
          obtain ⟨h₅, tk₅, nx', rfl, F₅, N₅, off₅, hJ₅⟩ := h₅'
          have hlen : ys.length ≤ n := by
            have := (hsup _ _ _ hJ).1
            omega
          refine append_at (hsz := by show ys.toArray.size ≤ sizeLine; rw [List.size_toArray]; omega) (N₅ _ (.tail _ (.tail _ (.head _)))).1 fun h₆ hs₆ hD₆ => ?_
          refine fin (ys' := ys ++ [y]) (F₅.change hs₆ hDL hD₀) (fun p hp => ?_) off₅ hJ₅
          rcases List.mem_cons.mp hp with rfl | hp
          · exact ⟨hs₆.extBut _ _ hID (N₅ _ (.head _)).1, (N₅ _ (.head _)).2⟩
          · rcases List.mem_cons.mp hp with rfl | hp
            · exact ⟨hs₆.extBut _ _ (Ne.symm hDC) (N₅ _ (.tail _ (.head _))).1, (N₅ _ (.tail _ (.head _))).2⟩
            · rcases List.mem_cons.mp hp with rfl | hp
              · exact ⟨hD₆.trans (congrArg some (lst_snoc ys y)), hDL, hD₀⟩
              · have z := N₅ p (.tail _ (.tail _ (.tail _ hp)))
                exact ⟨hs₆.extBut _ _ (off₅ p hp).2.2 z.1, z.2⟩
      · obtain rfl : i = n := Nat.le_antisymm hi (Nat.not_lt.mp hlt)
        refine S.stop _ _ _ hst' fun h₂ hk₂ => ?_
        refine hRR _ _ h₂ tk m' ys nx (fr_but F' hk₂) (fun p hp => ?_) (fun p hp => (off' p hp).2.2) (hn'.at' fun o e => hk₂ _ o (Ne.symm hIC) e) hC₀ hCL (Ne.symm hDC) hDL (fun p hp => (off' p hp).2.1) hJ
        have z := N' p hp
        refine ⟨hk₂ _ _ ?_ z.1, z.2⟩
        rcases List.mem_cons.mp hp with rfl | hp
        · exact Ne.symm hID
        · exact (off' p hp).1
    · rcases List.mem_cons.mp hp with rfl | hp
      · exact ⟨hacc, hDL, hD₀⟩
      · exact ⟨old _ _ (N p hp).1, (N p hp).2⟩
    · have hl := Heap.lt_size (N p hp).1
      exact ⟨off p hp, (below _ hl).1, (below _ hl).2⟩
  exact codeAny_compStart_list (loop _ rfl) (S.self 0 _ _ _ hst₁ (loop _ rfl))
end
end T33
section T34
open PyProof.Rows.LCg (NsObj ns_obj lst lst_snoc Off3)
section
variable {prog : Program} {w : World} {A : Around} {E : Value → Shared → Prop} {env : Env} {g : Heap} {L : Addr} {m : Str → Option Value}

theorem Src.list {I ax : Addr} {vs : List Value} {k : Nat} {target : Expr} {sup : List (Addr × Obj)} (hh : A.handled = none) (hm : (ax, listOf vs.toArray k) ∈ sup) (hsI : ∀ p ∈ sup, p.1 ≠ I)
    (hgo : ∀ (i : Nat) v (s : Shared) (Q : Unit → Shared → Prop) (E : Value → Shared → Prop), vs[i]? = some v → s.heap.IsListIter I ax (i + 1) → Q () s → wpAny (model prog w) A (letOwnedTupleGo target (.ref I) v) Q E s) :
    Src prog w A I vs.length target sup (fun i h => h.IsListIter I ax i ∧ ∀ p ∈ sup, h.get? p.1 = some p.2) (fun i v h => vs[i]? = some v ∧ ∀ p ∈ sup, h.get? p.1 = some p.2) where
  step := fun i s W Q E hi ⟨hit, hs⟩ hQ => by
    have hl : s.heap.IsList ax vs.toArray := ⟨_, hs _ hm, rfl, _, rfl⟩
    refine wpAny_pyNext_list_item hit hl (x := vs[i]) (by simp [hi]) fun h' hit' hs' => ?_
    refine hgo i vs[i] _ _ _ (by simp [hi]) hit' ?_
    exact hQ vs[i] h' ⟨by simp [hi], fun p hp => hs'.extBut _ _ (hsI p hp) (hs p hp)⟩ ⟨hit', fun p hp => hs'.extBut _ _ (hsI p hp) (hs p hp)⟩ fun b o hb e => hs'.extBut b o hb e
  stop := fun s Q E ⟨hit, hs⟩ hQ => wpAny_pyNext_list_end hh hit ⟨_, hs _ hm, rfl, _, rfl⟩ (by simp) fun h' hx => hQ h' fun b o hb e => hx b o hb e
  self := fun i s Q E ⟨hit, _⟩ hQ => wpAny_pyIter_listiter hit hQ
  live := fun i h ⟨⟨o, ho, _⟩, _⟩ => ⟨o, ho⟩
  keep := fun i h h' o ⟨⟨o', ho, r⟩, _⟩ e e' hs => ⟨by rw [e] at ho; cases ho; exact ⟨o, e', r⟩, hs⟩

inductive CSrc (prog : Program) (w : World) (A : Around) (g : Heap) (L : Addr) (m : Str → Option Value) (env : Env) (scope : Scope) (cl : List (Str × Addr)) (target : Expr) (ifs : List Expr) (elt : Expr) (Q : Value → Shared → Prop) (xv : Value) (s₁ : Shared) : Prop
  | mk (ax : Addr) (vs : List Value) (k : Nat) (nx sup : List (Addr × Obj)) (J : Nat → List Value → Prop) (TS : Nat → (Str → Option Value) → Prop)
    (e : xv = .ref ax)
    (hh : A.handled = none)
    (hsz : vs.length ≤ sizeLine)
    (F : Fr g L s₁.heap m)
    (N : News g L s₁.heap nx)
    (hm : (ax, listOf (List.toArray vs) k) ∈ sup)
    (hsub : (∀ p ∈ sup, p ∈ nx))
    (h0 : J 0 [])
    (hJl : (∀ i ys, J i ys → ys.length ≤ i))
    (hgo : (∀ (I : Addr) (i : Nat) v (s : Shared) (Q : Unit → Shared → Prop) (E : Value → Shared → Prop), vs[i]? = some v → s.heap.IsListIter I ax (i + 1) → Q () s → wpAny (model prog w) A (letOwnedTupleGo target (.ref I) v) Q E s))
    (hassign : (∀ (i : Nat) v C m₂ (s : Shared) (Q : Unit → Shared → Prop) E', vs[i]? = some v → (∀ p ∈ sup, s.heap.get? p.1 = some p.2) → s.heap.Ns C m₂ → (∀ h' tk m₃, h'.Ns C m₃ → TS i m₃ → (∀ b o, b ≠ C → s.heap.get? b = some o → h'.get? b = some o) → Q () { s with heap := h', toks := tk }) →
      wpAny (model prog w) A (assign target (compEnvC scope cl C env) v) Q E' s))
    (turn : (∀ i ys C oC I oI D m₃ h tk E', i < vs.length → J i ys → NsObj oC m₃ → TS i m₃ → Fr g L h m → News g L h ((I, oI) :: (C, oC) :: (D, lst ys) :: nx) → (∀ p ∈ nx, p.1 ≠ I ∧ p.1 ≠ C ∧ p.1 ≠ D) → ((@Ne Nat I C) ∧ (@Ne Nat I D) ∧ (@Ne Nat C D)) →
      wpAny (model prog w) A (forIn ifs true fun c r => if r = true then do let ok ← isTrue c (compEnvC scope cl C env) (eval c (compEnvC scope cl C env)); pure (ForInStep.yield ok) else pure (ForInStep.yield r)) (fun ok s₃ =>
        if ok = true then wpAny (model prog w) A (eval elt (compEnvC scope cl C env)) (fun y s₄ => CEnd g L m I oI C oC D ys (fun nx' => nx' = nx ∧ J (i + 1) (ys ++ [y])) { s₁ with heap := h, toks := tk } s₄) E' s₃
        else CEnd g L m I oI C oC D ys (fun nx' => nx' = nx ∧ J (i + 1) ys) { s₁ with heap := h, toks := tk } s₃) E' { s₁ with heap := h, toks := tk }))
    (done : (∀ D ys h tk, J vs.length ys → Fr g L h m → News g L h ((D, lst ys) :: nx) → (∀ p ∈ nx, p.1 ≠ D) → Q (.ref D) { s₁ with heap := h, toks := tk }))

theorem ListComp_own {elt target iter : Expr} {ifs : List Expr} {scope : Scope} {cl : List (Str × Addr)} {pos : Pos} {Q : Value → Shared → Prop} {s : Shared} (_F : Fr g L s.heap m)
    (hclos : closureFor scope env = pure cl) (hcell : ∀ y ∈ scope.names, y.2 ≠ .cell) (hkind : scope.kind = .function) (hnames : ∀ y ∈ scope.names, y.2 = .local → scope.names.lookup y.1 = some .local)
    (h : wpAny (model prog w) A (eval iter env) (CSrc prog w A g L m env scope cl target ifs elt Q) E s)
    (hs : ∀ x, foldedSetIterable iter env x = pure x := by intro _; rfl) :
    wpAny (model prog w) A (eval (.ListComp elt [⟨target, iter, ifs, 0⟩] scope pos) env) Q E s := by
  rw [eval_ListComp]
  refine wpAny_comprehension_free (use := none) rfl hs hclos hkind hnames (wpAny_mono h (fun xv s₁ h₁ => ?_) fun _ _ e => e)
  obtain ⟨ax, vs, k, nx, sup, J, TS, rfl, hh, hsz, F, N, hm, hsub, h0, hJl, hgo, hassign, turn, done⟩ := h₁
  have hax := (N _ (hsub _ hm)).1
  refine wpAny_pyIter_list (items := vs.toArray) ⟨_, hax, rfl, _, rfl⟩ ?_
  have hIn : ∀ p ∈ nx, p.1 ≠ s₁.heap.objs.size := fun p hp => Nat.ne_of_lt (Heap.lt_size (N p hp).1)
  refine comp_block (TS := TS) (nx₀ := nx) (J := fun i ys nx' => nx' = nx ∧ J i ys) (Src.list hh hm (fun p hp => hIn p (hsub p hp)) (hgo _)) hsz hcell hkind (fun i v C m₂ s Q E' hV hn hQ => hassign i v C m₂ s Q E' hV.1 hV.2 hn hQ)
    ⟨⟨_, Heap.get?_push_size _ rfl, rfl, rfl⟩, fun p hp => Heap.get?_push_of_some _ (N p (hsub p hp)).1⟩ (F.push _) (fun p hp => ⟨Heap.get?_push_of_some _ (N p hp).1, (N p hp).2⟩) (Nat.ne_of_lt F.ns.lt) (next_is_new F) hIn ⟨rfl, h0⟩
    (fun i ys nx' hj => ⟨hJl i ys hj.2, fun p hp => by rw [hj.1]; exact hsub p hp⟩) ?_ ?_
  · rintro i ys nx' C oC oI D m₃ h tk E' hi ⟨rfl, hJ⟩ hNC hTS F' N' off hne
    exact turn i ys C oC _ oI D m₃ h tk E' hi hJ hNC hTS F' N' off hne
  · rintro D C h tk m' ys nx' F' N' off hnC hC₀ hCL hCD hDL offC ⟨rfl, hJ⟩
    refine ⟨m', hnC, fun h'' hs'' => ?_⟩
    refine done D ys h'' tk hJ (F'.change hs'' hCL hC₀) (fun p hp => ⟨hs''.extBut _ _ ?_ (N' p hp).1, (N' p hp).2⟩) off
    rcases List.mem_cons.mp hp with rfl | hp
    · exact Ne.symm hCD
    · exact offC p hp

theorem assign_one {x : Str} {px : Pos} {scope : Scope} {cl : List (Str × Addr)} {v : Value} {C : Addr} {m₂ : Str → Option Value} {s : Shared} {Q : Unit → Shared → Prop} (hkind : scope.kind = .function) (hx : scope.names.lookup x = some .local) (hn : s.heap.Ns C m₂)
    (hQ : ∀ h' tk m₃, h'.Ns C m₃ → m₃ x = some v → (∀ b o, b ≠ C → s.heap.get? b = some o → h'.get? b = some o) → Q () { s with heap := h', toks := tk }) : wpAny (model prog w) A (assign (.Name x px) (compEnvC scope cl C env) v) Q E s :=
  wpAny_assign_Name (wpAny_storeName_local (lookup_relabel_local hx) hn (fun h' hn' hs' => hQ h' _ _ hn' (by simp) fun b o hb e => hs'.extBut b o hb e) (by simp [compEnvC, relabel, hkind]))
theorem go_name {x : Str} {px : Pos} {I : Addr} {v : Value} {s : Shared} {Q : Unit → Shared → Prop} (h : Q () s) : wpAny (model prog w) A (letOwnedTupleGo (.Name x px) (.ref I) v) Q E s := wpAny_pure h
theorem assign_three {x1 x2 x3 : Str} {p1 p2 p3 pt : Pos} {kt : Nat} {scope : Scope} {cl : List (Str × Addr)} {v1 v2 v3 : Value} {C T : Addr} {m₂ : Str → Option Value} {s : Shared} {Q : Unit → Shared → Prop} (hh : A.handled = none) (hkind : scope.kind = .function)
    (h1 : scope.names.lookup x1 = some .local) (h2 : scope.names.lookup x2 = some .local) (h3 : scope.names.lookup x3 = some .local) (h12 : x1 ≠ x2) (h13 : x1 ≠ x3) (h23 : x2 ≠ x3) (hT : s.heap.IsTuple T #[v1, v2, v3]) (hn : s.heap.Ns C m₂)
    (hQ : ∀ h' tk m₃, h'.Ns C m₃ → (m₃ x1 = some v1 ∧ m₃ x2 = some v2 ∧ m₃ x3 = some v3) → (∀ b o, b ≠ C → s.heap.get? b = some o → h'.get? b = some o) → Q () { s with heap := h', toks := tk }) :
    wpAny (model prog w) A (assign (.Tuple [.Name x1 p1, .Name x2 p2, .Name x3 p3] kt pt) (compEnvC scope cl C env) (.ref T)) Q E s := by
  refine wpAny_assign_Tuple hh hT rfl rfl fun g₁ hx₁ => ?_
  have old : ∀ b o, s.heap.get? b = some o → g₁.get? b = some o := fun b o e => hx₁ b o (Nat.ne_of_lt (Heap.lt_size e)) e
  have hp : ((compEnvC scope cl C env).scope.kind == .class || ((compEnvC scope cl C env).scope.kind == .module && (compEnvC scope cl C env).locals != (compEnvC scope cl C env).globals)) = false := by simp [compEnvC, relabel, hkind]
  show wpAny _ _ (do holding [v2, v3] (assign (.Name x1 p1) (compEnvC scope cl C env) v1); do holding [v3] (assign (.Name x2 p2) (compEnvC scope cl C env) v2); do holding [] (assign (.Name x3 p3) (compEnvC scope cl C env) v3); pure ()) _ _ _
  refine wpAny_bind (wpAny_holding (wpAny_assign_Name (wpAny_storeName_local (lookup_relabel_local h1) (hn.at' fun o e => old _ o e) (fun g₂ hn₂ hs₂ => ?_) hp)))
  refine wpAny_bind (wpAny_holding (wpAny_assign_Name (wpAny_storeName_local (lookup_relabel_local h2) hn₂ (fun g₃ hn₃ hs₃ => ?_) hp)))
  refine wpAny_bind (wpAny_holding (wpAny_assign_Name (wpAny_storeName_local (lookup_relabel_local h3) hn₃ (fun g₄ hn₄ hs₄ => wpAny_pure ?_) hp)))
  exact hQ g₄ _ _ hn₄ ⟨by simp [h12, h13], by simp [h23], by simp⟩ fun b o hb e => hs₄.extBut b o hb (hs₃.extBut b o hb (hs₂.extBut b o hb (old b o e)))
end
end T34
section T35
open PyProof.Rows.LCg (NsObj ns_obj lst lst_snoc Off3)
mutual
theorem eqv_self : ∀ d : PyData, d.canLay0 = true → PyData.eqv d d = true
  | .none, _ => rfl
  | .bool b, _ => by simp only [PyData.eqv, beq_self_eq_true]
  | .int i, _ => by simp only [PyData.eqv, beq_self_eq_true]
  | .str x, _ => by simp only [PyData.eqv, beq_self_eq_true]
  | .list xs, h => by simp only [PyData.eqv]; exact eqvAll_self xs (by simpa only [PyData.canLay0] using h)
  | .tuple xs, h => by simp only [PyData.eqv]; exact eqvAll_self xs (by simpa only [PyData.canLay0] using h)
  | .dict _, h => by simp only [PyData.canLay0] at h; cases h
theorem eqvAll_self : ∀ ds : List PyData, PyData.canLayAll0 ds = true → PyData.eqvAll ds ds = true
  | [], _ => by simp only [PyData.eqvAll]
  | d :: ds, h => by
    simp only [PyData.canLayAll0, Bool.and_eq_true] at h
    simp only [PyData.eqvAll, eqv_self d h.1, eqvAll_self ds h.2, Bool.and_self]
end

section
variable {prog : Program} {w : World} {A : Around} {E : Value → Shared → Prop} {s : Shared} {Q : Value → Shared → Prop} {a b : Value} {d : PyData} {as bs : List Addr}
theorem ne_self (ra : Reads s.heap a d as) (rb : Reads s.heap b d bs) (hl : d.canLay0 = true) (hd : d.depth ≤ 64) (hu : A.units + 64 < cLine) (h : Q (.bool false) s) : wpAny (model prog w) A (compareOp .NotEq a b) Q E s := by
  have hs : SeqAt.shaped d = true := by unfold SeqAt.shaped; rw [hl, decide_eq_true hd]; rfl
  refine ne_dataH ra rb hs hs hu ?_
  rw [eqv_self d hl]; exact h
theorem eq_self' (ra : Reads s.heap a d as) (rb : Reads s.heap b d bs) (hl : d.canLay0 = true) (hd : d.depth ≤ 64) (hu : A.units + 64 < cLine) (h : Q (.bool true) s) : wpAny (model prog w) A (compareOp .Eq a b) Q E s := by
  have hs : SeqAt.shaped d = true := by unfold SeqAt.shaped; rw [hl, decide_eq_true hd]; rfl
  refine eq_dataH ra rb hs hs hu ?_
  rw [eqv_self d hl]; exact h
end

noncomputable def rowD (r : Str × Bool × Str) : PyData := .tuple [.str r.1, .bool r.2.1, .str r.2.2]
noncomputable def itemD (kv : Str × Int × Int) : PyData := .tuple [.str kv.1, .tuple [.int kv.2.1, .int kv.2.2]]
theorem rows_lay : ∀ {rows : List (Str × Bool × Str)}, (∀ r ∈ rows, PyData.strOk r.1 = true ∧ PyData.strOk r.2.2 = true) → PyData.canLayAll0 (rows.map rowD) = true ∧ PyData.depthAll (rows.map rowD) ≤ 1
  | [], _ => ⟨rfl, by simp only [List.map_nil, PyData.depthAll]; omega⟩
  | r :: rows, h => by
    obtain ⟨h1, h2⟩ := rows_lay (rows := rows) fun x hx => h x (.tail _ hx)
    obtain ⟨a1, a2⟩ := h r (.head _)
    refine ⟨?_, ?_⟩
    · simp only [List.map_cons, PyData.canLayAll0, rowD, PyData.canLay0, a1, a2, h1, Bool.and_self]
    · simp only [List.map_cons, PyData.depthAll, rowD, PyData.depth]
      exact Nat.max_le.mpr ⟨by decide, h2⟩
theorem items_lay : ∀ {tab : List (Str × Int × Int)}, (∀ r ∈ tab, PyData.strOk r.1 = true) → PyData.canLayAll0 (tab.map itemD) = true ∧ PyData.depthAll (tab.map itemD) ≤ 2
  | [], _ => ⟨rfl, by simp only [List.map_nil, PyData.depthAll]; omega⟩
  | r :: rows, h => by
    obtain ⟨h1, h2⟩ := items_lay (tab := rows) fun x hx => h x (.tail _ hx)
    have a1 := h r (.head _)
    refine ⟨?_, ?_⟩
    · simp only [List.map_cons, PyData.canLayAll0, itemD, PyData.canLay0, a1, h1, Bool.and_self]
    · simp only [List.map_cons, PyData.depthAll, itemD, PyData.depth]
      exact Nat.max_le.mpr ⟨by decide, h2⟩
structure LAll (q : LSt) : Prop where
  ahead : PyData.strOk q.ahead = true
  rows : ∀ r ∈ q.rows, PyData.strOk r.1 = true ∧ PyData.strOk r.2.2 = true
  tab : ∀ kv ∈ q.tab, PyData.strOk kv.1 = true
theorem putT_keys {tab : List (Str × Int × Int)} {x : Str} {v : Int × Int} (hx : PyData.strOk x = true) (h : ∀ kv ∈ tab, PyData.strOk kv.1 = true) : ∀ kv ∈ putT tab x v, PyData.strOk kv.1 = true := by
  intro kv hkv
  unfold putT at hkv
  split at hkv
  · obtain ⟨kv', hm, rfl⟩ := List.mem_map.mp hkv
    split
    · exact h kv' hm
    · exact h kv' hm
  · rcases List.mem_append.mp hkv with hm | hm
    · exact h kv hm
    · rw [List.mem_singleton.mp hm]; exact hx
theorem lall_step {q : LSt} (h : LAll q) (y : Int) : LAll (lstep q y) := by
  have h1 := lineText_ok y h.ahead
  have h2 := bareOf_ok h1
  refine ⟨h2, fun r hr => ?_, putT_keys h2 h.tab⟩
  rcases List.mem_append.mp hr with hr | hr
  · exact h.rows r hr
  · rw [List.mem_singleton.mp hr]; exact ⟨h1, h2⟩
theorem lall (ns : List Int) : LAll (lrun ns) := by
  have key : ∀ (ns : List Int) (q : LSt), LAll q → LAll (ns.foldl lstep q) := by
    intro ns
    induction ns with
    | nil => intro q h; exact h
    | cons y r ih => intro q h; exact ih _ (lall_step h y)
  exact key ns _ ⟨by decide +kernel, (fun _ h => nomatch h), fun _ h => nomatch h⟩

theorem rows_reads {h : Heap} {led : List (Addr × Obj)} {us : List Value} {rows : List (Str × Bool × Str)} (hR : RowsIn led us rows) (hs : ∀ p ∈ led, h.get? p.1 = some p.2) : ∃ as, ReadsAll h us (rows.map rowD) as := by
  induction hR with
  | nil => exact ⟨[], .nil⟩
  | @cons p l a r t1 t2 vs rows hm _ ih =>
    obtain ⟨as, ih⟩ := ih
    exact ⟨_, .cons (.tuple (hs _ hm) rfl rfl (.cons (.str l t1) (.cons (.bool r) (.cons (.str a t2) .nil)))) ih⟩
theorem items_reads {h : Heap} {led led2 : List (Addr × Obj)} {us : List Value} {kvs : List (Str × Value)} {tab : List (Str × Int × Int)} (hI : ItemsIn led kvs us) (hT : TabIn led2 kvs tab) (hs : ∀ p ∈ led, h.get? p.1 = some p.2) (hs2 : ∀ p ∈ led2, h.get? p.1 = some p.2) : ∃ as, ReadsAll h us (tab.map itemD) as := by
  induction hI generalizing tab with
  | nil => cases hT; exact ⟨[], .nil⟩
  | @cons k v p t kvs us hm _ ih =>
    cases hT with
    | @cons _ q c u t1 t2 _ tab hq hT =>
      obtain ⟨as, ih⟩ := ih hT
      exact ⟨_, .cons (.tuple (hs _ hm) rfl rfl (.cons (.str k t) (.cons (.tuple (hs2 _ hq) rfl rfl (.cons (.int c t1) (.cons (.int u t2) .nil))) .nil))) ih⟩

section
variable {prog : Program} {w : World} {A : Around} {E : Value → Shared → Prop} {s : Shared} {Q : Value → Shared → Prop} {h₀ : Heap} {L : Addr} {news : List (Addr × Obj)}
theorem ne_rows {a b : Addr} {us us' : List Value} {k k' : Nat} {ns : List Int} {led led' : List (Addr × Obj)} (N : News h₀ L s.heap news) (m1 : (a, listOf (List.toArray us) k) ∈ news) (m2 : (b, listOf (List.toArray us') k') ∈ news)
    (h1 : RowsIn led us (lrun ns).rows) (h2 : RowsIn led' us' (lrun ns).rows) (s1 : ∀ x ∈ led, x ∈ news) (s2 : ∀ x ∈ led', x ∈ news) (hu : A.units + 64 < cLine) (h : Q (.bool false) s) : wpAny (model prog w) A (compareOp .NotEq (.ref a) (.ref b)) Q E s := by
  obtain ⟨as, r1⟩ := rows_reads (h := s.heap) h1 fun p hp => (N p (s1 p hp)).1
  obtain ⟨bs, r2⟩ := rows_reads (h := s.heap) h2 fun p hp => (N p (s2 p hp)).1
  obtain ⟨l1, l2⟩ := rows_lay (lall ns).rows
  exact ne_self (d := .list ((lrun ns).rows.map rowD)) (.list (N _ m1).1 rfl rfl r1) (.list (N _ m2).1 rfl rfl r2) (by simp only [PyData.canLay0]; exact l1) (by simp only [PyData.depth]; omega) hu h
theorem ne_items {a b : Addr} {us us' : List Value} {k k' : Nat} {ns : List Int} {led led2 led' led2' : List (Addr × Obj)} {kvs kvs' : List (Str × Value)} (N : News h₀ L s.heap news) (m1 : (a, listOf (List.toArray us) k) ∈ news) (m2 : (b, listOf (List.toArray us') k') ∈ news)
    (h1 : ItemsIn led kvs us) (h1' : TabIn led2 kvs (lrun ns).tab) (h2 : ItemsIn led' kvs' us') (h2' : TabIn led2' kvs' (lrun ns).tab) (s1 : ∀ x ∈ led, x ∈ news) (s2 : ∀ x ∈ led2, x ∈ news) (s3 : ∀ x ∈ led', x ∈ news) (s4 : ∀ x ∈ led2', x ∈ news) (hu : A.units + 64 < cLine) (h : Q (.bool false) s) : wpAny (model prog w) A (compareOp .NotEq (.ref a) (.ref b)) Q E s := by
  obtain ⟨as, r1⟩ := items_reads (h := s.heap) h1 h1' (fun p hp => (N p (s1 p hp)).1) (fun p hp => (N p (s2 p hp)).1)
  obtain ⟨bs, r2⟩ := items_reads (h := s.heap) h2 h2' (fun p hp => (N p (s3 p hp)).1) (fun p hp => (N p (s4 p hp)).1)
  obtain ⟨l1, l2⟩ := items_lay (lall ns).tab
  exact ne_self (d := .list ((lrun ns).tab.map itemD)) (.list (N _ m1).1 rfl rfl r1) (.list (N _ m2).1 rfl rfl r2) (by simp only [PyData.canLay0]; exact l1) (by simp only [PyData.depth]; omega) hu h
theorem ne_nil {a b : Addr} {us us' : List Value} {k k' : Nat} (N : News h₀ L s.heap news) (m1 : (a, listOf (List.toArray us) k) ∈ news) (m2 : (b, listOf us'.toArray k') ∈ news) (e1 : us = []) (e2 : us' = []) (hu : A.units + 64 < cLine) (h : Q (.bool false) s) : wpAny (model prog w) A (compareOp .NotEq (.ref a) (.ref b)) Q E s := by
  subst e1 e2
  exact ne_self (d := .list []) (.list (N _ m1).1 rfl rfl .nil) (.list (N _ m2).1 rfl rfl .nil) rfl (by decide) hu h
theorem ne_pair {a b : Addr} {x1 x2 y1 y2 : Int} {t1 t2 t3 t4 : Tok} (N : News h₀ L s.heap news) (m1 : (a, tupO [.int x1 t1, .int x2 t2]) ∈ news) (m2 : (b, tupO [.int y1 t3, .int y2 t4]) ∈ news) (e1 : x1 = y1) (e2 : x2 = y2) (hu : A.units + 64 < cLine) (h : Q (.bool false) s) : wpAny (model prog w) A (compareOp .NotEq (.ref a) (.ref b)) Q E s := by
  subst e1 e2
  exact ne_self (d := .tuple [.int x1, .int x2]) (.tuple (N _ m1).1 rfl rfl (.cons (.int _ _) (.cons (.int _ _) .nil))) (.tuple (N _ m2).1 rfl rfl (.cons (.int _ _) (.cons (.int _ _) .nil))) rfl (by simp only [PyData.depth, PyData.depthAll]; omega) hu h
end
end T35
section T36
open PyProof.Rows.LCg (NsObj ns_obj lst lst_snoc Off3)
theorem RowsIn.at {led : List (Addr × Obj)} {us : List Value} {rows : List (Str × Bool × Str)} (h : RowsIn led us rows) : ∀ {i : Nat} {v : Value}, us[i]? = some v → ∃ p l r a t1 t2, v = .ref p ∧ rows[i]? = some (l, r, a) ∧ (p, tupO [.str l t1, .bool r, .str a t2]) ∈ led := by
  induction h with
  | nil => intro i v e; simp at e
  | @cons p l a r t1 t2 vs rows hm _ ih =>
    intro i v e
    cases i with
    | zero => rw [List.getElem?_cons_zero] at e; cases e; exact ⟨p, l, r, a, t1, t2, rfl, rfl, hm⟩
    | succ i => rw [List.getElem?_cons_succ] at e; rw [List.getElem?_cons_succ]; exact ih e

section
variable {prog : Program} {w : World} {A : Around} {E : Value → Shared → Prop} {env : Env} {g : Heap} {L : Addr} {m : Str → Option Value} {s₁ : Shared}

noncomputable abbrev CFin (g : Heap) (L : Addr) (m : Str → Option Value) (nx : List (Addr × Obj)) (I : Addr) (oI : Obj) (C : Addr) (oC : Obj) (D : Addr) (ys : List Value) (P : Prop) (s₁ s₂ : Shared) : Prop := CEnd g L m I oI C oC D ys (fun nx' => nx' = nx ∧ P) s₁ s₂

theorem CSrc.rows {elt : Expr} {ifs : List Expr} {x1 x2 x3 : Str} {p1 p2 p3 pt : Pos} {kt : Nat} {scope : Scope} {cl : List (Str × Addr)} {Q : Value → Shared → Prop} {ax : Addr} {us : List Value} {k : Nat} {rows : List (Str × Bool × Str)} {nx led : List (Addr × Obj)} (J : Nat → List Value → Prop)
    (hh : A.handled = none) (hkind : scope.kind = .function) (h1 : scope.names.lookup x1 = some .local) (h2 : scope.names.lookup x2 = some .local) (h3 : scope.names.lookup x3 = some .local) (h12 : x1 ≠ x2) (h13 : x1 ≠ x3) (h23 : x2 ≠ x3)
    (F : Fr g L s₁.heap m) (N : News g L s₁.heap nx) (hm : (ax, listOf (List.toArray us) k) ∈ nx) (hR : RowsIn led us rows) (hs : ∀ p ∈ led, p ∈ nx) (hlen : rows.length ≤ 1000) (h0 : J 0 []) (hJl : ∀ i ys, J i ys → ys.length ≤ i)
    (turn : ∀ (i : Nat) l r a t1 t2 ys C oC I oI D m₃ h tk E', rows[i]? = some (l, r, a) → J i ys → NsObj oC m₃ → m₃ x1 = some (.str l t1) → m₃ x2 = some (.bool r) → m₃ x3 = some (.str a t2) → Fr g L h m → News g L h ((I, oI) :: (C, oC) :: (D, lst ys) :: nx) → (∀ p ∈ nx, p.1 ≠ I ∧ p.1 ≠ C ∧ p.1 ≠ D) → ((@Ne Nat I C) ∧ (@Ne Nat I D) ∧ (@Ne Nat C D)) →
      wpAny (model prog w) A (forIn ifs true fun c r => if r = true then do let ok ← isTrue c (compEnvC scope cl C env) (eval c (compEnvC scope cl C env)); pure (ForInStep.yield ok) else pure (ForInStep.yield r)) (fun ok s₃ =>
        if ok = true then wpAny (model prog w) A (eval elt (compEnvC scope cl C env)) (fun y s₄ => CFin g L m nx I oI C oC D ys (J (i + 1) (ys ++ [y])) { s₁ with heap := h, toks := tk } s₄) E' s₃
        else CFin g L m nx I oI C oC D ys (J (i + 1) ys) { s₁ with heap := h, toks := tk } s₃) E' { s₁ with heap := h, toks := tk })
    (done : ∀ D ys h tk, J rows.length ys → Fr g L h m → News g L h ((D, lst ys) :: nx) → (∀ p ∈ nx, p.1 ≠ D) → Q (.ref D) { s₁ with heap := h, toks := tk }) :
    CSrc prog w A g L m env scope cl (.Tuple [.Name x1 p1, .Name x2 p2, .Name x3 p3] kt pt) ifs elt Q (.ref ax) s₁ := by
  have hul := hR.length
  refine ⟨ax, us, k, nx, nx, J, fun i m₃ => ∃ l r a t1 t2, rows[i]? = some (l, r, a) ∧ m₃ x1 = some (.str l t1) ∧ m₃ x2 = some (.bool r) ∧ m₃ x3 = some (.str a t2), rfl, hh, by rw [sizeLine_eq]; omega, F, N, hm, fun _ h => h, h0, hJl, ?_, ?_, ?_, ?_⟩
  · intro I i v s Q E hv hit hQ
    obtain ⟨p, l, r, a, t1, t2, rfl, _⟩ := hR.at hv
    exact wpAny_letOwnedTupleGo_listiter hit hQ
  · intro i v C m₂ s Q E' hv hsup hn hQ
    obtain ⟨p, l, r, a, t1, t2, rfl, hr, hp⟩ := hR.at hv
    exact assign_three hh hkind h1 h2 h3 h12 h13 h23 ⟨_, hsup _ (hs _ hp), rfl, _, rfl⟩ hn fun h' tk m₃ hn' ⟨e1, e2, e3⟩ hk => hQ h' tk m₃ hn' ⟨l, r, a, t1, t2, hr, e1, e2, e3⟩ hk
  · rintro i ys C oC I oI D m₃ h tk E' hi hJ hNC ⟨l, r, a, t1, t2, hr, e1, e2, e3⟩ F' N' off hne
    exact turn i l r a t1 t2 ys C oC I oI D m₃ h tk E' hr hJ hNC e1 e2 e3 F' N' off hne
  · intro D ys h tk hJ F' N' off
    exact done D ys h tk (by rw [← hul]; exact hJ) F' N' off

noncomputable def lens (rows : List (Str × Bool × Str)) : List Int := rows.map fun r => ((r.1.length : Nat) : Int)
theorem ints_snoc {ys : List Value} {ns : List Int} (h : IntsAre ys ns) (n : Int) (t : Tok) : IntsAre (ys ++ [.int n t]) (ns ++ [n]) := by
  induction h with
  | nil => exact .cons n t .nil
  | cons a u _ ih => exact .cons a u ih
theorem lens_snoc {rows : List (Str × Bool × Str)} {i : Nat} {l a : Str} {r : Bool} {ys : List Value} (hr : rows[i]? = some (l, r, a)) (h : IntsAre ys (lens (rows.take i))) (t : Tok) : IntsAre (ys ++ [.int ((l.length : Nat) : Int) t]) (lens (rows.take (i + 1))) := by
  have e : rows.take (i + 1) = rows.take i ++ [(l, r, a)] := by simp [List.take_add_one, hr]
  rw [e]
  unfold lens
  rw [List.map_append]
  exact ints_snoc h _ t
theorem count_true {rows : List (Str × Bool × Str)} {i : Nat} {l a : Str} {ys : List Value} {y : Value} (hr : rows[i]? = some (l, true, a)) (h : (ys.length : Int) = refSum (rows.take i)) : ((ys ++ [y]).length : Int) = refSum (rows.take (i + 1)) := by
  have e : rows.take (i + 1) = rows.take i ++ [(l, true, a)] := by simp [List.take_add_one, hr]
  rw [e, refSum_snoc, ← h, List.length_append, List.length_singleton]
  simp only [if_true]
  omega
theorem count_false {rows : List (Str × Bool × Str)} {i : Nat} {l a : Str} {ys : List Value} (hr : rows[i]? = some (l, false, a)) (h : (ys.length : Int) = refSum (rows.take i)) : (ys.length : Int) = refSum (rows.take (i + 1)) := by
  have e : rows.take (i + 1) = rows.take i ++ [(l, false, a)] := by simp [List.take_add_one, hr]
  rw [e, refSum_snoc, ← h]
  simp
theorem CSrc.lens {elt : Expr} {x1 x2 x3 : Str} {p1 p2 p3 pt : Pos} {kt : Nat} {scope : Scope} {cl : List (Str × Addr)} {Q : Value → Shared → Prop} {ax : Addr} {us : List Value} {k : Nat} {rows : List (Str × Bool × Str)} {nx led : List (Addr × Obj)}
    (hh : A.handled = none) (hkind : scope.kind = .function) (h1 : scope.names.lookup x1 = some .local) (h2 : scope.names.lookup x2 = some .local) (h3 : scope.names.lookup x3 = some .local) (h12 : x1 ≠ x2) (h13 : x1 ≠ x3) (h23 : x2 ≠ x3)
    (F : Fr g L s₁.heap m) (N : News g L s₁.heap nx) (hm : (ax, listOf (List.toArray us) k) ∈ nx) (hR : RowsIn led us rows) (hs : ∀ p ∈ led, p ∈ nx) (hlen : rows.length ≤ 1000)
    (turn : ∀ (i : Nat) l r a t1 t2 ys C oC I oI D m₃ h tk E', rows[i]? = some (l, r, a) → IntsAre ys (Mine.lens (rows.take i)) → NsObj oC m₃ → m₃ x1 = some (.str l t1) → m₃ x2 = some (.bool r) → m₃ x3 = some (.str a t2) → Fr g L h m → News g L h ((I, oI) :: (C, oC) :: (D, lst ys) :: nx) → (∀ p ∈ nx, p.1 ≠ I ∧ p.1 ≠ C ∧ p.1 ≠ D) → ((@Ne Nat I C) ∧ (@Ne Nat I D) ∧ (@Ne Nat C D)) →
      wpAny (model prog w) A (eval elt (compEnvC scope cl C env)) (fun y s₄ => CFin g L m nx I oI C oC D ys (IntsAre (ys ++ [y]) (Mine.lens (rows.take (i + 1)))) { s₁ with heap := h, toks := tk } s₄) E' { s₁ with heap := h, toks := tk })
    (done : ∀ D ys h tk, IntsAre ys (Mine.lens rows) → Fr g L h m → News g L h ((D, lst ys) :: nx) → (∀ p ∈ nx, p.1 ≠ D) → Q (.ref D) { s₁ with heap := h, toks := tk }) :
    CSrc prog w A g L m env scope cl (.Tuple [.Name x1 p1, .Name x2 p2, .Name x3 p3] kt pt) [] elt Q (.ref ax) s₁ := by
  refine CSrc.rows (rows := rows) (fun i ys => IntsAre ys (Mine.lens (rows.take i))) hh hkind h1 h2 h3 h12 h13 h23 F N hm hR hs hlen .nil (fun i ys h => ?_) ?_ ?_
  · have := h.length
    unfold Mine.lens at this
    rw [List.length_map, List.length_take] at this
    omega
  · intro i l r a t1 t2 ys C oC I oI D m₃ h tk E' hr hJ hNC e1 e2 e3 F' N' off hne
    refine wpAny_tests_nil ?_
    simp only [if_true]
    exact turn i l r a t1 t2 ys C oC I oI D m₃ h tk E' hr hJ hNC e1 e2 e3 F' N' off hne
  · intro D ys h tk hJ F' N' off
    rw [List.take_length] at hJ
    exact done D ys h tk hJ F' N' off
theorem CSrc.count {elt ct : Expr} {x1 x2 x3 : Str} {p1 p2 p3 pt : Pos} {kt : Nat} {scope : Scope} {cl : List (Str × Addr)} {Q : Value → Shared → Prop} {ax : Addr} {us : List Value} {k : Nat} {rows : List (Str × Bool × Str)} {nx led : List (Addr × Obj)}
    (hh : A.handled = none) (hkind : scope.kind = .function) (h1 : scope.names.lookup x1 = some .local) (h2 : scope.names.lookup x2 = some .local) (h3 : scope.names.lookup x3 = some .local) (h12 : x1 ≠ x2) (h13 : x1 ≠ x3) (h23 : x2 ≠ x3)
    (F : Fr g L s₁.heap m) (N : News g L s₁.heap nx) (hm : (ax, listOf (List.toArray us) k) ∈ nx) (hR : RowsIn led us rows) (hs : ∀ p ∈ led, p ∈ nx) (hlen : rows.length ≤ 1000)
    (turnT : ∀ (i : Nat) l a t1 t2 ys C oC I oI D m₃ h tk E', rows[i]? = some (l, true, a) → (ys.length : Int) = refSum (rows.take i) → NsObj oC m₃ → m₃ x1 = some (.str l t1) → m₃ x2 = some (.bool true) → m₃ x3 = some (.str a t2) → Fr g L h m → News g L h ((I, oI) :: (C, oC) :: (D, lst ys) :: nx) → (∀ p ∈ nx, p.1 ≠ I ∧ p.1 ≠ C ∧ p.1 ≠ D) → ((@Ne Nat I C) ∧ (@Ne Nat I D) ∧ (@Ne Nat C D)) →
      wpAny (model prog w) A (isTrue ct (compEnvC scope cl C env) (eval ct (compEnvC scope cl C env))) (fun ok s₃ =>
        if ok = true then wpAny (model prog w) A (eval elt (compEnvC scope cl C env)) (fun y s₄ => CFin g L m nx I oI C oC D ys (((ys ++ [y]).length : Int) = refSum (rows.take (i + 1))) { s₁ with heap := h, toks := tk } s₄) E' s₃
        else CFin g L m nx I oI C oC D ys ((ys.length : Int) = refSum (rows.take (i + 1))) { s₁ with heap := h, toks := tk } s₃) E' { s₁ with heap := h, toks := tk })
    (turnF : ∀ (i : Nat) l a t1 t2 ys C oC I oI D m₃ h tk E', rows[i]? = some (l, false, a) → (ys.length : Int) = refSum (rows.take i) → NsObj oC m₃ → m₃ x1 = some (.str l t1) → m₃ x2 = some (.bool false) → m₃ x3 = some (.str a t2) → Fr g L h m → News g L h ((I, oI) :: (C, oC) :: (D, lst ys) :: nx) → (∀ p ∈ nx, p.1 ≠ I ∧ p.1 ≠ C ∧ p.1 ≠ D) → ((@Ne Nat I C) ∧ (@Ne Nat I D) ∧ (@Ne Nat C D)) →
      wpAny (model prog w) A (isTrue ct (compEnvC scope cl C env) (eval ct (compEnvC scope cl C env))) (fun ok s₃ =>
        if ok = true then wpAny (model prog w) A (eval elt (compEnvC scope cl C env)) (fun y s₄ => CFin g L m nx I oI C oC D ys (((ys ++ [y]).length : Int) = refSum (rows.take (i + 1))) { s₁ with heap := h, toks := tk } s₄) E' s₃
        else CFin g L m nx I oI C oC D ys ((ys.length : Int) = refSum (rows.take (i + 1))) { s₁ with heap := h, toks := tk } s₃) E' { s₁ with heap := h, toks := tk })
    (done : ∀ D ys h tk, (ys.length : Int) = refSum rows → ys.length ≤ 1000 → Fr g L h m → News g L h ((D, lst ys) :: nx) → (∀ p ∈ nx, p.1 ≠ D) → Q (.ref D) { s₁ with heap := h, toks := tk }) :
    CSrc prog w A g L m env scope cl (.Tuple [.Name x1 p1, .Name x2 p2, .Name x3 p3] kt pt) [ct] elt Q (.ref ax) s₁ := by
  have hle : ∀ rows : List (Str × Bool × Str), refSum rows ≤ rows.length := by
    intro rows
    induction rows with
    | nil => exact Int.le_refl _
    | cons r rs ih =>
      unfold refSum at ih ⊢
      rw [List.map_cons, List.sum_cons, List.length_cons]
      have : (if r.2.1 = true then (1 : Int) else 0) ≤ 1 := by split <;> decide
      omega
  refine CSrc.rows (rows := rows) (fun i ys => (ys.length : Int) = refSum (rows.take i)) hh hkind h1 h2 h3 h12 h13 h23 F N hm hR hs hlen rfl (fun i ys h => ?_) ?_ ?_
  · have := hle (rows.take i)
    rw [List.length_take] at this
    omega
  · intro i l r a t1 t2 ys C oC I oI D m₃ h tk E' hr hJ hNC e1 e2 e3 F' N' off hne
    refine wpAny_tests_one ?_
    cases r with
    | true => exact turnT i l a t1 t2 ys C oC I oI D m₃ h tk E' hr hJ hNC e1 e2 e3 F' N' off hne
    | false => exact turnF i l a t1 t2 ys C oC I oI D m₃ h tk E' hr hJ hNC e1 e2 e3 F' N' off hne
  · intro D ys h tk hJ F' N' off
    rw [List.take_length] at hJ
    have := hle rows
    exact done D ys h tk hJ (by omega) F' N' off
theorem CSrc.one {elt : Expr} {ifs : List Expr} {x : Str} {px : Pos} {scope : Scope} {cl : List (Str × Addr)} {Q : Value → Shared → Prop} {ax : Addr} {vs : List Value} {k : Nat} {nx : List (Addr × Obj)} (J : Nat → List Value → Prop)
    (hh : A.handled = none) (hkind : scope.kind = .function) (hx : scope.names.lookup x = some .local)
    (F : Fr g L s₁.heap m) (N : News g L s₁.heap nx) (hm : (ax, listOf (List.toArray vs) k) ∈ nx) (hlen : vs.length ≤ 1000) (h0 : J 0 []) (hJl : ∀ i ys, J i ys → ys.length ≤ i)
    (turn : ∀ (i : Nat) v ys C oC I oI D m₃ h tk E', vs[i]? = some v → J i ys → NsObj oC m₃ → m₃ x = some v → Fr g L h m → News g L h ((I, oI) :: (C, oC) :: (D, lst ys) :: nx) → (∀ p ∈ nx, p.1 ≠ I ∧ p.1 ≠ C ∧ p.1 ≠ D) → ((@Ne Nat I C) ∧ (@Ne Nat I D) ∧ (@Ne Nat C D)) →
      wpAny (model prog w) A (forIn ifs true fun c r => if r = true then do let ok ← isTrue c (compEnvC scope cl C env) (eval c (compEnvC scope cl C env)); pure (ForInStep.yield ok) else pure (ForInStep.yield r)) (fun ok s₃ =>
        if ok = true then wpAny (model prog w) A (eval elt (compEnvC scope cl C env)) (fun y s₄ => CFin g L m nx I oI C oC D ys (J (i + 1) (ys ++ [y])) { s₁ with heap := h, toks := tk } s₄) E' s₃
        else CFin g L m nx I oI C oC D ys (J (i + 1) ys) { s₁ with heap := h, toks := tk } s₃) E' { s₁ with heap := h, toks := tk })
    (done : ∀ D ys h tk, J vs.length ys → Fr g L h m → News g L h ((D, lst ys) :: nx) → (∀ p ∈ nx, p.1 ≠ D) → Q (.ref D) { s₁ with heap := h, toks := tk }) :
    CSrc prog w A g L m env scope cl (.Name x px) ifs elt Q (.ref ax) s₁ := by
  refine ⟨ax, vs, k, nx, nx, J, fun i m₃ => ∃ v, vs[i]? = some v ∧ m₃ x = some v, rfl, hh, by rw [sizeLine_eq]; omega, F, N, hm, fun _ h => h, h0, hJl, ?_, ?_, ?_, done⟩
  · intro I i v s Q E hv hit hQ
    exact go_name hQ
  · intro i v C m₂ s Q E' hv hsup hn hQ
    exact assign_one hkind hx hn fun h' tk m₃ hn' e hk => hQ h' tk m₃ hn' ⟨v, hv, e⟩ hk
  · rintro i ys C oC I oI D m₃ h tk E' hi hJ hNC ⟨v, hv, e⟩ F' N' off hne
    exact turn i v ys C oC I oI D m₃ h tk E' hv hJ hNC e F' N' off hne
end

end T36
section T37
open PyProof.Rows.LCg (NsObj ns_obj lst lst_snoc Off3)
noncomputable def takenOf (ns : List Int) : List Int := (ns.take 4).map (fun k => Int.fmod k 1000000) ++ [4, 5, 48, 54, 297]
theorem intsTaken {ws : List Value} {ns : List Int} (h : IntsAre ws ((ns.take 4).map (fun k => Int.fmod k 1000000) ++ [4, 5, 48, 54, 297])) : IntsAre ws (takenOf ns) := h
theorem taken_bounds (ns : List Int) : ∀ y ∈ takenOf ns, 0 ≤ y ∧ y < 1000000 := by
  intro y hy
  rcases List.mem_append.mp hy with hy | hy
  · obtain ⟨k, _, rfl⟩ := List.mem_map.mp hy
    exact ⟨Int.fmod_nonneg_of_pos _ (by decide), Int.fmod_lt_of_pos _ (by decide)⟩
  · exact (by decide : ∀ y ∈ ([4, 5, 48, 54, 297] : List Int), 0 ≤ y ∧ y < 1000000) y hy
theorem taken_len (ns : List Int) : (takenOf ns).length ≤ 20 := by
  unfold takenOf
  rw [List.length_append, List.length_map, List.length_take]
  simp only [List.length_cons, List.length_nil]
  omega
example : True := by
  k_with "call ref" => (
(k_here; (with_reducible show wpAny _ _ (call (Value.ref 120) [Value.ref _]) _ _ _); k_dflt (apply ledger_use; (case hA => exact rfl); (case hf => exact rfl); (case hk => exact rfl); (case F => k_asm); (case B => k_asm); (case X => k_asm); (case N => k_asm); (case T => k_asm); (case hh => exact rfl); (case hg => exact rfl); (case hdp => exact Nat.le_of_ble_eq_true rfl); (case hu => exact Nat.le_of_ble_eq_true rfl); (case hl => k_mem); (case hi => k_asm); (case hn => exact taken_bounds _); (case hlen => exact taken_len _); k_whole; intro led' r' a' b' us' vs' k' c' kvs' h' tk' F' N' hR' hT' hI' f1' f2' f3' f4'; (try dsimp only [List.cons_append, List.nil_append] at N'); (try dsimp only [List.map_cons, List.map_nil] at f4'); (replace f1' := allNe_of f1'; replace f2' := allNe_of f2'; replace f3' := allNe_of f3'); (try k_sweep)))
    )
  k_with "call ref" => (
(k_here; (with_reducible show wpAny _ _ (call (Value.ref 127) [Value.ref _]) _ _ _); k_dflt (apply report_use; (case hA => exact rfl); (case hf => exact rfl); (case hk => exact rfl); (case F => k_asm); (case B => k_asm); (case X => k_asm); (case N => k_asm); (case T => k_asm); (case hh => exact rfl); (case hg => exact rfl); (case hdp => exact Nat.le_of_ble_eq_true rfl); (case hu => exact Nat.le_of_ble_eq_true rfl); (case XB => k_asm); (case TB => k_asm); (case D => k_asm); (case U => k_updF); (case hps => k_asm); (case hl => k_mem); (case hi => k_asm); (case hn => exact taken_bounds _); (case hlen => exact taken_len _); k_whole; intro r' a' tt' dt' us' k' u1' u2' u3' u4' od' kvs' ps' tl' g' h' tk' gs' TT' F' N' B' X' T' D' htr' hG' f1' f2' f3' f4' f5' hR' hd' hT' hlo'; (try dsimp only at N'); (try dsimp only [List.cons_append, List.nil_append] at N'); (try dsimp only [List.map_cons, List.map_nil] at f5'); (replace f1' := allNe_of f1'; replace f2' := allNe_of f2'; replace f3' := allNe_of f3'; replace f4' := allNe_of f4'); (try k_sweep)))
    )
  trivial
theorem taken_tab {ns : List Int} {led : List (Addr × Obj)} {kvs : List (Str × Value)} (h : TabIn led kvs (lrun (takenOf ns)).tab) : kvs.length ≤ 20 := by
  have h1 := (lok_run _ (taken_bounds ns)).tab
  have h2 := taken_len ns
  have h3 := h.length
  omega
theorem taken_rows (ns : List Int) : (lrun (takenOf ns)).rows.length ≤ 1000 := by
  have h1 := (lok_run _ (taken_bounds ns)).rows
  have h2 := taken_len ns
  omega
theorem rows_short : ∀ (ns : List Int), (∀ y ∈ ns, 0 ≤ y ∧ y < 1000000) → ∀ r ∈ (lrun ns).rows, r.1.length ≤ 43 + 40 * ns.length := by
  have key : ∀ (ns : List Int) (q : LSt) (n : Nat), LOk q n → (∀ r ∈ q.rows, r.1.length ≤ 43 + 40 * n) → (∀ y ∈ ns, 0 ≤ y ∧ y < 1000000) → ∀ r ∈ (ns.foldl lstep q).rows, r.1.length ≤ 43 + 40 * (n + ns.length) := by
    intro ns
    induction ns with
    | nil => intro q n _ h _; exact h
    | cons y r ih =>
      intro q n hq h hy
      have hy0 := hy y (.head _)
      have := ih (lstep q y) (n + 1) (lok_step hq hy0.1 hy0.2) (fun x hx => ?_) (fun z hz => hy z (.tail _ hz))
      · rw [List.foldl_cons, List.length_cons]
        have e : n + (r.length + 1) = n + 1 + r.length := by omega
        rw [e]; exact this
      · rcases List.mem_append.mp hx with hx | hx
        · have := h x hx
          omega
        · rw [List.mem_singleton.mp hx]
          have a1 := lineText_len hy0.1 hy0.2 q.ahead
          have a2 := hq.ahead
          show (lineText y q.ahead).length ≤ _
          omega
  intro ns hy
  have := key ns ⟨[], Str.ofString "row", []⟩ 0 ⟨by decide +kernel, by decide +kernel, Nat.le_refl _, rfl⟩ (fun _ h => nomatch h) hy
  rw [Nat.zero_add] at this
  exact this
theorem taken_short {ns : List Int} {i : Nat} {l a : Str} {r : Bool} (h : (lrun (takenOf ns)).rows[i]? = some (l, r, a)) : ¬ (l.length : Int) ≥ 2 ^ 63 := by
  have h1 := rows_short _ (taken_bounds ns) _ (List.mem_of_getElem? h)
  have h2 := taken_len ns
  have h3 : l.length ≤ 843 := by
    have : l.length ≤ 43 + 40 * (takenOf ns).length := h1
    omega
  omega
theorem len_lst {prog : Program} {w : World} {A : Around} {E : Value → Shared → Prop} {s : Shared} {h₀ : Heap} {L D : Addr} {news : List (Addr × Obj)} {ys : List Value} {Q : Value → Shared → Prop} (N : News h₀ L s.heap news) (hm : (D, lst ys) ∈ news) (hl : ys.length ≤ 1000)
    (h : Q (.int (ys.length : Int) (s.toks + 1)) { s with toks := s.toks + 1 + 1 }) : wpAny (model prog w) A (call (.builtin "len") [.ref D]) Q E s := by
  refine Calls.call_len_list (items := ys.toArray) ⟨_, (N _ hm).1, rfl, _, rfl⟩ (by rw [List.size_toArray]; omega) ?_
  rw [List.size_toArray]; exact h
theorem list_items2 {prog : Program} {w : World} {A : Around} {E : Value → Shared → Prop} {s : Shared} {h₀ : Heap} {L d v : Addr} {m : Str → Option Value} {news : List (Addr × Obj)} {o : Obj} {kvs : List (Str × Value)} {Q : Value → Shared → Prop}
    (hh : A.handled = none) (F : Fr h₀ L s.heap m) (N : News h₀ L s.heap news) (hvw : (v, { cls := .type "dict_items", data := .fields #[.ref d] }) ∈ news) (hmd : (d, o) ∈ news) (hod : o.IsDictOf (strKind prog w) kvs) (hn : kvs.length ≤ sizeLine)
    (h : ∀ B us c tl h' tk, Fr h₀ L h' m → News h₀ L h' ((B, listOf (List.toArray us) c) :: (news ++ tl)) → ItemsIn tl kvs us → (∀ q ∈ news, q.1 < B) → OwnOff tl (news.map (·.1)) → Q (.ref B) { s with heap := h', toks := tk }) :
    wpAny (model prog w) A (call (.type "list") [.ref v]) Q E s :=
  list_items hh F N hvw hmd hod hn fun B us c tl h' tk F' N' hI l1 l2 => h B us c tl h' tk F' (fun p hp => by
    rcases List.mem_cons.mp hp with rfl | hp
    · exact N' _ (.head _)
    · exact N' p (.tail _ ((List.mem_append.mp hp).elim (fun h => List.mem_append_right _ h) fun h => List.mem_append_left _ h))) hI l1 (fun p hp b hb => by
    obtain ⟨q, hq, rfl⟩ := List.mem_map.mp hb
    exact Nat.ne_of_gt (Nat.lt_trans (l1 q hq) (l2 p hp)))
noncomputable def Stuck (P : Prop) : Prop := P
theorem stuck {P : Prop} (h : Stuck P) : P := h
example : True := by
  k_with "pair_eq" => (
first | rfl | exact Eq.symm (by with_reducible assumption) | (rw [List.length_append]; rfl) | (have hq := IntsAre.length (by assumption); omega)
    )
  k_with "cend_fin" => (
first | with_reducible assumption | exact lens_snoc (by with_reducible assumption) (by with_reducible assumption) _ | exact count_true (by with_reducible assumption) (by with_reducible assumption) | exact count_false (by with_reducible assumption) (by with_reducible assumption)
    )
  k_with "in_led" => (
(intro x9 hx9; simp only [List.mem_cons, List.mem_append, hx9, true_or, or_true])
    )
  k_with "eval ListComp" => (
(k_here; (with_reducible rename RowsIn _ _ _ => hRm); k_dflt (apply ListComp_own; (case _F => k_asm); (case hclos => with_unfolding_all rfl); (case hcell => decide); (case hkind => rfl); (case hnames => decide); (case hs => intro _; rfl)))
    )
  k_with "subscriptTail Name Slice ref ref" => (
(k_here; (with_reducible show wpAny _ _ (subscriptTail _ (PySem.Expr.Slice _ _ none _) (Value.ref _) (Value.ref _)) _ _ _); (with_reducible rename RowsIn _ _ _ => hRm); k_dflt (
  apply tup_slice (zs := #[Value.int _ _, Value.int _ _]); (case F => k_asm); (case N => k_asm); (case ht => exact News.isTup (by k_asm) (by k_mem)); (case pl => kmk_part); (case pu => kmk_part); (case e1 => rfl); (case e2 => rfl); (case hno => rfl); (case e3 => rfl); (case hz => kmk_size); (case hs => with_unfolding_all rfl); (case hg => kmk_pure); intro D' h' F' N' l1; (try k_lt l1); (try k_sweep)))
    )
  k_with "call type:list" => (
(k_here; (with_reducible show wpAny _ _ (call (Value.type _) [Value.ref _]) _ _ _); k_dflt (apply list_items2; (case hh => exact rfl); (case F => k_asm); (case N => k_asm); (case hvw => k_mem); (case hmd => k_mem); (case hod => k_asm); (case hn => exact Nat.le_trans (taken_tab (by with_reducible assumption)) (by rw [sizeLine_eq]; decide))); intro B' us' c' tl' h' tk' F' N' hI' l1 f9'; (try dsimp only [List.cons_append, List.nil_append] at N'); (try dsimp only [List.map_cons, List.map_nil, List.map_append, List.cons_append, List.nil_append] at f9'); (try k_lt l1); (try k_sweep))
    )
  k_with "call builtin:len" => (
(k_here; (with_reducible show wpAny _ _ (call (Value.builtin _) [Value.str _ _]) _ _ _); (refine PySem.P.len_str (taken_short (by with_reducible assumption)) ?_))
    )
  k_with "call builtin:len" => (
(k_here; (with_reducible show wpAny _ _ (call (Value.builtin _) [Value.ref _]) _ _ _); (apply len_lst; (case N => k_asm); (case hm => k_mem); (case hl => with_reducible assumption)))
    )
  k_with "CEnd" => (
(refine ⟨_, _, _, rfl, by k_asm, by k_asm, by with_reducible assumption, rfl, ?_⟩; walk_at "cend_fin")
    )
  k_with "CSrc" => (
(
  first
  | ((show CSrc _ _ _ _ _ _ _ _ _ _ [Expr.BoolOp _ _ _] _ _ _ _); k_dflt (apply CSrc.rows (rows := (lrun _).rows) (fun _ ys => ys = []) rfl; (case h0 => exact rfl); (case hkind => rfl); (case h1 => rfl); (case h2 => rfl); (case h3 => rfl); (case h12 => decide); (case h13 => decide); (case h23 => decide); (case F => k_asm); (case N => k_asm); (case hm => k_mem); (case hR => k_asm); (case hs => walk_at "in_led"); (case hlen => exact taken_rows _); (case hJl => (intro i ys h; rw [h]; exact Nat.zero_le _)));
     all_goals first
       | (intro i l r a t1 t2 ys C oC I oI D m₃ h tk E' hr hJ hNC e1 e2 e3 F' N' off hne; refine wpAny_tests_one ?_; (cases r))
       | (intro D ys h tk hJ F' N' off; replace off := allNe_of off))
  | ((show CSrc _ _ _ _ _ _ _ _ _ _ [] _ _ _ _); k_dflt (apply CSrc.lens (rows := (lrun _).rows) rfl; (case hkind => rfl); (case h1 => rfl); (case h2 => rfl); (case h3 => rfl); (case h12 => decide); (case h13 => decide); (case h23 => decide); (case F => k_asm); (case N => k_asm); (case hm => k_mem); (case hR => k_asm); (case hs => walk_at "in_led"); (case hlen => exact taken_rows _)));
     all_goals first
       | (intro i l r a t1 t2 ys C oC I oI D m₃ h tk E' hr hJ hNC e1 e2 e3 F' N' off hne)
       | (intro D ys h tk hJ F' N' off; replace off := allNe_of off)
  | ((show CSrc _ _ _ _ _ _ _ _ _ _ [Expr.Name _ _] _ _ _ _); k_dflt (apply CSrc.count (rows := (lrun _).rows) rfl; (case hkind => rfl); (case h1 => rfl); (case h2 => rfl); (case h3 => rfl); (case h12 => decide); (case h13 => decide); (case h23 => decide); (case F => k_asm); (case N => k_asm); (case hm => k_mem); (case hR => k_asm); (case hs => walk_at "in_led"); (case hlen => exact taken_rows _)));
     all_goals first
       | (intro i l a t1 t2 ys C oC I oI D m₃ h tk E' hr hJ hNC e1 e2 e3 F' N' off hne)
       | (intro D ys h tk hJ hJ2 F' N' off; replace off := allNe_of off))
    )
  k_with "compareOp NotEq ref ref" => (
(k_here; (with_reducible show wpAny _ _ (compareOp CmpOp.NotEq (Value.ref _) (Value.ref _)) _ _ _); k_dflt (first
  | (apply ne_rows; (case N => k_asm); (case m1 => k_mem); (case m2 => k_mem); (case h1 => k_asm); (case h2 => k_asm); (case s1 => walk_at "in_led"); (case s2 => walk_at "in_led"); (case hu => ke_room))
  | (apply ne_nil; (case N => k_asm); (case m1 => k_mem); (case m2 => k_mem); (case e1 => k_asm); (case e2 => rfl); (case hu => ke_room))
  | (apply ne_pair; (case N => k_asm); (case m1 => k_mem); (case m2 => k_mem); (case e1 => walk_at "pair_eq"); (case e2 => walk_at "pair_eq"); (case hu => ke_room))
  | (apply ne_items; (case N => k_asm); (case m1 => k_mem); (case m2 => k_mem); (case h1 => k_asm); (case h1' => k_asm); (case h2 => k_asm); (case h2' => k_asm); (case s1 => walk_at "in_led"); (case s2 => walk_at "in_led"); (case s3 => walk_at "in_led"); (case s4 => walk_at "in_led"); (case hu => ke_room))
  | (trace "NEFAIL"; refine stuck ?_)))
    )
  trivial
section
variable {prog : Program} {w : World} {A : Around} {E : Value → Shared → Prop} {s : Shared} {env : Env}
noncomputable def IntOnly (s : Shared) (v : Value) (s₁ : Shared) : Prop := ∃ d t tk, v = .int d t ∧ s₁ = { s with toks := tk }
theorem if_any {test body orelse : Expr} {pos : Pos} {Q : Value → Shared → Prop} (h1 : ∀ s : Shared, wpAny (model prog w) A (eval body env) (IntOnly s) E s) (h2 : ∀ s : Shared, wpAny (model prog w) A (eval orelse env) (IntOnly s) E s)
    (h : wpAny (model prog w) A (isTrue test env (eval test env)) (fun _ s₁ => ∀ d t tk, Q (.int d t) { s₁ with toks := tk }) E s) :
    wpAny (model prog w) A (eval (.IfExp test body orelse pos) env) Q E s := by
  refine wpAny_IfExp (wpAny_mono h (fun b s₁ hb => ?_) fun _ _ x => x)
  cases b
  · exact wpAny_mono (h2 s₁) (fun v s₂ ⟨d, t, tk, e1, e2⟩ => by subst e1; subst e2; exact hb d t tk) fun _ _ x => x
  · exact wpAny_mono (h1 s₁) (fun v s₂ ⟨d, t, tk, e1, e2⟩ => by subst e1; subst e2; exact hb d t tk) fun _ _ x => x
end
example : True := by
  k_with "IntOnly" => (
exact ⟨_, _, _, rfl, rfl⟩
    )
  k_with "eval IfExp" => (
(k_here; (with_reducible rename RowsIn _ _ _ => hRm); (refine if_any ?_ ?_ ?_); (all_goals (try intro s9)))
    )
  trivial
end T37
section T38
noncomputable def stmtsOf : FuncBody → List Stmt
  | .stmts b => b
  | _ => []
theorem fd_eq {x : Option Obj} {a a' c c' : _} {b b' : Option Addr} {f f' : FuncData} (h1 : x = some ⟨a, b, .func f, c⟩) (h2 : x = some ⟨a', b', .func f', c'⟩) : f = f' := by
  rw [h1] at h2; cases h2; rfl
theorem fd_go {K : Frag} {f : Addr} {oc oc' : Value} {od od' : Option Addr} {osl osl' : Array (Option Value)} {fd : FuncData} {P : FuncData → Prop} {name qual : Str} {params : Arguments} {body : List Stmt} {scope : Scope} {dV kV doc pm cdv ct : Value} {an : Option Addr}
    (h1 : K.lookup f = some ⟨oc', od', .func fd, osl'⟩) (h2 : K.lookup f = some ⟨oc, od, .func (fnOf name qual params body scope dV kV doc pm an cdv ct), osl⟩) (h : P (fnOf name qual params body scope dV kV doc pm an cdv ct)) : P fd := fd_eq h1 h2 ▸ h
theorem sub9 {g : Heap} {L : Addr} {h : Heap} {l l' : List (Addr × Obj)} (N : News g L h l) (hs : ∀ p ∈ l', p ∈ l) : News g L h l' := fun p hp => N p (hs p hp)
end T38
section T39
open PyProof.Rows.LCg (NsObj ns_obj lst lst_snoc Off3)
example : True := by
  w_top off
  trivial
theorem fill26 : PySem.Challenge.rw_pe0125_01 = PySem.Challenge.rw_pe0125_01 ∧ hd.heap_39 = hd.heap_39 := by
  k_fill
  exact ⟨rfl, rfl⟩
example : True := by
  k_with "execs cons" => (
(k_here; (with_reducible show wpAny _ _ (execs [Stmt.Assign _ _ _, Stmt.Assign _ _ _, Stmt.Assign _ _ _, Stmt.For _ _ _ _ _, Stmt.Return _ _] _) _ _ _); (with_reducible rename KtsTurn _ _ _ => hKK9); refine stuck ?_)
    )
  trivial
noncomputable def Trim (_n : Nat) : Prop := True
theorem trim_y (n : Nat) : Trim n := True.intro
example : True := by
  k_with "execs cons" => (
(k_here; (with_reducible show wpAny _ _ (execs [Stmt.Assign _ _ _, Stmt.Assign _ _ _, Stmt.Assign _ _ _, Stmt.If _ _ _ _, Stmt.If _ _ _ _, Stmt.If _ _ _ _, Stmt.Assign _ _ _, Stmt.Assign _ _ _, Stmt.Assign _ _ _, Stmt.For _ _ _ _ _, Stmt.Return _ _] _) _ _ _); (fail_if_success (with_reducible rename Trim 1 => hT9)); (with_reducible rename News _ _ _ _ => N9); (have N8 := trim1 N9); clear N9; (with_reducible rename IntsAre _ (_ ++ _) => hI9); (have hI7 := intsTaken hI9); clear hI9; (have hL7 := taken_len ns); (have hL6 := hI7.length); (have hT9 := trim_y 1); walk_at "execs cons")
    )
  k_with "execs cons" => (
(k_here; (with_reducible show wpAny _ _ (execs [Stmt.If _ _ _ _, Stmt.If _ _ _ _, Stmt.If _ _ _ _, Stmt.Assign _ _ _, Stmt.Assign _ _ _, Stmt.Assign _ _ _, Stmt.For _ _ _ _ _, Stmt.Return _ _] _) _ _ _); (fail_if_success (with_reducible rename Trim 2 => hT9)); (with_reducible rename News _ _ _ _ => N9); (have N8 := trim2 N9); clear N9; (have hT9 := trim_y 2); walk_at "execs cons")
    )
  k_with "execs cons" => (
(k_here; (with_reducible show wpAny _ _ (execs [Stmt.If _ _ _ _, Stmt.If _ _ _ _, Stmt.Assign _ _ _, Stmt.Assign _ _ _, Stmt.Assign _ _ _, Stmt.For _ _ _ _ _, Stmt.Return _ _] _) _ _ _); (fail_if_success (with_reducible rename Trim 3 => hT9)); (with_reducible rename News _ _ _ _ => N9); (have N8 := trim3 N9); clear N9; (have hT9 := trim_y 3); walk_at "execs cons")
    )
  k_with "execs cons" => (
(k_here; (with_reducible show wpAny _ _ (execs [Stmt.If _ _ _ _, Stmt.Assign _ _ _, Stmt.Assign _ _ _, Stmt.Assign _ _ _, Stmt.For _ _ _ _ _, Stmt.Return _ _] _) _ _ _); (fail_if_success (with_reducible rename Trim 4 => hT9)); (with_reducible rename News _ _ _ _ => N9); (have N8 := trim4 N9); clear N9; (have hT9 := trim_y 4); walk_at "execs cons")
    )
  trivial
theorem trim1 {g : Heap} {L : Addr} {h : Heap} {a0 a1 a2 a3 a4 a5 a6 a7 : Addr × Obj} {r : List (Addr × Obj)} (N : News g L h (a0 :: a1 :: a2 :: a3 :: a4 :: a5 :: a6 :: a7 :: r)) : News g L h (a0 :: a4 :: a5 :: a6 :: a7 :: []) :=
  sub9 N (List.forall_mem_cons.mpr ⟨.head _, List.forall_mem_cons.mpr ⟨.tail _ (.tail _ (.tail _ (.tail _ (.head _)))), List.forall_mem_cons.mpr ⟨.tail _ (.tail _ (.tail _ (.tail _ (.tail _ (.head _))))), List.forall_mem_cons.mpr ⟨.tail _ (.tail _ (.tail _ (.tail _ (.tail _ (.tail _ (.head _)))))), List.forall_mem_cons.mpr ⟨.tail _ (.tail _ (.tail _ (.tail _ (.tail _ (.tail _ (.tail _ (.head _))))))), List.forall_mem_nil _⟩⟩⟩⟩⟩)
theorem trim2 {g : Heap} {L : Addr} {h : Heap} {a0 a1 a2 a3 a4 a5 a6 a7 a8 a9 a10 a11 : Addr × Obj} {r : List (Addr × Obj)} (N : News g L h (a0 :: a1 :: a2 :: a3 :: a4 :: a5 :: a6 :: a7 :: a8 :: a9 :: a10 :: a11 :: r)) : News g L h (a1 :: a2 :: a3 :: a5 :: a6 :: a7 :: a8 :: a9 :: a10 :: a11 :: r) :=
  sub9 N (List.forall_mem_cons.mpr ⟨.tail _ (.head _), List.forall_mem_cons.mpr ⟨.tail _ (.tail _ (.head _)), List.forall_mem_cons.mpr ⟨.tail _ (.tail _ (.tail _ (.head _))), List.forall_mem_cons.mpr ⟨.tail _ (.tail _ (.tail _ (.tail _ (.tail _ (.head _))))), List.forall_mem_cons.mpr ⟨.tail _ (.tail _ (.tail _ (.tail _ (.tail _ (.tail _ (.head _)))))), List.forall_mem_cons.mpr ⟨.tail _ (.tail _ (.tail _ (.tail _ (.tail _ (.tail _ (.tail _ (.head _))))))), List.forall_mem_cons.mpr ⟨.tail _ (.tail _ (.tail _ (.tail _ (.tail _ (.tail _ (.tail _ (.tail _ (.head _)))))))), List.forall_mem_cons.mpr ⟨.tail _ (.tail _ (.tail _ (.tail _ (.tail _ (.tail _ (.tail _ (.tail _ (.tail _ (.head _))))))))), List.forall_mem_cons.mpr ⟨.tail _ (.tail _ (.tail _ (.tail _ (.tail _ (.tail _ (.tail _ (.tail _ (.tail _ (.tail _ (.head _)))))))))), List.forall_mem_cons.mpr ⟨.tail _ (.tail _ (.tail _ (.tail _ (.tail _ (.tail _ (.tail _ (.tail _ (.tail _ (.tail _ (.tail _ (.head _))))))))))), fun p hp => .tail _ (.tail _ (.tail _ (.tail _ (.tail _ (.tail _ (.tail _ (.tail _ (.tail _ (.tail _ (.tail _ (.tail _ (hp))))))))))))⟩⟩⟩⟩⟩⟩⟩⟩⟩⟩)
theorem trim3 {g : Heap} {L : Addr} {h : Heap} {a0 a1 a2 a3 a4 a5 a6 a7 a8 a9 a10 a11 : Addr × Obj} {r : List (Addr × Obj)} (N : News g L h (a0 :: a1 :: a2 :: a3 :: a4 :: a5 :: a6 :: a7 :: a8 :: a9 :: a10 :: a11 :: r)) : News g L h (a2 :: a3 :: a4 :: a5 :: a6 :: a7 :: a8 :: a9 :: a10 :: a11 :: r) :=
  sub9 N (List.forall_mem_cons.mpr ⟨.tail _ (.tail _ (.head _)), List.forall_mem_cons.mpr ⟨.tail _ (.tail _ (.tail _ (.head _))), List.forall_mem_cons.mpr ⟨.tail _ (.tail _ (.tail _ (.tail _ (.head _)))), List.forall_mem_cons.mpr ⟨.tail _ (.tail _ (.tail _ (.tail _ (.tail _ (.head _))))), List.forall_mem_cons.mpr ⟨.tail _ (.tail _ (.tail _ (.tail _ (.tail _ (.tail _ (.head _)))))), List.forall_mem_cons.mpr ⟨.tail _ (.tail _ (.tail _ (.tail _ (.tail _ (.tail _ (.tail _ (.head _))))))), List.forall_mem_cons.mpr ⟨.tail _ (.tail _ (.tail _ (.tail _ (.tail _ (.tail _ (.tail _ (.tail _ (.head _)))))))), List.forall_mem_cons.mpr ⟨.tail _ (.tail _ (.tail _ (.tail _ (.tail _ (.tail _ (.tail _ (.tail _ (.tail _ (.head _))))))))), List.forall_mem_cons.mpr ⟨.tail _ (.tail _ (.tail _ (.tail _ (.tail _ (.tail _ (.tail _ (.tail _ (.tail _ (.tail _ (.head _)))))))))), List.forall_mem_cons.mpr ⟨.tail _ (.tail _ (.tail _ (.tail _ (.tail _ (.tail _ (.tail _ (.tail _ (.tail _ (.tail _ (.tail _ (.head _))))))))))), fun p hp => .tail _ (.tail _ (.tail _ (.tail _ (.tail _ (.tail _ (.tail _ (.tail _ (.tail _ (.tail _ (.tail _ (.tail _ (hp))))))))))))⟩⟩⟩⟩⟩⟩⟩⟩⟩⟩)
theorem trim4 {g : Heap} {L : Addr} {h : Heap} {a0 a1 a2 a3 a4 a5 a6 a7 a8 a9 a10 a11 a12 a13 : Addr × Obj} {r r2 : List (Addr × Obj)} (N : News g L h (a0 :: a1 :: a2 :: a3 :: a4 :: a5 :: a6 :: a7 :: a8 :: a9 :: a10 :: a11 :: a12 :: a13 :: (r ++ r2))) : News g L h (a4 :: a5 :: a6 :: a7 :: a8 :: a9 :: a10 :: a11 :: a12 :: a13 :: r) :=
  sub9 N (List.forall_mem_cons.mpr ⟨.tail _ (.tail _ (.tail _ (.tail _ (.head _)))), List.forall_mem_cons.mpr ⟨.tail _ (.tail _ (.tail _ (.tail _ (.tail _ (.head _))))), List.forall_mem_cons.mpr ⟨.tail _ (.tail _ (.tail _ (.tail _ (.tail _ (.tail _ (.head _)))))), List.forall_mem_cons.mpr ⟨.tail _ (.tail _ (.tail _ (.tail _ (.tail _ (.tail _ (.tail _ (.head _))))))), List.forall_mem_cons.mpr ⟨.tail _ (.tail _ (.tail _ (.tail _ (.tail _ (.tail _ (.tail _ (.tail _ (.head _)))))))), List.forall_mem_cons.mpr ⟨.tail _ (.tail _ (.tail _ (.tail _ (.tail _ (.tail _ (.tail _ (.tail _ (.tail _ (.head _))))))))), List.forall_mem_cons.mpr ⟨.tail _ (.tail _ (.tail _ (.tail _ (.tail _ (.tail _ (.tail _ (.tail _ (.tail _ (.tail _ (.head _)))))))))), List.forall_mem_cons.mpr ⟨.tail _ (.tail _ (.tail _ (.tail _ (.tail _ (.tail _ (.tail _ (.tail _ (.tail _ (.tail _ (.tail _ (.head _))))))))))), List.forall_mem_cons.mpr ⟨.tail _ (.tail _ (.tail _ (.tail _ (.tail _ (.tail _ (.tail _ (.tail _ (.tail _ (.tail _ (.tail _ (.tail _ (.head _)))))))))))), List.forall_mem_cons.mpr ⟨.tail _ (.tail _ (.tail _ (.tail _ (.tail _ (.tail _ (.tail _ (.tail _ (.tail _ (.tail _ (.tail _ (.tail _ (.tail _ (.head _))))))))))))), fun p hp => .tail _ (.tail _ (.tail _ (.tail _ (.tail _ (.tail _ (.tail _ (.tail _ (.tail _ (.tail _ (.tail _ (.tail _ (.tail _ (.tail _ (List.mem_append_left _ hp))))))))))))))⟩⟩⟩⟩⟩⟩⟩⟩⟩⟩)
theorem trim5 {g : Heap} {L : Addr} {h : Heap} {a0 a1 a2 a3 a4 a5 a6 a7 a8 a9 a10 a11 a12 a13 : Addr × Obj} {r r2 : List (Addr × Obj)} (N : News g L h (a0 :: a1 :: a2 :: a3 :: a4 :: a5 :: a6 :: a7 :: a8 :: a9 :: a10 :: a11 :: a12 :: a13 :: (r ++ r2))) : News g L h (a5 :: a6 :: a9 :: a10 :: a11 :: a12 :: a13 :: r2) :=
  sub9 N (List.forall_mem_cons.mpr ⟨.tail _ (.tail _ (.tail _ (.tail _ (.tail _ (.head _))))), List.forall_mem_cons.mpr ⟨.tail _ (.tail _ (.tail _ (.tail _ (.tail _ (.tail _ (.head _)))))), List.forall_mem_cons.mpr ⟨.tail _ (.tail _ (.tail _ (.tail _ (.tail _ (.tail _ (.tail _ (.tail _ (.tail _ (.head _))))))))), List.forall_mem_cons.mpr ⟨.tail _ (.tail _ (.tail _ (.tail _ (.tail _ (.tail _ (.tail _ (.tail _ (.tail _ (.tail _ (.head _)))))))))), List.forall_mem_cons.mpr ⟨.tail _ (.tail _ (.tail _ (.tail _ (.tail _ (.tail _ (.tail _ (.tail _ (.tail _ (.tail _ (.tail _ (.head _))))))))))), List.forall_mem_cons.mpr ⟨.tail _ (.tail _ (.tail _ (.tail _ (.tail _ (.tail _ (.tail _ (.tail _ (.tail _ (.tail _ (.tail _ (.tail _ (.head _)))))))))))), List.forall_mem_cons.mpr ⟨.tail _ (.tail _ (.tail _ (.tail _ (.tail _ (.tail _ (.tail _ (.tail _ (.tail _ (.tail _ (.tail _ (.tail _ (.tail _ (.head _))))))))))))), fun p hp => .tail _ (.tail _ (.tail _ (.tail _ (.tail _ (.tail _ (.tail _ (.tail _ (.tail _ (.tail _ (.tail _ (.tail _ (.tail _ (.tail _ (List.mem_append_right _ hp))))))))))))))⟩⟩⟩⟩⟩⟩⟩)
theorem pa_ne {L : Nat} (h : PA < L) : @Ne Nat PA (L + 1 + 1 + 1) ∧ @Ne Nat PA (L + 1 + 1) ∧ @Ne Nat PA (L + 1) := ⟨Nat.ne_of_lt (Nat.lt_succ_of_lt (Nat.lt_succ_of_lt (Nat.lt_succ_of_lt h))), Nat.ne_of_lt (Nat.lt_succ_of_lt (Nat.lt_succ_of_lt h)), Nat.ne_of_lt (Nat.lt_succ_of_lt h)⟩
section
variable {prog : Program} {w : World} {s : Shared} {mg mb : Str → Option Value} {mean : ExcName → Option Value} {tp : Program} {tl₀ : List Str}  {R : Result → Shared → Prop}
set_option maxHeartbeats 2000000 in
theorem law_first {fd : FuncData} {oc : Value} {od' : Option Addr} {osl : Array (Option Value)} (ho : (hd.heap_39 w.params).lookup 139 = some ⟨oc, od', .func fd, osl⟩)
    {g : Heap} (hg : g = hideAll s.heap ([((PA, tabObj #[]) : Addr × Obj)].map (·.1))) (hP : s.heap.get? PA = some (tabObj #[])) (X : (hd.heap_39 w.params).In g) (T : Top tp tl₀ mean mg mb g) {l : Addr} {vs : List Value} {ns : List Int} (hl : g.IsList l vs.toArray) (hi : IntsAre vs ns) (hlen : ns.length ≤ 63)
    (post : ∀ h₀' L' h' tk gs m' news' ps', KtsTurn [] g h₀' → Fr h₀' L' h' m' → News h₀' L' h' news' → (PA, tabObj ps') ∈ news' → (AllBare s.gens → AllBare gs) → R (.ok (.ret (.bool true))) { s with heap := h', toks := tk, gens := gs })
    (fin : (∀ {s : Shared} {base h₀ : Heap} {L : Addr} {mB : Str → Option Value} {E : Value → Shared → Prop} {tt dt tk a' b' a1 : Addr} {n1 n2 n3 n4 wh : Int} {u1 u2 u3 u4 tw : Tok} {od o1 o2 o3 : Obj} {v1 v2 v3 : Option Value} {ws : List Value} {ys : List Int} {ps : Array Value} {tl : List (Addr × Obj)} {kvs : List (Str × Value)} {tab : List (Str × Int × Int)}, (Below callerA base [] h₀) → ((hd.heap_39 w.params).In h₀) → (Top tp tl₀ mean mg mb h₀) → (KtsDicts (([] : List Env).filterMap (·.frame)) h₀) → (Fr h₀ L s.heap (fun y => if y = Str.ofString "total" then some (.ref tt) else if y = Str.ofString "lines" then some (.ref a') else if y = Str.ofString "ledger" then some (.ref b') else if y = Str.ofString "due" then some (.ref a1) else if y = Str.ofString "whole" then some (.int wh tw) else if y = Str.ofString "taken" then some (.ref tk) else mB y)) → (News h₀ L s.heap ((tt, tupO [.int n1 u1, .int n2 u2, .int n3 u3, .int n4 u4, .ref dt]) :: (dt, od) :: (tk, listOf (List.toArray ws) 0) :: (L + 1 + 1 + 1, o1) :: (L + 1 + 1, o2) :: (L + 1, o3) :: (PA, tabObj ps) :: tl)) → (o1.data = .cell v1) → (o2.data = .cell v2) → (o3.data = .cell v3) → (IntsAre ws ys) → (∀ y ∈ ys, 0 ≤ y ∧ y < 1000000) → (ys.length ≤ 20) → (od.IsDictOf (PySem.strKind prog w) kvs) → (TabIn tl kvs tab) → (kvs.length ≤ 20) → ((dt == sysModules) = false) → (@Ne Nat tt (L + 1 + 1 + 1) ∧ @Ne Nat tt (L + 1 + 1) ∧ @Ne Nat tt (L + 1) ∧ @Ne Nat dt (L + 1 + 1 + 1) ∧ @Ne Nat dt (L + 1 + 1) ∧ @Ne Nat dt (L + 1) ∧ @Ne Nat tk (L + 1 + 1 + 1) ∧ @Ne Nat tk (L + 1 + 1) ∧ @Ne Nat tk (L + 1) ∧ @Ne Nat PA (L + 1 + 1 + 1) ∧ @Ne Nat PA (L + 1 + 1) ∧ @Ne Nat PA (L + 1)) → (OwnOff tl [L + 1 + 1 + 1, L + 1 + 1, L + 1]) → (∀ h' tk m' news', Fr h₀ L h' m' → News h₀ L h' news' → (PA, tabObj ps) ∈ news' → R (.ok (.ret (.bool true))) { s with heap := h', toks := tk }) → wpAny (model prog w) (callerA.deeper (envOfC (Str.ofString "law") fd.scope L 139 fd.code)) (execs (List.drop 7 (stmtsOf fd.body)) (envOfC (Str.ofString "law") fd.scope L 139 fd.code)) (fun fl s' => R (.ok (.ret (match fl with | .ret v => v | _ => .none))) s') E s)) :
    codeAny (model prog w) callerA (.call (.ref 139) ⟨[.ref l], []⟩) R s := by
  revert fin
  refine' fd_go (P := fun fd => (∀ {s : Shared} {base h₀ : Heap} {L : Addr} {mB : Str → Option Value} {E : Value → Shared → Prop} {tt dt tk a' b' a1 : Addr} {n1 n2 n3 n4 wh : Int} {u1 u2 u3 u4 tw : Tok} {od o1 o2 o3 : Obj} {v1 v2 v3 : Option Value} {ws : List Value} {ys : List Int} {ps : Array Value} {tl : List (Addr × Obj)} {kvs : List (Str × Value)} {tab : List (Str × Int × Int)}, (Below callerA base [] h₀) → ((hd.heap_39 w.params).In h₀) → (Top tp tl₀ mean mg mb h₀) → (KtsDicts (([] : List Env).filterMap (·.frame)) h₀) → (Fr h₀ L s.heap (fun y => if y = Str.ofString "total" then some (.ref tt) else if y = Str.ofString "lines" then some (.ref a') else if y = Str.ofString "ledger" then some (.ref b') else if y = Str.ofString "due" then some (.ref a1) else if y = Str.ofString "whole" then some (.int wh tw) else if y = Str.ofString "taken" then some (.ref tk) else mB y)) → (News h₀ L s.heap ((tt, tupO [.int n1 u1, .int n2 u2, .int n3 u3, .int n4 u4, .ref dt]) :: (dt, od) :: (tk, listOf (List.toArray ws) 0) :: (L + 1 + 1 + 1, o1) :: (L + 1 + 1, o2) :: (L + 1, o3) :: (PA, tabObj ps) :: tl)) → (o1.data = .cell v1) → (o2.data = .cell v2) → (o3.data = .cell v3) → (IntsAre ws ys) → (∀ y ∈ ys, 0 ≤ y ∧ y < 1000000) → (ys.length ≤ 20) → (od.IsDictOf (PySem.strKind prog w) kvs) → (TabIn tl kvs tab) → (kvs.length ≤ 20) → ((dt == sysModules) = false) → (@Ne Nat tt (L + 1 + 1 + 1) ∧ @Ne Nat tt (L + 1 + 1) ∧ @Ne Nat tt (L + 1) ∧ @Ne Nat dt (L + 1 + 1 + 1) ∧ @Ne Nat dt (L + 1 + 1) ∧ @Ne Nat dt (L + 1) ∧ @Ne Nat tk (L + 1 + 1 + 1) ∧ @Ne Nat tk (L + 1 + 1) ∧ @Ne Nat tk (L + 1) ∧ @Ne Nat PA (L + 1 + 1 + 1) ∧ @Ne Nat PA (L + 1 + 1) ∧ @Ne Nat PA (L + 1)) → (OwnOff tl [L + 1 + 1 + 1, L + 1 + 1, L + 1]) → (∀ h' tk m' news', Fr h₀ L h' m' → News h₀ L h' news' → (PA, tabObj ps) ∈ news' → R (.ok (.ret (.bool true))) { s with heap := h', toks := tk }) → wpAny (model prog w) (callerA.deeper (envOfC (Str.ofString "law") fd.scope L 139 fd.code)) (execs (List.drop 7 (stmtsOf fd.body)) (envOfC (Str.ofString "law") fd.scope L 139 fd.code)) (fun fl s' => R (.ok (.ret (match fl with | .ret v => v | _ => .none))) s') E s) → codeAny (model prog w) callerA (.call (.ref 139) ⟨[.ref l], []⟩) R s) ho ?eZ17 ?_
  case eZ17 => k_is
  clear ho fd
  dsimp only [stmtsOf, List.drop]
  intro fin
  refine' enterTop (news := [(PA, tabObj #[])]) g hg (fun q hq => by rw [List.mem_singleton.mp hq]; exact hP) X T ?hoZ18 ?hcdZ18 ?hroomZ18 ?hbZ18 ?hkZ18 ?hnZ18 ?_ ?c1Z18 ?c2Z18 ?c3Z18
  case hoZ18 => k_is
  case hcdZ18 => k_is
  case hroomZ18 => k_room
  case hbZ18 => exact binds_zip rfl (by kernel_rfl)
  case hkZ18 => exact rfl
  case hnZ18 => decide +kernel
  case c1Z18 => exact rfl
  case c2Z18 => exact rfl
  case c3Z18 => exact rfl
  intro L' h' tk' cells' F' N' Y' l1 B' X' T' D'
  (try k_lt l1)
  have qP := pa_ne (show PA < L' ∧ True from l1).1
  have q1 := qP.1
  have q2 := qP.2.1
  have q3 := qP.2.2
  clear qP
  k_cells Y'
  (try dsimp only [List.cons_append, List.nil_append] at N')
  (try dsimp only)
  (try k_fold)
  have htr0 : TriplesOk (#[] : Array Value).toList := trivial
  walk_at "m steps"
  with_reducible show Stuck _
  unfold Stuck
  with_reducible rename KtsTurn _ _ _ => TT9
  with_reducible rename KtsDicts _ _ => D9
  with_reducible rename Below _ _ _ _ => B9
  with_reducible rename Fr _ _ _ _ => F9
  with_reducible rename News _ _ _ _ => N9
  with_reducible rename AllBare _ → AllBare _ => G9
  with_reducible rename TabIn _ _ _ => T9
  with_reducible rename Obj.IsDictOf _ _ _ => hd9
  refine' fin B9 (by with_reducible assumption) (by with_reducible assumption) D9 F9 (trim5 N9) ?c1Z19 ?c2Z19 ?c3Z19 ?iZ19 ?ysZ19 ?lenZ19 hd9 T9 (taken_tab T9) ?loZ19 ?n1Z19 ?n2Z19 ?postZ19
  case c1Z19 => with_reducible assumption
  case c2Z19 => with_reducible assumption
  case c3Z19 => with_reducible assumption
  case iZ19 => with_reducible assumption
  case ysZ19 => exact taken_bounds ns
  case lenZ19 => exact taken_len ns

  case loZ19 => with_reducible assumption
  case n1Z19 =>
    refine ⟨?_, ?_, ?_, ?_, ?_, ?_, ?_, ?_, ?_, ?_, ?_, ?_⟩
    all_goals k_ne
  case n2Z19 =>
    with_reducible rename OwnOff _ (List.map _ (_ :: _ :: _ :: _ :: (L' + 1 + 1 + 1, _) :: _)) => hoff9
    intro p9 hp9 b9 hb9
    rcases List.mem_cons.mp hb9 with rfl | hb9
    · exact hoff9 p9 hp9 _ (.tail _ (.tail _ (.tail _ (.tail _ (.head _)))))
    rcases List.mem_cons.mp hb9 with rfl | hb9
    · exact hoff9 p9 hp9 _ (.tail _ (.tail _ (.tail _ (.tail _ (.tail _ (.head _))))))
    rw [List.mem_singleton.mp hb9]
    exact hoff9 p9 hp9 _ (.tail _ (.tail _ (.tail _ (.tail _ (.tail _ (.tail _ (.head _)))))))
  case postZ19 => exact fun h9 tk9 m9 news9 F8 N8 hm => post _ _ h9 tk9 _ m9 news9 _ TT9 F8 N8 hm G9
end
end T39
section T40
open PyProof.Rows.LCg (NsObj ns_obj lst lst_snoc Off3)
section
variable {K : Type} [DecidableEq K] {prog : Program} {w : World} {knd : KeyKind prog w K} {A : Around} {E : Value → Shared → Prop} {env : Env} {g : Heap} {L : Addr} {m : Str → Option Value}

theorem Src.items {I d : Addr} {od : Obj} {kvs : List (K × Value)} {ep : Nat} {elts : List Expr} {kt : Nat} {pt : Pos} {sup : List (Addr × Obj)} (hh : A.handled = none) (hm : (d, od) ∈ sup) (hsI : ∀ p ∈ sup, p.1 ≠ I)
    (hat : ∀ h : Heap, h.get? d = some od → h.DictAt knd d kvs ep) :
    Src prog w A I kvs.length (.Tuple elts kt pt) sup (fun i h => (∃ ok ov, IsItemIter h I d i kvs.length ep ok ov) ∧ ∀ p ∈ sup, h.get? p.1 = some p.2)
      (fun i v h => (∃ T k key va, v = .ref T ∧ kvs[i]? = some (k, va) ∧ knd.is k key = true ∧ h.IsTuple T #[key, va]) ∧ ∀ p ∈ sup, h.get? p.1 = some p.2) where
  step := fun i s W Q E hi ⟨⟨ok, ov, hit⟩, hs⟩ hQ => by
    obtain ⟨⟨k, va⟩, hkv'⟩ : ∃ kv, kvs[i]? = some kv := ⟨kvs[i], by simp [hi]⟩
    refine wpAny_pyNext_items_item hit (hat _ (hs _ hm)) hkv' fun key h₁ hkey heo ht₁ hz₁ hk₁ => ?_
    have hiH : I < s.heap.objs.size := Heap.lt_size hit
    refine wpAny_letOwnedTupleGo_items heo fun h₂ he₂ hs₂ => ?_
    replace hs₂ : Heap.SameBut I h₁ h₂ := hs₂
    have ht₂ : h₂.IsTuple s.heap.objs.size #[key, va] := ⟨_, (hs₂.2 _ (Nat.ne_of_gt hiH)).trans ht₁, rfl, _, rfl⟩
    have up : ∀ b o, b ≠ I → s.heap.get? b = some o → h₂.get? b = some o := fun b o hb x => hs₂.extBut b o hb (hk₁ b o hb x)
    have hs' : ∀ p ∈ sup, h₂.get? p.1 = some p.2 := fun p hp => up _ _ (hsI p hp) (hs p hp)
    exact hQ _ h₂ ⟨⟨_, k, key, va, rfl, hkv', hkey, ht₂⟩, hs'⟩ ⟨⟨_, _, he₂⟩, hs'⟩ up
  stop := fun s Q E ⟨⟨ok, ov, hit⟩, hs⟩ hQ => wpAny_pyNext_items_end hh hit (hat _ (hs _ hm)) (by simp) fun h' hx => hQ h' fun b o hb e => hx b o hb e
  self := fun i s Q E ⟨⟨ok, ov, hit⟩, _⟩ hQ => kcp_self hit hQ
  live := fun i h ⟨⟨ok, ov, ho⟩, _⟩ => ⟨_, ho⟩
  keep := fun i h h' o ⟨⟨ok, ov, ho⟩, _⟩ e e' hs => ⟨⟨ok, ov, by
    have ho' : h.get? I = some _ := ho
    rw [e] at ho'
    cases ho'
    exact e'⟩, hs⟩
theorem assign_two {x1 x2 : Str} {p1 p2 pt : Pos} {kt : Nat} {scope : Scope} {cl : List (Str × Addr)} {v1 v2 : Value} {C T : Addr} {m₂ : Str → Option Value} {s : Shared} {Q : Unit → Shared → Prop} (hh : A.handled = none) (hkind : scope.kind = .function)
    (h1 : scope.names.lookup x1 = some .local) (h2 : scope.names.lookup x2 = some .local) (h12 : x1 ≠ x2) (hT : s.heap.IsTuple T #[v1, v2]) (hn : s.heap.Ns C m₂)
    (hQ : ∀ h' tk m₃, h'.Ns C m₃ → (m₃ x1 = some v1 ∧ m₃ x2 = some v2) → (∀ b o, b ≠ C → s.heap.get? b = some o → h'.get? b = some o) → Q () { s with heap := h', toks := tk }) :
    wpAny (model prog w) A (assign (.Tuple [.Name x1 p1, .Name x2 p2] kt pt) (compEnvC scope cl C env) (.ref T)) Q E s := by
  refine wpAny_assign_Tuple hh hT rfl rfl fun g₁ hx₁ => ?_
  have old : ∀ b o, s.heap.get? b = some o → g₁.get? b = some o := fun b o e => hx₁ b o (Nat.ne_of_lt (Heap.lt_size e)) e
  have hp : ((compEnvC scope cl C env).scope.kind == .class || ((compEnvC scope cl C env).scope.kind == .module && (compEnvC scope cl C env).locals != (compEnvC scope cl C env).globals)) = false := by simp [compEnvC, relabel, hkind]
  show wpAny _ _ (do holding [v2] (assign (.Name x1 p1) (compEnvC scope cl C env) v1); do holding [] (assign (.Name x2 p2) (compEnvC scope cl C env) v2); pure ()) _ _ _
  refine wpAny_bind (wpAny_holding (wpAny_assign_Name (wpAny_storeName_local (lookup_relabel_local h1) (hn.at' fun o e => old _ o e) (fun g₂ hn₂ hs₂ => ?_) hp)))
  refine wpAny_bind (wpAny_holding (wpAny_assign_Name (wpAny_storeName_local (lookup_relabel_local h2) hn₂ (fun g₃ hn₃ hs₃ => wpAny_pure ?_) hp)))
  exact hQ g₃ _ _ hn₃ ⟨by simp [h12], by simp⟩ fun b o hb e => hs₃.extBut b o hb (hs₂.extBut b o hb (old b o e))

inductive ISrc (prog : Program) (w : World) (A : Around) (g : Heap) (L : Addr) (m : Str → Option Value) (me : Addr → Str → Option Value) (env : Env) (scope : Scope) (cl : List (Str × Addr)) (xk xv : Str) (elt : Expr) (Q : Value → Shared → Prop) (xval : Value) (s₁ : Shared) : Prop
  | mk (v d : Addr) (od : Obj) (kvs : List (Str × Value)) (nx₀ : List (Addr × Obj)) (J : Nat → List Value → List (Addr × Obj) → Prop)
    (e : xval = .ref v)
    (hh : A.handled = none)
    (hsz : kvs.length ≤ sizeLine)
    (F : Fr g L s₁.heap m)
    (N : News g L s₁.heap nx₀)
    (hv : (v, { cls := .type "dict_items", data := .fields #[.ref d] }) ∈ nx₀)
    (hm : (d, od) ∈ nx₀)
    (hod : od.IsDictOf (strKind prog w) kvs)
    (h0 : J 0 [] nx₀)
    (hJl : (∀ i ys nx, J i ys nx → ys.length ≤ i ∧ (d, od) ∈ nx))
    (turn : (∀ i k t va ys nx C oC I oI D m₃ h tk E', kvs[i]? = some (k, va) → J i ys nx → NsObj oC m₃ → m₃ xk = some (.str k t) → m₃ xv = some va → Fr g L h m → News g L h ((I, oI) :: (C, oC) :: (D, lst ys) :: nx) → (∀ p ∈ nx, p.1 ≠ I ∧ p.1 ≠ C ∧ p.1 ≠ D) → ((@Ne Nat I C) ∧ (@Ne Nat I D) ∧ (@Ne Nat C D)) →
      wpAny (model prog w) A (eval elt (compEnvC scope cl C env)) (fun y s₄ => CEnd g L m I oI C oC D ys (J (i + 1) (ys ++ [y])) { s₁ with heap := h, toks := tk } s₄) E' { s₁ with heap := h, toks := tk }))
    (done : (∀ D ys nx h tk, J kvs.length ys nx → Fr g L h (me D) → News g L h ((D, lst ys) :: nx) → (∀ p ∈ nx, p.1 ≠ D) → Q (.ref D) { s₁ with heap := h, toks := tk }))
end
section
variable {prog : Program} {w : World} {A : Around} {E : Value → Shared → Prop} {env : Env} {g : Heap} {L : Addr} {m : Str → Option Value}
theorem Assign_items {elt iter : Expr} {xk xv y : Str} {pk pv pt py spos : Pos} {kt : Nat} {scope : Scope} {cl : List (Str × Addr)} {pos : Pos} {Q : Flow → Shared → Prop} {s : Shared} (_F : Fr g L s.heap m) (hL : env.locals = L)
    (hsw : swapsWith (.ListComp elt [⟨.Tuple [.Name xk pk, .Name xv pv] kt pt, iter, [], 0⟩] scope pos) (some (.Name y py)) spos.line env = pure true)
    (hy : env.kindOf y = some .local) (hp : (env.scope.kind == .class || (env.scope.kind == .module && env.locals != env.globals)) = false)
    (hclos : closureFor scope env = pure cl) (hcell : ∀ y ∈ scope.names, y.2 ≠ .cell) (hkind : scope.kind = .function) (hnames : ∀ y ∈ scope.names, y.2 = .local → scope.names.lookup y.1 = some .local)
    (h1 : scope.names.lookup xk = some .local) (h2 : scope.names.lookup xv = some .local) (h12 : xk ≠ xv)
    (h : wpAny (model prog w) A (eval iter env) (ISrc prog w A g L m (fun D z => if z = y then some (.ref D) else m z) env scope cl xk xv elt (fun _ => Q .next)) E s)
    (hs : ∀ x, foldedSetIterable iter env x = pure x := by intro _; rfl) :
    wpAny (model prog w) A (exec (.Assign [.Name y py] (.ListComp elt [⟨.Tuple [.Name xk pk, .Name xv pv] kt pt, iter, [], 0⟩] scope pos) spos) env) Q E s := by
  rw [exec_Assign_Name_used _ _ _ _ hsw]
  refine wpAny_bind (wpAny_standAt (wpAny_bind ?_))
  show wpAny _ A (do let _ ← comprehension (.ListComp elt [⟨.Tuple [.Name xk pk, .Name xv pv] kt pt, iter, [], 0⟩] scope pos) scope env _ (newList []) false (eval iter env) (some (assign (.Name y py) env))) _ _ s
  refine wpAny_bind (wpAny_mono (wpAny_comprehension_free (use := some (assign (.Name y py) env)) (Q := fun _ s' => Q .next s') rfl hs hclos hkind hnames
    (wpAny_mono h (fun xval s₁ h₁ => ?_) fun _ _ e => e)) (fun _ s' hq => wpAny_pure (wpAny_pure hq)) fun _ _ e => e)
  obtain ⟨v, d, od, kvs, nx, J, rfl, hh, hsz, F, N, hv, hm, hod, h0, hJl, turn, done⟩ := h₁
  obtain ⟨ep, hat⟩ := (Heap.dictOf_iff.mpr ⟨od, (N _ hm).1, hod⟩ : s₁.heap.DictOf (strKind prog w) d kvs).dictAt
  have atd : ∀ h : Heap, h.get? d = some od → h.DictAt (strKind prog w) d kvs ep := fun h e => hat.at' fun o e' => by
    rw [(N _ hm).1] at e'; cases e'; exact e
  refine wpAny_pyIter_items (knd := strKind prog w) (d := d) (kvs := kvs) (ep := ep) ⟨_, (N _ hv).1, rfl, rfl⟩ hat ?_
  have hIn : ∀ p ∈ nx, p.1 ≠ s₁.heap.objs.size := fun p hp => Nat.ne_of_lt (Heap.lt_size (N p hp).1)
  refine comp_block (RR := fun acc C => compPost (model prog w) A E (some (assign (.Name y py) env)) (fun _ s' => Q .next s') acc C) (TS := fun i m₃ => ∃ k t va, kvs[i]? = some (k, va) ∧ m₃ xk = some (.str k t) ∧ m₃ xv = some va) (nx₀ := nx) (J := J) (Src.items (knd := strKind prog w) (sup := [(d, od)]) hh (.head _) (fun p hp => by rw [List.mem_singleton.mp hp]; exact hIn _ hm) atd) hsz hcell hkind ?_
    ⟨⟨_, _, Heap.get?_push_size _ rfl⟩, fun p hp => by rw [List.mem_singleton.mp hp]; exact Heap.get?_push_of_some _ (N _ hm).1⟩ (F.push _) (fun p hp => ⟨Heap.get?_push_of_some _ (N p hp).1, (N p hp).2⟩) (Nat.ne_of_lt F.ns.lt) (next_is_new F) hIn h0
    (fun i ys nx' hj => ⟨(hJl i ys nx' hj).1, fun p hp => by rw [List.mem_singleton.mp hp]; exact (hJl i ys nx' hj).2⟩) ?_ ?_
  · rintro i v C m₂ s Q E' ⟨⟨T, k, key, va, rfl, hkv, hkey, hT⟩, _⟩ hn hQ
    obtain ⟨t, rfl⟩ := str_of_is hkey
    exact assign_two hh hkind h1 h2 h12 hT hn fun h' tk m₃ hn' ⟨e1, e2⟩ hk => hQ h' tk m₃ hn' ⟨k, t, va, hkv, e1, e2⟩ hk
  · rintro i ys nx' C oC oI D m₃ h tk E' hi hJ hNC ⟨k, t, va, hkv, e1, e2⟩ F' N' off hne
    refine wpAny_tests_nil ?_
    simp only [if_true]
    exact turn i k t va ys nx' C oC _ oI D m₃ h tk E' hkv hJ hNC e1 e2 F' N' off hne
  · rintro D C h tk m' ys nx' F' N' off hnC hC₀ hCL hCD hDL offC hJ
    show wpAny _ A (assign (.Name y py) env (.ref D)) _ _ _
    subst hL
    refine wpAny_assign_Name (wpAny_storeName_local hy F'.ns (fun h₂ hn₂ hs₂ => ?_) hp)
    have F₂ := F'.set hn₂ hs₂
    have N₂ := N'.set hs₂
    refine ⟨m', hnC.sameBut hs₂ (Ne.symm (Ne.symm hCL)), fun h'' hs'' => ?_⟩
    refine done D ys nx' h'' _ hJ (F₂.change hs'' hCL hC₀) (fun p hp => ⟨hs''.extBut _ _ ?_ (N₂ p hp).1, (N₂ p hp).2⟩) off
    rcases List.mem_cons.mp hp with rfl | hp
    · exact Ne.symm hCD
    · exact offC p hp
end
end T40
section T41
open PyProof.Rows.LCg (NsObj ns_obj lst lst_snoc Off3)
noncomputable def TrioIn (led : List (Addr × Obj)) (ys : List Value) : Prop := ∀ x ∈ ys, ∃ p c v k t1 t2 t3, x = .ref p ∧ (p, tupO [.int c t1, .int v t2, .str k t3]) ∈ led
theorem TrioIn.nil {led : List (Addr × Obj)} : TrioIn led [] := fun _ h => nomatch h
theorem TrioIn.snoc {led : List (Addr × Obj)} {ys : List Value} {p : Addr} {c v : Int} {k : Str} {t1 t2 t3 : Tok} (h : TrioIn led ys) : TrioIn ((p, tupO [.int c t1, .int v t2, .str k t3]) :: led) (ys ++ [.ref p]) := fun x hx => by
  rcases List.mem_append.mp hx with hx | hx
  · obtain ⟨p, c, v, k, t1, t2, t3, e, hm⟩ := h x hx
    exact ⟨p, c, v, k, t1, t2, t3, e, .tail _ hm⟩
  · exact ⟨p, c, v, k, t1, t2, t3, List.mem_singleton.mp hx, .head _⟩
theorem ownOff_nil {l : List Addr} : OwnOff [] l := fun _ h => nomatch h
inductive TEnd (g : Heap) (L : Addr) (m : Str → Option Value) (c v : Int) (k : Str) (old : List (Addr × Obj)) (s₁ : Shared) (y : Value) (s₂ : Shared) : Prop
  | mk (a : Addr) (t1 t2 t3 : Tok) (h' : Heap) (tk : Nat) (ey : y = .ref a) (e : s₂ = { s₁ with heap := h', toks := tk }) (F : Fr g L h' m) (N : News g L h' ((a, tupO [.int c t1, .int v t2, .str k t3]) :: old)) (hlt : ∀ p ∈ old, p.1 < a)
section
variable {prog : Program} {w : World} {A : Around} {E : Value → Shared → Prop} {env : Env} {g : Heap} {L : Addr} {m : Str → Option Value} {me : Addr → Str → Option Value} {s₁ : Shared}

theorem ISrc.tab {elt : Expr} {xk xv : Str} {scope : Scope} {cl : List (Str × Addr)} {Q : Value → Shared → Prop} {v d : Addr} {od : Obj} {kvs : List (Str × Value)} {tab : List (Str × Int × Int)} {nx₀ tl : List (Addr × Obj)}
    (hh : A.handled = none) (F : Fr g L s₁.heap m) (N : News g L s₁.heap nx₀) (hv : (v, { cls := .type "dict_items", data := .fields #[.ref d] }) ∈ nx₀) (hm : (d, od) ∈ nx₀) (hod : od.IsDictOf (PySem.strKind prog w) kvs) (hT : TabIn tl kvs tab) (hs : ∀ p ∈ tl, p ∈ nx₀) (hlen : kvs.length ≤ 20)
    (turn : ∀ k c v q t1 t2 t ys nx C oC I oI D m₃ h tk E', (q, tupO [.int c t1, .int v t2]) ∈ nx → NsObj oC m₃ → m₃ xk = some (.str k t) → m₃ xv = some (.ref q) → Fr g L h m → News g L h ((I, oI) :: (C, oC) :: (D, lst ys) :: nx) →
      wpAny (model prog w) A (eval elt (compEnvC scope cl C env)) (TEnd g L m c v k ((I, oI) :: (C, oC) :: (D, lst ys) :: nx) { s₁ with heap := h, toks := tk }) E' { s₁ with heap := h, toks := tk })
    (done : ∀ D ys tn h tk, TrioIn tn ys → ys.length ≤ 20 → OwnOff tn (nx₀.map (·.1)) → (∀ p ∈ nx₀, p.1 ≠ D) → (∀ p ∈ tn, p.1 ≠ D) → Fr g L h (me D) → News g L h ((D, lst ys) :: (nx₀ ++ tn)) → Q (.ref D) { s₁ with heap := h, toks := tk }) :
    ISrc prog w A g L m me env scope cl xk xv elt Q (.ref v) s₁ := by
  refine ⟨v, d, od, kvs, nx₀, fun i ys nx => ∃ tn, nx = tn ++ nx₀ ∧ TrioIn tn ys ∧ OwnOff tn (nx₀.map fun p => p.1) ∧ ys.length ≤ i, rfl, hh, by rw [sizeLine_eq]; omega, F, N, hv, hm, hod, ⟨[], rfl, TrioIn.nil, ownOff_nil, Nat.le_refl _⟩, ?_, ?_, ?_⟩
  · rintro i ys nx ⟨tn, rfl, _, _, hl⟩
    exact ⟨hl, List.mem_append_right _ hm⟩
  · rintro i k t va ys nx C oC I oI D m₃ h tk E' hkv ⟨tn, rfl, hTr, hoff, hl⟩ hNC e1 e2 F' N' off hne
    obtain ⟨q, c, v', t1, t2, rfl, hq⟩ := hT.at hkv
    refine wpAny_mono (turn k c v' q t1 t2 t ys (tn ++ nx₀) C oC I oI D m₃ h tk E' (List.mem_append_right _ (hs _ hq)) hNC e1 e2 F' N') (fun y s₄ hy => ?_) fun _ _ e => e
    obtain ⟨a, u1, u2, u3, h', tk', rfl, rfl, F₂, N₂, hlt⟩ := hy
    refine ⟨h', tk', (a, tupO [.int c u1, .int v' u2, .str k u3]) :: (tn ++ nx₀), rfl, F₂, fun p hp => ?_, fun p hp => ?_, (a, _) :: tn, rfl, hTr.snoc, fun p hp b hb => ?_, ?_⟩
    · refine N₂ p ?_
      rcases List.mem_cons.mp hp with rfl | hp
      · exact .tail _ (.head _)
      · rcases List.mem_cons.mp hp with rfl | hp
        · exact .tail _ (.tail _ (.head _))
        · rcases List.mem_cons.mp hp with rfl | hp
          · exact .tail _ (.tail _ (.tail _ (.head _)))
          · rcases List.mem_cons.mp hp with rfl | hp
            · exact .head _
            · exact .tail _ (.tail _ (.tail _ (.tail _ hp)))
    · rcases List.mem_cons.mp hp with rfl | hp
      · exact ⟨Ne.symm (Nat.ne_of_lt (hlt _ (.head _))), Ne.symm (Nat.ne_of_lt (hlt _ (.tail _ (.head _)))), Ne.symm (Nat.ne_of_lt (hlt _ (.tail _ (.tail _ (.head _)))))⟩
      · exact off p hp
    · rcases List.mem_cons.mp hp with rfl | hp
      · obtain ⟨z, hz, rfl⟩ := List.mem_map.mp hb
        exact Ne.symm (Nat.ne_of_lt (hlt z (.tail _ (.tail _ (.tail _ (List.mem_append_right _ hz))))))
      · exact hoff p hp b hb
    · rw [List.length_append, List.length_singleton]; omega
  · rintro D ys nx h tk ⟨tn, rfl, hTr, hoff, hl⟩ F' N' off
    refine done D ys tn h tk hTr (by omega) hoff (fun p hp => off p (List.mem_append_right _ hp)) (fun p hp => off p (List.mem_append_left _ hp)) F' fun p hp => ?_
    rcases List.mem_cons.mp hp with rfl | hp
    · exact N' _ (.head _)
    · exact N' p (.tail _ ((List.mem_append.mp hp).elim (fun h => List.mem_append_right _ h) fun h => List.mem_append_left _ h))
end
end T41
section T42
open PyProof.Rows.LCg (NsObj ns_obj lst lst_snoc Off3)
inductive CLPost (g : Heap) (L : Addr) (m : Str → Option Value) (led : List (Addr × Obj)) (s₁ : Shared) (f : Flow) (s₂ : Shared) : Prop
  | mk (hf : f = .next) (h' : Heap) (tk : Nat) (news' : List (Addr × Obj)) (e : s₂ = { s₁ with heap := h', toks := tk }) (F : Fr g L h' m) (N : News g L h' news') (hs : ∀ p ∈ led, p ∈ news')
inductive CLInv (g : Heap) (L I l c len : Nat) (m : Str → Option Value) (own rest : List (Addr × Obj)) (s : Shared) (k : Nat) (s' : Shared) : Prop
  | mk (i : Nat) (o' : Obj) (v' : Option Value) (h : Heap) (tk : Nat) (e : s' = { s with heap := h, toks := tk }) (hit : h.IsListIter I l i) (F : Fr g L h m) (N : News g L h (own ++ (c, o') :: rest)) (ho : o'.data = .cell v') (hi : i ≤ len) (hk : k = len + 1 - i)
section
variable {prog : Program} {w : World} {A : Around} {E : Value → Shared → Prop} {s : Shared} {env : Env} {g : Heap} {L : Addr} {x : Str} {px : Pos} {body : List Stmt} {Q : Flow → Shared → Prop} {l c : Addr} {vs : List Value} {k : Nat} {m : Str → Option Value} {news : List (Addr × Obj)} {oc : Obj} {v₀ : Option Value} {gl : Obj → List (Addr × Obj)}

theorem forListC (hh : A.handled = none) (hkind : env.scope.kind = .function) (hx : env.kindOf x = some .cell) (hc : env.cells.lookup x = some c)
    (F : Fr g L s.heap m) (N : News g L s.heap news) (hl : (l, listOf (List.toArray vs) k) ∈ news) (hlc : @Ne Nat l c) (U : UpdF c oc news gl) (hoc : oc.data = .cell v₀)
    (turn : ∀ v oc' It oIt h tk E', v ∈ vs → oc'.data = .cell (some v) → Fr g L h m → News g L h ((It, oIt) :: gl oc') → (∀ p ∈ gl oc', p.1 ≠ It) →
      wpAny (model prog w) A (execs body env) (CLPost g L m ((It, oIt) :: gl oc') { s with heap := h, toks := tk }) E' { s with heap := h, toks := tk })
    (done : ∀ oc' h tk v', oc'.data = .cell v' → Fr g L h m → News g L h (gl oc') → Q .next { s with heap := h, toks := tk }) :
    wpAny (model prog w) A (pyIter (.ref l)) (fun it s₂ => codeAny (model prog w) A (.forLoop (.Name x px) it body [] env) (fun r s' => match r with | .ok f => Q f s' | .error e => cameBackBy (model prog w) A env E e s') s₂) E s := by
  obtain ⟨own, rest, rfl, hgl, h1, h2⟩ := U.split
  have hgl' : gl = fun o' => own ++ (c, o') :: rest := funext hgl
  subst hgl'
  clear hgl U
  have inl : ∀ o', (l, listOf (List.toArray vs) k) ∈ own ++ (c, o') :: rest := fun o' => by
    rcases List.mem_append.mp hl with hl | hl
    · exact List.mem_append_left _ hl
    · rcases List.mem_cons.mp hl with e | hl
      · exact absurd (congrArg Prod.fst e) hlc
      · exact List.mem_append_right _ (.tail _ hl)
  have isl : ∀ {h : Heap} {o'}, News g L h (own ++ (c, o') :: rest) → h.IsList l vs.toArray := fun {h o'} N => ⟨_, (N _ (inl o')).1, rfl, _, rfl⟩
  refine wpAny_pyIter_list (isl N) ?_
  have hIL : s.heap.objs.size ≠ L := Nat.ne_of_gt F.ns.lt
  have hIg : g.get? s.heap.objs.size = none := next_is_new F
  have hgI : ∀ b o, g.get? b = some o → b ≠ s.heap.objs.size := fun b o e q => by rw [q, hIg] at e; cases e
  have off : ∀ p ∈ own ++ (c, oc) :: rest, p.1 ≠ s.heap.objs.size := fun p hp => Nat.ne_of_lt (Heap.lt_size (N p hp).1)
  have off' : ∀ o', ∀ p ∈ own ++ (c, o') :: rest, p.1 ≠ s.heap.objs.size := fun o' p hp => by
    rcases List.mem_append.mp hp with hp | hp
    · exact off p (List.mem_append_left _ hp)
    · rcases List.mem_cons.mp hp with rfl | hp
      · exact off (c, oc) (List.mem_append_right _ (.head _))
      · exact off p (List.mem_append_right _ (.tail _ hp))
  have hcI : s.heap.objs.size ≠ c := Ne.symm (off (c, oc) (List.mem_append_right _ (.head _)))
  refine codeAny_forLoop (CLInv g L s.heap.objs.size l c vs.length m own rest s) ?_ (vs.length + 1)
    ⟨0, oc, v₀, _, s.toks, rfl, ⟨_, Heap.get?_push_size _ rfl, rfl, rfl⟩, F.push _, fun p hp => ⟨Heap.get?_push_of_some _ (N p hp).1, (N p hp).2⟩, hoc, Nat.zero_le _, rfl⟩
  rintro n s' ⟨i, o', v', h, tk, rfl, hit, F₁, N₁, ho', hi, rfl⟩
  by_cases hlt : i < vs.length
  · refine wpAny_pyNext_list_item hit (isl N₁) (x := vs[i]) (by simp [hlt]) fun h₁ hit₁ hs₁ => ?_
    have F₂ : Fr g L h₁ m := ⟨F₁.ns.extBut hs₁.extBut (Ne.symm hIL), fun b o e => hs₁.extBut b o (hgI b o e) (F₁.keep b o e), F₁.above⟩
    have N₂ : News g L h₁ (own ++ (c, o') :: rest) := fun p hp => ⟨hs₁.extBut _ _ (off' o' p hp) (N₁ p hp).1, (N₁ p hp).2⟩
    have hcm := N₂ (c, o') (List.mem_append_right _ (.head _))
    refine wpAny_assign_Name (wpAny_storeName_cell hkind hx hc ⟨o', hcm.1, ho'⟩ fun h₂ hv₂ hs₂ => ?_)
    obtain ⟨oc', hoc', hd'⟩ := hv₂
    have N₃ := N₂.setAt h1 h2 hs₂ hoc'
    have F₃ : Fr g L h₂ m := ⟨F₂.ns.sameBut hs₂ (Ne.symm hcm.2.1), fun b ob e => (hs₂.2 b (fun q => by rw [q, hcm.2.2] at e; cases e)).trans (F₂.keep b ob e), F₂.above⟩
    obtain ⟨oI, hoI, rI⟩ := hit₁
    have hoI₂ : h₂.get? s.heap.objs.size = some oI := hs₂.extBut _ _ hcI hoI
    refine wpAny_mono (turn vs[i] oc' _ oI h₂ tk _ (List.getElem_mem hlt) hd' F₃ (fun p hp => ?_) (off' oc')) (fun f s₃ h₃ => ?_) fun _ _ e => e
    · rcases List.mem_cons.mp hp with rfl | hp
      · exact ⟨hoI₂, hIL, hIg⟩
      · exact N₃ p hp
    · obtain ⟨rfl, h', tk', news', rfl, F', N', hsub⟩ := h₃
      exact ⟨vs.length + 1 - (i + 1), meas_lt (by assumption), i + 1, oc', _, h', tk', rfl, ⟨oI, (N' _ (hsub _ (.head _))).1, rI⟩, F', fun p hp => N' p (hsub _ (.tail _ hp)), hd', hlt, rfl⟩
  · have hie : i = vs.length := by omega
    subst hie
    refine wpAny_pyNext_list_end hh hit (isl N₁) (by simp) fun h₁ hx₁ => wpAny_execs_nil ?_
    exact done o' h₁ tk v' ho' ⟨F₁.ns.extBut hx₁ (Ne.symm hIL), fun b o e => hx₁ b o (hgI b o e) (F₁.keep b o e), F₁.above⟩ fun p hp => ⟨hx₁ _ _ (off' o' p hp) (N₁ p hp).1, (N₁ p hp).2⟩
end
end T42
section T43
example : True := by
  w_top off
  trivial
theorem fill18 : PySem.Challenge.rw_pe0125_01 = PySem.Challenge.rw_pe0125_01 ∧ hd.heap_39 = hd.heap_39 := by
  k_fill
  exact ⟨rfl, rfl⟩
noncomputable def ordOf (d1 d2 l r : Int) (k k' : Str) : Int := if l = r then (if k = k' then 0 else if k'.cps.toList < k.cps.toList then d2 else -d2) else if r < l then d1 else -d1
theorem ord_gt {d1 d2 l r : Int} {k k' : Str} (h : l ≠ r) (h2 : r < l) : ordOf d1 d2 l r k k' = d1 := by unfold ordOf; rw [if_neg h, if_pos h2]
theorem ord_lt {d1 d2 l r : Int} {k k' : Str} (h : l ≠ r) (h2 : ¬ r < l) : ordOf d1 d2 l r k k' = -d1 := by unfold ordOf; rw [if_neg h, if_neg h2]
theorem str_ne {k k' : Str} (h : (k != k') = true) : k ≠ k' := by
  intro e
  subst e
  simp [bne] at h
theorem ord_kgt {d1 d2 l r : Int} {k k' : Str} (h : l = r) (h1 : (k != k') = true) (h2 : k'.cps.toList < k.cps.toList) : ordOf d1 d2 l r k k' = d2 := by unfold ordOf; rw [if_pos h, if_neg (str_ne h1), if_pos h2]
theorem ord_klt {d1 d2 l r : Int} {k k' : Str} (h : l = r) (h1 : (k != k') = true) (h2 : ¬ k'.cps.toList < k.cps.toList) : ordOf d1 d2 l r k k' = -d2 := by unfold ordOf; rw [if_pos h, if_neg (str_ne h1), if_neg h2]
theorem ord_eq {d1 d2 l r : Int} {k k' : Str} (h : l = r) (h1 : (k != k') = false) : ordOf d1 d2 l r k k' = 0 := by
  unfold ordOf
  rw [if_pos h, if_pos]
  exact Classical.not_not.mp fun e => by simp [bne, e] at h1
theorem closeNs {h g h' : Heap} {h₀ : Heap} {L L' : Addr} {m' : Str → Option Value} {news news' : List (Addr × Obj)} (N : News h₀ L h news) (hg : ∀ b o', b ∉ news.map (·.1) → h.get? b = some o' → g.get? b = some o') (F' : Fr g L' h' m') (N' : News g L' h' news') (hs : ∀ p ∈ news, p ∈ news') : Ext h h' := by
  intro b o e
  by_cases hb : b ∈ news.map (·.1)
  · obtain ⟨p, hp, rfl⟩ := List.mem_map.mp hb
    have h1 := (N p hp).1
    rw [e] at h1
    rw [Option.some.inj h1]
    exact (N' p (hs p hp)).1
  · exact F'.keep b o (hg b o hb e)
section
variable {prog : Program} {w : World} {A₀ A : Around} {s : Shared} {base h₀ : Heap} {outer : List Env} {L : Addr} {m mg mb : Str → Option Value} {mean : ExcName → Option Value} {tp : Program} {tl₀ : List Str} {env : Env} {Q E : Value → Shared → Prop} {news : List (Addr × Obj)}

noncomputable def Pick (i c v l : Int) : Prop := (i = 0 ∧ l = c) ∨ (i = 1 ∧ l = v)
theorem pick_ite {i c v : Int} (h : i = 0 ∨ i = 1) : Pick i c v (if i = 0 then c else v) := by
  rcases h with rfl | rfl
  · exact .inl ⟨rfl, if_pos rfl⟩
  · exact .inr ⟨rfl, if_neg (by decide)⟩
theorem item_two {value slice : Expr} {p : Addr} {i c v l : Int} {k : Str} {t1 t2 t3 u : Tok} (ht : IsTup s.heap p #[.int c t1, .int v t2, .str k t3]) (hp : Pick i c v l) (h : ∀ t, Q (.int l t) s)
    (hs : subscripted slice false (.ref p) (.int i u) = operate [.ref p, .int i u] (getItem (.ref p) (.int i u))) :
    wpAny (model prog w) A (subscriptTail value slice (.ref p) (.int i u)) Q E s := by
  rcases hp with ⟨rfl, rfl⟩ | ⟨rfl, rfl⟩
  · exact item_tupleT (l := [_, _, _]) ht (by decide) (by decide) rfl rfl (h t1) hs
  · exact item_tupleT (l := [_, _, _]) ht (by decide) (by decide) rfl rfl (h t2) hs
end
example : True := by
  k_with "subscriptTail" => (
(k_here; (with_reducible show wpAny _ _ (subscriptTail _ _ (Value.ref _) (Value.int _ _)) _ _ _); k_dflt (apply item_two; (case ht => exact News.isTup (by k_asm) (by k_mem)); (case hp => with_reducible assumption); (case hs => with_unfolding_all rfl); k_whole); intro t9)
    )
  trivial
section
variable {prog : Program} {w : World} {A₀ A : Around} {s : Shared} {base h₀ : Heap} {outer : List Env} {L : Addr} {m mg mb : Str → Option Value} {mean : ExcName → Option Value} {tp : Program} {tl₀ : List Str} {env : Env} {Q E : Value → Shared → Prop} {news : List (Addr × Obj)}
set_option maxHeartbeats 800000 in
theorem order_at' {o t kl p1 p2 : Addr} {i1 d1 d2 c v c' v' l9 r9 : Int} {k k' : Str} {u1 u2 u3 u4 u5 u6 w1 w2 w3 w4 : Tok} {n : Nat} (B : Below A₀ base outer h₀) (F : Fr h₀ L s.heap m) (X : (hd.heap_39 w.params).In h₀) (T : Top tp tl₀ mean mg mb h₀) (hf : env.frame = some L) (hk : env.scope.kind = .function)
   (N : News h₀ L s.heap [(kl, listOf #[.ref p1, .ref p2] n), (p1, tupO [.int i1 w1, .int d1 w2]), (p2, tupO [.int 2 w3, .int d2 w4]), (o, tupO [.int c u1, .int v u2, .str k u3]), (t, tupO [.int c' u4, .int v' u5, .str k' u6])]) (hl9 : Pick i1 c v l9) (hr9 : Pick i1 c' v' r9)
   (post : ∀ r t1 h' tk, r = ordOf d1 d2 l9 r9 k k' → Ext s.heap h' → Q (.int r t1) { s with heap := h', toks := tk }) :
   wpAny (model prog w) (AT 560 960 env outer) (call (.ref 134) [.ref o, .ref t, .ref kl]) Q E s := by
  walk_at "m enterN"
  walk_at "m steps"
  all_goals
    refine post _ _ _ _ ?_ (closeNs N (by with_reducible assumption) (by with_reducible assumption) (by with_reducible assumption) fun x9 hx9 => by first | exact hx9 | exact .tail _ hx9)
  all_goals first
    | exact (ord_gt (by assumption) (by assumption)).symm
    | exact (ord_lt (by assumption) (by assumption)).symm
    | exact (ord_kgt (by with_reducible assumption) (by with_reducible assumption) (by with_reducible assumption)).symm
    | exact (ord_klt (by assumption) (by assumption) (by assumption)).symm
    | exact (ord_eq (by assumption) (by assumption)).symm
theorem order_at {o t kl p1 p2 : Addr} {i1 d1 d2 c v c' v' : Int} {k k' : Str} {u1 u2 u3 u4 u5 u6 w1 w2 w3 w4 : Tok} {n : Nat} (B : Below A₀ base outer h₀) (F : Fr h₀ L s.heap m) (X : (hd.heap_39 w.params).In h₀) (T : Top tp tl₀ mean mg mb h₀) (hf : env.frame = some L) (hk : env.scope.kind = .function)
   (N : News h₀ L s.heap [(kl, listOf #[.ref p1, .ref p2] n), (p1, tupO [.int i1 w1, .int d1 w2]), (p2, tupO [.int 2 w3, .int d2 w4]), (o, tupO [.int c u1, .int v u2, .str k u3]), (t, tupO [.int c' u4, .int v' u5, .str k' u6])]) (hi : i1 = 0 ∨ i1 = 1)
   (post : ∀ r t1 h' tk, r = ordOf d1 d2 (if i1 = 0 then c else v) (if i1 = 0 then c' else v') k k' → Ext s.heap h' → Q (.int r t1) { s with heap := h', toks := tk }) :
   wpAny (model prog w) (AT 560 960 env outer) (call (.ref 134) [.ref o, .ref t, .ref kl]) Q E s := order_at' B F X T hf hk N (pick_ite hi) (pick_ite hi) post
end
end T43
section T44
open PyProof.Rows.LCg (NsObj ns_obj lst lst_snoc Off3)
inductive TrioAre (led : List (Addr × Obj)) : List Value → List (Int × Int × Str) → Prop
  | nil : TrioAre led [] []
  | cons {p : Addr} {c v : Int} {k : Str} {t1 t2 t3 : Tok} {vs : List Value} {ds : List (Int × Int × Str)} : (p, tupO [.int c t1, .int v t2, .str k t3]) ∈ led → TrioAre led vs ds → TrioAre led (.ref p :: vs) ((c, v, k) :: ds)
theorem TrioIn.data {led : List (Addr × Obj)} : ∀ {ys : List Value}, TrioIn led ys → ∃ ds, TrioAre led ys ds
  | [], _ => ⟨[], .nil⟩
  | y :: ys, h => by
    obtain ⟨ds, hd⟩ := TrioIn.data (ys := ys) fun x hx => h x (.tail _ hx)
    obtain ⟨p, c, v, k, t1, t2, t3, rfl, hm⟩ := h y (.head _)
    exact ⟨_, .cons hm hd⟩
theorem TrioAre.at {led : List (Addr × Obj)} {vs : List Value} {ds : List (Int × Int × Str)} (h : TrioAre led vs ds) : ∀ {i : Nat} {x : Value}, vs[i]? = some x → ∃ p c v k t1 t2 t3, x = .ref p ∧ ds[i]? = some (c, v, k) ∧ (p, tupO [.int c t1, .int v t2, .str k t3]) ∈ led := by
  induction h with
  | nil => intro i x e; simp at e
  | @cons p c v k t1 t2 t3 vs ds hm _ ih =>
    intro i x e
    cases i with
    | zero => rw [List.getElem?_cons_zero] at e; cases e; exact ⟨p, c, v, k, t1, t2, t3, rfl, rfl, hm⟩
    | succ i => rw [List.getElem?_cons_succ] at e; rw [List.getElem?_cons_succ]; exact ih e
theorem TrioAre.length {led : List (Addr × Obj)} {vs : List Value} {ds : List (Int × Int × Str)} (h : TrioAre led vs ds) : vs.length = ds.length := by
  induction h with
  | nil => rfl
  | cons _ _ ih => rw [List.length_cons, List.length_cons, ih]
inductive NEnd (g : Heap) (L : Addr) (m : Str → Option Value) (n : Int) (led : List (Addr × Obj)) (s₁ : Shared) (y : Value) (s₂ : Shared) : Prop
  | mk (t : Tok) (h' : Heap) (tk : Nat) (ey : y = .int n t) (e : s₂ = { s₁ with heap := h', toks := tk }) (F : Fr g L h' m) (N : News g L h' led)
section
variable {prog : Program} {w : World} {A : Around} {E : Value → Shared → Prop} {env : Env} {g : Heap} {L : Addr} {m : Str → Option Value} {s₁ : Shared}
theorem CSrc.trio {elt : Expr} {x : Str} {px : Pos} {scope : Scope} {cl : List (Str × Addr)} {Q : Value → Shared → Prop} {ax : Addr} {vs : List Value} {k : Nat} {nx led : List (Addr × Obj)} {ds : List (Int × Int × Str)} (f : Int × Int × Str → Int)
    (hh : A.handled = none) (hkind : scope.kind = .function) (hx : scope.names.lookup x = some .local)
    (F : Fr g L s₁.heap m) (N : News g L s₁.heap nx) (hm : (ax, listOf (List.toArray vs) k) ∈ nx) (hT : TrioAre led vs ds) (hs : ∀ p ∈ led, p ∈ nx) (hlen : vs.length ≤ 20)
    (turn : ∀ p c v k' t1 t2 t3 ys C oC I oI D m₃ h tk E', (p, tupO [.int c t1, .int v t2, .str k' t3]) ∈ nx → NsObj oC m₃ → m₃ x = some (.ref p) → Fr g L h m → News g L h ((I, oI) :: (C, oC) :: (D, lst ys) :: nx) →
      wpAny (model prog w) A (eval elt (compEnvC scope cl C env)) (NEnd g L m (f (c, v, k')) ((I, oI) :: (C, oC) :: (D, lst ys) :: nx) { s₁ with heap := h, toks := tk }) E' { s₁ with heap := h, toks := tk })
    (done : ∀ D ys h tk, IntsAre ys (ds.map f) → ys.length ≤ 20 → Fr g L h m → News g L h ((D, lst ys) :: nx) → (∀ p ∈ nx, p.1 ≠ D) → Q (.ref D) { s₁ with heap := h, toks := tk }) :
    CSrc prog w A g L m env scope cl (.Name x px) [] elt Q (.ref ax) s₁ := by
  have hlen' := hT.length
  refine CSrc.one (vs := vs) (fun i ys => IntsAre ys ((ds.take i).map f)) hh hkind hx F N hm (by omega) .nil (fun i ys h => ?_) ?_ ?_
  · have := h.length
    rw [List.length_map, List.length_take] at this
    omega
  · intro i v ys C oC I oI D m₃ h tk E' hv hJ hNC e1 F' N' off hne
    obtain ⟨p, c, v', k', t1, t2, t3, rfl, hd, hp⟩ := hT.at hv
    refine wpAny_tests_nil ?_
    simp only [if_true]
    refine wpAny_mono (turn p c v' k' t1 t2 t3 ys C oC I oI D m₃ h tk E' (hs _ hp) hNC e1 F' N') (fun y s₄ hy => ?_) fun _ _ e => e
    obtain ⟨t, h', tk', rfl, rfl, F₂, N₂⟩ := hy
    refine ⟨h', tk', nx, rfl, F₂, N₂, off, rfl, ?_⟩
    have e : ds.take (i + 1) = ds.take i ++ [(c, v', k')] := by simp [List.take_add_one, hd]
    rw [e, List.map_append]
    exact ints_snoc hJ _ t
  · intro D ys h tk hJ F' N' off
    rw [hlen', List.take_length] at hJ
    refine done D ys h tk hJ ?_ F' N' off
    have := hJ.length
    rw [List.length_map] at this
    omega
theorem ints_reads {h : Heap} {ys : List Value} {ns : List Int} (hi : IntsAre ys ns) : ∃ as, ReadsAll h ys (ns.map PyData.int) as := by
  induction hi with
  | nil => exact ⟨[], .nil⟩
  | cons n t _ ih => obtain ⟨as, ih⟩ := ih; exact ⟨_, .cons (.int _ _) ih⟩
theorem ints_lay : ∀ ns : List Int, PyData.canLayAll0 (ns.map PyData.int) = true ∧ PyData.depthAll (ns.map PyData.int) ≤ 1
  | [] => ⟨rfl, Nat.zero_le _⟩
  | n :: ns => by
    have ih := ints_lay ns
    refine ⟨?_, ?_⟩
    · simp only [List.map_cons, PyData.canLayAll0, PyData.canLay0, ih.1, Bool.and_self]
    · simp only [List.map_cons, PyData.depthAll, PyData.depth]
      have := ih.2
      omega
end
section
variable {prog : Program} {w : World} {A : Around} {E : Value → Shared → Prop} {s : Shared} {h₀ : Heap} {L : Addr} {news : List (Addr × Obj)} {Q : Value → Shared → Prop}
theorem ne_ints {a b : Addr} {us us' : List Value} {k k' : Nat} {ns : List Int} (N : News h₀ L s.heap news) (m1 : (a, listOf (List.toArray us) k) ∈ news) (m2 : (b, listOf us'.toArray k') ∈ news) (h1 : IntsAre us ns) (h2 : IntsAre us' ns) (hu : A.units + 64 < cLine) (h : Q (.bool false) s) :
    wpAny (model prog w) A (compareOp .NotEq (.ref a) (.ref b)) Q E s := by
  obtain ⟨as, r1⟩ := ints_reads (h := s.heap) h1
  obtain ⟨bs, r2⟩ := ints_reads (h := s.heap) h2
  have hl := ints_lay ns
  exact ne_self (d := .list (ns.map PyData.int)) (.list (N _ m1).1 rfl rfl r1) (.list (N _ m2).1 rfl rfl r2) hl.1 (by simp only [PyData.depth]; omega) hu h
end
end T44
section T45
open PyProof.Rows.LCg (NsObj ns_obj lst lst_snoc Off3)
inductive TextsAre : List Value → List Str → Prop
  | nil : TextsAre [] []
  | cons (x : Str) (t : Tok) {vs : List Value} {xs : List Str} : TextsAre vs xs → TextsAre (.str x t :: vs) (x :: xs)
theorem TextsAre.length {vs : List Value} {xs : List Str} (h : TextsAre vs xs) : vs.length = xs.length := by
  induction h with
  | nil => rfl
  | cons _ _ _ ih => rw [List.length_cons, List.length_cons, ih]
theorem texts_snoc {ys : List Value} {xs : List Str} (h : TextsAre ys xs) (x : Str) (t : Tok) : TextsAre (ys ++ [.str x t]) (xs ++ [x]) := by
  induction h with
  | nil => exact .cons x t .nil
  | cons y u _ ih => exact .cons y u ih
theorem ints_at {vs : List Value} {ns : List Int} (h : IntsAre vs ns) : ∀ {i : Nat} {v : Value}, vs[i]? = some v → ∃ n t, v = .int n t ∧ ns[i]? = some n := by
  induction h with
  | nil => intro i v e; simp at e
  | cons n t _ ih =>
    intro i v e
    cases i with
    | zero => rw [List.getElem?_cons_zero] at e; cases e; exact ⟨n, t, rfl, rfl⟩
    | succ i => rw [List.getElem?_cons_succ] at e; rw [List.getElem?_cons_succ]; exact ih e
inductive XEnd (g : Heap) (L : Addr) (m : Str → Option Value) (x : Str) (led : List (Addr × Obj)) (s₁ : Shared) (y : Value) (s₂ : Shared) : Prop
  | mk (t : Tok) (h' : Heap) (tk : Nat) (ey : y = .str x t) (e : s₂ = { s₁ with heap := h', toks := tk }) (F : Fr g L h' m) (N : News g L h' led)
section
variable {prog : Program} {w : World} {A : Around} {E : Value → Shared → Prop} {env : Env} {g : Heap} {L : Addr} {m : Str → Option Value} {s₁ : Shared}
theorem CSrc.texts {elt : Expr} {x : Str} {px : Pos} {scope : Scope} {cl : List (Str × Addr)} {Q : Value → Shared → Prop} {ax : Addr} {vs : List Value} {k : Nat} {nx : List (Addr × Obj)} {ns : List Int} (f : Int → Str)
    (hh : A.handled = none) (hkind : scope.kind = .function) (hx : scope.names.lookup x = some .local)
    (F : Fr g L s₁.heap m) (N : News g L s₁.heap nx) (hm : (ax, listOf (List.toArray vs) k) ∈ nx) (hI : IntsAre vs ns) (hn : ∀ y ∈ ns, 0 ≤ y ∧ y < 1000000) (hlen : ns.length ≤ 20)
    (turn : ∀ y t ys C oC I oI D m₃ h tk E', 0 ≤ y → y < 1000000 → NsObj oC m₃ → m₃ x = some (.int y t) → Fr g L h m → News g L h ((I, oI) :: (C, oC) :: (D, lst ys) :: nx) →
      wpAny (model prog w) A (eval elt (compEnvC scope cl C env)) (XEnd g L m (f y) ((I, oI) :: (C, oC) :: (D, lst ys) :: nx) { s₁ with heap := h, toks := tk }) E' { s₁ with heap := h, toks := tk })
    (done : ∀ D ys h tk, TextsAre ys (ns.map f) → Fr g L h m → News g L h ((D, lst ys) :: nx) → (∀ p ∈ nx, p.1 ≠ D) → Q (.ref D) { s₁ with heap := h, toks := tk }) :
    CSrc prog w A g L m env scope cl (.Name x px) [] elt Q (.ref ax) s₁ := by
  have hlen' := hI.length
  refine CSrc.one (vs := vs) (fun i ys => TextsAre ys ((ns.take i).map f)) hh hkind hx F N hm (by omega) .nil (fun i ys h => ?_) ?_ ?_
  · have := h.length
    rw [List.length_map, List.length_take] at this
    omega
  · intro i v ys C oC I oI D m₃ h tk E' hv hJ hNC e1 F' N' off hne
    obtain ⟨n, t, rfl, hd⟩ := ints_at hI hv
    have hb := hn n (List.mem_of_getElem? hd)
    refine wpAny_tests_nil ?_
    simp only [if_true]
    refine wpAny_mono (turn n t ys C oC I oI D m₃ h tk E' hb.1 hb.2 hNC e1 F' N') (fun y s₄ hy => ?_) fun _ _ e => e
    obtain ⟨t, h', tk', rfl, rfl, F₂, N₂⟩ := hy
    refine ⟨h', tk', nx, rfl, F₂, N₂, off, rfl, ?_⟩
    have e : ns.take (i + 1) = ns.take i ++ [n] := by simp [List.take_add_one, hd]
    rw [e, List.map_append]
    exact texts_snoc hJ _ t
  · intro D ys h tk hJ F' N' off
    rw [hlen', List.take_length] at hJ
    exact done D ys h tk hJ F' N' off
theorem texts_reads {h : Heap} {ys : List Value} {xs : List Str} (hi : TextsAre ys xs) : ∃ as, ReadsAll h ys (xs.map PyData.str) as := by
  induction hi with
  | nil => exact ⟨[], .nil⟩
  | cons n t _ ih => obtain ⟨as, ih⟩ := ih; exact ⟨_, .cons (.str _ _) ih⟩
theorem texts_lay : ∀ xs : List Str, (∀ x ∈ xs, PyData.strOk x = true) → PyData.canLayAll0 (xs.map PyData.str) = true ∧ PyData.depthAll (xs.map PyData.str) ≤ 1
  | [], _ => ⟨rfl, Nat.zero_le _⟩
  | n :: ns, h => by
    have ih := texts_lay ns fun x hx => h x (.tail _ hx)
    have h1 := h n (.head _)
    refine ⟨?_, ?_⟩
    · simp only [List.map_cons, PyData.canLayAll0, PyData.canLay0, ih.1, h1, Bool.and_self]
    · simp only [List.map_cons, PyData.depthAll, PyData.depth]
      have := ih.2
      omega
end
section
variable {prog : Program} {w : World} {A : Around} {E : Value → Shared → Prop} {s : Shared} {h₀ : Heap} {L : Addr} {news : List (Addr × Obj)} {Q : Value → Shared → Prop}
theorem eq_texts {a b : Addr} {us us' : List Value} {k k' : Nat} {xs : List Str} (N : News h₀ L s.heap news) (m1 : (a, listOf (List.toArray us) k) ∈ news) (m2 : (b, listOf us'.toArray k') ∈ news) (h1 : TextsAre us xs) (h2 : TextsAre us' xs) (hs : ∀ x ∈ xs, PyData.strOk x = true) (hu : A.units + 64 < cLine) (h : Q (.bool true) s) :
    wpAny (model prog w) A (compareOp .Eq (.ref a) (.ref b)) Q E s := by
  obtain ⟨as, r1⟩ := texts_reads (h := s.heap) h1
  obtain ⟨bs, r2⟩ := texts_reads (h := s.heap) h2
  have hl := texts_lay xs hs
  exact eq_self' (d := .list (xs.map PyData.str)) (.list (N _ m1).1 rfl rfl r1) (.list (N _ m2).1 rfl rfl r2) hl.1 (by simp only [PyData.depth]; omega) hu h
end
end T45
section T46
example : True := by
  w_top off
  trivial
theorem fill23 : PySem.Challenge.rw_pe0125_01 = PySem.Challenge.rw_pe0125_01 ∧ hd.heap_39 = hd.heap_39 := by
  k_fill
  exact ⟨rfl, rfl⟩
section
variable {prog : Program} {w : World} {A₀ A : Around} {s : Shared} {base h₀ : Heap} {outer : List Env} {L : Addr} {m mg mb : Str → Option Value} {mean : ExcName → Option Value} {tp : Program} {tl₀ : List Str} {env : Env} {Q E : Value → Shared → Prop} {news : List (Addr × Obj)}

set_option maxHeartbeats 800000 in
theorem num_at {y : Int} {t q : Tok} (B : Below A₀ base outer h₀) (F : Fr h₀ L s.heap m) (X : (hd.heap_39 w.params).In h₀) (T : Top tp tl₀ mean mg mb h₀) (hf : env.frame = some L) (hk : env.scope.kind = .function)
   (h1 : 0 ≤ y) (h2 : y < 1000000)
   (h : ∀ t1 h' tk, Ext s.heap h' → Q (.str (Str.ofString (toString y)) t1) { s with heap := h', toks := tk }) :
   wpAny (model prog w) (AT 560 960 env outer) (call (.ref 22) [.int y t, .str (Str.ofString "number") q]) Q E s := by
  refine' enter0 ?k1Z16 ?k2Z16 ?k3Z16 ?k5Z16 ?kAZ16 ?kFZ16 ?kKZ16 ?k6Z16 ?k7Z16 ?k8Z16 ?k9Z16 ?kBZ16 ?_ ?c2Z16 ?c3Z16 ?c4Z16 ?c5Z16; (case kAZ16 => exact rfl); (case kFZ16 => assumption); (case kKZ16 => assumption); (case k1Z16 => k_asm); (case k2Z16 => k_asm); (case k3Z16 => k_asm); (case k5Z16 => k_asm); (case k6Z16 => k_is); (case k7Z16 => k_is); (case k8Z16 => k_room); (case k9Z16 => exact binds_K (by k_in) rfl (by k_is) rfl rfl rfl); (case c5Z16 => decide); (case kBZ16 => exact locs rfl); (case c2Z16 => exact rfl); (case c3Z16 => exact rfl); (case c4Z16 => exact rfl); k_whole; intro g' L' h' tk' hg' F' N' B' X' T'; (try dsimp only); (try k_fold)
  walk_at "m steps"
  have cl := close0 (by with_reducible assumption) (by with_reducible assumption) rfl
  subst hg'
  exact h _ _ _ cl.1
theorem num_use {y : Int} {t q : Tok} (B : Below A₀ base outer h₀) (F : Fr h₀ L s.heap m) (X : (hd.heap_39 w.params).In h₀) (N : News h₀ L s.heap news) (T : Top tp tl₀ mean mg mb h₀) (hA : A.frames = some (env :: outer)) (hf : env.frame = some L) (hk : env.scope.kind = .function)
   (hh : A.handled = none) (hg : A.guards = some []) (hdp : A.depth ≤ 560) (hu : A.units ≤ 960)
   (h1 : 0 ≤ y) (h2 : y < 1000000)
   (h : ∀ t1 h' tk, Fr h₀ L h' m → News h₀ L h' news → Q (.str (Str.ofString (toString y)) t1) { s with heap := h', toks := tk }) :
   wpAny (model prog w) A (call (.ref 22) [.int y t, .str (Str.ofString "number") q]) Q E s :=
  wpAny_le (num_at B F X T hf hk h1 h2 fun t1 h' tk x => h t1 h' tk (x.fr F) (x.news N)) hh hA hg hdp hu
end
end T46
section T47
open PyProof.Rows.LCg (NsObj ns_obj lst lst_snoc Off3)
example : True := by
  w_top off
  trivial
theorem fill24 : PySem.Challenge.rw_pe0125_01 = PySem.Challenge.rw_pe0125_01 ∧ hd.heap_39 = hd.heap_39 := by
  k_fill
  exact ⟨rfl, rfl⟩
theorem toStr_ok (ys : List Int) : ∀ x ∈ ys.map (fun y => Str.ofString (toString y)), PyData.strOk x = true := fun x hx => by
  obtain ⟨y, _, rfl⟩ := List.mem_map.mp hx
  exact ofString_ok _
example : True := by
  k_with "eval ListComp" => (
(k_here; (with_reducible rename IntsAre _ _ => hIA); k_dflt (apply ListComp_own; (case _F => k_asm); (case hclos => with_unfolding_all rfl); (case hcell => decide); (case hkind => rfl); (case hnames => decide); (case hs => intro _; rfl)))
    )
  k_with "CSrc" => (
(k_dflt (apply CSrc.texts (fun y => Str.ofString (toString y)); (case hh => rfl); (case hkind => rfl); (case hx => rfl); (case F => k_asm); (case N => k_asm); (case hm => k_mem); (case hI => with_reducible assumption); (case hn => with_reducible assumption); (case hlen => with_reducible assumption)); all_goals first
    | (intro y t ys C oC I oI D m₃ h tk E' hy1 hy2 hNC e1 F' N')
    | (intro D ys h tk hX9 F' N' off9; replace off9 := allNe_of off9))
    )
  k_with "call ref" => (
(k_here; (with_reducible show wpAny _ _ (call (Value.ref 22) [Value.int _ _, Value.str _ _]) _ _ _); k_dflt (apply num_use; (case hA => exact rfl); (case hf => exact rfl); (case hk => exact rfl); (case F => k_asm); (case B => k_asm); (case X => k_asm); (case N => k_asm); (case T => k_asm); (case hh => exact rfl); (case hg => exact rfl); (case hdp => exact Nat.le_of_ble_eq_true rfl); (case hu => exact Nat.le_of_ble_eq_true rfl); (case h1 => with_reducible assumption); (case h2 => with_reducible assumption); k_whole; intro t9 h9 tk9 F' N'))
    )
  k_with "XEnd" => (
exact ⟨_, _, _, rfl, rfl, by k_asm, by k_asm⟩
    )
  k_with "compareOp Eq ref ref" => (
(k_here; k_dflt (apply eq_texts; (case N => k_asm); (case m1 => k_mem); (case m2 => k_mem); (case h1 => k_asm); (case h2 => k_asm); (case hs => exact toStr_ok _); (case hu => ke_room)))
    )
  trivial
section
variable {prog : Program} {w : World} {A₀ : Around} {s : Shared} {base h₀ : Heap} {L : Addr} {mB mg mb : Str → Option Value} {mean : ExcName → Option Value} {tp : Program} {tl₀ : List Str} {R : Result → Shared → Prop} {E : Value → Shared → Prop}
set_option maxHeartbeats 1000000 in
theorem law_last {fd : FuncData} {oc : Value} {od' : Option Addr} {osl : Array (Option Value)} (ho : (hd.heap_39 w.params).lookup 139 = some ⟨oc, od', .func fd, osl⟩)
    {tt tk a' b' a1 rl : Addr} {wh : Int} {tw : Tok} {ws : List Value} {ys : List Int} {ps : Array Value}
    (B : Below callerA base [] h₀) (X : (hd.heap_39 w.params).In h₀) (T : Top tp tl₀ mean mg mb h₀) (D : KtsDicts (([] : List Env).filterMap (·.frame)) h₀)
    (F : Fr h₀ L s.heap (fun y => if y = Str.ofString "rows" then some (.ref rl) else if y = Str.ofString "total" then some (.ref tt) else if y = Str.ofString "lines" then some (.ref a') else if y = Str.ofString "ledger" then some (.ref b') else if y = Str.ofString "due" then some (.ref a1) else if y = Str.ofString "whole" then some (.int wh tw) else if y = Str.ofString "taken" then some (.ref tk) else mB y))
    (N : News h₀ L s.heap [(tk, listOf (List.toArray ws) 0), (PA, tabObj ps)])
    (hi : IntsAre ws ys) (hys : ∀ y ∈ ys, 0 ≤ y ∧ y < 1000000) (hlen : ys.length ≤ 20)
    (post : ∀ h' tk m' news', Fr h₀ L h' m' → News h₀ L h' news' → (PA, tabObj ps) ∈ news' → R (.ok (.ret (.bool true))) { s with heap := h', toks := tk }) :
    wpAny (model prog w) (callerA.deeper (envOfC (Str.ofString "law") fd.scope L 139 fd.code)) (execs (List.drop 11 (stmtsOf fd.body)) (envOfC (Str.ofString "law") fd.scope L 139 fd.code))
        (fun fl s' => R (.ok (.ret (match fl with | .ret v => v | _ => .none))) s') E s := by
  refine' fd_go (P := fun fd => wpAny (model prog w) (callerA.deeper (envOfC (Str.ofString "law") fd.scope L 139 fd.code)) (execs (List.drop 11 (stmtsOf fd.body)) (envOfC (Str.ofString "law") fd.scope L 139 fd.code))
        (fun fl s' => R (.ok (.ret (match fl with | .ret v => v | _ => .none))) s') E s) ho ?e ?_
  case e => k_is
  clear ho fd
  dsimp only [stmtsOf, List.drop]
  walk_at "m steps"
  exact post _ _ _ _ (by with_reducible assumption) (by with_reducible assumption) (.tail _ (.tail _ (.tail _ (.head _))))
end
end T47
section T48
section
variable {prog : Program} {w : World} {A₀ A : Around} {s : Shared} {base h₀ : Heap} {outer : List Env} {L : Addr} {m mg mb : Str → Option Value} {mean : ExcName → Option Value} {tp : Program} {tl₀ : List Str} {env : Env} {Q E : Value → Shared → Prop} {news : List (Addr × Obj)}
noncomputable def ordD (i1 d1 d2 c v : Int) (k : Str) (d : Int × Int × Str) : Int := ordOf d1 d2 (if i1 = 0 then c else v) (if i1 = 0 then d.1 else d.2.1) k d.2.2
theorem order_use {o t kl p1 p2 : Addr} {i1 d1 d2 c v c' v' : Int} {k k' : Str} {u1 u2 u3 u4 u5 u6 w1 w2 w3 w4 : Tok} {n : Nat} (B : Below A₀ base outer h₀) (F : Fr h₀ L s.heap m) (X : (hd.heap_39 w.params).In h₀) (N : News h₀ L s.heap news) (T : Top tp tl₀ mean mg mb h₀) (hA : A.frames = some (env :: outer)) (hf : env.frame = some L) (hk : env.scope.kind = .function)
   (hh : A.handled = none) (hg : A.guards = some []) (hdp : A.depth ≤ 560) (hu : A.units ≤ 960)
   (m1 : (kl, listOf #[.ref p1, .ref p2] n) ∈ news) (m2 : (p1, tupO [.int i1 w1, .int d1 w2]) ∈ news) (m3 : (p2, tupO [.int 2 w3, .int d2 w4]) ∈ news) (m4 : (o, tupO [.int c u1, .int v u2, .str k u3]) ∈ news) (m5 : (t, tupO [.int c' u4, .int v' u5, .str k' u6]) ∈ news) (hi : i1 = 0 ∨ i1 = 1)
   (h : ∀ t1 h' tk, Fr h₀ L h' m → News h₀ L h' news → Q (.int (ordD i1 d1 d2 c v k (c', v', k')) t1) { s with heap := h', toks := tk }) :
   wpAny (model prog w) A (call (.ref 134) [.ref o, .ref t, .ref kl]) Q E s := by
  have N₀ : News h₀ L s.heap [(kl, listOf #[.ref p1, .ref p2] n), (p1, tupO [.int i1 w1, .int d1 w2]), (p2, tupO [.int 2 w3, .int d2 w4]), (o, tupO [.int c u1, .int v u2, .str k u3]), (t, tupO [.int c' u4, .int v' u5, .str k' u6])] := fun p hp => by
    simp only [List.mem_cons, List.not_mem_nil, or_false] at hp
    rcases hp with rfl | rfl | rfl | rfl | rfl <;> exact N _ (by assumption)
  refine wpAny_le (order_at B F X T hf hk N₀ hi fun r t1 h' tk e x => ?_) hh hA hg hdp hu
  rw [e]
  exact h t1 h' tk (x.fr F) (x.news N)
end
theorem mod2 (n : Int) : Int.fmod n 2 = 0 ∨ Int.fmod n 2 = 1 := by
  have h1 := Int.fmod_nonneg_of_pos n (b := 2) (by decide)
  have h2 := Int.fmod_lt_of_pos n (b := 2) (by decide)
  omega
end T48
section T49
example : True := by
  w_top off
  trivial
theorem fill22 : PySem.Challenge.rw_pe0125_01 = PySem.Challenge.rw_pe0125_01 ∧ hd.heap_39 = hd.heap_39 := by
  k_fill
  exact ⟨rfl, rfl⟩
theorem str_tri {k k' : Str} (h1 : ¬ k.cps.toList < k'.cps.toList) (h2 : ¬ k'.cps.toList < k.cps.toList) : k = k' := by
  have e := List.le_antisymm (List.not_lt.mp h2) (List.not_lt.mp h1)
  cases k; cases k'
  have := Array.toList_inj.mp e
  simp_all
theorem str_irr {k k' : Str} (h : k.cps.toList < k'.cps.toList) : k ≠ k' := by
  intro e; subst e; exact List.lt_irrefl _ h
section
variable {d1 d2 l r : Int} {k k' : Str}
theorem cmp_lt1 (h : l < r) : ordOf d1 d2 l r k k' = -d1 := ord_lt (by omega) (by omega)
theorem cmp_gt1 (h : r < l) : ordOf d1 d2 l r k k' = d1 := ord_gt (by omega) h
theorem cmp_lt2 (h1 : ¬ l < r) (h2 : ¬ r < l) (h : k.cps.toList < k'.cps.toList) : ordOf d1 d2 l r k k' = -d2 := by
  unfold ordOf; rw [if_pos (by omega), if_neg (str_irr h), if_neg (List.lt_asymm h)]
theorem cmp_gt2 (h1 : ¬ l < r) (h2 : ¬ r < l) (h : k'.cps.toList < k.cps.toList) : ordOf d1 d2 l r k k' = d2 := by
  unfold ordOf; rw [if_pos (by omega), if_neg (Ne.symm (str_irr h)), if_pos h]
theorem cmp_eq (h1 : ¬ l < r) (h2 : ¬ r < l) (h3 : ¬ k.cps.toList < k'.cps.toList) (h4 : ¬ k'.cps.toList < k.cps.toList) : ordOf d1 d2 l r k k' = 0 := by
  unfold ordOf; rw [if_pos (by omega), if_pos (str_tri h3 h4)]
end
example : True := by
  k_with "exec For Tuple Attribute cons nil" => (
(k_here; (rename Fr _ _ _ _ => lF9); (with_unfolding_all refine For_turns lF9 ?_ (by intro _; rfl)); k_whole)
    )
  trivial
section
variable {prog : Program} {w : World} {A₀ A : Around} {s : Shared} {base h₀ : Heap} {outer : List Env} {L : Addr} {m mg mb : Str → Option Value} {mean : ExcName → Option Value} {tp : Program} {tl₀ : List Str} {env : Env} {Q E : Value → Shared → Prop} {news : List (Addr × Obj)}

set_option maxHeartbeats 800000 in
theorem compare_at' {x dd o t kl p1 p2 : Addr} {i1 d1 d2 c v c' v' l9 r9 : Int} {k k' : Str} {tx u1 u2 u3 u4 u5 u6 w1 w2 w3 w4 : Tok} {n : Nat} (B : Below A₀ base outer h₀) (F : Fr h₀ L s.heap m) (X : (hd.heap_39 w.params).In h₀) (T : Top tp tl₀ mean mg mb h₀) (hf : env.frame = some L) (hk : env.scope.kind = .function)
   (N : News h₀ L s.heap [(x, instObj 60 dd), (dd, dictOf [DictEntry.mk (PyData.keyHash w.params (Str.ofString "comp_select_list")) (.str (Str.ofString "comp_select_list") tx) (.ref kl)] 1), (kl, listOf #[.ref p1, .ref p2] n), (p1, tupO [.int i1 w1, .int d1 w2]), (p2, tupO [.int 2 w3, .int d2 w4]), (o, tupO [.int c u1, .int v u2, .str k u3]), (t, tupO [.int c' u4, .int v' u5, .str k' u6])]) (hl9 : Pick i1 c v l9) (hr9 : Pick i1 c' v' r9)
   (post : ∀ r t1 h' tk, r = ordOf d1 d2 l9 r9 k k' → Ext s.heap h' → Q (.int r t1) { s with heap := h', toks := tk }) :
   wpAny (model prog w) (AT 560 960 env outer) (call (.ref 57) [.ref x, .ref o, .ref t]) Q E s := by
  walk_at "m enterN"
  walk_at "m steps"
  all_goals
    refine post _ _ _ _ ?_ (closeNs N (by with_reducible assumption) (by with_reducible assumption) (by with_reducible assumption) fun x9 hx9 => by first | exact hx9 | exact .tail _ hx9)
  all_goals first
    | exact (cmp_lt1 (by with_reducible assumption)).symm
    | exact (cmp_gt1 (by with_reducible assumption)).symm
    | exact (cmp_lt2 (by with_reducible assumption) (by with_reducible assumption) (by with_reducible assumption)).symm
    | exact (cmp_gt2 (by with_reducible assumption) (by with_reducible assumption) (by with_reducible assumption)).symm
    | exact (cmp_eq (by with_reducible assumption) (by with_reducible assumption) (by with_reducible assumption) (by with_reducible assumption)).symm
theorem compare_at {x dd o t kl p1 p2 : Addr} {i1 d1 d2 c v c' v' : Int} {k k' : Str} {tx u1 u2 u3 u4 u5 u6 w1 w2 w3 w4 : Tok} {n : Nat} (B : Below A₀ base outer h₀) (F : Fr h₀ L s.heap m) (X : (hd.heap_39 w.params).In h₀) (T : Top tp tl₀ mean mg mb h₀) (hf : env.frame = some L) (hk : env.scope.kind = .function)
   (N : News h₀ L s.heap [(x, instObj 60 dd), (dd, dictOf [DictEntry.mk (PyData.keyHash w.params (Str.ofString "comp_select_list")) (.str (Str.ofString "comp_select_list") tx) (.ref kl)] 1), (kl, listOf #[.ref p1, .ref p2] n), (p1, tupO [.int i1 w1, .int d1 w2]), (p2, tupO [.int 2 w3, .int d2 w4]), (o, tupO [.int c u1, .int v u2, .str k u3]), (t, tupO [.int c' u4, .int v' u5, .str k' u6])]) (hi : i1 = 0 ∨ i1 = 1)
   (post : ∀ r t1 h' tk, r = ordOf d1 d2 (if i1 = 0 then c else v) (if i1 = 0 then c' else v') k k' → Ext s.heap h' → Q (.int r t1) { s with heap := h', toks := tk }) :
   wpAny (model prog w) (AT 560 960 env outer) (call (.ref 57) [.ref x, .ref o, .ref t]) Q E s := compare_at' B F X T hf hk N (pick_ite hi) (pick_ite hi) post
theorem compare_use {x dd o t kl p1 p2 : Addr} {i1 d1 d2 c v c' v' : Int} {k k' : Str} {tx u1 u2 u3 u4 u5 u6 w1 w2 w3 w4 : Tok} {n : Nat} (B : Below A₀ base outer h₀) (F : Fr h₀ L s.heap m) (X : (hd.heap_39 w.params).In h₀) (N : News h₀ L s.heap news) (T : Top tp tl₀ mean mg mb h₀) (hA : A.frames = some (env :: outer)) (hf : env.frame = some L) (hk : env.scope.kind = .function)
   (hh : A.handled = none) (hg : A.guards = some []) (hdp : A.depth ≤ 560) (hu : A.units ≤ 960)
   (m6 : (x, instObj 60 dd) ∈ news) (m7 : (dd, dictOf [DictEntry.mk (PyData.keyHash w.params (Str.ofString "comp_select_list")) (.str (Str.ofString "comp_select_list") tx) (.ref kl)] 1) ∈ news)
   (m1 : (kl, listOf #[.ref p1, .ref p2] n) ∈ news) (m2 : (p1, tupO [.int i1 w1, .int d1 w2]) ∈ news) (m3 : (p2, tupO [.int 2 w3, .int d2 w4]) ∈ news) (m4 : (o, tupO [.int c u1, .int v u2, .str k u3]) ∈ news) (m5 : (t, tupO [.int c' u4, .int v' u5, .str k' u6]) ∈ news) (hi : i1 = 0 ∨ i1 = 1)
   (h : ∀ t1 h' tk, Fr h₀ L h' m → News h₀ L h' news → Q (.int (ordD i1 d1 d2 c v k (c', v', k')) t1) { s with heap := h', toks := tk }) :
   wpAny (model prog w) A (call (.ref 57) [.ref x, .ref o, .ref t]) Q E s := by
  have N₀ : News h₀ L s.heap [(x, instObj 60 dd), (dd, dictOf [DictEntry.mk (PyData.keyHash w.params (Str.ofString "comp_select_list")) (.str (Str.ofString "comp_select_list") tx) (.ref kl)] 1), (kl, listOf #[.ref p1, .ref p2] n), (p1, tupO [.int i1 w1, .int d1 w2]), (p2, tupO [.int 2 w3, .int d2 w4]), (o, tupO [.int c u1, .int v u2, .str k u3]), (t, tupO [.int c' u4, .int v' u5, .str k' u6])] := fun p hp => by
    simp only [List.mem_cons, List.not_mem_nil, or_false] at hp
    rcases hp with rfl | rfl | rfl | rfl | rfl | rfl | rfl <;> exact N _ (by assumption)
  refine wpAny_le (compare_at B F X T hf hk N₀ hi fun r t1 h' tk e x => ?_) hh hA hg hdp hu
  rw [e]
  exact h t1 h' tk (x.fr F) (x.news N)
end
end T49
section T50
open PyProof.Rows.LCg (NsObj ns_obj lst lst_snoc Off3)
example : True := by
  w_top off
  trivial
theorem fill21 : PySem.Challenge.rw_pe0125_01 = PySem.Challenge.rw_pe0125_01 ∧ hd.heap_39 = hd.heap_39 := by
  k_fill
  exact ⟨rfl, rfl⟩
noncomputable def FHint (_f : Int × Int × Str → Int) : Prop := True
section
variable {prog : Program} {w : World} {A : Around} {E : Value → Shared → Prop} {env : Env} {g : Heap} {L : Addr} {m : Str → Option Value} {s₁ : Shared}
theorem CSrc.trioH {elt : Expr} {x : Str} {px : Pos} {scope : Scope} {cl : List (Str × Addr)} {Q : Value → Shared → Prop} {ax : Addr} {vs : List Value} {k : Nat} {nx led : List (Addr × Obj)} {ds : List (Int × Int × Str)} {f : Int × Int × Str → Int} (_hint : FHint f)
    (hh : A.handled = none) (hkind : scope.kind = .function) (hx : scope.names.lookup x = some .local)
    (F : Fr g L s₁.heap m) (N : News g L s₁.heap nx) (hm : (ax, listOf (List.toArray vs) k) ∈ nx) (hT : TrioAre led vs ds) (hs : ∀ p ∈ led, p ∈ nx) (hlen : vs.length ≤ 20)
    (turn : ∀ p c v k' t1 t2 t3 ys C oC I oI D m₃ h tk E', (p, tupO [.int c t1, .int v t2, .str k' t3]) ∈ nx → NsObj oC m₃ → m₃ x = some (.ref p) → Fr g L h m → News g L h ((I, oI) :: (C, oC) :: (D, lst ys) :: nx) →
      wpAny (model prog w) A (eval elt (compEnvC scope cl C env)) (NEnd g L m (f (c, v, k')) ((I, oI) :: (C, oC) :: (D, lst ys) :: nx) { s₁ with heap := h, toks := tk }) E' { s₁ with heap := h, toks := tk })
    (done : ∀ D ys h tk, IntsAre ys (ds.map f) → ys.length ≤ 20 → Fr g L h m → News g L h ((D, lst ys) :: nx) → (∀ p ∈ nx, p.1 ≠ D) → Q (.ref D) { s₁ with heap := h, toks := tk }) :
    CSrc prog w A g L m env scope cl (.Name x px) [] elt Q (.ref ax) s₁ := CSrc.trio f hh hkind hx F N hm hT hs hlen turn done
end
example : True := by
  k_with "eval IfExp" => (
(k_here; (with_reducible rename TabIn _ _ _ => hTm); (refine if_any ?_ ?_ ?_); (all_goals (try intro s9)))
    )
  k_with "exec Assign cons ListComp" => (
(k_here; (with_reducible show wpAny _ _ (exec (Stmt.Assign [Expr.Name _ _] (Expr.ListComp _ _ _ _) _) _) _ _ _); k_dflt (apply Assign_items; (case _F => k_asm); (case hL => rfl); (case hsw => with_unfolding_all rfl); (case hy => rfl); (case hp => rfl); (case hclos => with_unfolding_all rfl); (case hcell => decide); (case hkind => rfl); (case hnames => decide); (case h1 => rfl); (case h2 => rfl); (case h12 => decide); (case hs => intro _; rfl)))
    )
  k_with "exec For Name Name cons nil" => (
(k_here; (with_reducible show wpAny _ _ (exec (Stmt.For (Expr.Name _ _) (Expr.Name _ _) _ _ _) _) _ _ _); trace "FOR"; (with_unfolding_all refine wpAny_For ?_ (by intro _; rfl)))
    )
  k_with "ISrc" => (
(k_dflt (apply ISrc.tab; (case hh => rfl); (case F => k_asm); (case N => k_asm); (case hv => k_mem); (case hm => k_mem); (case hod => k_asm); (case hT => k_asm); (case hs => walk_at "in_led"); (case hlen => with_reducible assumption)); all_goals first
    | (intro k c v q t1 t2 t ys nx C oC I oI D m₃ h tk E' hq hNC e1 e2 F' N')
    | (intro D ys tn h tk hTr hyl hoff off1 off2 F' N'; (try dsimp only [List.map_cons, List.map_nil] at hoff); replace off1 := allNe_of off1; (try dsimp only [List.cons_append, List.nil_append] at N')))
    )
  k_with "pyIter ref" => (
(k_here; (with_reducible rename TrioIn _ _ => hTr9); refine stuck ?_)
    )
  k_with "eval ListComp" => (
(k_here; (with_reducible rename TrioAre _ _ _ => hTA); k_dflt (apply ListComp_own; (case _F => k_asm); (case hclos => with_unfolding_all rfl); (case hcell => decide); (case hkind => rfl); (case hnames => decide); (case hs => intro _; rfl)))
    )
  k_with "CSrc" => (
(k_here; (with_reducible rename TrioAre _ _ _ => hTA); k_dflt (apply CSrc.trioH; (case hT => exact hTA); (case _hint => with_reducible assumption); (case hh => rfl); (case hkind => rfl); (case hx => rfl); (case F => k_asm); (case N => k_asm); (case hm => k_mem); (case hs => walk_at "in_led"); (case hlen => assumption)); all_goals first
    | (intro p c v k' t1 t2 t3 ys C oC I oI D m₃ h tk E' hp9 hNC e1 F' N')
    | (intro D ys h tk hI9 hyl9 F' N' off9; replace off9 := allNe_of off9))
    )
  k_with "call ref" => (
(k_here; (with_reducible show wpAny _ _ (call (Value.ref 57) [Value.ref _, Value.ref _, Value.ref _]) _ _ _); k_dflt (apply compare_use; (case hA => exact rfl); (case hf => exact rfl); (case hk => exact rfl); (case F => k_asm); (case B => k_asm); (case X => k_asm); (case N => k_asm); (case T => k_asm); (case hh => exact rfl); (case hg => exact rfl); (case hdp => exact Nat.le_of_ble_eq_true rfl); (case hu => exact Nat.le_of_ble_eq_true rfl); (case m6 => k_mem); (case m7 => k_mem); (case m1 => k_mem); (case m2 => k_mem); (case m3 => k_mem); (case m4 => (repeat (first | with_reducible assumption | refine List.mem_cons_of_mem _ ?_))); (case m5 => (repeat (first | with_reducible assumption | refine List.mem_cons_of_mem _ ?_))); (case hi => with_reducible assumption); k_whole; intro t9 h9 tk9 F' N'))
    )
  k_with "call ref" => (
(k_here; (with_reducible show wpAny _ _ (call (Value.ref 134) [Value.ref _, Value.ref _, Value.ref _]) _ _ _); k_dflt (apply order_use; (case hA => exact rfl); (case hf => exact rfl); (case hk => exact rfl); (case F => k_asm); (case B => k_asm); (case X => k_asm); (case N => k_asm); (case T => k_asm); (case hh => exact rfl); (case hg => exact rfl); (case hdp => exact Nat.le_of_ble_eq_true rfl); (case hu => exact Nat.le_of_ble_eq_true rfl); (case m1 => k_mem); (case m2 => k_mem); (case m3 => k_mem); (case m4 => (repeat (first | with_reducible assumption | refine List.mem_cons_of_mem _ ?_))); (case m5 => (repeat (first | with_reducible assumption | refine List.mem_cons_of_mem _ ?_))); (case hi => with_reducible assumption); k_whole; intro t9 h9 tk9 F' N'))
    )
  k_with "CLPost" => (
(refine ⟨rfl, _, _, _, rfl, by k_asm, by k_asm, ?_⟩; exact fun p9 hp9 => List.mem_cons_of_mem _ (List.mem_cons_of_mem _ hp9))
    )
  k_with "NEnd" => (
exact ⟨_, _, _, rfl, rfl, by k_asm, by k_asm⟩
    )
  k_with "compareOp NotEq ref ref" => (
(k_here; (with_reducible show wpAny _ _ (compareOp CmpOp.NotEq (Value.ref _) (Value.ref _)) _ _ _); k_dflt (apply ne_ints; (case N => k_asm); (case m1 => k_mem); (case m2 => k_mem); (case h1 => k_asm); (case h2 => k_asm); (case hu => ke_room)))
    )
  k_with "TEnd" => (
(refine ⟨_, _, _, _, _, _, rfl, rfl, by with_reducible assumption, by k_dflt assumption, ?_⟩; k_dflt (exact allLt_mem (by assumption)))
    )
  k_with "subscriptTail" => (
(k_here; (with_reducible rename NsObj _ _ => hNb); (with_reducible show wpAny _ _ (subscriptTail _ _ (Value.ref _) (Value.int _ _)) _ _ _); k_dflt (apply item_tupleT; (case ht => exact News.isTup (by k_asm) (.tail _ (.tail _ (.tail _ (by with_reducible assumption))))); (case hlo => decide); (case hhi => decide); (case hj => rfl); (case hx => rfl); k_whole))
    )
  trivial
section
variable {prog : Program} {w : World} {A₀ : Around} {s : Shared} {base h₀ : Heap} {L : Addr} {mB mg mb : Str → Option Value} {mean : ExcName → Option Value} {tp : Program} {tl₀ : List Str} {R : Result → Shared → Prop} {E : Value → Shared → Prop}
set_option maxHeartbeats 1000000 in
theorem law_loop {fd : FuncData} {oc : Value} {od' : Option Addr} {osl : Array (Option Value)} (ho : (hd.heap_39 w.params).lookup 139 = some ⟨oc, od', .func fd, osl⟩)
    {tt tk a' b' a1 rl x dd kl k1 k2 : Addr} {wh i1 d1 d2 : Int} {tw tx t1 t2 t3 t4 : Tok} {o1 o2 o3 : Obj} {v1 : Option Value} {ws rs : List Value} {ys : List Int} {ps : Array Value} {tn : List (Addr × Obj)}
    (B : Below callerA base [] h₀) (X : (hd.heap_39 w.params).In h₀) (T : Top tp tl₀ mean mg mb h₀) (D : KtsDicts (([] : List Env).filterMap (·.frame)) h₀)
    (F : Fr h₀ L s.heap (fun y => if y = Str.ofString "rows" then some (.ref rl) else if y = Str.ofString "total" then some (.ref tt) else if y = Str.ofString "lines" then some (.ref a') else if y = Str.ofString "ledger" then some (.ref b') else if y = Str.ofString "due" then some (.ref a1) else if y = Str.ofString "whole" then some (.int wh tw) else if y = Str.ofString "taken" then some (.ref tk) else mB y))
    (N : News h₀ L s.heap ((rl, lst rs) :: (x, instObj 60 dd) :: (dd, dictOf [DictEntry.mk (PyData.keyHash w.params (Str.ofString "comp_select_list")) (.str (Str.ofString "comp_select_list") tx) (.ref kl)] 1) :: (kl, listOf #[.ref k1, .ref k2] 0) :: (k2, tupO [.int 2 t1, .int d2 t2]) :: (k1, tupO [.int i1 t3, .int d1 t4]) :: (tk, listOf (List.toArray ws) 0) :: (L + 1 + 1 + 1, o1) :: (L + 1 + 1, o2) :: (L + 1, o3) :: (PA, tabObj ps) :: tn))
    (hd1 : o1.data = .cell v1) (hd2 : o2.data = .cell (some (.ref x))) (hd3 : o3.data = .cell (some (.ref kl))) (hi : IntsAre ws ys) (hys : ∀ y ∈ ys, 0 ≤ y ∧ y < 1000000) (hlen : ys.length ≤ 20) (hi1 : i1 = 0 ∨ i1 = 1)
    (hTr : TrioIn tn rs) (hrs : rs.length ≤ 20)
    (ne1 : @Ne Nat rl (L + 1 + 1 + 1) ∧ @Ne Nat x (L + 1 + 1 + 1) ∧ @Ne Nat dd (L + 1 + 1 + 1) ∧ @Ne Nat kl (L + 1 + 1 + 1) ∧ @Ne Nat k2 (L + 1 + 1 + 1) ∧ @Ne Nat k1 (L + 1 + 1 + 1) ∧ @Ne Nat tk (L + 1 + 1 + 1) ∧ @Ne Nat PA (L + 1 + 1 + 1))
    (ne2 : OwnOff tn [L + 1 + 1 + 1])
    (fin : (∀ h' tk9, Fr h₀ L h' (fun y => if y = Str.ofString "rows" then some (.ref rl) else if y = Str.ofString "total" then some (.ref tt) else if y = Str.ofString "lines" then some (.ref a') else if y = Str.ofString "ledger" then some (.ref b') else if y = Str.ofString "due" then some (.ref a1) else if y = Str.ofString "whole" then some (.int wh tw) else if y = Str.ofString "taken" then some (.ref tk) else mB y) → News h₀ L h' [(tk, listOf (List.toArray ws) 0), (PA, tabObj ps)] → wpAny (model prog w) (callerA.deeper (envOfC (Str.ofString "law") fd.scope L 139 fd.code)) (execs (List.drop 11 (stmtsOf fd.body)) (envOfC (Str.ofString "law") fd.scope L 139 fd.code))
        (fun fl s' => R (.ok (.ret (match fl with | .ret v => v | _ => .none))) s') E { s with heap := h', toks := tk9 })) :
    wpAny (model prog w) (callerA.deeper (envOfC (Str.ofString "law") fd.scope L 139 fd.code)) (execs (List.drop 10 (stmtsOf fd.body)) (envOfC (Str.ofString "law") fd.scope L 139 fd.code))
        (fun fl s' => R (.ok (.ret (match fl with | .ret v => v | _ => .none))) s') E s := by
  revert fin
  refine' fd_go (P := fun fd => (∀ h' tk9, Fr h₀ L h' (fun y => if y = Str.ofString "rows" then some (.ref rl) else if y = Str.ofString "total" then some (.ref tt) else if y = Str.ofString "lines" then some (.ref a') else if y = Str.ofString "ledger" then some (.ref b') else if y = Str.ofString "due" then some (.ref a1) else if y = Str.ofString "whole" then some (.int wh tw) else if y = Str.ofString "taken" then some (.ref tk) else mB y) → News h₀ L h' [(tk, listOf (List.toArray ws) 0), (PA, tabObj ps)] → wpAny (model prog w) (callerA.deeper (envOfC (Str.ofString "law") fd.scope L 139 fd.code)) (execs (List.drop 11 (stmtsOf fd.body)) (envOfC (Str.ofString "law") fd.scope L 139 fd.code))
        (fun fl s' => R (.ok (.ret (match fl with | .ret v => v | _ => .none))) s') E { s with heap := h', toks := tk9 }) → wpAny (model prog w) (callerA.deeper (envOfC (Str.ofString "law") fd.scope L 139 fd.code)) (execs (List.drop 10 (stmtsOf fd.body)) (envOfC (Str.ofString "law") fd.scope L 139 fd.code))
        (fun fl s' => R (.ok (.ret (match fl with | .ret v => v | _ => .none))) s') E s) ho ?e ?_
  case e => k_is
  clear ho fd
  dsimp only [stmtsOf, List.drop]
  intro fin
  obtain ⟨ds9, hTA9⟩ := TrioIn.data hTr
  have q0 := ne1.1
  have q1 := ne1.2.1
  have q2 := ne1.2.2.1
  have q3 := ne1.2.2.2.1
  have q4 := ne1.2.2.2.2.1
  have q5 := ne1.2.2.2.2.2.1
  have q6 := ne1.2.2.2.2.2.2.1
  have q7 := ne1.2.2.2.2.2.2.2
  walk_at "m steps"
  with_reducible show Stuck _
  unfold Stuck
  with_reducible rename TrioIn _ _ => hTr
  refine' forListC ?hhZ15 ?kZ15 ?xZ15 ?cZ15 F N ?lZ15 ?lcZ15 ?UZ15 ?oZ15 ?_ ?_
  case hhZ15 => rfl
  case kZ15 => rfl
  case xZ15 => rfl
  case cZ15 => rfl
  case lZ15 => k_mem
  case lcZ15 => k_ne
  case UZ15 => k_updF
  case oZ15 => k_asm
  · intro v oc' It oIt h tk E' hv9 hc9 F' N' off9
    (try dsimp only at N')
    have e9 := (show ∀ x ∈ rs, ∃ p c v k t1 t2 t3, x = .ref p ∧ (p, tupO [.int c t1, .int v t2, .str k t3]) ∈ tn from hTr) v hv9
    obtain ⟨p9, c9, v9, k9, t91, t92, t93, rfl, hp9⟩ := e9
    have hint9 : FHint (ordD i1 d1 d2 c9 v9 k9) := True.intro
    walk_at "m steps"
  · intro oc' h tk9 v' hc9 F' N'
    (try dsimp only at N')
    k_unfold
    (try dsimp only)
    exact fin _ _ F' (fun p hp => N' p (by
      simp only [List.mem_cons, List.not_mem_nil, or_false] at hp
      rcases hp with rfl | rfl
      · exact .tail _ (.tail _ (.tail _ (.tail _ (.tail _ (.tail _ (.head _))))))
      · exact .tail _ (.tail _ (.tail _ (.tail _ (.tail _ (.tail _ (.tail _ (.tail _ (.tail _ (.tail _ (.head _))))))))))))
end
end T50
section T51
open PyProof.Rows.LCg (NsObj ns_obj lst lst_snoc Off3)
example : True := by
  w_top off
  trivial
theorem fill19 : PySem.Challenge.rw_pe0125_01 = PySem.Challenge.rw_pe0125_01 ∧ hd.heap_39 = hd.heap_39 := by
  k_fill
  exact ⟨rfl, rfl⟩
example : True := by
  k_with "eval IfExp" => (
(k_here; (with_reducible rename TabIn _ _ _ => hTm); (refine if_any ?_ ?_ ?_); (all_goals (try intro s9)))
    )
  k_with "exec Assign cons ListComp" => (
(k_here; (with_reducible show wpAny _ _ (exec (Stmt.Assign [Expr.Name _ _] (Expr.ListComp _ _ _ _) _) _) _ _ _); k_dflt (apply Assign_items; (case _F => k_asm); (case hL => rfl); (case hsw => with_unfolding_all rfl); (case hy => rfl); (case hp => rfl); (case hclos => with_unfolding_all rfl); (case hcell => decide); (case hkind => rfl); (case hnames => decide); (case h1 => rfl); (case h2 => rfl); (case h12 => decide); (case hs => intro _; rfl)))
    )
  k_with "ISrc" => (
(k_dflt (apply ISrc.tab; (case hh => rfl); (case F => k_asm); (case N => k_asm); (case hv => k_mem); (case hm => k_mem); (case hod => k_asm); (case hT => k_asm); (case hs => walk_at "in_led"); (case hlen => with_reducible assumption)); all_goals first
    | (intro k c v q t1 t2 t ys nx C oC I oI D m₃ h tk E' hq hNC e1 e2 F' N')
    | (intro D ys tn h tk hTr hyl hoff off1 off2 F' N'; (try dsimp only [List.map_cons, List.map_nil] at hoff); replace off1 := allNe_of off1; (try dsimp only [List.cons_append, List.nil_append] at N')))
    )
  k_with "TEnd" => (
(refine ⟨_, _, _, _, _, _, rfl, rfl, by with_reducible assumption, by k_dflt assumption, ?_⟩; k_dflt (exact allLt_mem (by assumption)))
    )
  k_with "subscriptTail" => (
(k_here; (with_reducible rename NsObj _ _ => hNb); (with_reducible show wpAny _ _ (subscriptTail _ _ (Value.ref _) (Value.int _ _)) _ _ _); k_dflt (apply item_tupleT; (case ht => exact News.isTup (by k_asm) (List.mem_cons_of_mem _ (List.mem_cons_of_mem _ (List.mem_cons_of_mem _ (by with_reducible assumption))))); (case hlo => decide); (case hhi => decide); (case hj => rfl); (case hx => rfl); k_whole))
    )
  k_with "execs cons" => (
(k_here; (with_reducible show wpAny _ _ (execs [Stmt.For _ _ _ _ _, Stmt.Return _ _] _) _ _ _); refine stuck ?_)
    )
  trivial
theorem trim6 {g : Heap} {L : Addr} {h : Heap} {a0 a1 a2 a3 a4 a5 a6 a7 a8 a9 a10 a11 a12 a13 : Addr × Obj} {r r2 : List (Addr × Obj)} (N : News g L h (a0 :: a1 :: a2 :: a3 :: a4 :: a5 :: a6 :: a7 :: a8 :: a9 :: a10 :: a11 :: a12 :: a13 :: (r ++ r2))) : News g L h (a0 :: a2 :: a3 :: a4 :: a5 :: a6 :: a9 :: a10 :: a11 :: a12 :: a13 :: r2) :=
  sub9 N (List.forall_mem_cons.mpr ⟨.head _, List.forall_mem_cons.mpr ⟨.tail _ (.tail _ (.head _)), List.forall_mem_cons.mpr ⟨.tail _ (.tail _ (.tail _ (.head _))), List.forall_mem_cons.mpr ⟨.tail _ (.tail _ (.tail _ (.tail _ (.head _)))), List.forall_mem_cons.mpr ⟨.tail _ (.tail _ (.tail _ (.tail _ (.tail _ (.head _))))), List.forall_mem_cons.mpr ⟨.tail _ (.tail _ (.tail _ (.tail _ (.tail _ (.tail _ (.head _)))))), List.forall_mem_cons.mpr ⟨.tail _ (.tail _ (.tail _ (.tail _ (.tail _ (.tail _ (.tail _ (.tail _ (.tail _ (.head _))))))))), List.forall_mem_cons.mpr ⟨.tail _ (.tail _ (.tail _ (.tail _ (.tail _ (.tail _ (.tail _ (.tail _ (.tail _ (.tail _ (.head _)))))))))), List.forall_mem_cons.mpr ⟨.tail _ (.tail _ (.tail _ (.tail _ (.tail _ (.tail _ (.tail _ (.tail _ (.tail _ (.tail _ (.tail _ (.head _))))))))))), List.forall_mem_cons.mpr ⟨.tail _ (.tail _ (.tail _ (.tail _ (.tail _ (.tail _ (.tail _ (.tail _ (.tail _ (.tail _ (.tail _ (.tail _ (.head _)))))))))))), List.forall_mem_cons.mpr ⟨.tail _ (.tail _ (.tail _ (.tail _ (.tail _ (.tail _ (.tail _ (.tail _ (.tail _ (.tail _ (.tail _ (.tail _ (.tail _ (.head _))))))))))))), fun p hp => .tail _ (.tail _ (.tail _ (.tail _ (.tail _ (.tail _ (.tail _ (.tail _ (.tail _ (.tail _ (.tail _ (.tail _ (.tail _ (.tail _ (List.mem_append_right _ hp))))))))))))))⟩⟩⟩⟩⟩⟩⟩⟩⟩⟩⟩)
section
variable {prog : Program} {w : World} {A₀ : Around} {s : Shared} {base h₀ : Heap} {L : Addr} {mB mg mb : Str → Option Value} {mean : ExcName → Option Value} {tp : Program} {tl₀ : List Str} {R : Result → Shared → Prop} {E : Value → Shared → Prop}
set_option maxHeartbeats 1000000 in
theorem law_mid {fd : FuncData} {oc : Value} {od' : Option Addr} {osl : Array (Option Value)} (ho : (hd.heap_39 w.params).lookup 139 = some ⟨oc, od', .func fd, osl⟩)
    {tt dt tk a' b' a1 : Addr} {n1 n2 n3 n4 wh : Int} {u1 u2 u3 u4 tw : Tok} {od o1 o2 o3 : Obj} {v1 v2 v3 : Option Value} {ws : List Value} {ys : List Int} {ps : Array Value} {tl : List (Addr × Obj)} {kvs : List (Str × Value)} {tab : List (Str × Int × Int)}
    (B : Below callerA base [] h₀) (X : (hd.heap_39 w.params).In h₀) (T : Top tp tl₀ mean mg mb h₀) (D : KtsDicts (([] : List Env).filterMap (·.frame)) h₀)
    (F : Fr h₀ L s.heap (fun y => if y = Str.ofString "total" then some (.ref tt) else if y = Str.ofString "lines" then some (.ref a') else if y = Str.ofString "ledger" then some (.ref b') else if y = Str.ofString "due" then some (.ref a1) else if y = Str.ofString "whole" then some (.int wh tw) else if y = Str.ofString "taken" then some (.ref tk) else mB y))
    (N : News h₀ L s.heap ((tt, tupO [.int n1 u1, .int n2 u2, .int n3 u3, .int n4 u4, .ref dt]) :: (dt, od) :: (tk, listOf (List.toArray ws) 0) :: (L + 1 + 1 + 1, o1) :: (L + 1 + 1, o2) :: (L + 1, o3) :: (PA, tabObj ps) :: tl))
    (hd1 : o1.data = .cell v1) (hd2 : o2.data = .cell v2) (hd3 : o3.data = .cell v3) (hi : IntsAre ws ys) (hys : ∀ y ∈ ys, 0 ≤ y ∧ y < 1000000) (hlen : ys.length ≤ 20)
    (hod : od.IsDictOf (PySem.strKind prog w) kvs) (hT : TabIn tl kvs tab) (hkv : kvs.length ≤ 20) (hlo : (dt == sysModules) = false)
    (ne1 : @Ne Nat tt (L + 1 + 1 + 1) ∧ @Ne Nat tt (L + 1 + 1) ∧ @Ne Nat tt (L + 1) ∧ @Ne Nat dt (L + 1 + 1 + 1) ∧ @Ne Nat dt (L + 1 + 1) ∧ @Ne Nat dt (L + 1) ∧ @Ne Nat tk (L + 1 + 1 + 1) ∧ @Ne Nat tk (L + 1 + 1) ∧ @Ne Nat tk (L + 1) ∧ @Ne Nat PA (L + 1 + 1 + 1) ∧ @Ne Nat PA (L + 1 + 1) ∧ @Ne Nat PA (L + 1))
    (ne2 : OwnOff tl [L + 1 + 1 + 1, L + 1 + 1, L + 1])
    (fin : (∀ {rl x dd kl k1 k2 : Addr} {i1 d1 d2 : Int} {tx t1 t2 t3 t4 : Tok} {o1' o2' o3' : Obj} {v1 : Option Value} {rs : List Value} {tn : List (Addr × Obj)} h' tk9, Fr h₀ L h' (fun y => if y = Str.ofString "rows" then some (.ref rl) else if y = Str.ofString "total" then some (.ref tt) else if y = Str.ofString "lines" then some (.ref a') else if y = Str.ofString "ledger" then some (.ref b') else if y = Str.ofString "due" then some (.ref a1) else if y = Str.ofString "whole" then some (.int wh tw) else if y = Str.ofString "taken" then some (.ref tk) else mB y) → News h₀ L h' ((rl, lst rs) :: (x, instObj 60 dd) :: (dd, dictOf [DictEntry.mk (PyData.keyHash w.params (Str.ofString "comp_select_list")) (.str (Str.ofString "comp_select_list") tx) (.ref kl)] 1) :: (kl, listOf #[.ref k1, .ref k2] 0) :: (k2, tupO [.int 2 t1, .int d2 t2]) :: (k1, tupO [.int i1 t3, .int d1 t4]) :: (tk, listOf (List.toArray ws) 0) :: (L + 1 + 1 + 1, o1') :: (L + 1 + 1, o2') :: (L + 1, o3') :: (PA, tabObj ps) :: tn) → o1'.data = .cell v1 → o2'.data = .cell (some (.ref x)) → o3'.data = .cell (some (.ref kl)) → i1 = Int.fmod wh 2 → TrioIn tn rs → rs.length ≤ 20 → (@Ne Nat rl (L + 1 + 1 + 1) ∧ @Ne Nat x (L + 1 + 1 + 1) ∧ @Ne Nat dd (L + 1 + 1 + 1) ∧ @Ne Nat kl (L + 1 + 1 + 1) ∧ @Ne Nat k2 (L + 1 + 1 + 1) ∧ @Ne Nat k1 (L + 1 + 1 + 1) ∧ @Ne Nat tk (L + 1 + 1 + 1) ∧ @Ne Nat PA (L + 1 + 1 + 1)) → OwnOff tn [L + 1 + 1 + 1] → wpAny (model prog w) (callerA.deeper (envOfC (Str.ofString "law") fd.scope L 139 fd.code)) (execs (List.drop 10 (stmtsOf fd.body)) (envOfC (Str.ofString "law") fd.scope L 139 fd.code))
        (fun fl s' => R (.ok (.ret (match fl with | .ret v => v | _ => .none))) s') E { s with heap := h', toks := tk9 })) :
    wpAny (model prog w) (callerA.deeper (envOfC (Str.ofString "law") fd.scope L 139 fd.code)) (execs (List.drop 7 (stmtsOf fd.body)) (envOfC (Str.ofString "law") fd.scope L 139 fd.code))
        (fun fl s' => R (.ok (.ret (match fl with | .ret v => v | _ => .none))) s') E s := by
  revert fin
  refine' fd_go (P := fun fd => (∀ {rl x dd kl k1 k2 : Addr} {i1 d1 d2 : Int} {tx t1 t2 t3 t4 : Tok} {o1' o2' o3' : Obj} {v1 : Option Value} {rs : List Value} {tn : List (Addr × Obj)} h' tk9, Fr h₀ L h' (fun y => if y = Str.ofString "rows" then some (.ref rl) else if y = Str.ofString "total" then some (.ref tt) else if y = Str.ofString "lines" then some (.ref a') else if y = Str.ofString "ledger" then some (.ref b') else if y = Str.ofString "due" then some (.ref a1) else if y = Str.ofString "whole" then some (.int wh tw) else if y = Str.ofString "taken" then some (.ref tk) else mB y) → News h₀ L h' ((rl, lst rs) :: (x, instObj 60 dd) :: (dd, dictOf [DictEntry.mk (PyData.keyHash w.params (Str.ofString "comp_select_list")) (.str (Str.ofString "comp_select_list") tx) (.ref kl)] 1) :: (kl, listOf #[.ref k1, .ref k2] 0) :: (k2, tupO [.int 2 t1, .int d2 t2]) :: (k1, tupO [.int i1 t3, .int d1 t4]) :: (tk, listOf (List.toArray ws) 0) :: (L + 1 + 1 + 1, o1') :: (L + 1 + 1, o2') :: (L + 1, o3') :: (PA, tabObj ps) :: tn) → o1'.data = .cell v1 → o2'.data = .cell (some (.ref x)) → o3'.data = .cell (some (.ref kl)) → i1 = Int.fmod wh 2 → TrioIn tn rs → rs.length ≤ 20 → (@Ne Nat rl (L + 1 + 1 + 1) ∧ @Ne Nat x (L + 1 + 1 + 1) ∧ @Ne Nat dd (L + 1 + 1 + 1) ∧ @Ne Nat kl (L + 1 + 1 + 1) ∧ @Ne Nat k2 (L + 1 + 1 + 1) ∧ @Ne Nat k1 (L + 1 + 1 + 1) ∧ @Ne Nat tk (L + 1 + 1 + 1) ∧ @Ne Nat PA (L + 1 + 1 + 1)) → OwnOff tn [L + 1 + 1 + 1] → wpAny (model prog w) (callerA.deeper (envOfC (Str.ofString "law") fd.scope L 139 fd.code)) (execs (List.drop 10 (stmtsOf fd.body)) (envOfC (Str.ofString "law") fd.scope L 139 fd.code))
        (fun fl s' => R (.ok (.ret (match fl with | .ret v => v | _ => .none))) s') E { s with heap := h', toks := tk9 }) → wpAny (model prog w) (callerA.deeper (envOfC (Str.ofString "law") fd.scope L 139 fd.code)) (execs (List.drop 7 (stmtsOf fd.body)) (envOfC (Str.ofString "law") fd.scope L 139 fd.code))
        (fun fl s' => R (.ok (.ret (match fl with | .ret v => v | _ => .none))) s') E s) ho ?e ?_
  case e => k_is
  clear ho fd
  dsimp only [stmtsOf, List.drop]
  intro fin
  have q0 := ne1.1
  have q1 := ne1.2.1
  have q2 := ne1.2.2.1
  have q3 := ne1.2.2.2.1
  have q4 := ne1.2.2.2.2.1
  have q5 := ne1.2.2.2.2.2.1
  have q6 := ne1.2.2.2.2.2.2.1
  have q7 := ne1.2.2.2.2.2.2.2.1
  have q8 := ne1.2.2.2.2.2.2.2.2.1
  have q9 := ne1.2.2.2.2.2.2.2.2.2.1
  have q10 := ne1.2.2.2.2.2.2.2.2.2.2.1
  have q11 := ne1.2.2.2.2.2.2.2.2.2.2.2
  walk_at "m steps"
  with_reducible show Stuck _
  unfold Stuck
  with_reducible rename TrioIn _ _ => hTr9
  with_reducible rename Fr _ _ _ _ => F9
  with_reducible rename News _ _ _ _ => N9
  with_reducible rename OwnOff _ _ => hoff9
  refine' fin _ _ F9 (trim6 N9) ?c1Z14 ?c2Z14 ?c3Z14 ?iZ14 hTr9 ?zZ14 ?n1Z14 ?n2Z14
  case c1Z14 => with_reducible assumption
  case c2Z14 => with_reducible assumption
  case c3Z14 => with_reducible assumption
  case iZ14 => rfl
  case zZ14 => with_reducible assumption
  case n1Z14 =>
    refine ⟨?_, ?_, ?_, ?_, ?_, ?_, ?_, ?_⟩
    all_goals k_ne
  case n2Z14 =>
    intro p9 hp9 b9 hb9
    rw [List.mem_singleton.mp hb9]
    exact hoff9 p9 hp9 _ (.tail _ (.tail _ (.tail _ (.tail _ (.tail _ (.tail _ (.tail _ (.tail _ (.tail _ (.head _))))))))))
end
end T51
section T52
open PyProof.Rows.LCg (NsObj ns_obj lst lst_snoc Off3)
section
variable {prog : Program} {w : World} {A₀ : Around} {s : Shared} {base h₀ : Heap} {L : Addr} {mB mg mb : Str → Option Value} {mean : ExcName → Option Value} {tp : Program} {tl₀ : List Str} {R : Result → Shared → Prop} {E : Value → Shared → Prop}
theorem law_tail {fd : FuncData} {oc : Value} {od' : Option Addr} {osl : Array (Option Value)} (ho : (hd.heap_39 w.params).lookup 139 = some ⟨oc, od', .func fd, osl⟩)
    {tt dt tk a' b' a1 : Addr} {n1 n2 n3 n4 wh : Int} {u1 u2 u3 u4 tw : Tok} {od o1 o2 o3 : Obj} {v1 v2 v3 : Option Value} {ws : List Value} {ys : List Int} {ps : Array Value} {tl : List (Addr × Obj)} {kvs : List (Str × Value)} {tab : List (Str × Int × Int)}
    (B : Below callerA base [] h₀) (X : (hd.heap_39 w.params).In h₀) (T : Top tp tl₀ mean mg mb h₀) (D : KtsDicts (([] : List Env).filterMap (·.frame)) h₀)
    (F : Fr h₀ L s.heap (fun y => if y = Str.ofString "total" then some (.ref tt) else if y = Str.ofString "lines" then some (.ref a') else if y = Str.ofString "ledger" then some (.ref b') else if y = Str.ofString "due" then some (.ref a1) else if y = Str.ofString "whole" then some (.int wh tw) else if y = Str.ofString "taken" then some (.ref tk) else mB y))
    (N : News h₀ L s.heap ((tt, tupO [.int n1 u1, .int n2 u2, .int n3 u3, .int n4 u4, .ref dt]) :: (dt, od) :: (tk, listOf (List.toArray ws) 0) :: (L + 1 + 1 + 1, o1) :: (L + 1 + 1, o2) :: (L + 1, o3) :: (PA, tabObj ps) :: tl))
    (hd1 : o1.data = .cell v1) (hd2 : o2.data = .cell v2) (hd3 : o3.data = .cell v3) (hi : IntsAre ws ys) (hys : ∀ y ∈ ys, 0 ≤ y ∧ y < 1000000) (hlen : ys.length ≤ 20)
    (hod : od.IsDictOf (PySem.strKind prog w) kvs) (hT : TabIn tl kvs tab) (hkv : kvs.length ≤ 20) (hlo : (dt == sysModules) = false)
    (ne1 : @Ne Nat tt (L + 1 + 1 + 1) ∧ @Ne Nat tt (L + 1 + 1) ∧ @Ne Nat tt (L + 1) ∧ @Ne Nat dt (L + 1 + 1 + 1) ∧ @Ne Nat dt (L + 1 + 1) ∧ @Ne Nat dt (L + 1) ∧ @Ne Nat tk (L + 1 + 1 + 1) ∧ @Ne Nat tk (L + 1 + 1) ∧ @Ne Nat tk (L + 1) ∧ @Ne Nat PA (L + 1 + 1 + 1) ∧ @Ne Nat PA (L + 1 + 1) ∧ @Ne Nat PA (L + 1))
    (ne2 : OwnOff tl [L + 1 + 1 + 1, L + 1 + 1, L + 1])
    (post : ∀ h' tk m' news', Fr h₀ L h' m' → News h₀ L h' news' → (PA, tabObj ps) ∈ news' → R (.ok (.ret (.bool true))) { s with heap := h', toks := tk }) :
    wpAny (model prog w) (callerA.deeper (envOfC (Str.ofString "law") fd.scope L 139 fd.code)) (execs (List.drop 7 (stmtsOf fd.body)) (envOfC (Str.ofString "law") fd.scope L 139 fd.code))
        (fun fl s' => R (.ok (.ret (match fl with | .ret v => v | _ => .none))) s') E s :=
  law_mid ho B X T D F N hd1 hd2 hd3 hi hys hlen hod hT hkv hlo ne1 ne2
    fun _ _ F9 N9 c1 c2 c3 hi1 hTr hz n1 n2 => law_loop ho B X T D F9 N9 c1 c2 c3 hi hys hlen (by rw [hi1]; exact mod2 wh) hTr hz n1 n2
      fun _ _ F8 N8 => law_last ho B X T D F8 N8 hi hys hlen fun h' tk m' news' F7 N7 hm => post h' tk m' news' F7 N7 hm
end
end T52
section T53
theorem fill27 : PySem.Challenge.rw_pe0125_01 = PySem.Challenge.rw_pe0125_01 ∧ hd.heap_39 = hd.heap_39 := by
  k_fill
  exact ⟨rfl, rfl⟩
section
variable {prog : Program} {w : World} {s : Shared} {mg mb : Str → Option Value} {mean : ExcName → Option Value} {tp : Program} {tl₀ : List Str}  {R : Result → Shared → Prop}
theorem law_all {g : Heap} (hg : g = hideAll s.heap ([((PA, tabObj #[]) : Addr × Obj)].map (·.1))) (hP : s.heap.get? PA = some (tabObj #[])) (X : (hd.heap_39 w.params).In g) (T : Top tp tl₀ mean mg mb g) {l : Addr} {vs : List Value} {ns : List Int} (hl : g.IsList l vs.toArray) (hi : IntsAre vs ns) (hlen : ns.length ≤ 63)
    (post : ∀ h₀' L' h' tk gs m' news' ps', KtsTurn [] g h₀' → Fr h₀' L' h' m' → News h₀' L' h' news' → (PA, tabObj ps') ∈ news' → (AllBare s.gens → AllBare gs) → R (.ok (.ret (.bool true))) { s with heap := h', toks := tk, gens := gs }) :
    codeAny (model prog w) callerA (.call (.ref 139) ⟨[.ref l], []⟩) R s := by
  have key : ∀ {fd : FuncData} {oc : Value} {od' : Option Addr} {osl : Array (Option Value)}, (hd.heap_39 w.params).lookup 139 = some ⟨oc, od', .func fd, osl⟩ → codeAny (model prog w) callerA (.call (.ref 139) ⟨[.ref l], []⟩) R s :=
    fun ho => law_first ho hg hP X T hl hi hlen post fun B X T D F N hd1 hd2 hd3 hi hys hlen hod hT hkv hlo ne1 ne2 post => law_tail ho B X T D F N hd1 hd2 hd3 hi hys hlen hod hT hkv hlo ne1 ne2 post
  refine' key ?hoZ20
  case hoZ20 => k_is
end
theorem at139 {mg : Str → Option Value} {h : Heap} {w : World} {fa : Addr} (X : (hd.heap_39 w.params).In h) (G : h.Ns mainGlobals mg) (e : mg (Str.ofString "law") = some (.ref fa)) : fa = 139 := by
  have e1 := mg_of X G (n := Str.ofString "law") (v := .ref 139) (by kernel_rfl)
  rw [e1] at e
  cases e
  rfl
end T53
end Mine
set_option maxHeartbeats 4000000 in
theorem PySem.Challenge.cw_pe0125_01_holds : PySem.Challenge.rw_pe0125_01.Holds := by
  refine Mine.hd ?_
  k_fill
  intro w s₀ s₁ mg mb G Y fa o pm cd doc dV kV ho hd hcd hD hmg hg args vals as hpre hlay hrd hwl hlo
  have KX := kIn_of Y
  have X := (Ground.X G).1
  have V := (Ground.X G).2
  refine Ground.open G ?_
  intro T B D TE TW
  try (refine guard_noD D (by decide +kernel) ?_; clear D)
  have hT9 : TabsAt [(84, 80)] s₁.heap := List.forall_mem_cons.mpr ⟨tab_of (x := PySem.Str.ofString "add_callers") (c := 84) (P := 80) T KX rfl (by kernel_rfl), fun _ h => nomatch h⟩
  have h139 := Mine.at139 KX T.g hmg
  subst h139
  wrow_args hpre hlay hrd hwl hlo
  all_goals (
    first | refine callC_kw (enter_call ?_) | refine enter_call ?_
    w_top on)
  clear hcd hD hd ho hmg
  refine Mine.law_all (g := ghostOf s₁.heap [(84, 80)]) rfl ?_ (ghost_K hT9 KX (by kernel_rfl)) (ghost_top hT9 T) (ghost_list hT9 (by assumption)) (by assumption) (by omega) ?_
  · exact (hT9 _ (.head _)).2
  · intro h₀' L' h' tk gs m' news' ps' TT F N hm hG
    refine Mine.good_end (hT9 _ (.head _)).1 (hT9 _ (.head _)).2 TT F N hm (hG (.of_eq hg)) ?hrZ21 ?hpZ21
    case hrZ21 => exact raisesW_false (by wrow_none_raised)
    case hpZ21 => wrow_post
