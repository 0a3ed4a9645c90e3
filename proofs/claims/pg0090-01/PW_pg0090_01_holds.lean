import PyProof.Rows.All
import Wide.All
import OpenK.AllK
import Wide.FinOn
import Lean
import PySem.Challenge.RW_pg0090_01
set_option Elab.async false
set_option linter.unusedSimpArgs false
set_option linter.unusedVariables false
local macro_rules | `(tactic| walk_at $s:str) => `(tactic| k_extra $s)
section PHd
open PySem PySem.W PyProof.Rows
namespace Mine
set_option maxRecDepth 100000 in
set_option maxHeartbeats 0 in
open_top hd for PySem.Challenge.rw_pg0090_01
end Mine
end PHd
theorem Mine.rstHd : True := by
  w_top off
  k_with_none
  first | (walk1; fail "x") | exact True.intro
section PW0
open PySem PySem.W PyProof.Rows PySem.Calls PySem.Spec
set_option maxRecDepth 100000
namespace Mine
/-- a surrounding in which no exception is being handled -/
abbrev Ar (dp un : Nat) (fr : Option (List Env)) (gd : Option (List Code)) : Around := { handled := none, depth := dp, frames := fr, guards := gd, units := un }
/-- all that stood still stands -/
def Kp (h h' : Heap) : Prop := ∀ b o, h.get? b = some o → h'.get? b = some o
theorem Kp.refl (h : Heap) : Kp h h := fun _ _ e => e
theorem Kp.trans {h h' h'' : Heap} (a : Kp h h') (b : Kp h' h'') : Kp h h'' := fun x o e => b x o (a x o e)
/-- the top stands in h₀ -/
def Amb (w : World) (h₀ : Heap) : Prop := (hd.heap_39 w.params).In h₀ ∧ ∃ loose mean mg mb, Top hd.view_39 loose mean mg mb h₀
theorem Amb.keeps {w : World} {h h' : Heap} (a : Amb w h) (k : Kp h h') : Amb w h' := by
  obtain ⟨x, l, m, g, b, t⟩ := a
  exact ⟨x.keeps k, l, m, g, b, t.keeps k⟩
/-- known objects that the top does not own -/
def Own (h₀ h : Heap) (news : List (Addr × Obj)) : Prop := ∀ p ∈ news, h.get? p.1 = some p.2 ∧ h₀.get? p.1 = none
theorem Own.keeps {h₀ h h' : Heap} {news : List (Addr × Obj)} (a : Own h₀ h news) (k : Kp h h') : Own h₀ h' news := fun p hp => ⟨k _ _ (a p hp).1, (a p hp).2⟩
theorem Own.nil {h₀ h : Heap} : Own h₀ h [] := fun _ hp => nomatch hp
theorem Own.cons {h₀ h : Heap} {a : Addr} {o : Obj} {news : List (Addr × Obj)} (e : h.get? a = some o) (n : h₀.get? a = none) (t : Own h₀ h news) : Own h₀ h ((a, o) :: news) := fun p hp => by
  rcases List.mem_cons.mp hp with rfl | hp
  · exact ⟨e, n⟩
  · exact t p hp
theorem Own.append {h₀ h : Heap} {n1 n2 : List (Addr × Obj)} (a : Own h₀ h n1) (b : Own h₀ h n2) : Own h₀ h (n1 ++ n2) := fun p hp => (List.mem_append.mp hp).elim (a p) (b p)
theorem Own.sub {h₀ h : Heap} {n1 n2 : List (Addr × Obj)} (a : Own h₀ h n1) (b : ∀ p ∈ n2, p ∈ n1) : Own h₀ h n2 := fun p hp => a p (b p hp)

/-- what a frame that changes nothing of the old leaves -/
inductive LeaveP (g h : Heap) (news : List (Addr × Obj)) (R : Value → Shared → Prop) (v : Value) (s' : Shared) : Prop
  | mk (L' : Addr) (m' : Str → Option Value) (news' : List (Addr × Obj)) (q1 : Fr g L' s'.heap m') (q2 : News g L' s'.heap news') (q3 : (∀ p ∈ news, p ∈ news')) (q4 : (Kp h s'.heap → R v s'))
theorem leaveP_ {g h : Heap} {news news' : List (Addr × Obj)} {R : Value → Shared → Prop} {v : Value} {s' : Shared} {L' : Addr} {m' : Str → Option Value}
    (F : Fr g L' s'.heap m') (N : News g L' s'.heap news') (hs : ∀ p ∈ news, p ∈ news') (k : Kp h s'.heap → R v s') : LeaveP g h news R v s' := ⟨L', m', news', F, N, hs, k⟩

/-- what a call hands back, as a code's end -/
abbrev RV (R E : Value → Shared → Prop) : Result → Shared → Prop := fun r s' => match r with | .ok (.ret v) => R v s' | .ok _ => False | .error e => E e s'
theorem enterQ {prog : Program} {w : World} {A : Around} {s : Shared} {h₀ : Heap} {news : List (Addr × Obj)} {K : Frag} {p : Program} {loose : List Str} {mean : ExcName → Option Value} {mg mb : Str → Option Value}
    {R E : Value → Shared → Prop} {name qual : Str} {params : Arguments} {body : List Stmt} {scope : Scope} {dV kV doc pm cdv ct oc : Value} {an od : Option Addr} {osl : Array (Option Value)} {f : Addr} {args : List Value} {binds : List (Str × Value)}
    (X₀ : K.In h₀) (T : Top p loose mean mg mb h₀) (k₀ : Kp h₀ s.heap) (N : Own h₀ s.heap news)
    (ho : K.lookup f = some ⟨oc, od, .func (fnOf name qual params body scope dV kV doc pm an cdv ct), osl⟩) (hcd : codeIn K cdv qual = true) (hroom : A.depth < recursionLimit)
    (hbind : BindsTo s (fnOf name qual params body scope dV kV doc pm an cdv ct) ⟨args, []⟩ binds) (hloc : ∀ y ∈ binds, scope.names.lookup y.1 = some .local)
    (h : ∀ g L' h₁, Fr g L' h₁ (fun y => binds.reverse.lookup y) → News g L' h₁ news → K.In g → Top p loose mean mg mb g → (∀ p ∈ news, p.1 < L') → Kp h₀ g →
      (∀ b o, s.heap.get? b = some o → b ∉ news.map (·.1) → g.get? b = some o) →
      wpAny (model prog w) (A.deeper (envOf qual scope L' f cdv)) (execs body (envOf qual scope L' f cdv))
        (fun fl s' => LeaveP g s.heap news R (match fl with | .ret v => v | _ => .none) s') (fun _ _ => False)
        { s with heap := h₁, toks := s.toks + binds.length })
    (hco : scope.isCoroutine = false) (hgen : scope.isGenerator = false) (hk : scope.kind = .function)
    (hcell : ∀ x ∈ scope.names, x.2 ≠ .cell) : codeAny (model prog w) A (.call (.ref f) ⟨args, []⟩) (RV R E) s := by
  have nm : ∀ b o, h₀.get? b = some o → b ∉ news.map (·.1) := fun b o e q => by
    obtain ⟨p, hp, rfl⟩ := List.mem_map.mp q
    rw [(N p hp).2] at e; cases e
  have st : Kp h₀ (hideAll s.heap (news.map (·.1))) := fun b o e => hideAll_get _ (k₀ b o e) (nm b o e)
  have X := X₀.keeps k₀
  refine (codeAny_call_def (fd := fnOf name qual params body scope dV kV doc pm an cdv ct) (body := body) (binds := binds) hroom (X _ _ ho) rfl (T.nolimit.keeps k₀) (codeRec_of X hcd) rfl hbind hcell hloc (fun h₁ hns hk₁ => ?_) hco hgen hk)
  refine wpAny_mono (h (hideAll s.heap (news.map (fun q : Addr × Obj => q.1))) s.heap.objs.size h₁ ⟨hns, fun b o e => hk₁ b o (of_hideAll _ e), Nat.le_of_eq (hideAll_size _ _)⟩
    (fun p hp => ⟨hk₁ _ _ (N p hp).1, Nat.ne_of_lt (Heap.lt_size (N p hp).1), hideAll_none _ (List.mem_map_of_mem hp)⟩) (X₀.keeps st) (T.keeps st) (fun p hp => Heap.lt_size (N p hp).1) st (fun b o e n => hideAll_get _ e n)) (fun fl s' hl => ?_) (fun _ _ x => x.elim)
  obtain ⟨L', m', news', F', N', hs, k⟩ := hl
  refine k fun b o e => ?_
  by_cases hb : b ∈ news.map (·.1)
  · obtain ⟨p, hp, rfl⟩ := List.mem_map.mp hb
    have e2 := (N p hp).1
    rw [e] at e2
    cases e2
    exact (N' p (hs p hp)).1
  · exact F'.keep b o (hideAll_get _ e hb)

theorem enterP {prog : Program} {w : World} {A : Around} {s : Shared} {h₀ : Heap} {news : List (Addr × Obj)} {K : Frag} {p : Program} {loose : List Str} {mean : ExcName → Option Value} {mg mb : Str → Option Value}
    {R E : Value → Shared → Prop} {name qual : Str} {params : Arguments} {body : List Stmt} {scope : Scope} {dV kV doc pm cdv ct oc : Value} {an od : Option Addr} {osl : Array (Option Value)} {f : Addr} {args : List Value} {binds : List (Str × Value)}
    (X₀ : K.In h₀) (T : Top p loose mean mg mb h₀) (k₀ : Kp h₀ s.heap) (N : Own h₀ s.heap news)
    (ho : K.lookup f = some ⟨oc, od, .func (fnOf name qual params body scope dV kV doc pm an cdv ct), osl⟩) (hcd : codeIn K cdv qual = true) (hroom : A.depth < recursionLimit)
    (hbind : BindsTo s (fnOf name qual params body scope dV kV doc pm an cdv ct) ⟨args, []⟩ binds) (hloc : ∀ y ∈ binds, scope.names.lookup y.1 = some .local)
    (h : ∀ g L' h₁, Fr g L' h₁ (fun y => binds.reverse.lookup y) → News g L' h₁ news → K.In g → Top p loose mean mg mb g → (∀ p ∈ news, p.1 < L') → Kp h₀ g →
      (∀ b o, s.heap.get? b = some o → b ∉ news.map (·.1) → g.get? b = some o) →
      wpAny (model prog w) (A.deeper (envOf qual scope L' f cdv)) (execs body (envOf qual scope L' f cdv))
        (fun fl s' => LeaveP g s.heap news R (match fl with | .ret v => v | _ => .none) s') (fun _ _ => False)
        { s with heap := h₁, toks := s.toks + binds.length })
    (hco : scope.isCoroutine = false) (hgen : scope.isGenerator = false) (hk : scope.kind = .function)
    (hcell : ∀ x ∈ scope.names, x.2 ≠ .cell) : wpAny (model prog w) A (call (.ref f) args) R E s := wpAny_call (enterQ X₀ T k₀ N ho hcd hroom hbind hloc h hco hgen hk hcell)
theorem enterPC {prog : Program} {w : World} {A : Around} {s : Shared} {h₀ : Heap} {news : List (Addr × Obj)} {K : Frag} {p : Program} {loose : List Str} {mean : ExcName → Option Value} {mg mb : Str → Option Value}
    {R E : Value → Shared → Prop} {name qual : Str} {params : Arguments} {body : List Stmt} {scope : Scope} {dV kV doc pm cdv ct oc : Value} {an od : Option Addr} {osl : Array (Option Value)} {f : Addr} {args : List Value} {binds : List (Str × Value)}
    (X₀ : K.In h₀) (T : Top p loose mean mg mb h₀) (k₀ : Kp h₀ s.heap) (N : Own h₀ s.heap news)
    (ho : K.lookup f = some ⟨oc, od, .func (fnOf name qual params body scope dV kV doc pm an cdv ct), osl⟩) (hcd : codeIn K cdv qual = true) (hroom : A.depth < recursionLimit)
    (hbind : BindsTo s (fnOf name qual params body scope dV kV doc pm an cdv ct) ⟨args, []⟩ binds) (hkind : (binds.all fun y => scope.names.lookup y.1 == some .local || scope.names.lookup y.1 == some .cell) = true)
    (hnd : ((cellsFrom 0 scope.names []).map (·.1)).Nodup)
    (h : ∀ g L' h₁ tk cells, Fr g L' h₁ (bindL (envOfC qual scope L' f cdv).kindOf binds fun _ => none) → News g L' h₁ (cells ++ news) →
      CellsAre (bindC (envOfC qual scope L' f cdv).kindOf binds fun _ => none) (cellsFrom (L' + 1) scope.names []) cells → K.In g → Top p loose mean mg mb g → (∀ p ∈ news, p.1 < L') → Kp h₀ g →
      (∀ b o, s.heap.get? b = some o → b ∉ news.map (·.1) → g.get? b = some o) →
      wpAny (model prog w) (A.deeper (envOfC qual scope L' f cdv)) (execs body (envOfC qual scope L' f cdv))
        (fun fl s' => LeaveP g s.heap news R (match fl with | .ret v => v | _ => .none) s') (fun _ _ => False)
        { s with heap := h₁, toks := tk })
    (hco : scope.isCoroutine = false) (hgen : scope.isGenerator = false) (hk : scope.kind = .function) : wpAny (model prog w) A (call (.ref f) args) R E s := by
  have nm : ∀ b o, h₀.get? b = some o → b ∉ news.map (·.1) := fun b o e q => by
    obtain ⟨p, hp, rfl⟩ := List.mem_map.mp q
    rw [(N p hp).2] at e; cases e
  have st : Kp h₀ (hideAll s.heap (news.map (·.1))) := fun b o e => hideAll_get _ (k₀ b o e) (nm b o e)
  have X := X₀.keeps k₀
  have hf := X _ _ ho
  refine wpAny_call (codeAny_call_function (fd := fnOf name qual params body scope dV kV doc pm an cdv ct) hroom hf rfl hco hgen rfl (codeRec_of X hcd) (hbind _ _ _ _ ?_))
  refine wpAny_newFunctionEnv_cells hk (kindsX hkind _) fun env' he s' x => ?_
  subst he
  refine ⟨(T.nolimit.keeps k₀).keeps x.toInCall.keep, codeAny_func ?_⟩
  obtain ⟨h₁, tk, rfl, _⟩ := x.done
  have hk₁ := x.toInCall.keep
  obtain ⟨cells, NC, Y⟩ := Cl.news (h₀ := s.heap) (Nat.le_refl _) fun n c hm => ⟨x.cell n c (lookup_of_mem_nodup (cellsFrom_names scope.names 0 (s.heap.objs.size + 1) [] [] rfl ▸ hnd) hm), x.above n c hm⟩
  refine wpAny_mono (h (hideAll s.heap (news.map (fun q : Addr × Obj => q.1))) s.heap.objs.size h₁ tk cells ⟨x.toInCall.ns, fun b o e => hk₁ b o (of_hideAll _ e), Nat.le_of_eq (hideAll_size _ _)⟩ (fun p hp => ?_) Y (X₀.keeps st) (T.keeps st) (fun p hp => Heap.lt_size (N p hp).1) st (fun b o e n => hideAll_get _ e n)) (fun fl s' hl => ?_) (fun _ _ x => x.elim)
  · rcases List.mem_append.mp hp with hp | hp
    · refine ⟨(NC p hp).1, (NC p hp).2.1, ?_⟩
      cases q : (hideAll s.heap (news.map (·.1))).get? p.1 with
      | none => rfl
      | some o => have := of_hideAll _ q; rw [(NC p hp).2.2] at this; cases this
    · exact ⟨hk₁ _ _ (N p hp).1, Nat.ne_of_lt (Heap.lt_size (N p hp).1), hideAll_none _ (List.mem_map_of_mem hp)⟩
  obtain ⟨L', m', news', F', N', hs, k⟩ := hl
  refine k fun b o e => ?_
  by_cases hb : b ∈ news.map (·.1)
  · obtain ⟨p, hp, rfl⟩ := List.mem_map.mp hb
    have e2 := (N p hp).1
    rw [e] at e2
    cases e2
    exact (N' p (hs p hp)).1
  · exact F'.keep b o (hideAll_get _ e hb)
end Mine
end PW0
theorem Mine.rstW0 : True := by
  w_top off
  k_with_none
  first | (walk1; fail "x") | exact True.intro
section PW1
open PySem PySem.W PyProof.Rows PySem.Calls PySem.Spec
set_option maxRecDepth 100000
namespace Mine
abbrev tupO (vs : List Value) (n : Nat) : Obj := { cls := .type "tuple", data := .seq vs.toArray n }
section
variable {prog : Program} {w : World} {A : Around} {E : Value → Shared → Prop} {s : Shared} {h₀ : Heap} {L : Addr} {m : Str → Option Value} {news : List (Addr × Obj)}
theorem adjust_upto (b n : Nat) : Builtin.Slice.sliceAdjust none (some (b : Int)) 1 (n : Int) = (0, ((min b n : Nat) : Int)) := by
  unfold Builtin.Slice.sliceAdjust
  have h1 : ¬ ((1 : Int) < 0) := by omega
  have h2 : ¬ ((b : Int) < 0) := by omega
  simp only [h1, h2, if_false]
  congr 1
  omega
theorem places_upto (k : Nat) : Builtin.Slice.slicePlaces 0 (k : Int) 1 = k := by
  unfold Builtin.Slice.slicePlaces
  have h1 : (1 : Int) > 0 := by omega
  simp only [h1, if_true, Int.ediv_one]
  split <;> omega
theorem sliceApplied_upto {sl : Addr} {b n : Nat} {u : Tok} {Q : Int × Int × Nat → Shared → Prop} (hs : s.heap.IsSliceOf sl .none (.int b u) .none) (h : Q (0, 1, min b n) s) :
    wpAny (model prog w) A (Builtin.Slice.sliceApplied (.ref sl) (pure (n : Int))) Q E s := by
  obtain ⟨os, hos, hcs, hds⟩ := id hs
  unfold Builtin.Slice.sliceApplied Builtin.Slice.sliceFields
  refine wpAny_bind (wpAny_bind (wpAny_field hos hds (x := .none) rfl (wpAny_bind (wpAny_field hos hds (x := .int b u) rfl (wpAny_bind (wpAny_field hos hds (x := .none) rfl (wpAny_pure ?_)))))))
  refine wpAny_bind (slicePart_none ?_)
  show wpAny _ _ (if ((1 : Int) == 0) = true then _ else _) _ _ s
  rw [if_neg (by decide)]
  refine wpAny_bind (slicePart_none (wpAny_bind (slicePart_int (wpAny_bind (wpAny_pure ?_)))))
  show wpAny _ _ (match Builtin.Slice.sliceAdjust none (some (b : Int)) 1 (n : Int) with | (lo, hi) => pure (lo, (1 : Int), Builtin.Slice.slicePlaces lo hi 1)) _ _ s
  rw [adjust_upto b n]
  show wpAny _ _ (pure ((0 : Int), (1 : Int), Builtin.Slice.slicePlaces 0 ((min b n : Nat) : Int) 1)) _ _ s
  rw [places_upto]
  exact wpAny_pure h
theorem pick_upto (xs : Array Value) (b : Nat) : ((List.range b).filterMap fun (k : Nat) => xs[((0 : Int) + (k : Int) * 1).toNat]?) = xs.toList.take b := by
  have e : (fun (k : Nat) => xs[((0 : Int) + (k : Int) * 1).toNat]?) = fun k => xs.toList[k]? := by
    funext k
    have : ((0 : Int) + (k : Int) * 1).toNat = k := by omega
    rw [this]; simp
  rw [e]
  generalize xs.toList = l
  induction b with
  | zero => simp
  | succ b ih =>
    rw [List.range_succ, List.filterMap_append, ih, List.take_add_one]
    cases h : l[b]? <;> simp [h]
theorem getItem_tuple_upto {t sl : Addr} {items : Array Value} {b : Nat} {u : Tok} {Q : Value → Shared → Prop} (ht : IsTup s.heap t items) (hs : s.heap.IsSliceOf sl .none (.int b u) .none) (hb : b < items.size)
    (h : Q (.ref s.heap.objs.size) { s with heap := s.heap.push { cls := .type "tuple", data := .seq (items.toList.take b).toArray } })
    (hsz : items.size ≤ sizeLine) : wpAny (model prog w) A (getItem (.ref t) (.ref sl)) Q E s := by
  have hdrop : sizeOk (.seq (items.toList.take b).toArray) := by
    show (items.toList.take b).toArray.size ≤ sizeLine
    rw [List.size_toArray, List.length_take, Array.length_toList]
    omega
  obtain ⟨os, hos, hcs, hds⟩ := id hs
  have hTs : s.TypeIs (.ref sl) "slice" := ⟨os, hos, hcs⟩
  unfold getItem
  refine wpAny_holding ?_
  refine wpAny_bind (wpAny_sequenceKey ht.typeIs (by decide) ?_)
  refine wpAny_bind (wpAny_callSpecial?_slot (name := Str.ofString "__getitem__") ht.typeIs slot_tuple_getitem
    (wpAny_call_entry slot_tuple_getitem ht.typeIs entry_tuple_getitem ?_ (args_tuple_getitem _ _)))
  show wpAny _ _ (Builtin.Tuple.tupleItemsOf (.ref t) >>= _) _ _ s
  refine wpAny_bind (tupleItemsOf_ ht ?_)
  refine wpAny_bind (wpAny_typeOf hTs ?_)
  rw [if_pos (by decide)]
  refine wpAny_bind (sliceApplied_upto hs ?_)
  have hm : min b items.size = b := by omega
  rw [hm]
  have hno : ¬ (((0 : Int) == 0 && (1 : Int) == 1 && b == items.size) = true) := by
    have : (b == items.size) = false := by rw [beq_eq_false_iff_ne]; omega
    rw [this]; simp
  show wpAny _ _ (if ((0 : Int) == 0 && (1 : Int) == 1 && b == items.size) = true then _ else _) _ _ s
  rw [if_neg hno, pick_upto items b]
  first
    | exact wpAny_bind (m := Builtin.Tuple.tupleExact _) (wpAny_newObj_type (wpAny_pure ⟨_, rfl, wpAny_pure h⟩) hdrop)
    | exact wpAny_bind (m := Builtin.Tuple.tupleExact _) (wpAny_newObj_type (wpAny_bind (wpAny_pure (wpAny_pure ⟨_, rfl, wpAny_pure h⟩))) hdrop)
    | exact wpAny_bind (wpAny_bind (m := Builtin.Tuple.tupleExact _) (wpAny_newObj_type (wpAny_pure (wpAny_pure ⟨_, rfl, wpAny_pure h⟩)) hdrop))
    | exact wpAny_bind (wpAny_bind (m := Builtin.Tuple.tupleExact _) (wpAny_newObj_type (wpAny_pure ⟨_, rfl, wpAny_pure h⟩) hdrop))
theorem getItem_tuple_all {t sl : Addr} {items : Array Value} {b : Nat} {u : Tok} {Q : Value → Shared → Prop} (ht : IsTup s.heap t items) (hs : s.heap.IsSliceOf sl .none (.int b u) .none) (hb : items.size ≤ b)
    (h : Q (.ref t) s) : wpAny (model prog w) A (getItem (.ref t) (.ref sl)) Q E s := by
  obtain ⟨os, hos, hcs, hds⟩ := id hs
  have hTs : s.TypeIs (.ref sl) "slice" := ⟨os, hos, hcs⟩
  unfold getItem
  refine wpAny_holding ?_
  refine wpAny_bind (wpAny_sequenceKey ht.typeIs (by decide) ?_)
  refine wpAny_bind (wpAny_callSpecial?_slot (name := Str.ofString "__getitem__") ht.typeIs slot_tuple_getitem
    (wpAny_call_entry slot_tuple_getitem ht.typeIs entry_tuple_getitem ?_ (args_tuple_getitem _ _)))
  show wpAny _ _ (Builtin.Tuple.tupleItemsOf (.ref t) >>= _) _ _ s
  refine wpAny_bind (tupleItemsOf_ ht ?_)
  refine wpAny_bind (wpAny_typeOf hTs ?_)
  rw [if_pos (by decide)]
  refine wpAny_bind (sliceApplied_upto hs ?_)
  have hm : min b items.size = items.size := by omega
  rw [hm]
  show wpAny _ _ (if ((0 : Int) == 0 && (1 : Int) == 1 && items.size == items.size) = true then _ else _) _ _ s
  rw [if_pos (by simp)]
  refine wpAny_bind (m := Builtin.Tuple.tupleIsExact (.ref t)) (wpAny_bind (wpAny_typeOf ht.typeIs (wpAny_pure ?_)))
  rw [if_pos (by decide)]
  exact wpAny_bind (wpAny_rule (wpAny_bind (wpAny_pure (wpAny_pure ⟨_, rfl, wpAny_pure h⟩))))

theorem tup_upto {value slice : PySem.Expr} {t : Addr} {items : Array Value} {b : Nat} {u : Tok} {zs : List Value} {Q : Value → Shared → Prop}
    (F : Fr h₀ L s.heap m) (N : News h₀ L s.heap news) (ht : IsTup s.heap t items) (hb : b < items.size) (e : items.toList.take b = zs)
    (h : ∀ D h', Fr h₀ L h' m → News h₀ L h' ((D, tupO zs 0) :: news) → (∀ p ∈ news, p.1 < D) → Q (.ref D) { s with heap := h' })
    (hs : subscripted slice false (.ref t) (.ref s.heap.objs.size) = operate [.ref s.heap.objs.size, .ref t] (getItem (.ref t) (.ref s.heap.objs.size)))
    (hg : ∀ r, letTemporaryGo value (.ref t) r = pure ())
    (hsz : items.size ≤ sizeLine) :
    wpAny (model prog w) A (subscriptTail value slice (.ref t) (.ref s.heap.objs.size)) Q E { s with heap := s.heap.push { cls := .type "slice", data := .fields #[.none, .int b u, .none] } } := by
  subst e
  have ht' : IsTup (s.heap.push { cls := .type "slice", data := .fields #[.none, .int b u, .none] }) t items := ht.keeps fun _ _ e => Heap.get?_push_of_some _ e
  refine subscriptTail_ops (s := { s with heap := s.heap.push { cls := .type "slice", data := .fields #[.none, .int b u, .none] } }) ht'.typeIs slot_tuple_getitem.lookup
    (getItem_tuple_upto ht' (Heap.IsSliceOf.new ..) hb ?_ hsz) hs hg
  have N1 := News.push (F.push { cls := .type "slice", data := .fields #[.none, .int b u, .none] }) (N.grown fun _ _ e => Heap.get?_push_of_some _ e) { cls := .type "tuple", data := .seq (items.toList.take b).toArray }
  rw [Heap.size_push] at N1
  show Q (.ref (s.heap.push _).objs.size) _
  rw [Heap.size_push]
  exact h _ _ ((F.push _).push _) N1 fun p hp => Nat.lt_succ_of_lt (Heap.lt_size (N p hp).1)
theorem tup_all {value slice : PySem.Expr} {t : Addr} {items : Array Value} {b : Nat} {u : Tok} {Q : Value → Shared → Prop}
    (F : Fr h₀ L s.heap m) (N : News h₀ L s.heap news) (ht : IsTup s.heap t items) (hb : items.size ≤ b)
    (h : ∀ h', Fr h₀ L h' m → News h₀ L h' news → Q (.ref t) { s with heap := h' })
    (hs : subscripted slice false (.ref t) (.ref s.heap.objs.size) = operate [.ref s.heap.objs.size, .ref t] (getItem (.ref t) (.ref s.heap.objs.size)))
    (hg : ∀ r, letTemporaryGo value (.ref t) r = pure ()) :
    wpAny (model prog w) A (subscriptTail value slice (.ref t) (.ref s.heap.objs.size)) Q E { s with heap := s.heap.push { cls := .type "slice", data := .fields #[.none, .int b u, .none] } } := by
  have ht' : IsTup (s.heap.push { cls := .type "slice", data := .fields #[.none, .int b u, .none] }) t items := ht.keeps fun _ _ e => Heap.get?_push_of_some _ e
  refine subscriptTail_ops (s := { s with heap := s.heap.push { cls := .type "slice", data := .fields #[.none, .int b u, .none] } }) ht'.typeIs slot_tuple_getitem.lookup
    (getItem_tuple_all ht' (Heap.IsSliceOf.new ..) hb ?_) hs hg
  exact h _ (F.push _) (N.grown fun _ _ e => Heap.get?_push_of_some _ e)
theorem tup_uptoI {value slice : PySem.Expr} {t : Addr} {items : Array Value} {y : Int} {u : Tok} {zs : List Value} {Q : Value → Shared → Prop}
    (F : Fr h₀ L s.heap m) (N : News h₀ L s.heap news) (ht : IsTup s.heap t items) (hy : 0 ≤ y) (hb : y.toNat < items.size) (e : items.toList.take y.toNat = zs)
    (h : ∀ D h', Fr h₀ L h' m → News h₀ L h' ((D, tupO zs 0) :: news) → (∀ p ∈ news, p.1 < D) → Q (.ref D) { s with heap := h' })
    (hs : subscripted slice false (.ref t) (.ref s.heap.objs.size) = operate [.ref s.heap.objs.size, .ref t] (getItem (.ref t) (.ref s.heap.objs.size)))
    (hg : ∀ r, letTemporaryGo value (.ref t) r = pure ())
    (hsz : items.size ≤ sizeLine) :
    wpAny (model prog w) A (subscriptTail value slice (.ref t) (.ref s.heap.objs.size)) Q E { s with heap := s.heap.push { cls := .type "slice", data := .fields #[.none, .int y u, .none] } } := by
  obtain ⟨b, rfl⟩ := Int.eq_ofNat_of_zero_le hy
  exact tup_upto F N ht hb e h hs hg hsz
theorem tup_allI {value slice : PySem.Expr} {t : Addr} {items : Array Value} {y : Int} {u : Tok} {Q : Value → Shared → Prop}
    (F : Fr h₀ L s.heap m) (N : News h₀ L s.heap news) (ht : IsTup s.heap t items) (hy : 0 ≤ y) (hb : items.size ≤ y.toNat)
    (h : ∀ h', Fr h₀ L h' m → News h₀ L h' news → Q (.ref t) { s with heap := h' })
    (hs : subscripted slice false (.ref t) (.ref s.heap.objs.size) = operate [.ref s.heap.objs.size, .ref t] (getItem (.ref t) (.ref s.heap.objs.size)))
    (hg : ∀ r, letTemporaryGo value (.ref t) r = pure ()) :
    wpAny (model prog w) A (subscriptTail value slice (.ref t) (.ref s.heap.objs.size)) Q E { s with heap := s.heap.push { cls := .type "slice", data := .fields #[.none, .int y u, .none] } } := by
  obtain ⟨b, rfl⟩ := Int.eq_ofNat_of_zero_le hy
  exact tup_all F N ht hb h hs hg
theorem tup_isTup {t : Addr} {items : Array Value} {n : Nat} (N : News h₀ L s.heap news) (hm : (t, ({ cls := .type "tuple", data := .seq items n } : Obj)) ∈ news) : IsTup s.heap t items := ⟨_, N.get hm, rfl, n, rfl⟩
end
end Mine
end PW1
theorem Mine.rstW1 : True := by
  w_top off
  k_with_none
  first | (walk1; fail "x") | exact True.intro
section PW2
open PySem PySem.W PyProof.Rows PySem.Calls PySem.Spec
set_option maxRecDepth 100000
namespace Mine
theorem own_of {h₀ g h : Heap} {L : Addr} {news : List (Addr × Obj)} (k : Kp h₀ g) (N : News g L h news) : Own h₀ h news := fun p hp => ⟨(N p hp).1, by
  cases q : h₀.get? p.1 with
  | none => rfl
  | some o => have := k _ _ q; rw [(N p hp).2.2] at this; cases this⟩
end Mine
end PW2
theorem Mine.rstW2 : True := by
  w_top off
  k_with_none
  first | (walk1; fail "x") | exact True.intro
section PD0
open PySem
namespace Mine
/-- an address: host, words by their places, the slash -/
structure Adr where
  host : Nat
  figs : List Nat
  slash : Nat
  deriving DecidableEq
def wordL : Nat → Str
  | 0 => Str.ofString ""
  | 1 => Str.ofString "a"
  | 2 => Str.ofString "a-"
  | 3 => Str.ofString "ab"
  | _ => Str.ofString "b"
def turnL : Nat → Str
  | 0 => Str.ofString "~"
  | 1 => Str.ofString "a"
  | 2 => Str.ofString "a-"
  | 3 => Str.ofString "ab"
  | _ => Str.ofString "b"
def hostL : Nat → Str
  | 0 => Str.ofString "g"
  | _ => Str.ofString "h"
def Adr.fig (d : Adr) (i : Nat) : Nat := d.figs.getD i 0
def tf (f : Nat) : Nat := if f = 0 then 0 else 5 - f
def Adr.one (d : Adr) : Nat := (((d.host * 5 + d.fig 0) * 5 + d.fig 1) * 5 + d.fig 2) * 2 + d.slash
def Adr.two (d : Adr) : Nat := ((((1 - d.host) * 5 + tf (d.fig 0)) * 5 + tf (d.fig 1)) * 5 + tf (d.fig 2)) * 2 + d.slash
structure Adr.Ok (d : Adr) : Prop where
  host : d.host < 2
  slash : d.slash < 2
  len : d.figs.length ≤ 3
  figs : ∀ f ∈ d.figs, 1 ≤ f ∧ f ≤ 4
theorem Adr.Ok.fig {d : Adr} (k : d.Ok) (i : Nat) : d.fig i < 5 := by
  unfold Adr.fig
  rw [List.getD_eq_getElem?_getD]
  cases h : d.figs[i]? with
  | none => decide
  | some f => have := (k.figs f (List.mem_of_getElem? h)).2; simp; omega
/-- three-way sign -/
def sgn (a b : Nat) : Int := if a < b then -1 else if b < a then 1 else 0
def lexc (dir : Int) (x y : Str) (k : Int) : Int := if x.cps.toList < y.cps.toList then -dir else if y.cps.toList < x.cps.toList then dir else k
def lexi (dir : Int) (x y : Int) (k : Int) : Int := if x < y then -dir else if x > y then dir else k
theorem lexc_word (dir k : Int) {f g : Nat} (hf : f < 5) (hg : g < 5) : lexc dir (wordL f) (wordL g) k = if f < g then -dir else if g < f then dir else k := by
  unfold lexc
  have h : ∀ f < 5, ∀ g < 5, ((wordL f).cps.toList < (wordL g).cps.toList ↔ f < g) := by decide +kernel
  simp only [h f hf g hg, h g hg f hf]
theorem lexc_turn (dir k : Int) {f g : Nat} (hf : f < 5) (hg : g < 5) : lexc dir (turnL f) (turnL g) k = if tf g < tf f then -dir else if tf f < tf g then dir else k := by
  unfold lexc
  have h : ∀ f < 5, ∀ g < 5, ((turnL f).cps.toList < (turnL g).cps.toList ↔ tf g < tf f) := by decide +kernel
  simp only [h f hf g hg, h g hg f hf]
theorem lexc_host (dir k : Int) {f g : Nat} (hf : f < 2) (hg : g < 2) : lexc dir (hostL f) (hostL g) k = if f < g then -dir else if g < f then dir else k := by
  unfold lexc
  have h : ∀ f < 2, ∀ g < 2, ((hostL f).cps.toList < (hostL g).cps.toList ↔ f < g) := by decide +kernel
  simp only [h f hf g hg, h g hg f hf]
theorem dig (dir : Int) {x y u v B : Nat} (hu : u < B) (hv : v < B) : (if x < y then -dir else if y < x then dir else dir * sgn u v) = dir * sgn (x * B + u) (y * B + v) := by
  have key : ∀ {a b : Nat}, a < b → a * B + B ≤ b * B := fun {a b} h => by rw [← Nat.succ_mul]; exact Nat.mul_le_mul_right B h
  unfold sgn
  by_cases h : x < y
  · have := key h
    rw [if_pos h, if_pos (by omega), Int.mul_neg_one]
  · rw [if_neg h]
    by_cases h2 : y < x
    · have := key h2
      rw [if_pos h2, if_neg (by omega), if_pos (by omega), Int.mul_one]
    · obtain rfl : x = y := by omega
      rw [if_neg h2]
      simp only [Nat.add_lt_add_iff_left]
theorem lexi_sgn (dir : Int) (x y : Nat) : lexi dir (x : Int) (y : Int) 0 = dir * sgn x y := by
  unfold lexi sgn
  by_cases h : x < y
  · rw [if_pos (by omega), if_pos h, Int.mul_neg_one]
  · rw [if_neg (by omega), if_neg h]
    by_cases h2 : y < x
    · rw [if_pos (by omega), if_pos h2, Int.mul_one]
    · rw [if_neg (by omega), if_neg h2, Int.mul_zero]
theorem cmp_first {d e : Adr} (k : d.Ok) (l : e.Ok) (dir : Int) :
    lexc dir (hostL d.host) (hostL e.host) (lexc dir (wordL (d.fig 0)) (wordL (e.fig 0)) (lexc dir (wordL (d.fig 1)) (wordL (e.fig 1)) (lexc dir (wordL (d.fig 2)) (wordL (e.fig 2)) (lexi dir (d.slash : Int) (e.slash : Int) 0)))) = dir * sgn d.one e.one := by
  have a0 := k.fig 0; have a1 := k.fig 1; have a2 := k.fig 2; have b0 := l.fig 0; have b1 := l.fig 1; have b2 := l.fig 2
  rw [lexc_host _ _ k.host l.host, lexc_word _ _ a0 b0, lexc_word _ _ a1 b1, lexc_word _ _ a2 b2, lexi_sgn, dig dir k.slash l.slash]
  have a3 := k.slash; have b3 := l.slash
  have c2 : d.fig 2 * 2 + d.slash < 10 := by omega
  have e2 : e.fig 2 * 2 + e.slash < 10 := by omega
  rw [dig dir c2 e2]
  have c1 : d.fig 1 * 10 + (d.fig 2 * 2 + d.slash) < 50 := by omega
  have e1 : e.fig 1 * 10 + (e.fig 2 * 2 + e.slash) < 50 := by omega
  rw [dig dir c1 e1]
  rw [dig dir (show _ < 250 by omega) (show _ < 250 by omega)]
  have u : ∀ d : Adr, d.host * 250 + (d.fig 0 * 50 + (d.fig 1 * 10 + (d.fig 2 * 2 + d.slash))) = d.one := fun d => by unfold Adr.one; omega
  rw [u, u]
theorem cmp_second {d e : Adr} (k : d.Ok) (l : e.Ok) :
    lexc (-1) (hostL d.host) (hostL e.host) (lexc (-1) (turnL (d.fig 0)) (turnL (e.fig 0)) (lexc (-1) (turnL (d.fig 1)) (turnL (e.fig 1)) (lexc (-1) (turnL (d.fig 2)) (turnL (e.fig 2)) (lexi 1 (d.slash : Int) (e.slash : Int) 0)))) = sgn d.two e.two := by
  have tfl : ∀ f, f < 5 → tf f < 5 := by decide
  have a0 := tfl _ (k.fig 0); have a1 := tfl _ (k.fig 1); have a2 := tfl _ (k.fig 2); have b0 := tfl _ (l.fig 0); have b1 := tfl _ (l.fig 1); have b2 := tfl _ (l.fig 2)
  have sw : ∀ (x y : Nat) (k : Int), (if y < x then - -(1 : Int) else if x < y then -1 else k) = if x < y then -1 else if y < x then 1 else k := fun x y k => by
    by_cases h : x < y
    · rw [if_pos h, if_neg (by omega), if_pos h]
    · rw [if_neg h, if_neg h]; rfl
  have hsw : ∀ k : Int, (if d.host < e.host then - -(1 : Int) else if e.host < d.host then -1 else k) = if 1 - d.host < 1 - e.host then -1 else if 1 - e.host < 1 - d.host then 1 else k := fun k' => by
    have a := k.host; have b := l.host
    rw [sw]
    simp only [show (e.host < d.host) = (1 - d.host < 1 - e.host) from propext (by omega), show (d.host < e.host) = (1 - e.host < 1 - d.host) from propext (by omega)]
  rw [lexc_host _ _ k.host l.host, lexc_turn _ _ (k.fig 0) (l.fig 0), lexc_turn _ _ (k.fig 1) (l.fig 1), lexc_turn _ _ (k.fig 2) (l.fig 2), lexi_sgn]
  rw [hsw, sw, sw, sw, dig 1 k.slash l.slash]
  have a3 := k.slash; have b3 := l.slash
  have c2 : tf (d.fig 2) * 2 + d.slash < 10 := by omega
  have e2 : tf (e.fig 2) * 2 + e.slash < 10 := by omega
  rw [dig 1 c2 e2]
  have c1 : tf (d.fig 1) * 10 + (tf (d.fig 2) * 2 + d.slash) < 50 := by omega
  have e1 : tf (e.fig 1) * 10 + (tf (e.fig 2) * 2 + e.slash) < 50 := by omega
  rw [dig 1 c1 e1]
  rw [dig 1 (show _ < 250 by omega) (show _ < 250 by omega), Int.one_mul]
  have u : ∀ d : Adr, (1 - d.host) * 250 + (tf (d.fig 0) * 50 + (tf (d.fig 1) * 10 + (tf (d.fig 2) * 2 + d.slash))) = d.two := fun d => by unfold Adr.two; omega
  rw [u, u]
end Mine
end PD0
theorem Mine.rstD0 : True := by
  w_top off
  k_with_none
  first | (walk1; fail "x") | exact True.intro
section PW3
open PySem PySem.W PyProof.Rows PySem.Calls PySem.Spec
set_option maxRecDepth 100000
namespace Mine
abbrev wordsA (t0 t1 t2 t3 t4 : Tok) : Array Value := #[.str (Str.ofString "") t0, .str (Str.ofString "a") t1, .str (Str.ofString "a-") t2, .str (Str.ofString "ab") t3, .str (Str.ofString "b") t4]
def swL (k : Nat) : Str := Str.ofString "/" ++ wordL k
theorem wordL_len (k : Nat) : (wordL k).length ≤ 2 := by
  unfold wordL; split <;> decide
theorem wordL_pos {k : Nat} (h : 1 ≤ k) : ((wordL k).length : Int) != 0 := by
  unfold wordL; split <;> first | omega | decide
theorem swL_len (k : Nat) : (swL k).length ≤ 3 := by
  unfold swL
  rw [Str.length_append]
  have := wordL_len k
  have e : (Str.ofString "/").length = 1 := by decide
  omega
section
variable {prog : Program} {w : World} {A : Around} {E : Value → Shared → Prop} {s : Shared} {value slice : PySem.Expr} {l : Addr} {t0 t1 t2 t3 t4 u t : Tok} {f : Int} {n : Nat} {Q : Value → Shared → Prop}
theorem words_at (h0 : 0 ≤ f) (h5 : f < 5) : ∃ t, (wordsA t0 t1 t2 t3 t4)[f.toNat]? = some (.str (wordL f.toNat) t) := by
  have : f = 0 ∨ f = 1 ∨ f = 2 ∨ f = 3 ∨ f = 4 := by omega
  rcases this with rfl | rfl | rfl | rfl | rfl
  · exact ⟨t0, rfl⟩
  · exact ⟨t1, rfl⟩
  · exact ⟨t2, rfl⟩
  · exact ⟨t3, rfl⟩
  · exact ⟨t4, rfl⟩
theorem word_item (hl : s.heap.IsList l (wordsA t0 t1 t2 t3 t4)) (h0 : 0 ≤ f) (h5 : f < 5) (h : ∀ t, Q (.str (wordL f.toNat) t) s)
    (hs : subscripted slice false (.ref l) (.int f u) = operate [.ref l, .int f u] (getItem (.ref l) (.int f u))) : wpAny (model prog w) A (subscriptTail value slice (.ref l) (.int f u)) Q E s := by
  obtain ⟨t, e⟩ := words_at (t0 := t0) (t1 := t1) (t2 := t2) (t3 := t3) (t4 := t4) h0 h5
  exact tail_any hl.typeIs slot_list_getitem.lookup (wpAny_getItem_list hl h0 (by omega) e (h t)) hs
theorem word_truthy {Q : Bool → Shared → Prop} (h0 : 1 ≤ f) (h : ∀ k, Q true { s with toks := k }) : wpAny (model prog w) A (truthy (.str (wordL f.toNat) t)) Q E s := by
  refine PySem.P.truthy_str (by have := wordL_len f.toNat; omega) ?_
  rw [wordL_pos (by omega)]
  exact h _
theorem word_truthy0 {Q : Bool → Shared → Prop} (h : ∀ k, Q false { s with toks := k }) : wpAny (model prog w) A (truthy (.str (Str.ofString "") t)) Q E s :=
  PySem.P.truthy_str (by decide) (h _)
theorem word_add (h : ∀ t' tk, Q (.str (swL n) t') { s with toks := tk }) : wpAny (model prog w) A (binaryOp .Add (.str (Str.ofString "/") u) (.str (wordL n) t)) Q E s :=
  PyProof.Rows.add_str h (by have := wordL_len n; have e : (Str.ofString "/").length = 1 := by decide
                             rw [sizeLine_eq]; omega)
def slashL (k : Nat) : Str := if k = 0 then Str.ofString "" else Str.ofString "/"
theorem slash_mul (h0 : 0 ≤ f) (h2 : f < 2) (h : ∀ t tk, Q (.str (slashL f.toNat) t) { s with toks := tk }) : wpAny (model prog w) A (binaryOp .Mult (.str (Str.ofString "/") t) (.int f u)) Q E s := by
  refine KXi.mul (n := 1) (by decide) (by decide) (by omega) (by omega) (fun t' k _ _ => ?_)
  have : f = 0 ∨ f = 1 := by omega
  rcases this with rfl | rfl
  · have e : Txt.mul (Str.ofString "/") 0 = slashL (0 : Int).toNat := by decide +kernel
    rw [e]; exact h _ _
  · have e : Txt.mul (Str.ofString "/") 1 = slashL (1 : Int).toNat := by decide +kernel
    rw [e]; exact h _ _
theorem slashL_len (k : Nat) : (slashL k).length ≤ 1 := by unfold slashL; split <;> decide
def pathL (ks : List Nat) (sl : Nat) : Str := Txt.join (Str.ofString "") (ks.map swL) ++ slashL sl
theorem sw_sum : ∀ ks : List Nat, ((ks.map swL).map (·.length)).sum ≤ 3 * ks.length
  | [] => by simp
  | k :: r => by
    have a := sw_sum r
    have b := swL_len k
    simp only [List.map_cons, List.sum_cons, List.length_cons]
    omega
theorem sw_join {D : Addr} {items : Array Value} {ks : List Nat} (hl : s.heap.IsList D items) (hi : StrsAre items.toList (ks.map swL)) (hk : ks.length ≤ 3)
    (h : ∀ t' k, Q (.str (Txt.join (Str.ofString "") (ks.map swL)) t') { s with toks := k }) : wpAny (model prog w) A (call (.builtin "str.join") [.str (Str.ofString "") t, .ref D]) Q E s :=
  join_listW hl hi (by decide) (by have := sw_sum ks; simp only [List.length_map]; omega) h
theorem join_len (ks : List Nat) : (Txt.join (Str.ofString "") (ks.map swL)).length ≤ 3 * ks.length := by
  show (Builtin.Str.glued (Str.ofString "") (ks.map swL)).length ≤ _
  rw [StrLaws.glued_eq_join]
  have a := StrLaws.join_length_le (Str.ofString "") (ks.map swL)
  have e : (Str.ofString "").length = 0 := by decide
  rw [e, Nat.mul_zero] at a
  exact Nat.le_trans a (sw_sum ks)
end
end Mine
end PW3
theorem Mine.rstW3 : True := by
  w_top off
  k_with_none
  first | (walk1; fail "x") | exact True.intro
section PW4
open PySem PySem.W PyProof.Rows PySem.Calls PySem.Spec
set_option maxRecDepth 100000
namespace Mine
/-- kept but for some -/
def KpB (wr : List Addr) (h h' : Heap) : Prop := ∀ b o, b ∉ wr → h.get? b = some o → h'.get? b = some o
/-- made since h₀ -/
def Ow (h₀ h : Heap) (news : List (Addr × Obj)) : Prop := ∀ p ∈ news, h.get? p.1 = some p.2 ∧ h₀.get? p.1 = none
abbrev NoE : Value → Shared → Prop := fun _ _ => False
abbrev lstO (ys : List Value) : Obj := { cls := .type "list", data := .seq ys.toArray ys.length }
theorem ns_there {h : Heap} {C : Addr} {m : Str → Option Value} (x : h.Ns C m) : ∃ o, h.get? C = some o := let ⟨o, _, _, e, _⟩ := x; ⟨o, e⟩
section
variable {prog : Program} {w : World} {A : Around} {E : Value → Shared → Prop} {s : Shared}
theorem compLoop_go {elt target iter : PySem.Expr} {ifs : List PySem.Expr} {scope : Scope} {pos : Pos} {it acc : Value} {env : Env} {R : Result → Shared → Prop} (I : Nat → Shared → Prop)
    (turn : ∀ n s, I n s → wpAny (model prog w) A (pyNext it) (fun r s₁ => match r with
      | none => R (.ok .next) s₁
      | some v => wpAny (model prog w) A (letOwnedTupleGo target it v) (fun _ s₁' => wpAny (model prog w) A (assign target env v) (fun _ s₂ =>
          wpAny (model prog w) A (forIn ifs true fun c r => if r = true then do let ok ← isTrue c env (eval c env); pure (ForInStep.yield ok) else pure (ForInStep.yield r)) (fun ok s₃ =>
            if ok = true then wpAny (model prog w) A (eval elt env) (fun x s₄ =>
              wpAny (model prog w) A (call (.builtin "list.append") [acc, x]) (fun _ s₅ => ∃ m, m < n ∧ I m s₅) NoE s₄) NoE s₃
            else ∃ m, m < n ∧ I m s₃) NoE s₂) NoE s₁') NoE s₁) NoE s)
    (n : Nat) (h : I n s) :
    codeAny (model prog w) A (.compLoop (.ListComp elt [⟨target, iter, ifs, 0⟩] scope pos) 0 it acc env) R s := by
  refine codeAny_loop rfl I (fun n s hI => ?_) n h
  show wpAny _ A ((compTurn (.ListComp elt [⟨target, iter, ifs, 0⟩] scope pos) 0 it acc env).onRaise (fun x => do noteFrame x env; theTreesLotGoes x)) _ _ s
  refine wpAny_noted ?_
  rw [compTurn_list]
  refine wpAny_bind (wpAny_standAt (wpAny_bind (wpAny_mono (turn n s hI) (fun r s₁ h₁ => ?_) fun _ _ h' => h'.elim)))
  cases r with
  | none => exact wpAny_pure h₁
  | some v =>
    refine wpAny_bind (wpAny_mono h₁ (fun _ s₁' h₁' => ?_) fun _ _ h' => h'.elim)
    refine wpAny_bind (wpAny_mono h₁' (fun _ s₂ h₂ => wpAny_bind (wpAny_mono h₂ (fun ok s₃ h₃ => ?_) fun _ _ h' => h'.elim)) fun _ _ h' => h'.elim)
    cases ok with
    | false => exact wpAny_pure ⟨rfl, h₃⟩
    | true =>
      exact wpAny_bind (wpAny_bind (wpAny_mono h₃ (fun x s₄ h₄ => wpAny_bind (wpAny_mono h₄ (fun _ s₅ h₅ => wpAny_pure (wpAny_pure ⟨rfl, h₅⟩)) fun _ _ h' => h'.elim)) fun _ _ h' => h'.elim))

inductive TurnE (s₂ : Shared) (C : Addr) (h : Heap) (Jn : List (Addr × Obj) → Prop) (s₅ : Shared) : Prop
  | mk (h₅ : Heap) (tk₅ : Nat) (mC : Str → Option Value) (nw : List (Addr × Obj)) (q1 : s₅ = { s₂ with heap := h₅, toks := tk₅ }) (q2 : h₅.Ns C mC) (q3 : (∀ b o, b ≠ C → h.get? b = some o → h₅.get? b = some o)) (q4 : Ow h h₅ nw) (q5 : Jn nw)
theorem TurnE.intro {s₂ : Shared} {C : Addr} {h h₅ : Heap} {tk₅ : Nat} {Jn : List (Addr × Obj) → Prop} {mC : Str → Option Value} (nw : List (Addr × Obj)) (hn : h₅.Ns C mC) (hk : ∀ b o, b ≠ C → h.get? b = some o → h₅.get? b = some o) (ho : Ow h h₅ nw) (hj : Jn nw) :
    TurnE s₂ C h Jn { s₂ with heap := h₅, toks := tk₅ } := ⟨h₅, tk₅, mC, nw, rfl, hn, hk, ho, hj⟩

inductive CompI (s₂ : Shared) (D C : Addr) (n : Nat) (St : Nat → Heap → Prop) (wr fp : List Addr) (J : Nat → List Value → List (Addr × Obj) → Prop) (k : Nat) (s' : Shared) : Prop
  | mk (h' : Heap) (tk i : Nat) (ys : List Value) (m' : Str → Option Value) (news : List (Addr × Obj)) (q1 : s' = { s₂ with heap := h', toks := tk }) (q2 : i ≤ n) (q3 : k = n + 1 - i) (q4 : ys.length ≤ i) (q5 : St i h') (q6 : h'.Ns C m')
      (q7 : h'.get? D = some (lstO ys)) (q8 : KpB wr s₂.heap h') (q9 : Ow s₂.heap h' news) (q10 : ∀ p ∈ news, p.1 ≠ D ∧ p.1 ≠ C ∧ p.1 ∉ fp) (q11 : J i ys news)
theorem comp_block {elt target iter : PySem.Expr} {ifs : List PySem.Expr} {scope : Scope} {cl : List (Str × Addr)} {pos : Pos} {env : Env} {s₂ : Shared} {I : Addr} {fp wr : List Addr} {n : Nat} {P Md : Nat → Value → Heap → Prop} {St : Nat → Heap → Prop}
    {RR : Value → Addr → Result → Shared → Prop} (J : Nat → List Value → List (Addr × Obj) → Prop)
    (W : KTurns prog w A target I fp wr n P Md St)
    (hself : ∀ (s : Shared) (Q : Value → Shared → Prop) (E : Value → Shared → Prop), St 0 s.heap → Q (.ref I) s → wpAny (model prog w) A (pyIter (.ref I)) Q E s)
    (hpres : ∀ i h, St i h → ∀ b ∈ fp, ∃ o, h.get? b = some o)
    (hsz : n ≤ sizeLine) (hcell : ∀ y ∈ scope.names, y.2 ≠ .cell) (hkind : scope.kind = .function) (hst : St 0 s₂.heap) (hfp : ∀ b ∈ fp, b < s₂.heap.objs.size)
    (J0 : J 0 [] [])
    (turn : ∀ i v ys news C h tk mC, i < n → P i v h → J i ys news → ys.length ≤ i → KpB wr s₂.heap h → Ow s₂.heap h news → s₂.heap.objs.size ≤ C → h.Ns C mC →
      wpAny (model prog w) A (assign target (compEnvC scope cl C env) v) (fun _ s₃ =>
        wpAny (model prog w) A (forIn ifs true fun c r => if r = true then do let ok ← isTrue c (compEnvC scope cl C env) (eval c (compEnvC scope cl C env)); pure (ForInStep.yield ok) else pure (ForInStep.yield r)) (fun ok s₄ =>
          if ok = true then wpAny (model prog w) A (eval elt (compEnvC scope cl C env)) (fun y s₅ => TurnE s₂ C h (fun nw => J (i + 1) (ys ++ [y]) (news ++ nw)) s₅) NoE s₄
          else TurnE s₂ C h (fun nw => J (i + 1) ys (news ++ nw)) s₄) NoE s₃) NoE { s₂ with heap := h, toks := tk })
    (hRR : ∀ D C h tk m' ys news, h.Ns C m' → h.get? D = some (lstO ys) → s₂.heap.objs.size ≤ D → s₂.heap.objs.size ≤ C → C ≠ D → KpB wr s₂.heap h → Ow s₂.heap h news → (∀ p ∈ news, p.1 ≠ D ∧ p.1 ≠ C) → ys.length ≤ n → J n ys news → RR (.ref D) C (.ok .next) { s₂ with heap := h, toks := tk }) :
    wpAny (model prog w) A (newList []) (fun acc s₃ => wpAny (model prog w) A (newFunctionEnv scope env.globals cl [] env.qual none .none (some env)) (fun cenv s₄ =>
      codeAny (model prog w) A (.compStart (.ListComp elt [⟨target, iter, ifs, 0⟩] scope pos) 0 (.ref I) acc { cenv with scope := relabel scope env }) (RR acc cenv.locals) s₄) E s₃) E s₂ := by
  refine wpAny_newObj_type (wpAny_newFunctionEnv hcell (by intro y hy; simp at hy) (fun h₁ hns₁ hsb₁ => ?_) hkind)
  dsimp only at hns₁ hsb₁ ⊢
  generalize hH2 : s₂.heap.push { cls := .type "list", dict := none, data := .seq ([] : List Value).toArray } = H2 at hns₁ hsb₁ ⊢
  have hC : H2.objs.size = s₂.heap.objs.size + 1 := by rw [← hH2, Heap.size_push]
  have hDC : s₂.heap.objs.size ≠ H2.objs.size := by rw [hC]; exact Nat.ne_of_lt (Nat.lt_succ_self _)
  have below : ∀ b, b < s₂.heap.objs.size → b ≠ H2.objs.size ∧ b ≠ s₂.heap.objs.size := fun b hb => ⟨by rw [hC]; exact Nat.ne_of_lt (Nat.lt_succ_of_lt hb), Nat.ne_of_lt hb⟩
  have old : ∀ b o, s₂.heap.get? b = some o → h₁.get? b = some o := fun b o e => hsb₁.extBut b o (below b (Heap.lt_size e)).1 (Heap.get?_push_of_some _ (hH2 ▸ Heap.get?_push_of_some _ e))
  have hacc : h₁.get? s₂.heap.objs.size = some (lstO []) := hsb₁.extBut _ _ hDC (Heap.get?_push_of_some _ (hH2 ▸ Heap.get?_push_size _ rfl))
  have hst₁ : St 0 h₁ := W.frame _ _ _ hst fun b _ o e => old b o e
  have fresh : ∀ a, s₂.heap.objs.size ≤ a → s₂.heap.get? a = none := fun a ha => by
    cases e : s₂.heap.get? a with
    | none => rfl
    | some o' => exact absurd (Heap.lt_size e) (Nat.not_lt.mpr ha)
  have hDw : s₂.heap.objs.size ∉ wr := fun hm => Nat.lt_irrefl _ (hfp _ (W.sub _ hm))
  have hCw : H2.objs.size ∉ wr := fun hm => by have := hfp _ (W.sub _ hm); rw [hC] at this; exact Nat.lt_irrefl _ (Nat.lt_of_succ_lt this)
  have hDf : s₂.heap.objs.size ∉ fp := fun hm => Nat.lt_irrefl _ (hfp _ hm)
  have hCf : H2.objs.size ∉ fp := fun hm => by have := hfp _ hm; rw [hC] at this; exact Nat.lt_irrefl _ (Nat.lt_of_succ_lt this)
  have loop : ∀ s₃ : Shared, s₃ = { s₂ with heap := h₁, toks := s₂.toks + ([] : List (Str × Value)).length } →
      codeAny (model prog w) A (.compLoop (.ListComp elt [⟨target, iter, ifs, 0⟩] scope pos) 0 (.ref I) (.ref s₂.heap.objs.size) (compEnvC scope cl H2.objs.size env))
        (RR (.ref s₂.heap.objs.size) H2.objs.size) s₃ := by
    rintro s₃ rfl
    refine compLoop_go
      (CompI s₂ s₂.heap.objs.size H2.objs.size n St wr fp J) ?_ (n + 1)
      ⟨h₁, _, 0, [], _, [], rfl, Nat.zero_le _, rfl, Nat.le_refl _, hst₁, hns₁, hacc, (fun b o _ e => old b o e), (fun p hp => absurd hp (List.not_mem_nil)), (fun p hp => absurd hp (List.not_mem_nil)), J0⟩
    intro k s' hPat
    obtain ⟨h', tk, i, ys, m', news, e, hi, ek, hyl, hst', hn', hD', hk', ho', hne', hJ⟩ := hPat
    subst e ek
    by_cases hlt : i < n
    · refine W.item i _ _ _ hlt hst' fun v h₂ tk₂ hMd hk₂ => ?_
      dsimp only
      refine W.go i v _ _ _ hMd fun h₃ hP hst₃ hk₃ => ?_
      have k23 : KpB wr h' h₃ := fun b o hb e => hk₃ b o hb (hk₂ b o hb e)
      have hn₃ : h₃.Ns H2.objs.size m' := hn'.at' fun o e => k23 _ o hCw e
      have hD₃ := k23 _ _ hDw hD'
      have hk3 : KpB wr s₂.heap h₃ := fun b o hb e => k23 b o hb (hk' b o hb e)
      have ho3 : Ow s₂.heap h₃ news := fun p hp => ⟨k23 _ _ (fun hm => (hne' p hp).2.2 (W.sub _ hm)) (ho' p hp).1, (ho' p hp).2⟩
      have step : ∀ (h₅ : Heap) (mC : Str → Option Value) (nw : List (Addr × Obj)), h₅.Ns H2.objs.size mC → (∀ b o, b ≠ H2.objs.size → h₃.get? b = some o → h₅.get? b = some o) → Ow h₃ h₅ nw →
          St (i + 1) h₅ ∧ h₅.get? s₂.heap.objs.size = some (lstO ys) ∧ KpB wr s₂.heap h₅ ∧ Ow s₂.heap h₅ (news ++ nw) ∧ (∀ p ∈ news ++ nw, p.1 ≠ s₂.heap.objs.size ∧ p.1 ≠ H2.objs.size ∧ p.1 ∉ fp) := by
        intro h₅ mC nw hn₅ hk₅ ho₅
        obtain ⟨oC, eC⟩ := ns_there hn₃
        refine ⟨W.frame _ _ _ hst₃ fun b hb o e => hk₅ b o (fun q => hCf (q ▸ hb)) e, hk₅ _ _ hDC hD₃, fun b o hb e => hk₅ b o (below b (Heap.lt_size e)).1 (hk3 b o hb e), fun p hp => ?_, fun p hp => ?_⟩
        · rcases List.mem_append.mp hp with hp | hp
          · exact ⟨hk₅ _ _ (hne' p hp).2.1 (ho3 p hp).1, (ho3 p hp).2⟩
          · refine ⟨(ho₅ p hp).1, ?_⟩
            cases e : s₂.heap.get? p.1 with
            | none => rfl
            | some o =>
              by_cases hb : p.1 ∈ wr
              · obtain ⟨o', e'⟩ := hpres _ _ hst₃ _ (W.sub _ hb)
                rw [(ho₅ p hp).2] at e'; cases e'
              · have := hk3 _ _ hb e
                rw [(ho₅ p hp).2] at this; cases this
        · rcases List.mem_append.mp hp with hp | hp
          · exact hne' p hp
          · refine ⟨fun q => ?_, fun q => ?_, fun q => ?_⟩
            · have := (ho₅ p hp).2; rw [q, hD₃] at this; cases this
            · have := (ho₅ p hp).2; rw [q, eC] at this; cases this
            · obtain ⟨o', e'⟩ := hpres _ _ hst₃ _ q
              rw [(ho₅ p hp).2] at e'; cases e'
      refine wpAny_mono (turn i v ys news H2.objs.size h₃ tk₂ m' hlt hP hJ hyl hk3 ho3 (by rw [hC]; exact Nat.le_succ _) hn₃) (fun _ s₄ h₄ => wpAny_mono h₄ (fun ok s₅ h₅ => ?_) fun _ _ x => x) fun _ _ x => x
      cases ok with
      | false =>
        obtain ⟨h₆, tk₆, mC, nw, rfl, hn₆, hk₆, ho₆, hj⟩ := h₅
        obtain ⟨a1, a2, a3, a4, a5⟩ := step h₆ mC nw hn₆ hk₆ ho₆
        exact ⟨n + 1 - (i + 1), by omega, h₆, tk₆, i + 1, ys, mC, news ++ nw, rfl, hlt, rfl, Nat.le_succ_of_le hyl, a1, hn₆, a2, a3, a4, a5, hj⟩
      | true =>
        refine wpAny_mono h₅ (fun y s₆ h₆ => ?_) fun _ _ x => x
        obtain ⟨h₆, tk₆, mC, nw, rfl, hn₆, hk₆, ho₆, hj⟩ := h₆
        obtain ⟨a1, a2, a3, a4, a5⟩ := step h₆ mC nw hn₆ hk₆ ho₆
        refine append_at (hsz := by show ys.toArray.size ≤ sizeLine; rw [List.size_toArray]; omega) a2 fun h₇ hs₇ hD₇ => ?_
        refine ⟨n + 1 - (i + 1), by omega, h₇, tk₆, i + 1, ys ++ [y], mC, news ++ nw, rfl, hlt, rfl, by rw [List.length_append, List.length_singleton]; omega,
          W.frame _ _ _ a1 fun b hb o e => hs₇.extBut b o (fun q => hDf (q ▸ hb)) e, hn₆.sameBut hs₇ (Ne.symm hDC), ?_, fun b o hb e => hs₇.extBut b o (below b (Heap.lt_size e)).2 (a3 b o hb e), fun p hp => ⟨hs₇.extBut _ _ (a5 p hp).1 (a4 p hp).1, (a4 p hp).2⟩, a5, hj⟩
        rw [hD₇]
        exact congrArg some (LCg.lst_snoc ys y)
    · obtain rfl : i = n := Nat.le_antisymm hi (Nat.not_lt.mp hlt)
      refine W.done _ _ _ hst' fun h₂ tk₂ hk₂ => ?_
      exact hRR _ _ h₂ tk₂ m' ys news (hn'.at' fun o e => hk₂ _ o hCw e) (hk₂ _ _ hDw hD') (Nat.le_refl _) (by rw [hC]; exact Nat.le_succ _) (Ne.symm hDC) (fun b o hb e => hk₂ b o hb (hk' b o hb e))
        (fun p hp => ⟨hk₂ _ _ (fun hm => (hne' p hp).2.2 (W.sub _ hm)) (ho' p hp).1, (ho' p hp).2⟩) (fun p hp => ⟨(hne' p hp).1, (hne' p hp).2.1⟩) hyl hJ
  exact codeAny_compStart_list (loop _ rfl) (hself _ _ _ hst₁ (loop _ rfl))
end
end Mine
end PW4
theorem Mine.rstW4 : True := by
  w_top off
  k_with_none
  first | (walk1; fail "x") | exact True.intro
section PW5
open PySem PySem.W PyProof.Rows PySem.Calls PySem.Spec
set_option maxRecDepth 100000
namespace Mine
/-- what a loop or a comprehension may walk: n items, each as P says; its iterator's objects stand not in b₀ -/
def Src (prog : Program) (w : World) (A : Around) (target : PySem.Expr) (b₀ : Heap) (srcs : List Addr) (xv : Value) (s₁ : Shared) (n : Nat) (P : Nat → Value → Heap → Prop) : Prop :=
  ∀ (Q : Value → Shared → Prop) (E : Value → Shared → Prop),
    (∀ (s₂ : Shared) (I : Addr) (fp wr : List Addr) (Md : Nat → Value → Heap → Prop) (St : Nat → Heap → Prop), s₂ = { s₁ with heap := s₂.heap, toks := s₂.toks } → Kp s₁.heap s₂.heap → KTurns prog w A target I fp wr n P Md St →
      (∀ (s : Shared) (Q : Value → Shared → Prop) (E : Value → Shared → Prop), St 0 s.heap → Q (.ref I) s → wpAny (model prog w) A (pyIter (.ref I)) Q E s) →
      (∀ i h, St i h → ∀ b ∈ fp, ∃ o, h.get? b = some o) → St 0 s₂.heap → (∀ b ∈ wr, b₀.get? b = none) → (∀ b ∈ fp, b₀.get? b = none ∨ b ∈ srcs) → Q (.ref I) s₂) →
    wpAny (model prog w) A (pyIter xv) Q E s₁
section
variable {prog : Program} {w : World} {A : Around} {E : Value → Shared → Prop} {s : Shared}
theorem new_none {h : Heap} {a : Addr} (ha : h.objs.size ≤ a) : h.get? a = none := by
  cases e : h.get? a with
  | none => rfl
  | some o' => exact absurd (Heap.lt_size e) (Nat.not_lt.mpr ha)
theorem Kp.size {h h' : Heap} (k : Kp h h') {a : Addr} (e : h'.get? a = none) : h.get? a = none := by
  cases q : h.get? a with
  | none => rfl
  | some o => have := k _ _ q; rw [e] at this; cases this
theorem Src.list {target : PySem.Expr} {b₀ : Heap} {s₁ : Shared} {ax : Addr} {its : Array Value} (hh : A.handled = none) (hl : s₁.heap.IsList ax its) (k : Kp b₀ s₁.heap) :
    Src prog w A target b₀ [ax] (.ref ax) s₁ its.size (fun i v _ => its[i]? = some v) := by
  intro Q E h
  have hlt : ax < s₁.heap.objs.size := by obtain ⟨_, e, _⟩ := hl; exact Heap.lt_size e
  refine wpAny_pyIter_list hl ?_
  have W := Walks.list (prog := prog) (w := w) hh s₁.heap.objs.size ax (Nat.ne_of_lt hlt) its
  refine h _ _ _ _ _ _ rfl (fun _ _ e => Heap.get?_push_of_some _ e) (KTurns.ofWalks W fun i v s Q E st q => letGo_listiter st.1 q) (fun s Q E st q => W.self 0 s Q E st q) ?_ ⟨⟨_, Heap.get?_push_size _ rfl, rfl, rfl⟩, hl.push _⟩ ?_ ?_
  · rintro i h ⟨⟨o, e, _⟩, ⟨o', e', _⟩⟩ b hb
    rcases List.mem_cons.mp hb with rfl | hb
    · exact ⟨o, e⟩
    · rw [List.mem_singleton.mp hb]; exact ⟨o', e'⟩
  · intro b hb
    rw [List.mem_singleton.mp hb]
    exact k.size (new_none (Nat.le_refl _))
  · intro b hb
    rcases List.mem_cons.mp hb with rfl | hb
    · exact .inl (k.size (new_none (Nat.le_refl _)))
    · exact .inr hb
theorem Src.tuple {target : PySem.Expr} {b₀ : Heap} {s₁ : Shared} {ax : Addr} {its : Array Value} (hh : A.handled = none) (hl : s₁.heap.IsTuple ax its) (k : Kp b₀ s₁.heap) :
    Src prog w A target b₀ [ax] (.ref ax) s₁ its.size (fun i v _ => its[i]? = some v) := by
  intro Q E h
  have hlt : ax < s₁.heap.objs.size := by obtain ⟨_, e, _⟩ := hl; exact Heap.lt_size e
  refine wpAny_pyIter_tuple hl ?_
  have W := Walks.tuple (prog := prog) (w := w) hh s₁.heap.objs.size ax (Nat.ne_of_lt hlt) its
  refine h _ _ _ _ _ _ rfl (fun _ _ e => Heap.get?_push_of_some _ e) (KTurns.ofWalks W fun i v s Q E st q => letGo_tupleiter st.1 q) (fun s Q E st q => W.self 0 s Q E st q) ?_ ⟨⟨_, Heap.get?_push_size _ rfl, rfl, rfl⟩, hl.at fun o e => Heap.get?_push_of_some _ e⟩ ?_ ?_
  · rintro i h ⟨⟨o, e, _⟩, ⟨o', e', _⟩⟩ b hb
    rcases List.mem_cons.mp hb with rfl | hb
    · exact ⟨o, e⟩
    · rw [List.mem_singleton.mp hb]; exact ⟨o', e'⟩
  · intro b hb
    rw [List.mem_singleton.mp hb]
    exact k.size (new_none (Nat.le_refl _))
  · intro b hb
    rcases List.mem_cons.mp hb with rfl | hb
    · exact .inl (k.size (new_none (Nat.le_refl _)))
    · exact .inr hb

/-- a comprehension's turns and its end, over plain heaps -/
structure CompG (prog : Program) (w : World) (A : Around) (target elt : PySem.Expr) (ifs : List PySem.Expr) (scope : Scope) (cl : List (Str × Addr)) (env : Env) (b₀ : Heap) (s₁ : Shared) (n : Nat) (P : Nat → Value → Heap → Prop)
    (J : Nat → List Value → List (Addr × Obj) → Prop) (Fin : Addr → Heap → Nat → Prop) : Prop where
  zero : J 0 [] []
  size : n ≤ sizeLine
  turn : ∀ i v ys news C h tk mC, i < n → P i v h → J i ys news → ys.length ≤ i → Kp b₀ h → Ow b₀ h news → b₀.get? C = none → h.Ns C mC → (∀ a o, b₀.get? a = some o → a < C) →
      wpAny (model prog w) A (assign target (compEnvC scope cl C env) v) (fun _ s₃ =>
        wpAny (model prog w) A (forIn ifs true fun c r => if r = true then do let ok ← isTrue c (compEnvC scope cl C env) (eval c (compEnvC scope cl C env)); pure (ForInStep.yield ok) else pure (ForInStep.yield r)) (fun ok s₄ =>
          if ok = true then wpAny (model prog w) A (eval elt (compEnvC scope cl C env)) (fun y s₅ => TurnE s₁ C h (fun nw => J (i + 1) (ys ++ [y]) (news ++ nw)) s₅) NoE s₄
          else TurnE s₁ C h (fun nw => J (i + 1) ys (news ++ nw)) s₄) NoE s₃) NoE { s₁ with heap := h, toks := tk }
  fin : ∀ D h tk ys news, h.get? D = some (lstO ys) → b₀.get? D = none → Kp b₀ h → Ow b₀ h news → (∀ p ∈ news, p.1 ≠ D) → ys.length ≤ n → J n ys news → Fin D h tk

inductive CompEX (prog : Program) (w : World) (A : Around) (target elt : PySem.Expr) (ifs : List PySem.Expr) (scope : Scope) (cl : List (Str × Addr)) (env : Env) (Q : Value → Shared → Prop) (xv : Value) (s₁ : Shared) : Prop
  | mk (b₀ : Heap) (n : Nat) (P : Nat → Value → Heap → Prop) (J : Nat → List Value → List (Addr × Obj) → Prop) (srcs : List Addr) (k : Kp b₀ s₁.heap) (S : Src prog w A target b₀ srcs xv s₁ n P) (G : CompG prog w A target elt ifs scope cl env b₀ s₁ n P J (fun D h tk => Q (.ref D) { s₁ with heap := h, toks := tk }))
theorem comp_evalX {elt target iter : PySem.Expr} {ifs : List PySem.Expr} {scope : Scope} {cl : List (Str × Addr)} {pos : Pos} {env : Env} {Q : Value → Shared → Prop}
    (hclos : closureFor scope env = pure cl) (hcell : ∀ y ∈ scope.names, y.2 ≠ .cell) (hkind : scope.kind = .function)
    (hnames : ∀ y ∈ scope.names, y.2 = .local → scope.names.lookup y.1 = some .local)
    (h : wpAny (model prog w) A (eval iter env) (fun xv s₁ => CompEX prog w A target elt ifs scope cl env Q xv s₁) E s)
    (hs : ∀ x, foldedSetIterable iter env x = pure x) :
    wpAny (model prog w) A (eval (.ListComp elt [⟨target, iter, ifs, 0⟩] scope pos) env) Q E s := by
  rw [eval_ListComp]
  refine wpAny_comprehension_free (use := none) rfl hs hclos hkind hnames (wpAny_mono h (fun xv s₁ h₁ => ?_) fun _ _ e => e)
  obtain ⟨b₀, n, P, J, srcs, k₀, S, G⟩ := h₁
  refine S _ _ fun s₂ I fp wr Md St e2 k12 W hself hpres hst hwr hfs => ?_
  have kb : ∀ {h : Heap}, KpB wr s₂.heap h → Kp b₀ h := fun {h} k b o e => k b o (fun hm => by rw [hwr b hm] at e; cases e) (k12 b o (k₀ b o e))
  have nn : ∀ {a : Addr}, s₂.heap.objs.size ≤ a → b₀.get? a = none := fun ha => (Kp.trans k₀ k12).size (new_none ha)
  have ow : ∀ {h : Heap} {news : List (Addr × Obj)}, Ow s₂.heap h news → Ow b₀ h news := fun {h news} o p hp => ⟨(o p hp).1, (Kp.trans k₀ k12).size (o p hp).2⟩
  have es : ∀ (h : Heap) (tk : Nat), ({ s₂ with heap := h, toks := tk } : Shared) = { s₁ with heap := h, toks := tk } := fun h tk => by rw [e2]
  refine comp_block J W hself hpres G.size hcell hkind hst (fun b hb => by obtain ⟨o, e⟩ := hpres _ _ hst b hb; exact Heap.lt_size e) G.zero ?_ ?_
  · intro i v ys news C h tk mC hi hP hJ hyl hk ho hC hn
    have := G.turn i v ys news C h tk mC hi hP hJ hyl (kb hk) (ow ho) (nn hC) hn (fun a o e => Nat.lt_of_lt_of_le (Heap.lt_size (Kp.trans k₀ k12 _ _ e)) hC)
    rw [es h tk]
    refine wpAny_mono this (fun _ s₃ h₃ => wpAny_mono h₃ (fun ok s₄ h₄ => ?_) fun _ _ x => x) fun _ _ x => x
    cases ok with
    | false =>
      obtain ⟨h₅, tk₅, mC', nw, e, r1, r2, r3, r4⟩ := h₄
      exact ⟨h₅, tk₅, mC', nw, by rw [e, es], r1, r2, r3, r4⟩
    | true =>
      refine wpAny_mono h₄ (fun y s₅ h₅ => ?_) fun _ _ x => x
      obtain ⟨h₅, tk₅, mC', nw, e, r1, r2, r3, r4⟩ := h₅
      exact ⟨h₅, tk₅, mC', nw, by rw [e, es], r1, r2, r3, r4⟩
  · intro D C h tk m' ys news hn hD hDs hCs hCD hk ho hne hyl hJ
    refine ⟨m', hn, fun h'' hs'' => ?_⟩
    show Q (.ref D) { s₂ with heap := h'', toks := tk }
    rw [es]
    have nC : ∀ b o, b₀.get? b = some o → b ≠ C := fun b o e q => by rw [q, nn hCs] at e; cases e
    exact G.fin D h'' tk ys news (hs''.extBut _ _ (Ne.symm hCD) hD) (nn hDs) (fun b o e => hs''.extBut b o (nC b o e) (kb hk b o e)) (fun p hp => ⟨hs''.extBut _ _ (hne p hp).2 (ho p hp).1, (ow ho p hp).2⟩) (fun p hp => (hne p hp).1) hyl hJ

inductive CompAX (prog : Program) (w : World) (A : Around) (target elt : PySem.Expr) (ifs : List PySem.Expr) (scope : Scope) (cl : List (Str × Addr)) (env : Env) (y : Str) (L : Addr) (Q : Flow → Shared → Prop) (xv : Value) (s₁ : Shared) : Prop
  | mk (b₀ h₀ : Heap) (m : Str → Option Value) (n : Nat) (P : Nat → Value → Heap → Prop) (J : Nat → List Value → List (Addr × Obj) → Prop) (srcs : List Addr) (k : Kp b₀ s₁.heap) (S : Src prog w A target b₀ srcs xv s₁ n P) (F : Fr h₀ L b₀ m) (G : CompG prog w A target elt ifs scope cl env b₀ s₁ n P J (fun _ _ _ => True))
      (fin : ∀ D h tk ys news, h.get? D = some (lstO ys) → b₀.get? D = none → KpB [L] b₀ h → Ow b₀ h news → (∀ p ∈ news, p.1 ≠ D) → ys.length ≤ n → J n ys news → Fr h₀ L h (fun z => if z = y then some (.ref D) else m z) → Q .next { s₁ with heap := h, toks := tk })
theorem comp_assignX {elt target iter : PySem.Expr} {ifs : List PySem.Expr} {y : Str} {py : Pos} {scope : Scope} {cl : List (Str × Addr)} {pos spos : Pos} {env : Env} {L : Addr} {Q : Flow → Shared → Prop}
    (hLe : env.locals = L) (hsw : swapsWith (.ListComp elt [⟨target, iter, ifs, 0⟩] scope pos) (some (.Name y py)) spos.line env = pure true)
    (hclos : closureFor scope env = pure cl) (hcell : ∀ y ∈ scope.names, y.2 ≠ .cell) (hkind : scope.kind = .function)
    (hnames : ∀ y ∈ scope.names, y.2 = .local → scope.names.lookup y.1 = some .local)
    (hy : env.kindOf y = some .local) (hp : (env.scope.kind == .class || (env.scope.kind == .module && env.locals != env.globals)) = false)
    (h : wpAny (model prog w) A (eval iter env) (fun xv s₁ => CompAX prog w A target elt ifs scope cl env y L Q xv s₁) E s)
    (hs : ∀ x, foldedSetIterable iter env x = pure x) :
    wpAny (model prog w) A (exec (.Assign [.Name y py] (.ListComp elt [⟨target, iter, ifs, 0⟩] scope pos) spos) env) Q E s := by
  subst hLe
  rw [exec_Assign_Name_used _ _ _ _ hsw]
  refine wpAny_bind (wpAny_standAt (wpAny_bind ?_))
  show wpAny _ A (do let _ ← comprehension (.ListComp elt [⟨target, iter, ifs, 0⟩] scope pos) scope env _ (newList []) false (eval iter env) (some (assign (.Name y py) env))) _ _ s
  refine wpAny_bind (wpAny_mono (wpAny_comprehension_free (use := some (assign (.Name y py) env)) (Q := fun _ s' => Q .next s') rfl hs hclos hkind hnames
    (wpAny_mono h (fun xv s₁ h₁ => ?_) fun _ _ e => e)) (fun _ s' hq => wpAny_pure (wpAny_pure hq)) fun _ _ e => e)
  obtain ⟨b₀, h₀, m, n, P, J, srcs, k₀, S, F, G, fin⟩ := h₁
  refine S _ _ fun s₂ I fp wr Md St e2 k12 W hself hpres hst hwr hfs => ?_
  have kb : ∀ {h : Heap}, KpB wr s₂.heap h → Kp b₀ h := fun {h} k b o e => k b o (fun hm => by rw [hwr b hm] at e; cases e) (k12 b o (k₀ b o e))
  have nn : ∀ {a : Addr}, s₂.heap.objs.size ≤ a → b₀.get? a = none := fun ha => (Kp.trans k₀ k12).size (new_none ha)
  have ow : ∀ {h : Heap} {news : List (Addr × Obj)}, Ow s₂.heap h news → Ow b₀ h news := fun {h news} o p hp => ⟨(o p hp).1, (Kp.trans k₀ k12).size (o p hp).2⟩
  have es : ∀ (h : Heap) (tk : Nat), ({ s₂ with heap := h, toks := tk } : Shared) = { s₁ with heap := h, toks := tk } := fun h tk => by rw [e2]
  refine comp_block J W hself hpres G.size hcell hkind hst (fun b hb => by obtain ⟨o, e⟩ := hpres _ _ hst b hb; exact Heap.lt_size e) G.zero ?_ ?_
  · intro i v ys news C h tk mC hi hP hJ hyl hk ho hC hn
    have := G.turn i v ys news C h tk mC hi hP hJ hyl (kb hk) (ow ho) (nn hC) hn (fun a o e => Nat.lt_of_lt_of_le (Heap.lt_size (Kp.trans k₀ k12 _ _ e)) hC)
    rw [es h tk]
    refine wpAny_mono this (fun _ s₃ h₃ => wpAny_mono h₃ (fun ok s₄ h₄ => ?_) fun _ _ x => x) fun _ _ x => x
    cases ok with
    | false =>
      obtain ⟨h₅, tk₅, mC', nw, e, r1, r2, r3, r4⟩ := h₄
      exact ⟨h₅, tk₅, mC', nw, by rw [e, es], r1, r2, r3, r4⟩
    | true =>
      refine wpAny_mono h₄ (fun y s₅ h₅ => ?_) fun _ _ x => x
      obtain ⟨h₅, tk₅, mC', nw, e, r1, r2, r3, r4⟩ := h₅
      exact ⟨h₅, tk₅, mC', nw, by rw [e, es], r1, r2, r3, r4⟩
  · intro D C h tk m' ys news hn hD hDs hCs hCD hk ho hne hyl hJ
    have F' : Fr h₀ env.locals h m := F.keeps (kb hk)
    show wpAny _ A (assign (.Name y py) env (.ref D)) _ _ _
    refine wpAny_assign_Name (wpAny_storeName_local hy F'.ns (fun h₂ hn₂ hs₂ => ?_) hp)
    have hL₀ : h₀.get? env.locals = none := Heap.get?_none_of_le F'.above
    obtain ⟨oL, eL⟩ := ns_there F.ns
    have hLlt : env.locals < s₂.heap.objs.size := Heap.lt_size (Kp.trans k₀ k12 _ _ eL)
    have hCL : C ≠ env.locals := fun q => by rw [q] at hCs; exact absurd hLlt (Nat.not_lt.mpr hCs)
    have F₂ : Fr h₀ env.locals h₂ (fun z => if z = y then some (.ref D) else m z) := ⟨hn₂, fun b o e => hs₂.extBut b o (fun q => by rw [q, hL₀] at e; cases e) (F'.keep b o e), F'.above⟩
    refine ⟨m', hn.sameBut hs₂ hCL, fun h'' hs'' => ?_⟩
    have hC₀ : h₀.get? C = none := (show Kp h₀ b₀ from F.keep).size (nn hCs)
    have nC : ∀ b o, b₀.get? b = some o → b ≠ C := fun b o e q => by rw [q, nn hCs] at e; cases e
    have hDL : D ≠ env.locals := fun q => by rw [q] at hDs; exact absurd hLlt (Nat.not_lt.mpr hDs)
    show Q .next { s₂ with heap := h'', toks := _ }
    rw [es]
    refine fin D h'' _ ys news (hs''.extBut _ _ (Ne.symm hCD) (hs₂.extBut _ _ hDL hD)) (nn hDs) (fun b o hb e => hs''.extBut b o (nC b o e) (hs₂.extBut b o (fun q => hb (by rw [q]; exact .head _)) (kb hk b o e))) (fun p hp => ?_) (fun p hp => (hne p hp).1) hyl hJ (F₂.change hs'' hCL hC₀)
    refine ⟨hs''.extBut _ _ (hne p hp).2 (hs₂.extBut _ _ (fun q => ?_) (ho p hp).1), (ow ho p hp).2⟩
    have := (ow ho p hp).2
    rw [q, eL] at this; cases this

end
end Mine
end PW5
theorem Mine.rstW5 : True := by
  w_top off
  k_with_none
  first | (walk1; fail "x") | exact True.intro
section PW6
open PySem PySem.W PyProof.Rows PySem.Calls PySem.Spec
set_option maxRecDepth 100000
namespace Mine
theorem strs_snoc {x : Str} {t : Tok} : ∀ {ys : List Value} {xs : List Str}, StrsAre ys xs → StrsAre (ys ++ [.str x t]) (xs ++ [x])
  | _, _, .nil => .cons _ _ .nil
  | _, _, .cons a b r => .cons a b (strs_snoc r)
abbrev natsI (ks : List Nat) : List Int := ks.map fun (k : Nat) => (k : Int)
section
variable {prog : Program} {w : World} {A : Around} {E : Value → Shared → Prop} {s : Shared} {env : Env} {scope : Scope} {cl : List (Str × Addr)}
theorem wcomp {elt iter : PySem.Expr} {fig : Str} {px pos : Pos} {ax : Addr} {G : Nat → Str} {ks : List Nat} {vs : List Value} {Q : Value → Shared → Prop}
    (hh : A.handled = none) (hvs : IntsAre vs (natsI ks)) (hk5 : ∀ k ∈ ks, k < 5) (hlen : ks.length ≤ 3)
    (hsrc : ∀ (Q : Value → Shared → Prop), Q (.ref ax) s → wpAny (model prog w) A (eval iter env) Q E s) (htup : s.heap.IsTuple ax vs.toArray)
    (hclos : closureFor scope env = pure cl) (hcell : ∀ y ∈ scope.names, y.2 ≠ .cell) (hkind : scope.kind = .function)
    (hnames : ∀ y ∈ scope.names, y.2 = .local → scope.names.lookup y.1 = some .local) (hx : scope.names.lookup fig = some .local)
    (hs : ∀ x, foldedSetIterable iter env x = pure x)
    (hel : ∀ (k : Nat) (t : Tok) (C : Addr) (h : Heap) (tk : Nat) (mC : Str → Option Value) (Q : Value → Shared → Prop), k < 5 → Kp s.heap h → h.Ns C mC → mC fig = some (.int (k : Int) t) → (∀ t' tk', Q (.str (G k) t') { s with heap := h, toks := tk' }) →
      wpAny (model prog w) A (eval elt (compEnvC scope cl C env)) Q NoE { s with heap := h, toks := tk })
    (hfin : ∀ D h tk ys, StrsAre ys (ks.map G) → h.get? D = some (lstO ys) → s.heap.get? D = none → Kp s.heap h → Q (.ref D) { s with heap := h, toks := tk }) :
    wpAny (model prog w) A (eval (.ListComp elt [⟨.Name fig px, iter, [], 0⟩] scope pos) env) Q E s := by
  have hvl : vs.length = ks.length := by rw [hvs.length, List.length_map]
  refine comp_evalX hclos hcell hkind hnames (hsrc _ ⟨s.heap, _, _, fun i ys news => news = [] ∧ StrsAre ys ((ks.take i).map G), [ax], Kp.refl _, Src.tuple hh htup (Kp.refl _), ?_⟩) hs
  refine ⟨⟨rfl, by simpa using StrsAre.nil⟩, by rw [List.size_toArray, sizeLine_eq]; omega, ?_, ?_⟩
  · intro i v ys news C h tk mC hi hP hJ hyl hk ho hC hn _
    obtain ⟨rfl, hst⟩ := hJ
    have hi' : i < ks.length := by rw [List.size_toArray, hvl] at hi; exact hi
    obtain ⟨t, ht⟩ := hvs.get i (ks[i] : Int) (by simp [hi'])
    have hv : v = .int (ks[i] : Int) t := by
      have hP' : vs[i]? = some v := by simpa using hP
      rw [ht] at hP'; exact (Option.some.inj hP').symm
    subst hv
    obtain ⟨oC, eC⟩ := ns_there hn
    refine wpAny_assign_Name (wpAny_storeName_local (lookup_relabel_local hx) hn (fun h₃ hn₃ hs₃ => ?_) (by simp [compEnvC, relabel, hkind]))
    refine wpAny_tests_nil ?_
    simp only [if_true]
    have hk3 : ∀ b o, b ≠ C → h.get? b = some o → h₃.get? b = some o := fun b o hb e => hs₃.extBut b o hb e
    refine hel (ks[i]) t C h₃ _ _ _ (hk5 _ (List.getElem_mem hi')) (fun b o e => hk3 b o (fun q => by rw [q, hC] at e; cases e) (hk b o e)) hn₃ (by simp) fun t' tk' => ?_
    refine TurnE.intro [] hn₃ hk3 (fun _ hp => nomatch hp) ⟨rfl, ?_⟩
    rw [List.take_add_one, List.getElem?_eq_getElem hi', List.map_append]
    exact strs_snoc hst
  · intro D h tk ys news hD hD0 hk ho hne hyl hJ
    have e : ks.take vs.toArray.size = ks := List.take_of_length_le (by rw [List.size_toArray, hvl]; exact Nat.le_refl _)
    rw [e] at hJ
    exact hfin D h tk ys hJ.2 hD hD0 hk

section
variable {C c l : Addr} {oc : Obj} {mC : Str → Option Value} {t0 t1 t2 t3 t4 t : Tok} {k : Nat} {p1 p2 p3 : Pos} {Q : Value → Shared → Prop} {h : Heap} {tk : Nat}
theorem elt_word (hxw : (compEnvC scope cl C env).kindOf (Str.ofString "words") = some .cell) (hfw : (compEnvC scope cl C env).kindOf (Str.ofString "figure") = some .local) (hkd : (compEnvC scope cl C env).scope.kind = .function)
    (hcl : cl.lookup (Str.ofString "words") = some c) (hc : h.get? c = some oc) (hd : oc.data = .cell (some (.ref l))) (hl : h.IsList l (wordsA t0 t1 t2 t3 t4))
    (hn : h.Ns C mC) (hm : mC (Str.ofString "figure") = some (.int (k : Int) t)) (hk : k < 5) (hq : ∀ t', Q (.str (wordL k) t') { s with heap := h, toks := tk }) :
    wpAny (model prog w) A (eval (.Subscript (.Name (Str.ofString "words") p1) (.Name (Str.ofString "figure") p2) p3) (compEnvC scope cl C env)) Q E { s with heap := h, toks := tk } := by
  refine Subscript_ (wpAny_Name (wpAny_loadName_cell hkd hxw hcl ⟨oc, hc, hd⟩ ?_) (by decide))
  refine wpAny_Name (wpAny_loadName_local hkd hfw hn hm ?_) (by decide)
  exact word_item hl (by omega) (by omega) hq (by with_unfolding_all rfl)
theorem elt_turn {p4 p5 : Pos} {kk : Nat} (hxw : (compEnvC scope cl C env).kindOf (Str.ofString "words") = some .cell) (hfw : (compEnvC scope cl C env).kindOf (Str.ofString "figure") = some .local) (hkd : (compEnvC scope cl C env).scope.kind = .function)
    (hcl : cl.lookup (Str.ofString "words") = some c) (hc : h.get? c = some oc) (hd : oc.data = .cell (some (.ref l))) (hl : h.IsList l (wordsA t0 t1 t2 t3 t4))
    (hn : h.Ns C mC) (hm : mC (Str.ofString "figure") = some (.int (k : Int) t)) (hk : k < 5) (hq : ∀ t' tk', Q (.str (turnL k) t') { s with heap := h, toks := tk' }) :
    wpAny (model prog w) A (eval (.BoolOp .Or [.Subscript (.Name (Str.ofString "words") p1) (.Name (Str.ofString "figure") p2) p3, .Constant (.str (Str.ofString "~")) kk p4] p5) (compEnvC scope cl C env)) Q E { s with heap := h, toks := tk } := by
  refine BoolOp_or (elt_word hxw hfw hkd hcl hc hd hl hn hm hk fun t' => ?_)
  rcases Nat.eq_zero_or_pos k with rfl | hp
  · refine word_truthy0 fun k' => ?_
    rw [if_neg (by decide)]
    exact BoolOp_one (wpAny_Constant_str (hq _ _))
  · have e : (wordL k) = wordL ((k : Int).toNat) := by simp
    rw [e]
    refine word_truthy (by omega) fun k' => ?_
    rw [if_pos rfl, ← e]
    have e2 : wordL k = turnL k := by
      have : k = 1 ∨ k = 2 ∨ k = 3 ∨ k = 4 := by omega
      rcases this with rfl | rfl | rfl | rfl <;> rfl
    rw [e2]
    exact hq _ _
theorem elt_path {p4 p5 : Pos} {kk : Nat} (hxw : (compEnvC scope cl C env).kindOf (Str.ofString "words") = some .cell) (hfw : (compEnvC scope cl C env).kindOf (Str.ofString "figure") = some .local) (hkd : (compEnvC scope cl C env).scope.kind = .function)
    (hcl : cl.lookup (Str.ofString "words") = some c) (hc : h.get? c = some oc) (hd : oc.data = .cell (some (.ref l))) (hl : h.IsList l (wordsA t0 t1 t2 t3 t4))
    (hn : h.Ns C mC) (hm : mC (Str.ofString "figure") = some (.int (k : Int) t)) (hk : k < 5) (hq : ∀ t' tk', Q (.str (swL k) t') { s with heap := h, toks := tk' }) :
    wpAny (model prog w) A (eval (.BinOp (.Constant (.str (Str.ofString "/")) kk p4) .Add (.Subscript (.Name (Str.ofString "words") p1) (.Name (Str.ofString "figure") p2) p3) p5) (compEnvC scope cl C env)) Q E { s with heap := h, toks := tk } := by
  refine wpAny_BinOp (wpAny_Constant_str ?_)
  exact elt_word (s := s) (tk := tk + 1) hxw hfw hkd hcl hc hd hl hn hm hk fun t' => word_add hq
end
end
end Mine
end PW6
theorem Mine.rstW6 : True := by
  w_top off
  k_with_none
  first | (walk1; fail "x") | exact True.intro
section PW7
open PySem PySem.W PyProof.Rows PySem.Calls PySem.Spec
set_option maxRecDepth 100000
namespace Mine
abbrev full3 (ks : List Nat) : List Nat := [ks.getD 0 0, ks.getD 1 0, ks.getD 2 0]
theorem ints_append {ns ms : List Int} {us : List Value} : ∀ {vs : List Value}, IntsAre vs ns → IntsAre us ms → IntsAre (vs ++ us) (ns ++ ms)
  | _, .nil, h => h
  | _, .cons a t r, h => .cons a t (ints_append r h)
section
variable {prog : Program} {w : World} {A : Around} {E : Value → Shared → Prop} {s : Shared} {env : Env} {h₀ : Heap} {L : Addr} {m : Str → Option Value} {news : List (Addr × Obj)}
theorem full_eval {fe : PySem.Expr} {p2 p3 p4 p5 p6 p7 p8 p9 : Pos} {k1 k2 k3 k4 k5 : Nat} {a : Addr} {vs : List Value} {ks : List Nat} {Q : Value → Shared → Prop}
    (F : Fr h₀ L s.heap m) (N : News h₀ L s.heap news) (hsrc : ∀ (Q : Value → Shared → Prop), Q (.ref a) s → wpAny (model prog w) A (eval fe env) Q E s)
    {na : Nat} (hm : (a, tupO vs na) ∈ news) (hvs : IntsAre vs (natsI ks)) (hlen : ks.length ≤ 3)
    (h : ∀ ax h' tk' vs', Fr h₀ L h' m → News h₀ L h' ((ax, tupO vs' 0) :: news) → (∀ p ∈ news, p.1 < ax) → IntsAre vs' (natsI (full3 ks)) → Q (.ref ax) { s with heap := h', toks := tk' }) :
    wpAny (model prog w) A (eval (.Subscript (.BinOp fe .Add (.Tuple [.Constant (.int 0) k1 p2, .Constant (.int 0) k2 p3, .Constant (.int 0) k3 p4] k4 p5) p6) (.Slice none (some (.Constant (.int 3) k5 p7)) none p8) p9) env) Q E s := by
  have hvl : vs.length = ks.length := by rw [hvs.length, List.length_map]
  refine Subscript_ (wpAny_BinOp (hsrc _ (Tuple_ ?_)))
  show wpAny _ A (spliced [(false, eval (.Constant (.int 0) k1 p2) env), (false, eval (.Constant (.int 0) k2 p3) env), (false, eval (.Constant (.int 0) k3 p4) env)]) _ _ _
  refine spliced_cons (wpAny_Constant_int (spliced_cons (wpAny_Constant_int (spliced_cons (wpAny_Constant_int (spliced_nil ?_))))))
  refine newTuple_N (s := { s with toks := s.toks + 1 + 1 + 1 }) F N (fun h1 F1 N1 => ?_) (by show 3 ≤ sizeLine; rw [sizeLine_eq]; decide)
  dsimp only
  generalize hb : s.heap.objs.size = b at N1 ⊢
  have lt1 : ∀ p ∈ news, p.1 < b := fun p hp => hb ▸ Heap.lt_size (N p hp).1
  have ha : IsTup h1 a vs.toArray := ⟨_, N1.get (.tail _ hm), rfl, na, rfl⟩
  have hz : IsTup h1 b [Value.int 0 s.toks, .int 0 (s.toks + 1), .int 0 (s.toks + 1 + 1)].toArray := ⟨_, N1.get (.head _), rfl, 0, rfl⟩
  have hzi : IntsAre [Value.int 0 s.toks, .int 0 (s.toks + 1), .int 0 (s.toks + 1 + 1)] [0, 0, 0] := .cons _ _ (.cons _ _ (.cons _ _ .nil))
  -- behind the sum: a tuple of three or more
  have tail : ∀ (D : Addr) (h2 : Heap) (us : List Value) (js : List Int), Fr h₀ L h2 m → News h₀ L h2 ((D, tupO us 0) :: news) → (∀ p ∈ news, p.1 < D) → IntsAre us js → 3 ≤ us.length → us.length ≤ 6 → js.take 3 = natsI (full3 ks) →
      wpAny (model prog w) A (eval (.Slice none (some (.Constant (.int 3) k5 p7)) none p8) env) (fun i s₂ => wpAny (model prog w) A (subscriptTail (.BinOp fe .Add (.Tuple [.Constant (.int 0) k1 p2, .Constant (.int 0) k2 p3, .Constant (.int 0) k3 p4] k4 p5) p6)
        (.Slice none (some (.Constant (.int 3) k5 p7)) none p8) (.ref D) i) Q E s₂) E { s with heap := h2, toks := s.toks + 1 + 1 + 1 } := by
    intro D h2 us js F2 N2 l2 hu h3 h6 hj
    refine wpAny_Slice (evalPart_none_step (evalPart_some_step (wpAny_Constant_int (evalPart_none_step ?_))))
    have hD : IsTup h2 D us.toArray := ⟨_, N2.get (.head _), rfl, 0, rfl⟩
    refine kba_turn (value' := PySem.Expr.Name (PySem.Str.ofString "_") ⟨0, 0, 0, 0⟩) (fun _ => rfl) ?_
    by_cases h4 : us.length = 3
    · refine tup_allI (s := { s with heap := h2, toks := s.toks + 1 + 1 + 1 + 1 }) F2 N2 hD (by decide) (by rw [List.size_toArray, h4]; decide) (fun h' F' N' => ?_) (by with_unfolding_all rfl) (fun _ => rfl)
      refine h D h' _ us F' N' l2 ?_
      rw [← hj, List.take_of_length_le (by rw [← hu.length, h4]; exact Nat.le_refl _)]
      exact hu
    · refine tup_uptoI (s := { s with heap := h2, toks := s.toks + 1 + 1 + 1 + 1 }) F2 N2 hD (by decide) (by rw [List.size_toArray]; show 3 < us.length; omega) rfl (fun D' h' F' N' l' => ?_) (by with_unfolding_all rfl) (fun _ => rfl) (by rw [List.size_toArray, sizeLine_eq]; omega)
      refine h D' h' _ (us.take 3) F' (fun p hp => N' p ?_) (fun p hp => l' p (.tail _ hp)) ?_
      · rcases List.mem_cons.mp hp with rfl | hp
        · exact .head _
        · exact .tail _ (.tail _ hp)
      · rw [← hj]
        exact hu.take 3
  by_cases hv0 : vs = []
  · subst hv0
    have hks : ks = [] := by cases ks with
      | nil => rfl
      | cons x r => simp at hvl
    subst hks
    refine kde_addT0 (s := { s with heap := h1, toks := s.toks + 1 + 1 + 1 }) F1 N1 ha hz rfl (Nat.le_of_ble_eq_true rfl) ?_
    exact tail b h1 _ _ F1 N1 lt1 hzi (Nat.le_of_ble_eq_true rfl) (Nat.le_of_ble_eq_true rfl) rfl
  · refine kde_addT (s := { s with heap := h1, toks := s.toks + 1 + 1 + 1 }) F1 N1 ha hz hv0 (by simp) (by simp; omega) rfl (fun D h2 F2 N2 l2 => ?_)
    refine tail D h2 _ _ F2 (fun p hp => N2 p ?_) (fun p hp => l2 p (.tail _ hp)) (ints_append hvs hzi) (by simp) (by simp; omega) ?_
    · rcases List.mem_cons.mp hp with rfl | hp
      · exact .head _
      · exact .tail _ (.tail _ hp)
    · clear hvs hvl hsrc h tail F2 N2 l2 F1 N1 lt1
      rcases ks with _ | ⟨x, _ | ⟨y, _ | ⟨z, _ | ⟨_, _⟩⟩⟩⟩
      · rfl
      · rfl
      · rfl
      · rfl
      · exact absurd hlen (by simp)
end
end Mine
end PW7
theorem Mine.rstW7 : True := by
  w_top off
  k_with_none
  first | (walk1; fail "x") | exact True.intro
section PWL
open PySem PySem.W PyProof.Rows PySem.Calls PySem.Spec
set_option maxRecDepth 100000
namespace Mine
/-- a goal that the walk leaves to me -/
def Hold (p : Prop) : Prop := p
theorem hold_ {p : Prop} (h : Hold p) : p := h
/-- the goal put out of sight (what is taken apart then carries a small motive) -/
theorem hide_ {P : Prop} (h : ∀ G : Prop, (P → G) → G) : P := h P id
/-- a state's tokens put out of sight, its other parts read off the first state (what a walk writes grows with the state) -/
theorem norm_ {prog : Program} {w : World} {A : Around} {t : Sem α} {Q : α → Shared → Prop} {E : Value → Shared → Prop} {h : Heap} {g d o} {T : Nat} (s : Shared) (e1 : g = s.gens) (e2 : d = s.drawn) (e3 : o = s.os) (k : ∀ tk, wpAny (model prog w) A t Q E { s with heap := h, toks := tk }) :
    wpAny (model prog w) A t Q E { heap := h, gens := g, drawn := d, toks := T, os := o } := by
  subst e1 e2 e3
  exact k T
/-- some names' values, written out -/
theorem Fr.pins {g h : Heap} {L : Addr} {m : Str → Option Value} (F : Fr g L h m) (ps : List (Str × Value)) (e : ∀ p ∈ ps, m p.1 = some p.2) : Fr g L h (fun y => match ps.lookup y with | some v => some v | none => m y) := by
  have : m = (fun y => match ps.lookup y with | some v => some v | none => m y) := by
    funext y
    cases q : ps.lookup y with
    | none => rfl
    | some v =>
      have hm : (y, v) ∈ ps := by
        clear e F
        induction ps with
        | nil => cases q
        | cons a r ih =>
          obtain ⟨k, x⟩ := a
          rw [List.lookup_cons] at q
          cases hb : (y == k) with
          | true => rw [hb] at q; cases q; rw [eq_of_beq hb]; exact .head _
          | false => rw [hb] at q; exact .tail _ (ih q)
      exact e _ hm
  rw [this] at F
  exact F
/-- names pinned to values -/
def PinL (m : Str → Option Value) : List (Str × Value) → Prop
  | [] => True
  | p :: r => m p.1 = some p.2 ∧ PinL m r
theorem PinL.at {m : Str → Option Value} {ps : List (Str × Value)} (h : PinL m ps) : ∀ p ∈ ps, m p.1 = some p.2 := by
  induction ps with
  | nil => exact fun _ hp => nomatch hp
  | cons a r ih =>
    intro p hp
    rcases List.mem_cons.mp hp with e | hp
    · rw [e]; exact h.1
    · exact ih h.2 p hp
theorem Fr.pinned {g h : Heap} {L : Addr} {m : Str → Option Value} {ps : List (Str × Value)} (F : Fr g L h m) (e : PinL m ps) : Fr g L h (fun y => match ps.lookup y with | some v => some v | none => m y) := Fr.pins F ps e.at
/-- a ledger's literal head before what it holds -/
theorem News.front {g h : Heap} {L : Addr} {objs hd : List (Addr × Obj)} (N : News g L h objs) (s : SubL hd objs) : News g L h (hd ++ objs) := fun p hp => (List.mem_append.mp hp).elim (fun q => N p (s.mem p q)) (N p)
theorem Fr.with' {g h : Heap} {L : Addr} {m m' : Str → Option Value} (F : Fr g L h m) (e : ∀ y, m y = m' y) : Fr g L h m' := (funext e : m = m') ▸ F
theorem execs_mid {prog : Program} {w : World} {A : Around} {E : Value → Shared → Prop} {s : Shared} {s1 : Stmt} {rest : List Stmt} {env : Env} {Q : Flow → Shared → Prop} (M : Shared → Prop) (h1 : wpAny (model prog w) A (exec s1 env) (fun f s' => Hold (f = .next ∧ M s')) NoE s) (h2 : ∀ s', M s' → wpAny (model prog w) A (execs rest env) Q E s') :
    wpAny (model prog w) A (execs (s1 :: rest) env) Q E s := by
  refine wpAny_execs_cons (wpAny_mono h1 (fun f s' h => ?_) fun _ _ x => x.elim)
  obtain ⟨rfl, h⟩ := h
  exact h2 s' h
section
variable {prog : Program} {w : World} {A : Around} {E : Value → Shared → Prop} {s : Shared}
/-- where a turn leaves a frame -/
inductive TurnN (s₁ : Shared) (g : Heap) (L I : Addr) (oI : Obj) (J : (Str → Option Value) → List (Addr × Obj) → Prop) (s₄ : Shared) : Prop
  | mk (h₄ : Heap) (tk₄ : Nat) (m₄ : Str → Option Value) (news₄ : List (Addr × Obj)) (q1 : s₄ = { s₁ with heap := h₄, toks := tk₄ }) (q2 : Fr g L h₄ m₄) (q3 : News g L h₄ news₄) (q4 : h₄.get? I = some oI) (q5 : J m₄ news₄)
theorem TurnN.intro {s₁ : Shared} {g : Heap} {L I : Addr} {oI : Obj} {J : (Str → Option Value) → List (Addr × Obj) → Prop} {h₄ : Heap} {tk₄ : Nat} {m₄ : Str → Option Value} {nw : List (Addr × Obj)} (news₄ : List (Addr × Obj))
    (F : Fr g L h₄ m₄) (N : News g L h₄ nw) (hi : (I, oI) ∈ nw) (hs : ∀ p ∈ news₄, p ∈ nw) (j : J m₄ news₄) : TurnN s₁ g L I oI J { s₁ with heap := h₄, toks := tk₄ } :=
  ⟨h₄, tk₄, m₄, news₄, rfl, F, fun p hp => N p (hs p hp), (N _ hi).1, j⟩
theorem TurnN.ex {s₁ : Shared} {g : Heap} {L I : Addr} {oI : Obj} {J : (Str → Option Value) → List (Addr × Obj) → Prop} {h₄ : Heap} {tk₄ : Nat} {m₄ : Str → Option Value} {nw : List (Addr × Obj)}
    (F : Fr g L h₄ m₄) (N : News g L h₄ nw) (hi : (I, oI) ∈ nw) (x : ∃ news₄, (∀ p ∈ news₄, p ∈ nw) ∧ J m₄ news₄) : TurnN s₁ g L I oI J { s₁ with heap := h₄, toks := tk₄ } :=
  let ⟨n, hs, j⟩ := x
  TurnN.intro n F N hi hs j
/-- a for over a list, in a frame over a base g: J speaks of the names and of the ledger -/
structure ForN (prog : Program) (w : World) (A : Around) (target : PySem.Expr) (body : List Stmt) (env : Env) (s₁ : Shared) (g : Heap) (L a : Addr) (its : Array Value) (Q : Flow → Shared → Prop)
    (J : Nat → (Str → Option Value) → List (Addr × Obj) → Prop) : Prop where
  noit : ∀ i m news, J i m news → ∀ p ∈ news, p.2.cls ≠ .type "list_iterator" ∨ ∃ o, s₁.heap.get? p.1 = some o
  src : ∀ i m news h, J i m news → Fr g L h m → News g L h news → h.IsList a its
  turn : ∀ i v h tk m news I oI, i < its.size → its[i]? = some v → oI.cls = .type "list_iterator" → J i m news → Fr g L h m → News g L h ((I, oI) :: news) → s₁.heap.get? I = none →
      wpAny (model prog w) A (assign target env v) (fun _ s₃ => wpAny (model prog w) A (execs body env) (fun f s₄ => match f with
        | .ret v => Q (.ret v) s₄
        | .brk => Q .next s₄
        | _ => TurnN s₁ g L I oI (J (i + 1)) s₄) NoE s₃) NoE { s₁ with heap := h, toks := tk }
  fin : ∀ h tk m news, Fr g L h m → News g L h news → J its.size m news → Q .next { s₁ with heap := h, toks := tk }
inductive ForNP (prog : Program) (w : World) (A : Around) (target : PySem.Expr) (body : List Stmt) (env : Env) (Q : Flow → Shared → Prop) (xv : Value) (s₁ : Shared) : Prop
  | mk (g : Heap) (L a : Addr) (its : Array Value) (m : Str → Option Value) (news : List (Addr × Obj)) (J : Nat → (Str → Option Value) → List (Addr × Obj) → Prop) (e : xv = .ref a) (F : Fr g L s₁.heap m) (N : News g L s₁.heap news) (j : J 0 m news)
      (G : ForN prog w A target body env s₁ g L a its Q J)
inductive ForI (s₁ : Shared) (g : Heap) (L a I : Addr) (its : Array Value) (J : Nat → (Str → Option Value) → List (Addr × Obj) → Prop) (k : Nat) (s' : Shared) : Prop
  | mk (h' : Heap) (tk i : Nat) (m' : Str → Option Value) (news' : List (Addr × Obj)) (q1 : s' = { s₁ with heap := h', toks := tk }) (q2 : h'.IsListIter I a i ∧ h'.IsList a its) (q3 : Fr g L h' m') (q4 : News g L h' news') (q5 : J i m' news') (q6 : i ≤ its.size) (q7 : k = its.size + 1 - i)
theorem for_N {target iter : PySem.Expr} {body : List Stmt} {pos : Pos} {env : Env} {Q : Flow → Shared → Prop}
    (hh : A.handled = none)
    (h : wpAny (model prog w) A (eval iter env) (fun xv s₁ => ForNP prog w A target body env Q xv s₁) E s)
    (hs : ∀ x, foldedSetIterable iter env x = pure x) :
    wpAny (model prog w) A (exec (.For target iter body [] pos) env) Q E s := by
  refine wpAny_For (wpAny_mono h (fun xv s₁ h₁ => ?_) fun _ _ x => x) hs
  obtain ⟨g, L, a, its, m, news, J, rfl, F, N, J0, G⟩ := h₁
  have hl := G.src _ _ _ _ J0 F N
  have hlt : a < s₁.heap.objs.size := by obtain ⟨_, e, _⟩ := hl; exact Heap.lt_size e
  refine wpAny_pyIter_list hl ?_
  have W := Walks.list (prog := prog) (w := w) hh s₁.heap.objs.size a (Nat.ne_of_lt hlt) its
  have up : ∀ b o, s₁.heap.get? b = some o → (s₁.heap.push { cls := .type "list_iterator", data := .fields #[.ref a, .int 0 0] }).get? b = some o := fun b o e => Heap.get?_push_of_some _ e
  have hI0 : g.get? s₁.heap.objs.size = none := by
    cases e : g.get? s₁.heap.objs.size with
    | none => rfl
    | some o => exact absurd (Heap.lt_size (F.keep _ _ e)) (Nat.lt_irrefl _)
  have hIL : s₁.heap.objs.size ≠ L := fun q => by
    obtain ⟨oL, eL⟩ := ns_there F.ns
    rw [← q] at eL
    exact Nat.lt_irrefl _ (Heap.lt_size eL)
  generalize hI : s₁.heap.objs.size = I at *
  refine codeAny_forLoop_any (ForI s₁ g L a I its J) ?_ (its.size + 1)
    ⟨_, s₁.toks, 0, m, news, rfl, ⟨⟨_, by rw [← hI]; exact Heap.get?_push_size _ rfl, rfl, rfl⟩, hl.push _⟩, F.keeps up, N.grown up, J0, Nat.zero_le _, rfl⟩
  rintro k s' ⟨h', tk, i, m', news', rfl, hst', F', N', hJ, hi, rfl⟩
  have off : ∀ {h₂ : Heap}, (∀ b o, b ∉ [I] → h'.get? b = some o → h₂.get? b = some o) → Fr g L h₂ m' ∧ News g L h₂ news' := fun {h₂} hk => by
    have q : ∀ b, b ≠ I → b ∉ [I] := fun b hb hm => hb (List.mem_singleton.mp hm)
    refine ⟨⟨F'.ns.at fun o e => hk _ o (q _ (Ne.symm hIL)) e, fun b o e => hk b o (q _ fun x => by rw [x, hI0] at e; cases e) (F'.keep b o e), F'.above⟩, fun p hp => ⟨hk _ _ (q _ fun x => ?_) (N' p hp).1, (N' p hp).2⟩⟩
    obtain ⟨oI, eI, cI, _⟩ := hst'.1
    have e := (N' p hp).1
    rw [x, eI] at e
    cases e
    rcases G.noit _ _ _ hJ p hp with q | ⟨o, q⟩
    · exact q cI
    · rw [x, ← hI] at q
      exact Nat.lt_irrefl _ (Heap.lt_size q)
  by_cases hlt : i < its.size
  · refine W.item i _ _ _ hlt hst' fun v h₂ tk₂ hP hst₂ hk₂ => ?_
    refine letGo_listiter hst₂.1 ?_
    obtain ⟨F₂, N₂⟩ := off hk₂
    obtain ⟨oI, eI, cI, dI⟩ := hst₂.1
    refine wpAny_mono (G.turn i v h₂ tk₂ m' news' I oI hlt hP cI hJ F₂ (fun p hp => ?_) (hI ▸ Heap.get?_none_of_le (Nat.le_refl _))) (fun _ s₄ h₄ => wpAny_mono h₄ (fun f s₅ h₅ => ?_) fun _ _ x => x.elim) fun _ _ x => x.elim
    · rcases List.mem_cons.mp hp with rfl | hp
      · exact ⟨eI, hIL, hI0⟩
      · exact N₂ p hp
    have nx : TurnN s₁ g L I oI (J (i + 1)) s₅ → ∃ m, m < its.size + 1 - i ∧ ForI s₁ g L a I its J m s₅ := by
      rintro ⟨h₄, tk₄, m₄, news₄, rfl, F₄, N₄, e₄, j₄⟩
      exact ⟨its.size + 1 - (i + 1), by omega, h₄, tk₄, i + 1, m₄, news₄, rfl, ⟨⟨oI, e₄, cI, dI⟩, G.src _ _ _ _ j₄ F₄ N₄⟩, F₄, N₄, j₄, hlt, rfl⟩
    cases f with
    | ret v => exact h₅
    | brk => exact h₅
    | next => exact nx h₅
    | cont => exact nx h₅
  · obtain rfl : i = its.size := Nat.le_antisymm hi (Nat.not_lt.mp hlt)
    refine W.done _ _ _ hst' fun h₂ tk₂ hk₂ => wpAny_execs_nil ?_
    obtain ⟨F₂, N₂⟩ := off hk₂
    exact G.fin h₂ tk₂ m' news' F₂ N₂ hJ
end
end Mine
end PWL
theorem Mine.rstWL : True := by
  w_top off
  k_with_none
  first | (walk1; fail "x") | exact True.intro
section PWA
open PySem PySem.W PyProof.Rows PySem.Calls PySem.Spec
set_option maxRecDepth 100000
set_option pp.maxSteps 20000
namespace Mine
section
variable {prog : Program} {w : World} {A : Around} {E : Value → Shared → Prop} {s : Shared} {h₀ g : Heap} {D : Addr} {L a : Addr} {m : Str → Option Value} {cn : Str} {cs : Scope} {ccd : Value} {cl : List (Str × Addr)} {news : List (Addr × Obj)}
theorem titem_at {value slice : PySem.Expr} {l : List Value} {n' : Nat} {f : Int} {u : Tok} {v : Value} {Q : Value → Shared → Prop} (N : News h₀ L s.heap news) (hm : (D, tupO l n') ∈ news) (h0 : 0 ≤ f) (hf : f < (l.length : Int)) (hz : l.length ≤ 16384) (hx : l[f.toNat]? = some v) (h : Q v s)
    (hs : subscripted slice false (.ref D) (.int f u) = operate [.ref D, .int f u] (getItem (.ref D) (.int f u))) : wpAny (model prog w) A (subscriptTail value slice (.ref D) (.int f u)) Q E s := by
  refine item_tupleT (l := l) (j := f.toNat) ⟨_, N.get hm, rfl, n', rfl⟩ (by omega) (by omega) ?_ hx h hs
  exact StrLaws.seqIndex_nonneg h0 hf
theorem ite_split {P : Prop} {i : Decidable P} {a b : Prop} (h1 : P → a) (h2 : ¬P → b) : @ite Prop P i a b := by
  by_cases q : P
  · rw [if_pos q]; exact h1 q
  · rw [if_neg q]; exact h2 q
theorem cmp_body {xl xr xL xR xi xd : Str} {p1 p2 p3 p4 p5 p6 p7 p8 p9 pa pb pc pd pe pf pg ph pi pj pk pl pm pn : Pos} {l r : Addr} {vl vr : List Value} {nl nr : Nat} {f d : Int} {u v : Tok} {va vb : Value} {P1 P2 : Prop} {iP1 : Decidable P1} {iP2 : Decidable P2} {Q : Flow → Shared → Prop}
    (F : Fr g L s.heap m) (N : News g L s.heap news) (mL : m xL = some (.ref l)) (mR : m xR = some (.ref r)) (mi : m xi = some (.int f u)) (md : m xd = some (.int d v))
    (hl : (l, tupO vl nl) ∈ news) (hr : (r, tupO vr nr) ∈ news) (h0 : 0 ≤ f) (h8 : f < 8) (zl : vl.length = 8) (zr : vr.length = 8) (el : vl[f.toNat]? = some va) (er : vr[f.toNat]? = some vb)
    (lt : ∀ (Q : Value → Shared → Prop) (s : Shared), Q (.bool (decide P1)) s → wpAny (model prog w) A (compareOp .Lt va vb) Q E s)
    (gt : ∀ (Q : Value → Shared → Prop) (s : Shared), Q (.bool (decide P2)) s → wpAny (model prog w) A (compareOp .Gt va vb) Q E s)
    (kc : cs.kind = .function) (ks : let e := envX cn cs L a ccd cl; e.kindOf xl = some .local ∧ e.kindOf xr = some .local ∧ e.kindOf xL = some .local ∧ e.kindOf xR = some .local ∧ e.kindOf xi = some .local ∧ e.kindOf xd = some .local) (bs : ∀ x ∈ [xl, xr, xL, xR, xi, xd], (x == ("__debug__" : Str)) = false)
    (ne : xR ≠ xl ∧ xi ≠ xl ∧ xl ≠ xr ∧ xd ≠ xr ∧ xd ≠ xl ∧ xL ≠ xr ∧ xL ≠ xl ∧ xR ≠ xr)
    (h : ∀ h' tk t (m' : Str → Option Value), Fr g L h' (fun y => match [(xL, Value.ref l), (xR, Value.ref r)].lookup y with | some v => some v | none => m' y) → News g L h' news →
      if P1 then Q (.ret (.int (-d) t)) { s with heap := h', toks := tk } else if P2 then Q (.ret (.int d v)) { s with heap := h', toks := tk } else Q .next { s with heap := h', toks := tk }) :
    wpAny (model prog w) A (execs [.Assign [.Name xl p1] (.Subscript (.Name xL p2) (.Name xi p3) p4) p5, .Assign [.Name xr p6] (.Subscript (.Name xR p7) (.Name xi p8) p9) pa,
      .If (.Compare (.Name xl pb) [.Lt] [.Name xr pc] pd) [.Return (some (.UnaryOp .USub (.Name xd pe) pf)) pg] [] ph,
      .If (.Compare (.Name xl pi) [.Gt] [.Name xr pj] pk) [.Return (some (.Name xd pl)) pm] [] pn] (envX cn cs L a ccd cl)) Q E s := by
  simp only [List.mem_cons, List.not_mem_nil, or_false, forall_eq_or_imp, forall_eq] at bs
  obtain ⟨bl, br, bL, bR, bi, bd⟩ := bs
  obtain ⟨kl, kr, kL, kR, ki, kd⟩ := ks
  obtain ⟨n1, n2, n3, n4, n5, n6, n7, n8⟩ := ne
  refine wpAny_execs_cons (wpAny_Assign_Name (Subscript_ (nameX_L F mL (nameX_L F mi (titem_at N hl h0 (by omega) (by omega) el ?_ rfl) kc ki bi) kc kL bL)))
  refine storeX_L F N (fun h1 F1 N1 => ?_) kc kl
  refine wpAny_execs_cons (wpAny_Assign_Name (Subscript_ (nameX_L F1 ((if_neg n1).trans mR) (nameX_L F1 ((if_neg n2).trans mi) (titem_at N1 hr h0 (by omega) (by omega) er ?_ rfl) kc ki bi) kc kR bR)))
  refine storeX_L F1 N1 (fun h2 F2 N2 => ?_) kc kr
  have vl2 : (fun y => if y = xr then some vb else if y = xl then some va else m y) xl = some va := (if_neg n3).trans (if_pos rfl)
  have vr2 : (fun y => if y = xr then some vb else if y = xl then some va else m y) xr = some vb := if_pos rfl
  have vd2 : (fun y => if y = xr then some vb else if y = xl then some va else m y) xd = some (.int d v) := (if_neg n4).trans ((if_neg n5).trans md)
  have F3 := Fr.pinned (ps := [(xL, Value.ref l), (xR, Value.ref r)]) F2 ⟨(if_neg n6).trans ((if_neg n7).trans mL), (if_neg n8).trans ((if_neg n1).trans mR), trivial⟩
  refine wpAny_execs_cons (wpAny_If (wpAny_isTrue_Compare1 (nameX_L F2 vl2 (nameX_L F2 vr2 (lt _ _ (wpAny_truthy_bool ?_)) kc kr br) kc kl bl)))
  by_cases q1 : P1
  · rw [if_pos (decide_eq_true q1)]
    refine wpAny_execs_cons (wpAny_Return_some (UnaryOp_ (nameX_L F2 vd2 (neg_int ?_) kc kd bd)))
    exact (if_pos q1).mp (h h2 _ _ _ F3 N2)
  rw [if_neg (fun x => q1 (of_decide_eq_true x))]
  refine wpAny_execs_nil (wpAny_execs_cons (wpAny_If (wpAny_isTrue_Compare1 (nameX_L F2 vl2 (nameX_L F2 vr2 (gt _ _ (wpAny_truthy_bool ?_)) kc kr br) kc kl bl))))
  by_cases q2 : P2
  · rw [if_pos (decide_eq_true q2)]
    refine wpAny_execs_cons (wpAny_Return_some (nameX_L F2 vd2 ?_ kc kd bd))
    exact (if_pos q2).mp ((if_neg q1).mp (h h2 _ 0 _ F3 N2))
  rw [if_neg (fun x => q2 (of_decide_eq_true x))]
  refine wpAny_execs_nil (wpAny_execs_nil ?_)
  exact (if_neg q2).mp ((if_neg q1).mp (h h2 _ 0 _ F3 N2))
end
theorem regWA1 : True := by
  k_with "exec For Tuple Attribute cons nil" => (k_here; (rename Fr _ _ _ _ => lF'); (with_unfolding_all refine' For_turns lF' ?_; k_whole))
  k_with "execs cons Assign cons" => (k_here; (rename Fr _ _ _ _ => kF); (rename News _ _ _ _ => kN); k_dflt (refine' cmp_body kF kN ?mL ?mR ?mi ?md ?hl ?hr ?h0 ?h8 ?zl ?zr ?el ?er ?lt ?gt ?kc ?ks ?bs ?ne ?_; (case mL => exact rfl); (case mR => exact rfl); (case mi => exact rfl); (case md => exact rfl); (case hl => k_mem); (case hr => k_mem); (case h0 => assumption); (case h8 => assumption); (case zl => assumption); (case zr => assumption); (case el => assumption); (case er => assumption); (case lt => (intro _ _ q; first | ((with_reducible show wpAny _ _ (compareOp _ (Value.int _ _) _) _ _ _); exact lt_int q) | ((with_reducible show wpAny _ _ (compareOp _ (Value.str _ _) _) _ _ _); exact lt_str q))); (case gt => (intro _ _ q; first | ((with_reducible show wpAny _ _ (compareOp _ (Value.int _ _) _) _ _ _); exact gt_int q) | ((with_reducible show wpAny _ _ (compareOp _ (Value.str _ _) _) _ _ _); exact P.gt_str q))); (case kc => exact rfl); (case ks => exact ⟨rfl, rfl, rfl, rfl, rfl, rfl⟩); (case bs => decide); (case ne => decide); intro _ _ _ _ _ _; clear kF kN; refine ite_split (fun _ => ?_) (fun _ => ite_split (fun _ => ?_) (fun _ => ?_))))
  k_with "execs cons" => (k_here; (with_reducible show wpAny _ _ _ _ _ (Shared.mk _ _ _ (_ + 1) _)); k_dflt (refine' norm_ ?kns ?kna ?knb ?knc ?_; (case kns => assumption); (case kna => exact rfl); (case knb => exact rfl); (case knc => exact rfl); intro tk))
  exact True.intro
set_option maxHeartbeats 1000000 in
theorem cmpG {prog : Program} {w : World} {dp un : Nat} {gd : Option (List Code)} {fr : Option (List Env)} {h₀ : Heap} {s : Shared} {Q E : Value → Shared → Prop}
    {x dx c p0 p1 p2 p3 p4 l r : Addr} {hs : Int} {ky : Tok} {dn n0 n1 n2 n3 n4 n5 nl nr : Nat} {c0 c1 c2 c3 c4 d0 d1 d2 d3 d4 : Int} {i0 i1 i2 i3 i4 j0 j1 j2 j3 j4 : Tok}
    {a0 a1 a2 a3 b0 b1 b2 b3 : Str} {s0 s1 s2 s3 s7 t0 t1 t2 t3 t7 : Tok} {a7 b7 : Int} {vl vr : List Value}
    (am : Amb w h₀) (k₀ : Kp h₀ s.heap) (hdp : dp < recursionLimit)
    (N : Own h₀ s.heap [(x, instObj 95 dx), (dx, dictOf [⟨hs, .str (Str.ofString "comp_select_list") ky, .ref c⟩] dn), (c, tupO [.ref p0, .ref p1, .ref p2, .ref p3, .ref p4] n5)
      , (p0, tupO [.int c0 i0, .int d0 j0] n0), (p1, tupO [.int c1 i1, .int d1 j1] n1), (p2, tupO [.int c2 i2, .int d2 j2] n2), (p3, tupO [.int c3 i3, .int d3 j3] n3), (p4, tupO [.int c4 i4, .int d4 j4] n4)
      , (l, tupO vl nl), (r, tupO vr nr)])
    (g0 : 0 ≤ c0) (l0 : c0 < 8) (g1 : 0 ≤ c1) (l1 : c1 < 8) (g2 : 0 ≤ c2) (l2 : c2 < 8) (g3 : 0 ≤ c3) (l3 : c3 < 8) (g4 : 0 ≤ c4) (l4 : c4 < 8) (zl : vl.length = 8) (zr : vr.length = 8)
    (e0 : vl[c0.toNat]? = some (.str a0 s0)) (e1 : vl[c1.toNat]? = some (.str a1 s1)) (e2 : vl[c2.toNat]? = some (.str a2 s2)) (e3 : vl[c3.toNat]? = some (.str a3 s3)) (e4 : vl[c4.toNat]? = some (.int a7 s7))
    (f0 : vr[c0.toNat]? = some (.str b0 t0)) (f1 : vr[c1.toNat]? = some (.str b1 t1)) (f2 : vr[c2.toNat]? = some (.str b2 t2)) (f3 : vr[c3.toNat]? = some (.str b3 t3)) (f4 : vr[c4.toNat]? = some (.int b7 t7))
    (hret : ∀ (k : Int) t h' tk', k = lexc d0 a0 b0 (lexc d1 a1 b1 (lexc d2 a2 b2 (lexc d3 a3 b3 (lexi d4 a7 b7 0)))) → Kp s.heap h' → Q (.int k t) { s with heap := h', toks := tk' }) :
    codeAny (model prog w) (Ar dp un fr gd) (.call (.ref 92) ⟨[.ref x, .ref l, .ref r], []⟩) (RV Q E) s := by
  have hfl : (hd.heap_39, PySem.Challenge.rw_pg0090_01) = (hd.heap_39, PySem.Challenge.rw_pg0090_01) := by k_fill; rfl
  clear hfl
  obtain ⟨X, loose, mean, mg, mb, T⟩ := am
  k_dflt (refine' enterQ X T k₀ N ?k6 ?k7 hdp ?k9 ?kB ?_ ?c2 ?c3 ?c4 ?c5; (case k6 => k_is); (case k7 => k_is); (case k9 => exact BindsTo.of_eq rfl); (case c5 => decide); (case kB => exact locs rfl); (case c2 => exact rfl); (case c3 => exact rfl); (case c4 => exact rfl); k_whole)
  intro g' L' h' F' N' X' T' hl' hk' hg'
  dsimp only
  k_fold
  k_steps
  all_goals (refine' leaveP_ (by k_asm) (by k_asm) ?wsb (fun hk => hret _ _ _ _ ?_ hk); (case wsb => (intro p hp; first | ((repeat (first | (with_reducible_and_instances exact hp) | refine List.Mem.tail _ ?_)); done) | exact SubL.mem (by k_subL) p hp)))
  all_goals (simp only [lexc, lexi, *, if_true, if_false])
end Mine
end PWA
theorem Mine.rstWA : True := by
  w_top off
  k_with_none
  first | (walk1; fail "x") | exact True.intro
section PWB
open PySem PySem.W PyProof.Rows PySem.Calls PySem.Spec
set_option maxRecDepth 100000
set_option pp.maxSteps 20000
namespace Mine
local macro_rules | `(tactic| ke_shaped) => `(tactic| assumption)
local macro_rules | `(tactic| units_room) => `(tactic| (have hcL' := cLine_is; simp only [units_in1, units_deeper, Around.mark_units, units_caller, Ar] at *; omega))
/-- what is_suburi tells of two hosts and two paths -/
def subB (a0 a1 b0 b1 : Str) : Bool :=
  if (a0 == b0 && a1 == b1) = true then true else if (a0 != b0) = true then false else
  if (Txt.slice a1 (some (-1)) none != Str.ofString "/") = true then Txt.startswith b1 (a1 ++ Str.ofString "/") else Txt.startswith b1 a1
set_option maxHeartbeats 0 in
theorem subA {prog : Program} {w : World} {dp un : Nat} {gd : Option (List Code)} {fr : Option (List Env)} {h₀ : Heap} {s : Shared} {Q E : Value → Shared → Prop}
    {x dx l r : Addr} {es : List DictEntry} {dn nl nr : Nat} {a0 a1 b0 b1 : Str} {s0 s1 t0 t1 : Tok} 
    (am : Amb w h₀) (k₀ : Kp h₀ s.heap) (hdp : dp < recursionLimit) (hun : un + 100 < cLine) (ha1 : a1.length ≤ 100)
    (ha : SeqAt.shaped (.tuple [.str a0, .str a1]) = true) (hb : SeqAt.shaped (.tuple [.str b0, .str b1]) = true)
    (N : Own h₀ s.heap [(x, instObj 67 dx), (dx, dictOf es dn), (l, tupO [.str a0 s0, .str a1 s1] nl), (r, tupO [.str b0 t0, .str b1 t1] nr)])
    (hret : ∀ (k : Bool) h' tk', k = subB a0 a1 b0 b1 → Kp s.heap h' → Q (.bool k) { s with heap := h', toks := tk' }) :
    codeAny (model prog w) (Ar dp un fr gd) (.call (.ref 64) ⟨[.ref x, .ref l, .ref r], []⟩) (RV Q E) s := by
  have hfl : (hd.heap_39, PySem.Challenge.rw_pg0090_01) = (hd.heap_39, PySem.Challenge.rw_pg0090_01) := by k_fill; rfl
  clear hfl
  obtain ⟨X, loose, mean, mg, mb, T⟩ := am
  k_dflt (refine' enterQ X T k₀ N ?k6 ?k7 hdp ?k9 ?kB ?_ ?c2 ?c3 ?c4 ?c5; (case k6 => k_is); (case k7 => k_is); (case k9 => exact BindsTo.of_eq rfl); (case c5 => decide); (case kB => exact locs rfl); (case c2 => exact rfl); (case c3 => exact rfl); (case c4 => exact rfl); k_whole)
  intro g' L' h' F' N' X' T' hl' hk' hg'
  dsimp only
  k_fold
  k_steps
  all_goals (try (dsimp only; (try k_unfold); (try dsimp only)))
  all_goals (refine leaveP_ (by k_asm) (by k_asm) (fun p hp => SubL.mem (by k_subL) p hp) (fun hk => hret _ _ _ ?_ hk))
  all_goals (unfold subB; simp only [*, if_true, if_false, Bool.false_eq_true])
end Mine
end PWB
theorem Mine.rstWB : True := by
  w_top off
  k_with_none
  first | (walk1; fail "x") | exact True.intro
section PWC
open PySem PySem.W PyProof.Rows PySem.Calls PySem.Spec
set_option maxRecDepth 100000
set_option pp.maxSteps 20000
namespace Mine
local macro_rules | `(tactic| ke_shaped) => `(tactic| assumption)
local macro_rules | `(tactic| units_room) => `(tactic| (have hcL' := cLine_is; simp only [units_in1, units_deeper, Around.mark_units, units_caller, Ar] at *; omega))
set_option maxHeartbeats 0 in
theorem sgnA {prog : Program} {w : World} {dp un : Nat} {gd : Option (List Code)} {fr : Option (List Env)} {h₀ : Heap} {s : Shared} {Q E : Value → Shared → Prop} {n : Int} {t : Tok}
    (am : Amb w h₀) (k₀ : Kp h₀ s.heap) (hdp : dp < recursionLimit) (hun : un + 100 < cLine) (h1 : -10000 < n) (h2 : n < 10000)
    (hret : ∀ (k : Int) t h' tk', k = (if n < 0 then -1 else if 0 < n then 1 else 0) → Kp s.heap h' → Q (.int k t) { s with heap := h', toks := tk' }) :
    wpAny (model prog w) (Ar dp un fr gd) (call (.ref 123) [.int n t]) Q E s := by
  have hfl : (hd.heap_39, PySem.Challenge.rw_pg0090_01) = (hd.heap_39, PySem.Challenge.rw_pg0090_01) := by k_fill; rfl
  clear hfl
  obtain ⟨X, loose, mean, mg, mb, T⟩ := am
  k_dflt (refine' enterP (news := []) X T k₀ Own.nil ?k6 ?k7 hdp ?k9 ?kB ?_ ?c2 ?c3 ?c4 ?c5; (case k6 => k_is); (case k7 => k_is); (case k9 => exact BindsTo.of_eq rfl); (case c5 => decide); (case kB => exact locs rfl); (case c2 => exact rfl); (case c3 => exact rfl); (case c4 => exact rfl); k_whole)
  intro g' L' h' F' N' X' T' hl' hk' hg'
  dsimp only
  k_fold
  k_steps
  all_goals (try (dsimp only; (try k_unfold); (try dsimp only)))
  all_goals (refine leaveP_ (by k_asm) (by k_asm) (fun p hp => SubL.mem (by k_subL) p hp) (fun hk => hret _ _ _ _ ?_ hk))
  · rcases Int.lt_trichotomy n 0 with q | q | q
    · rw [if_pos q, if_pos q]
      have : n.fdiv (-n) = -1 := by rw [Int.fdiv_eq_ediv_of_nonneg _ (by omega), Int.ediv_neg, Int.ediv_self (by omega)]
      exact this
    · exfalso; omega
    · rw [if_neg (by omega), if_neg (by omega), if_pos q]
      rw [Int.fdiv_eq_ediv_of_nonneg _ (by omega), Int.ediv_self (by omega)]
  · have q : n = 0 := by omega
    subst q
    rfl
end Mine
end PWC
theorem Mine.rstWC : True := by
  w_top off
  k_with_none
  first | (walk1; fail "x") | exact True.intro
section PWD
open PySem PySem.W PyProof.Rows PySem.Calls PySem.Spec
set_option maxRecDepth 100000
set_option pp.maxSteps 20000
namespace Mine
local macro_rules | `(tactic| ke_shaped) => `(tactic| assumption)
local macro_rules | `(tactic| units_room) => `(tactic| (have hcL' := cLine_is; simp only [units_in1, units_deeper, Around.mark_units, units_caller, Ar] at *; omega))
theorem ints_three {vs : List Value} {a b c : Int} (h : IntsAre vs [a, b, c]) : ∃ t0 t1 t2, vs = [.int a t0, .int b t1, .int c t2] := by
  cases h with
  | cons _ t0 h => cases h with
    | cons _ t1 h => cases h with
      | cons _ t2 h => cases h with
        | nil => exact ⟨t0, t1, t2, rfl⟩
theorem fig_eval {prog : Program} {w : World} {A : Around} {E : Value → Shared → Prop} {s : Shared} {env : Env} {xt xf : Str} {p1 p2 p3 p4 p5 p6 p7 p8 : Pos} {k5 : Nat} {b : Bool} {f : Int} {t : Tok} {Q : Value → Shared → Prop}
    (ht : ∀ (Q : Value → Shared → Prop) (tk : Nat), Q (.bool b) { s with toks := tk } → wpAny (model prog w) A (eval (.Name xt p1) env) Q E { s with toks := tk })
    (hf : ∀ (p : Pos) (Q : Value → Shared → Prop) (tk : Nat), Q (.int f t) { s with toks := tk } → wpAny (model prog w) A (eval (.Name xf p) env) Q E { s with toks := tk })
    (h0 : 0 ≤ f) (h5 : f < 5)
    (h : ∀ r u tk, r = (if b = true then (if f = 0 then 0 else 5 - f) else f) → 0 ≤ r → r < 5 → Q (.int r u) { s with toks := tk }) :
    wpAny (model prog w) A (eval (.IfExp (.BoolOp .And [.Name xt p1, .Name xf p2] p3) (.BinOp (.Constant (.int 5) k5 p4) .Sub (.Name xf p5) p6) (.Name xf p7) p8) env) Q E s := by
  refine IfExp_ (isTrue_and (isTrue_plain (ht _ s.toks (wpAny_truthy_bool ?_))))
  cases b with
  | false => exact hf _ _ s.toks (h _ _ _ rfl h0 h5)
  | true =>
    refine isTrue_and (isTrue_plain (hf _ _ s.toks (truthy_int ?_)))
    by_cases q : f = 0
    · subst q
      exact hf _ _ s.toks (h _ _ _ rfl h0 h5)
    · have e : (f != 0) = true := bne_iff_ne.mpr q
      rw [e]
      refine isTrue_and_nil (wpAny_BinOp (wpAny_Constant_int (hf _ _ (s.toks + 1) (sub_int ?_))))
      refine h _ _ _ ?_ (by omega) (by omega)
      rw [if_pos rfl, if_neg q]
theorem regWD1 : True := by
  k_with "exec For Name Subscript cons nil" => (k_here; (rename Fr _ _ _ _ => lF'); (with_unfolding_all refine' For_turns lF' ?_; k_whole))
  k_with "eval IfExp" => (k_here; (rename Fr _ _ _ _ => kF); k_dflt (refine' fig_eval ?t ?f ?a ?b ?_; (case t => (intro _ _ q; exact nameX_L kF rfl q)); (case f => (intro _ _ _ q; exact nameX_L kF rfl q)); (case a => assumption); (case b => assumption); intro _ _ _ _ _ _))
  k_with "eval Subscript" => (k_here; (with_reducible show wpAny _ _ (eval (PySem.Expr.Subscript (PySem.Expr.BinOp _ _ _ _) _ _) _) _ _ _); (rename Fr _ _ _ _ => kF); (rename News _ _ _ _ => kN); k_dflt (refine' full_eval kF kN ?s ?m ?v ?l ?_; (case s => (intro _ q; exact nameX_L kF rfl q)); (case m => k_mem); (case v => assumption); (case l => assumption); intro _ _ _ _ _ _ _ kI; clear kF kN; (rename _ = [_, _, _] => kX); rw [kX] at kI; obtain ⟨_, _, _, kE⟩ := ints_three kI; subst kE; clear kI))
  k_with "execs cons" => (k_here; (with_reducible show wpAny _ _ _ _ _ (Shared.mk _ _ _ (_ + 1) _)); k_dflt (refine' norm_ ?kns ?kna ?knb ?knc ?_; (case kns => assumption); (case kna => exact rfl); (case knb => exact rfl); (case knc => exact rfl); intro tk))
  exact True.intro
/-- the number of _law_number -/
def numV (host slash : Int) (b : Bool) (ks : List Nat) : Int :=
  let g (k : Nat) : Int := if b = true then (tf k : Int) else (k : Int)
  (((host * 5 + g (ks.getD 0 0)) * 5 + g (ks.getD 1 0)) * 5 + g (ks.getD 2 0)) * 2 + slash
set_option maxHeartbeats 0 in
theorem numG {prog : Program} {w : World} {dp un : Nat} {gd : Option (List Code)} {fr : Option (List Env)} {h₀ : Heap} {s : Shared} {Q E : Value → Shared → Prop} {host slash : Int} {th ts : Tok} {a : Addr} {na : Nat} {b : Bool} {vs : List Value} {ks : List Nat} {x0 x1 x2 : Int}
    (am : Amb w h₀) (k₀ : Kp h₀ s.heap) (hdp : dp < recursionLimit) (hun : un + 100 < cLine) (h1 : 0 ≤ host) (h2 : host < 2) (h3 : 0 ≤ slash) (h4 : slash < 2)
    (hvs : IntsAre vs (natsI ks)) (hlen : ks.length ≤ 3) (hx : natsI (full3 ks) = [x0, x1, x2]) (b0 : 0 ≤ x0) (c0 : x0 < 5) (b1 : 0 ≤ x1) (c1 : x1 < 5) (b2 : 0 ≤ x2) (c2 : x2 < 5)
    (N : Own h₀ s.heap [(a, tupO vs na)])
    (hret : ∀ (k : Int) t h' tk', k = (((host * 5 + (if b = true then (if x0 = 0 then 0 else 5 - x0) else x0)) * 5 + (if b = true then (if x1 = 0 then 0 else 5 - x1) else x1)) * 5 + (if b = true then (if x2 = 0 then 0 else 5 - x2) else x2)) * 2 + slash → Kp s.heap h' → Q (.int k t) { s with heap := h', toks := tk' }) :
    wpAny (model prog w) (Ar dp un fr gd) (call (.ref 111) [.int host th, .ref a, .int slash ts, .bool b]) Q E s := by
  have hfl : (hd.heap_39, PySem.Challenge.rw_pg0090_01) = (hd.heap_39, PySem.Challenge.rw_pg0090_01) := by k_fill; rfl
  clear hfl
  obtain ⟨X, loose, mean, mg, mb, T⟩ := am
  k_dflt (refine' enterP X T k₀ N ?k6 ?k7 hdp ?k9 ?kB ?_ ?c2 ?c3 ?c4 ?c5; (case k6 => k_is); (case k7 => k_is); (case k9 => exact BindsTo.of_eq rfl); (case c5 => decide); (case kB => exact locs rfl); (case c2 => exact rfl); (case c3 => exact rfl); (case c4 => exact rfl); k_whole)
  intro g' L' h' F' N' X' T' hl' hk' hg'
  dsimp only
  k_fold
  k_steps
  all_goals (try (dsimp only; (try k_unfold); (try dsimp only)))
  all_goals (refine leaveP_ (by k_asm) (by k_asm) (fun p hp => SubL.mem (by k_subL) p hp) (fun hk => hret _ _ _ _ ?_ hk))
  all_goals (subst_vars; rfl)
theorem numC {prog : Program} {w : World} {dp un : Nat} {gd : Option (List Code)} {fr : Option (List Env)} {h₀ : Heap} {s : Shared} {Q E : Value → Shared → Prop} {host slash : Int} {th ts : Tok} {a : Addr} {na : Nat} {b : Bool} {vs : List Value} {ks : List Nat}
    (am : Amb w h₀) (k₀ : Kp h₀ s.heap) (hdp : dp < recursionLimit) (hun : un + 100 < cLine) (h1 : 0 ≤ host) (h2 : host < 2) (h3 : 0 ≤ slash) (h4 : slash < 2)
    (hvs : IntsAre vs (natsI ks)) (hlen : ks.length ≤ 3) (hks : ∀ k ∈ ks, 1 ≤ k ∧ k ≤ 4)
    (N : Own h₀ s.heap [(a, tupO vs na)])
    (hret : ∀ t h' tk', Kp s.heap h' → Q (.int (numV host slash b ks) t) { s with heap := h', toks := tk' }) :
    wpAny (model prog w) (Ar dp un fr gd) (call (.ref 111) [.int host th, .ref a, .int slash ts, .bool b]) Q E s := by
  have hb : ∀ i, ks.getD i 0 < 5 := fun i => by
    rw [List.getD_eq_getElem?_getD]
    cases h : ks[i]? with
    | none => decide
    | some f => have := (hks f (List.mem_of_getElem? h)).2; show f < 5; omega
  have hg : ∀ i, (if b = true then (if ((ks.getD i 0 : Nat) : Int) = 0 then (0 : Int) else 5 - ((ks.getD i 0 : Nat) : Int)) else ((ks.getD i 0 : Nat) : Int)) = if b = true then ((tf (ks.getD i 0) : Nat) : Int) else ((ks.getD i 0 : Nat) : Int) := fun i => by
    have h := hb i
    generalize ks.getD i 0 = x at *
    have e : (if ((x : Nat) : Int) = 0 then (0 : Int) else 5 - ((x : Nat) : Int)) = ((tf x : Nat) : Int) := by
      unfold tf
      by_cases q : x = 0
      · subst q; rfl
      · rw [if_neg (by omega), if_neg q, Int.ofNat_sub (by omega)]; rfl
    rw [e]
  refine numG am k₀ hdp hun h1 h2 h3 h4 hvs hlen rfl (Int.natCast_nonneg _) (Int.ofNat_lt.mpr (hb 0)) (Int.natCast_nonneg _) (Int.ofNat_lt.mpr (hb 1)) (Int.natCast_nonneg _) (Int.ofNat_lt.mpr (hb 2)) N fun k t h' tk' e hk => ?_
  rw [e, hg, hg, hg]
  exact hret t h' tk' hk
end Mine
end PWD
theorem Mine.rstWD : True := by
  w_top off
  k_with_none
  first | (walk1; fail "x") | exact True.intro
section PN1
open PySem
namespace Mine
def FigR (ks : List Nat) : Prop := ∀ k ∈ ks, 1 ≤ k ∧ k ≤ 4
def cov : List Nat → List Nat → Nat → Bool
  | [], [], s => s != 0
  | [], _ :: _, _ => true
  | _ :: _, [], _ => false
  | k :: t, k' :: t', s => (k == k') && cov t t' s
/-- figures and a slash as one number -/
def VN (g : Nat → Nat) : Nat → List Nat → Nat → Nat
  | 0, _, s => s
  | n + 1, [], s => VN g n [] s
  | n + 1, k :: t, s => g k * (2 * 5 ^ n) + VN g n t s
/-- which comes first -/
def lxN (g : Nat → Nat) : List Nat → Nat → List Nat → Nat → Prop
  | [], s, [], s' => s < s'
  | [], _, _ :: _, _ => True
  | _ :: _, _, [], _ => False
  | k :: t, s, k' :: t', s' => g k < g k' ∨ (g k = g k' ∧ lxN g t s t' s')
theorem pow5 (n : Nat) : 1 ≤ 5 ^ n := Nat.one_le_pow _ _ (by decide)
theorem VN_nil (g : Nat → Nat) : ∀ n s, VN g n [] s = s
  | 0, _ => rfl
  | n + 1, s => VN_nil g n s
theorem VN_lt {g : Nat → Nat} (hg : ∀ k, 1 ≤ k ∧ k ≤ 4 → 1 ≤ g k ∧ g k ≤ 4) : ∀ (n : Nat) (ks : List Nat) (s : Nat), FigR ks → ks.length ≤ n → s < 2 → VN g n ks s < 2 * 5 ^ n
  | 0, _, s, _, _, h => by simpa [VN] using h
  | n + 1, [], s, _, _, h => by
    rw [VN_nil]; have := pow5 (n + 1); omega
  | n + 1, k :: t, s, hf, hl, h => by
    have i := VN_lt hg n t s (fun x hx => hf x (.tail _ hx)) (by simpa using hl) h
    have hk := (hg k (hf k (.head _))).2
    show g k * (2 * 5 ^ n) + VN g n t s < 2 * 5 ^ (n + 1)
    have e : 2 * 5 ^ (n + 1) = 4 * (2 * 5 ^ n) + 2 * 5 ^ n := by rw [Nat.pow_succ]; omega
    have := Nat.mul_le_mul_right (2 * 5 ^ n) hk
    omega
theorem lex_mul {a b u v M : Nat} (hu : u < M) (hv : v < M) : a * M + u < b * M + v ↔ a < b ∨ (a = b ∧ u < v) := by
  rcases Nat.lt_trichotomy a b with h | h | h
  · have := Nat.mul_le_mul_right M (show a + 1 ≤ b from h)
    rw [Nat.add_mul, Nat.one_mul] at this
    constructor
    · intro _; exact .inl h
    · intro _; omega
  · subst h
    constructor
    · intro q; exact .inr ⟨rfl, by omega⟩
    · rintro (q | ⟨_, q⟩) <;> omega
  · have := Nat.mul_le_mul_right M (show b + 1 ≤ a from h)
    rw [Nat.add_mul, Nat.one_mul] at this
    constructor
    · intro q; omega
    · rintro (q | ⟨q, _⟩) <;> omega
theorem VN_lex {g : Nat → Nat} (hg : ∀ k, 1 ≤ k ∧ k ≤ 4 → 1 ≤ g k ∧ g k ≤ 4) : ∀ (n : Nat) (ks ks' : List Nat) (s s' : Nat), FigR ks → FigR ks' → ks.length ≤ n → ks'.length ≤ n → s < 2 → s' < 2 → (VN g n ks s < VN g n ks' s' ↔ lxN g ks s ks' s')
  | n, [], [], s, s', _, _, _, _, _, _ => by rw [VN_nil, VN_nil]; rfl
  | 0, [], _ :: _, _, _, _, _, _, h, _, _ => by simp at h
  | 0, _ :: _, _, _, _, _, _, h, _, _, _ => by simp at h
  | n + 1, [], k :: t, s, s', _, hf, _, _, hs, _ => by
    have hk := (hg k (hf k (.head _))).1
    rw [VN_nil]
    show s < g k * (2 * 5 ^ n) + VN g n t s' ↔ True
    have := Nat.mul_le_mul_right (2 * 5 ^ n) hk
    have := pow5 n
    simp; omega
  | n + 1, k :: t, [], s, s', hf, _, _, _, _, hs => by
    have hk := (hg k (hf k (.head _))).1
    rw [VN_nil]
    show g k * (2 * 5 ^ n) + VN g n t s < s' ↔ False
    have := Nat.mul_le_mul_right (2 * 5 ^ n) hk
    have := pow5 n
    simp; omega
  | n + 1, k :: t, k' :: t', s, s', hf, hf', hl, hl', hs, hs' => by
    have i := VN_lex hg n t t' s s' (fun x hx => hf x (.tail _ hx)) (fun x hx => hf' x (.tail _ hx)) (by simpa using hl) (by simpa using hl') hs hs'
    have b1 := VN_lt hg n t s (fun x hx => hf x (.tail _ hx)) (by simpa using hl) hs
    have b2 := VN_lt hg n t' s' (fun x hx => hf' x (.tail _ hx)) (by simpa using hl') hs'
    show g k * (2 * 5 ^ n) + VN g n t s < g k' * (2 * 5 ^ n) + VN g n t' s' ↔ (g k < g k' ∨ (g k = g k' ∧ lxN g t s t' s'))
    rw [lex_mul b1 b2, i]
theorem one_VN {d : Adr} (k : d.Ok) : d.one = d.host * 250 + VN id 3 d.figs d.slash := by
  obtain ⟨h, fs, s⟩ := d
  have kl := k.len
  unfold Adr.one Adr.fig
  dsimp only at *
  rcases fs with _ | ⟨a, _ | ⟨b, _ | ⟨c, _ | ⟨x, r⟩⟩⟩⟩
  · simp [VN]; omega
  · simp [VN]; omega
  · simp [VN]; omega
  · simp [VN]; omega
  · simp at kl
theorem two_VN {d : Adr} (k : d.Ok) : d.two = (1 - d.host) * 250 + VN tf 3 d.figs d.slash := by
  obtain ⟨h, fs, s⟩ := d
  have kl := k.len
  have t0 : tf 0 = 0 := rfl
  unfold Adr.two Adr.fig
  dsimp only at *
  rcases fs with _ | ⟨a, _ | ⟨b, _ | ⟨c, _ | ⟨x, r⟩⟩⟩⟩
  · simp [VN, t0]; omega
  · simp [VN, t0]; omega
  · simp [VN, t0]; omega
  · simp [VN, t0]; omega
  · simp at kl
theorem tf_pos {k : Nat} (h : 1 ≤ k ∧ k ≤ 4) : tf k = 5 - k := by unfold tf; rw [if_neg (by omega)]
theorem one_lex {d e : Adr} (k : d.Ok) (l : e.Ok) : d.one < e.one ↔ d.host < e.host ∨ (d.host = e.host ∧ lxN id d.figs d.slash e.figs e.slash) := by
  have hg : ∀ k, 1 ≤ k ∧ k ≤ 4 → 1 ≤ id k ∧ id k ≤ 4 := fun k h => h
  rw [one_VN k, one_VN l, ← VN_lex hg 3 _ _ _ _ k.figs l.figs k.len l.len k.slash l.slash]
  exact lex_mul (VN_lt hg 3 _ _ k.figs k.len k.slash) (VN_lt hg 3 _ _ l.figs l.len l.slash)
theorem two_lex {d e : Adr} (k : d.Ok) (l : e.Ok) : d.two < e.two ↔ e.host < d.host ∨ (d.host = e.host ∧ lxN tf d.figs d.slash e.figs e.slash) := by
  have hg : ∀ k, 1 ≤ k ∧ k ≤ 4 → 1 ≤ tf k ∧ tf k ≤ 4 := fun k h => by rw [tf_pos h]; omega
  have a := k.host
  have b := l.host
  rw [two_VN k, two_VN l, ← VN_lex hg 3 _ _ _ _ k.figs l.figs k.len l.len k.slash l.slash]
  refine (lex_mul (VN_lt hg 3 _ _ k.figs k.len k.slash) (VN_lt hg 3 _ _ l.figs l.len l.slash)).trans ?_
  constructor
  · rintro (h | ⟨h, q⟩)
    · left; omega
    · right; exact ⟨by omega, q⟩
  · rintro (h | ⟨h, q⟩)
    · left; omega
    · right; exact ⟨by omega, q⟩
theorem lx_both : ∀ (ks ks' : List Nat) (s s' : Nat), FigR ks → FigR ks' → s < 2 → s' < 2 → (¬ lxN id ks' s' ks s ∧ ¬ lxN tf ks' s' ks s ↔ (ks = ks' ∧ s = s') ∨ cov ks ks' s' = true)
  | [], [], s, s', _, _, h, h' => by
    simp only [lxN, cov, true_and, bne_iff_ne, ne_eq]; omega
  | [], _ :: _, _, _, _, _, _, _ => by simp [lxN, cov]
  | _ :: _, [], _, _, _, _, _, _ => by simp [lxN, cov]
  | k :: t, k' :: t', s, s', h, h', hs, hs' => by
    have i := lx_both t t' s s' (fun x hx => h x (.tail _ hx)) (fun x hx => h' x (.tail _ hx)) hs hs'
    have hk := h k (.head _)
    have hk' := h' k' (.head _)
    have e1 := tf_pos hk
    have e2 := tf_pos hk'
    simp only [lxN, cov, Bool.and_eq_true, beq_iff_eq, List.cons.injEq, id]
    by_cases q : k = k'
    · subst q
      simp only [Nat.lt_irrefl, false_or, true_and]
      exact i
    · have q1 : k' < k ∨ tf k' < tf k := by omega
      constructor
      · rintro ⟨a, b⟩
        rcases q1 with q1 | q1
        · exact absurd (.inl q1) a
        · exact absurd (.inl q1) b
      · rintro (⟨⟨a, _⟩, _⟩ | ⟨a, _⟩) <;> exact absurd a q
theorem num_cov {d e : Adr} (k : d.Ok) (l : e.Ok) : (d.one ≤ e.one ∧ d.two ≤ e.two) ↔ d.host = e.host ∧ ((d.figs = e.figs ∧ d.slash = e.slash) ∨ cov d.figs e.figs e.slash = true) := by
  rw [← lx_both _ _ _ _ k.figs l.figs k.slash l.slash, ← Nat.not_lt, ← Nat.not_lt, one_lex l k, two_lex l k]
  constructor
  · rintro ⟨a, b⟩
    have h : d.host = e.host := by
      rcases Nat.lt_trichotomy d.host e.host with q | q | q
      · exact absurd (.inl q) b
      · exact q
      · exact absurd (.inl q) a
    exact ⟨h, fun q => a (.inr ⟨h.symm, q⟩), fun q => b (.inr ⟨h.symm, q⟩)⟩
  · rintro ⟨h, a, b⟩
    refine ⟨?_, ?_⟩
    · rintro (q | ⟨_, q⟩)
      · omega
      · exact a q
    · rintro (q | ⟨_, q⟩)
      · omega
      · exact b q
theorem lx_eq {g : Nat → Nat} (hi : ∀ a b, 1 ≤ a ∧ a ≤ 4 → 1 ≤ b ∧ b ≤ 4 → g a = g b → a = b) : ∀ (ks ks' : List Nat) (s s' : Nat), FigR ks → FigR ks' → ¬ lxN g ks s ks' s' → ¬ lxN g ks' s' ks s → ks = ks' ∧ s = s'
  | [], [], s, s', _, _, a, b => ⟨rfl, by simp only [lxN] at a b; omega⟩
  | [], _ :: _, _, _, _, _, a, _ => by simp [lxN] at a
  | _ :: _, [], _, _, _, _, _, b => by simp [lxN] at b
  | k :: t, k' :: t', s, s', h, h', a, b => by
    simp only [lxN, not_or, not_and] at a b
    have e : g k = g k' := by omega
    have ek := hi k k' (h k (.head _)) (h' k' (.head _)) e
    obtain ⟨i1, i2⟩ := lx_eq hi t t' s s' (fun x hx => h x (.tail _ hx)) (fun x hx => h' x (.tail _ hx)) (a.2 e) (b.2 e.symm)
    exact ⟨by rw [ek, i1], i2⟩
theorem one_inj {d e : Adr} (k : d.Ok) (l : e.Ok) (h : d.one = e.one) : d = e := by
  have a : ¬ d.one < e.one := by omega
  have b : ¬ e.one < d.one := by omega
  rw [one_lex k l] at a
  rw [one_lex l k] at b
  simp only [not_or, not_and] at a b
  have eh : d.host = e.host := by omega
  obtain ⟨h1, h2⟩ := lx_eq (g := id) (fun _ _ _ _ q => q) _ _ _ _ k.figs l.figs (a.2 eh) (b.2 eh.symm)
  obtain ⟨h, f, s⟩ := d
  obtain ⟨h', f', s'⟩ := e
  dsimp only at *
  rw [eh, h1, h2]
theorem two_inj {d e : Adr} (k : d.Ok) (l : e.Ok) (h : d.two = e.two) : d = e := by
  have a : ¬ d.two < e.two := by omega
  have b : ¬ e.two < d.two := by omega
  rw [two_lex k l] at a
  rw [two_lex l k] at b
  simp only [not_or, not_and] at a b
  have eh : d.host = e.host := by omega
  obtain ⟨h1, h2⟩ := lx_eq (g := tf) (fun a b ha hb q => by rw [tf_pos ha, tf_pos hb] at q; omega) _ _ _ _ k.figs l.figs (a.2 eh) (b.2 eh.symm)
  obtain ⟨h, f, s⟩ := d
  obtain ⟨h', f', s'⟩ := e
  dsimp only at *
  rw [eh, h1, h2]
theorem two_ne {d e : Adr} (k : d.Ok) (l : e.Ok) (h : d.one < e.one) : d.two ≠ e.two := fun q => by
  rw [two_inj k l q] at h; exact Nat.lt_irrefl _ h
theorem tree_lx : ∀ (a b c : List Nat) (sa sb sc : Nat), sb < 2 → sc < 2 → ((a = c ∧ sa = sc) ∨ cov a c sc = true) → lxN id a sa b sb → lxN id b sb c sc → (a = b ∧ sa = sb) ∨ cov a b sb = true
  | [], [], _, sa, sb, sc, _, _, _, h1, _ => .inr (by simp only [lxN] at h1; simp only [cov, bne_iff_ne, ne_eq]; omega)
  | [], _ :: _, _, _, _, _, _, _, _, _, _ => .inr rfl
  | _ :: _, [], _, _, _, _, _, _, _, h1, _ => by simp [lxN] at h1
  | _ :: _, _ :: _, [], _, _, _, _, _, _, _, h2 => by simp [lxN] at h2
  | k :: t, k' :: t', k'' :: t'', sa, sb, sc, hb, hc, hh, h1, h2 => by
    simp only [lxN, id] at h1 h2
    have e : k = k'' := by
      rcases hh with ⟨q, _⟩ | q
      · exact (List.cons.inj q).1
      · simp only [cov, Bool.and_eq_true, beq_iff_eq] at q; exact q.1
    have hr : (t = t'' ∧ sa = sc) ∨ cov t t'' sc = true := by
      rcases hh with ⟨q, q2⟩ | q
      · exact .inl ⟨(List.cons.inj q).2, q2⟩
      · simp only [cov, Bool.and_eq_true, beq_iff_eq] at q; exact .inr q.2
    have e2 : k = k' := by
      rcases h1 with h1 | h1 <;> rcases h2 with h2 | h2 <;> omega
    subst e2
    have r1 : lxN id t sa t' sb := by rcases h1 with h1 | h1; exact absurd h1 (Nat.lt_irrefl _); exact h1.2
    have r2 : lxN id t' sb t'' sc := by rcases h2 with h2 | h2; exact absurd h2 (by omega); exact h2.2
    rcases tree_lx t t' t'' sa sb sc hb hc hr r1 r2 with ⟨i1, i2⟩ | i
    · exact .inl ⟨by rw [i1], i2⟩
    · exact .inr (by simp only [cov, beq_self_eq_true, Bool.true_and]; exact i)
theorem tree_ok {a b c : Adr} (ka : a.Ok) (kb : b.Ok) (kc : c.Ok) (h1 : a.one < b.one) (h2 : b.one < c.one) (h3 : a.two < c.two) : a.two < b.two := by
  obtain ⟨eh, hc⟩ := (num_cov ka kc).mp ⟨by omega, by omega⟩
  have l1 := (one_lex ka kb).mp h1
  have l2 := (one_lex kb kc).mp h2
  have ehb : a.host = b.host := by rcases l1 with q | q <;> rcases l2 with q2 | q2 <;> omega
  have m1 : lxN id a.figs a.slash b.figs b.slash := by rcases l1 with q | q; exact absurd q (by omega); exact q.2
  have m2 : lxN id b.figs b.slash c.figs c.slash := by rcases l2 with q | q; exact absurd q (by omega); exact q.2
  have := (num_cov ka kb).mpr ⟨ehb, tree_lx _ _ _ _ _ _ kb.slash kc.slash hc m1 m2⟩
  have := two_ne ka kb h1
  omega
end Mine
end PN1
theorem Mine.rstN1 : True := by
  w_top off
  k_with_none
  first | (walk1; fail "x") | exact True.intro
section PPL1
open PySem
namespace Mine
def wd : Nat → List Nat
  | 0 => []
  | 1 => [97]
  | 2 => [97, 45]
  | 3 => [97, 98]
  | _ => [98]
def fl : List Nat → List Nat
  | [] => []
  | k :: r => 47 :: (wd k ++ fl r)
def sls (s : Nat) : List Nat := if s = 0 then [] else [47]
theorem wordL_cps : ∀ k : Nat, (wordL k).cps.toList = wd k
  | 0 => by decide +kernel
  | 1 => by decide +kernel
  | 2 => by decide +kernel
  | 3 => by decide +kernel
  | k + 4 => by
    show (Str.ofString "b").cps.toList = [98]
    decide +kernel
theorem slashL_cps (k : Nat) : (slashL k).cps.toList = sls k := by
  unfold slashL sls; split <;> decide +kernel
theorem swL_cps (k : Nat) : (swL k).cps.toList = 47 :: wd k := by
  unfold swL
  rw [Str.cps_append, Array.toList_append, wordL_cps]
  have : (Str.ofString "/").cps.toList = [47] := by decide +kernel
  rw [this]; rfl
theorem join_cps : ∀ ks : List Nat, (Str.join (Str.ofString "") (ks.map swL)).cps.toList = fl ks
  | [] => rfl
  | [k] => by
    show (swL k).cps.toList = _
    rw [swL_cps]; simp [fl]
  | k :: k' :: r => by
    show ((swL k ++ Str.ofString "") ++ Str.join (Str.ofString "") ((k' :: r).map swL)).cps.toList = _
    have e : (Str.ofString "").cps.toList = [] := by decide +kernel
    rw [Str.cps_append, Array.toList_append, Str.cps_append, Array.toList_append, e, join_cps (k' :: r), swL_cps]
    simp [fl]
theorem pathL_cps (ks : List Nat) (sl : Nat) : (pathL ks sl).cps.toList = fl ks ++ sls sl := by
  unfold pathL
  have e : Txt.join (Str.ofString "") (ks.map swL) = Str.join (Str.ofString "") (ks.map swL) := by
    show Builtin.Str.glued _ _ = _
    rw [StrLaws.glued_eq_join]
  rw [Str.cps_append, Array.toList_append, slashL_cps, e, join_cps]
theorem starts_iff (x y : Str) : Txt.startswith x y = true ↔ y.cps.toList <+: x.cps.toList := by
  unfold Txt.startswith
  rw [StrLaws.subAt_eq, List.prefix_iff_eq_take]
  have a : y.length = y.cps.toList.length := by simp [Str.length]
  have b : x.length = x.cps.toList.length := by simp [Str.length]
  rw [a, b, Bool.and_eq_true_iff, decide_eq_true_iff, beq_iff_eq, List.drop_zero]
  constructor
  · rintro ⟨_, h⟩; exact h.symm
  · intro h
    refine ⟨?_, h.symm⟩
    have := congrArg List.length h
    rw [List.length_take] at this
    omega
theorem fl_head (t : List Nat) (s : Nat) : fl t ++ sls s = [] ∨ ∃ v, fl t ++ sls s = 47 :: v := by
  cases t with
  | nil => unfold fl sls; split <;> simp
  | cons k r => right; exact ⟨_, rfl⟩
theorem fl_head' (t : List Nat) : ∃ v, fl t ++ [47] = 47 :: v := by
  cases t with
  | nil => exact ⟨_, rfl⟩
  | cons k r => exact ⟨_, rfl⟩
theorem cancel_pre {u v : List Nat} (hv : v = [] ∨ ∃ v', v = 47 :: v') : ∀ {w w' : List Nat}, (∀ c ∈ w, c ≠ 47) → (∀ c ∈ w', c ≠ 47) → (w ++ (47 :: u) <+: w' ++ v ↔ w = w' ∧ (47 :: u) <+: v)
  | [], [], _, _ => ⟨fun h => ⟨rfl, h⟩, fun h => h.2⟩
  | [], b :: w', _, h' => ⟨fun h => absurd (List.cons_prefix_cons.mp h).1.symm (h' b (.head _)), fun h => nomatch h.1⟩
  | a :: w, [], h, _ => ⟨fun x => by
      rcases hv with rfl | ⟨v', rfl⟩
      · exact absurd x.length_le (by simp)
      · exact absurd (List.cons_prefix_cons.mp x).1 (h a (.head _)), fun x => nomatch x.1⟩
  | a :: w, b :: w', h, h' => by
    have ih := cancel_pre (u := u) hv (w := w) (w' := w') (fun c hc => h c (.tail _ hc)) (fun c hc => h' c (.tail _ hc))
    rw [List.cons_append, List.cons_append, List.cons_prefix_cons, ih, List.cons.injEq, and_assoc]
theorem cancel_eq {u v : List Nat} (hu : u = [] ∨ ∃ u', u = 47 :: u') (hv : v = [] ∨ ∃ v', v = 47 :: v') : ∀ {w w' : List Nat}, (∀ c ∈ w, c ≠ 47) → (∀ c ∈ w', c ≠ 47) → w ++ u = w' ++ v → w = w' ∧ u = v
  | [], [], _, _, e => ⟨rfl, e⟩
  | [], b :: w', _, h', e => by
    rcases hu with rfl | ⟨u', rfl⟩
    · exact nomatch e
    · exact absurd (List.cons.inj e).1.symm (h' b (.head _))
  | a :: w, [], h, _, e => by
    rcases hv with rfl | ⟨v', rfl⟩
    · exact nomatch e
    · exact absurd (List.cons.inj e).1 (h a (.head _))
  | a :: w, b :: w', h, h', e => by
    obtain ⟨e1, e2⟩ := List.cons.inj e
    obtain ⟨e3, e4⟩ := cancel_eq hu hv (fun c hc => h c (.tail _ hc)) (fun c hc => h' c (.tail _ hc)) e2
    exact ⟨by rw [e1, e3], e4⟩
theorem wd_no : ∀ k < 5, ∀ c ∈ wd k, c ≠ 47 := by decide
theorem wd_inj : ∀ k < 5, ∀ k' < 5, 1 ≤ k → 1 ≤ k' → wd k = wd k' → k = k' := by decide
theorem wd_cancel {k k' : Nat} (h : 1 ≤ k ∧ k ≤ 4) (h' : 1 ≤ k' ∧ k' ≤ 4) {u v : List Nat} (hv : v = [] ∨ ∃ v', v = 47 :: v') : wd k ++ (47 :: u) <+: wd k' ++ v ↔ k = k' ∧ (47 :: u) <+: v := by
  rw [cancel_pre hv (wd_no k (Nat.lt_succ_of_le h.2)) (wd_no k' (Nat.lt_succ_of_le h'.2))]
  exact ⟨fun x => ⟨wd_inj k (Nat.lt_succ_of_le h.2) k' (Nat.lt_succ_of_le h'.2) h.1 h'.1 x.1, x.2⟩, fun x => ⟨congrArg wd x.1, x.2⟩⟩
theorem pre_iff : ∀ (ks ks' : List Nat) (s : Nat), FigR ks → FigR ks' → (fl ks ++ [47] <+: fl ks' ++ sls s ↔ cov ks ks' s = true)
  | [], [], s, _, _ => by
    unfold cov fl sls
    by_cases h : s = 0 <;> simp [h]
  | [], k :: t, s, _, _ => by simp [fl, cov, List.cons_prefix_cons]
  | k :: t, [], s, _, _ => by
    simp only [cov, Bool.false_eq_true, iff_false]
    intro h
    have := h.length_le
    obtain ⟨v, e⟩ := fl_head' t
    have e2 := congrArg List.length e
    simp only [fl, sls, List.length_append, List.length_cons, List.length_nil] at this e2
    split at this <;> simp at this
  | k :: t, k' :: t', s, h, h' => by
    have hk := h k (by simp)
    have hk' := h' k' (by simp)
    have ih := pre_iff t t' s (fun x hx => h x (by simp [hx])) (fun x hx => h' x (by simp [hx]))
    obtain ⟨u, eu⟩ := fl_head' t
    have hv := fl_head t' s
    rw [eu] at ih
    have c := wd_cancel hk hk' (u := u) hv
    simp only [fl, cov, List.cons_append, List.append_assoc, List.cons_prefix_cons, true_and, Bool.and_eq_true, beq_iff_eq]
    rw [eu, c, ih]
theorem wd_cancel_eq {k k' : Nat} (h : 1 ≤ k ∧ k ≤ 4) (h' : 1 ≤ k' ∧ k' ≤ 4) {u v : List Nat} (hu : u = [] ∨ ∃ u', u = 47 :: u') (hv : v = [] ∨ ∃ v', v = 47 :: v') (e : wd k ++ u = wd k' ++ v) : k = k' ∧ u = v := by
  obtain ⟨e1, e2⟩ := cancel_eq hu hv (wd_no k (Nat.lt_succ_of_le h.2)) (wd_no k' (Nat.lt_succ_of_le h'.2)) e
  exact ⟨wd_inj k (Nat.lt_succ_of_le h.2) k' (Nat.lt_succ_of_le h'.2) h.1 h'.1 e1, e2⟩
theorem path_inj : ∀ (ks ks' : List Nat) (s s' : Nat), FigR ks → FigR ks' → s < 2 → s' < 2 → fl ks ++ sls s = fl ks' ++ sls s' → ks = ks' ∧ s = s'
  | [], [], s, s', _, _, h, h', e => by
    unfold fl sls at e
    refine ⟨rfl, ?_⟩
    by_cases a : s = 0 <;> by_cases b : s' = 0 <;> simp [a, b] at e <;> omega
  | [], k :: t, s, s', _, h', _, _, e => by
    exfalso
    have hk := h' k (by simp)
    have e2 := congrArg List.length e
    have : 1 ≤ (wd k).length := by
      have b : k = 1 ∨ k = 2 ∨ k = 3 ∨ k = 4 := by omega
      rcases b with rfl | rfl | rfl | rfl <;> decide
    have l1 : ∀ s, (sls s).length ≤ 1 := fun s => by unfold sls; split <;> simp
    have := l1 s; have := l1 s'
    simp only [fl, List.length_append, List.length_cons, List.length_nil] at e2
    omega
  | k :: t, [], s, s', h', _, _, _, e => by
    exfalso
    have hk := h' k (by simp)
    have e2 := congrArg List.length e
    have : 1 ≤ (wd k).length := by
      have b : k = 1 ∨ k = 2 ∨ k = 3 ∨ k = 4 := by omega
      rcases b with rfl | rfl | rfl | rfl <;> decide
    have l1 : ∀ s, (sls s).length ≤ 1 := fun s => by unfold sls; split <;> simp
    have := l1 s; have := l1 s'
    simp only [fl, List.length_append, List.length_cons, List.length_nil] at e2
    omega
  | k :: t, k' :: t', s, s', h, h', hs, hs', e => by
    have hk := h k (by simp)
    have hk' := h' k' (by simp)
    simp only [fl, List.cons_append, List.append_assoc, List.cons.injEq, true_and] at e
    obtain ⟨a, b⟩ := wd_cancel_eq hk hk' (fl_head t s) (fl_head t' s') e
    obtain ⟨c, d⟩ := path_inj t t' s s' (fun x hx => h x (by simp [hx])) (fun x hx => h' x (by simp [hx])) hs hs' b
    exact ⟨by rw [a, c], d⟩
theorem shapedS {a b : Str} (ha : PyData.strOk a = true) (hb : PyData.strOk b = true) : SeqAt.shaped (.tuple [.str a, .str b]) = true := by
  unfold SeqAt.shaped
  rw [Bool.and_eq_true_iff]
  refine ⟨by simp [PyData.canLay0, PyData.canLayAll0, ha, hb], ?_⟩
  simp [PyData.depth, PyData.depthAll]
theorem pathL_len {d : Adr} (k : d.Ok) : (pathL d.figs d.slash).length ≤ 100 := by
  unfold pathL
  rw [Str.length_append]
  have a := join_len d.figs
  have b := slashL_len d.slash
  have c := k.len
  omega
theorem hostL_ok (h : Nat) : PyData.strOk (hostL h) = true := by
  unfold hostL; split <;> decide +kernel
theorem fl_ok : ∀ ks : List Nat, ∀ c ∈ fl ks, c < 128
  | [], _, h => nomatch h
  | k :: r, c, h => by
    simp only [fl, List.mem_cons, List.mem_append] at h
    rcases h with rfl | h | h
    · decide
    · unfold wd at h; split at h <;> simp at h <;> omega
    · exact fl_ok r c h
theorem pathL_ok (ks : List Nat) (sl : Nat) : PyData.strOk (pathL ks sl) = true := by
  unfold PyData.strOk
  rw [Array.all_eq_true']
  intro c hc
  rw [← Array.mem_toList_iff, pathL_cps] at hc
  rcases List.mem_append.mp hc with h | h
  · have := fl_ok ks c h; simp; omega
  · unfold sls at h; split at h <;> simp at h; subst h; simp
theorem hostL_inj {a b : Nat} (ha : a < 2) (hb : b < 2) : hostL a = hostL b ↔ a = b := by
  have h : ∀ f < 2, ∀ g < 2, (hostL f = hostL g ↔ f = g) := by decide +kernel
  exact h a ha b hb
theorem str_ext {a b : Str} (h : a.cps.toList = b.cps.toList) : a = b := by
  obtain ⟨a⟩ := a; obtain ⟨b⟩ := b
  exact congrArg Str.mk (Array.toList_inj.mp h)
theorem pathL_inj {d e : Adr} (k : d.Ok) (l : e.Ok) : pathL d.figs d.slash = pathL e.figs e.slash ↔ d.figs = e.figs ∧ d.slash = e.slash := by
  constructor
  · intro h
    have : (pathL d.figs d.slash).cps.toList = (pathL e.figs e.slash).cps.toList := congrArg (fun x : Str => x.cps.toList) h
    rw [pathL_cps, pathL_cps] at this
    exact path_inj _ _ _ _ k.figs l.figs k.slash l.slash this
  · rintro ⟨a, b⟩; rw [a, b]
theorem slash_cps : (Str.ofString "/").cps.toList = [47] := by decide +kernel
/-- the path with a slash at its end -/
theorem path_pre {d : Adr} (k : d.Ok) (y : Str) : (if (Txt.slice (pathL d.figs d.slash) (some (-1)) none != Str.ofString "/") = true then Txt.startswith y (pathL d.figs d.slash ++ Str.ofString "/") else Txt.startswith y (pathL d.figs d.slash)) = true ↔ fl d.figs ++ [47] <+: y.cps.toList := by
  have hl : ((pathL d.figs d.slash).cps.toList) = fl d.figs ++ sls d.slash := pathL_cps _ _
  have hs : d.slash = 0 ∨ d.slash = 1 := by have := k.slash; omega
  by_cases h : Txt.slice (pathL d.figs d.slash) (some (-1)) none = Str.ofString "/"
  · rw [if_neg (by simp [h]), starts_iff, hl]
    rcases hs with hs | hs
    · exfalso
      rw [hs] at hl h
      by_cases hf : d.figs = []
      · rw [hf] at h
        revert h
        decide +kernel
      · have hlen : 1 ≤ (pathL d.figs 0).length := by
          have e : (pathL d.figs 0).length = (pathL d.figs 0).cps.toList.length := by simp [Str.length]
          rw [e, hl]
          cases hq : d.figs with
          | nil => exact absurd hq hf
          | cons a b => simp [fl]
        have e := StrLaws.sliceText_from_neg (x := pathL d.figs 0) (i := -1) (by decide) (by omega)
        have h' : StrLaws.sliceText (pathL d.figs 0) (some (-1)) none = Str.ofString "/" := h
        rw [e] at h'
        have h2 := congrArg (fun x : Str => x.cps.toList) h'
        dsimp only at h2
        rw [slash_cps, hl] at h2
        have last : ∀ ks : List Nat, FigR ks → ks ≠ [] → ∃ c pre, fl ks = pre ++ [c] ∧ c ≠ 47 := by
          intro ks
          induction ks with
          | nil => intro _ h; exact absurd rfl h
          | cons a r ih =>
            intro hr _
            by_cases hr0 : r = []
            · subst hr0
              have ha := hr a (by simp)
              have b : a = 1 ∨ a = 2 ∨ a = 3 ∨ a = 4 := by omega
              rcases b with rfl | rfl | rfl | rfl
              · exact ⟨97, [47], rfl, by decide⟩
              · exact ⟨45, [47, 97], rfl, by decide⟩
              · exact ⟨98, [47, 97], rfl, by decide⟩
              · exact ⟨98, [47], rfl, by decide⟩
            · obtain ⟨c, pre, e1, e2⟩ := ih (fun x hx => hr x (by simp [hx])) hr0
              exact ⟨c, 47 :: (wd a ++ pre), by simp [fl, e1], e2⟩
        obtain ⟨c, pre, e1, e2⟩ := last d.figs k.figs hf
        rw [e1] at h2
        have : (pre ++ [c] ++ sls 0) = pre ++ [c] := by simp [sls]
        rw [this] at h2
        have el : (pathL d.figs 0).length = pre.length + 1 := by
          have e : (pathL d.figs 0).length = (pathL d.figs 0).cps.toList.length := by simp [Str.length]
          rw [e, hl, e1]; simp [sls]
        have en : (-1 + ((pathL d.figs 0).length : Int)).toNat = pre.length := by omega
        rw [en] at h2
        have en2 : (((pre ++ [c]).length : Int) - (-1 + ((pathL d.figs 0).length : Int))).toNat = 1 := by rw [el]; simp; omega
        rw [en2] at h2
        have h3 : c ∈ [47] := by rw [← h2]; simp
        simp at h3
        exact e2 h3
    · rw [hs]; rfl
  · rw [if_pos (by simp [h]), starts_iff]
    rw [Str.cps_append, Array.toList_append, slash_cps, hl]
    rcases hs with hs | hs
    · rw [hs]; simp [sls]
    · exfalso
      apply h
      rw [hs] at hl ⊢
      have el : (pathL d.figs 1).length = (fl d.figs).length + 1 := by
        have e : (pathL d.figs 1).length = (pathL d.figs 1).cps.toList.length := by simp [Str.length]
        rw [e, hl]; simp [sls]
      have e := StrLaws.sliceText_from_neg (x := pathL d.figs 1) (i := -1) (by decide) (by omega)
      show StrLaws.sliceText (pathL d.figs 1) (some (-1)) none = Str.ofString "/"
      rw [e]
      apply str_ext
      rw [slash_cps]
      have en : (-1 + ((pathL d.figs 1).length : Int)).toNat = (fl d.figs).length := by omega
      have en2 : (((fl d.figs ++ sls 1).length : Int) - (-1 + ((pathL d.figs 1).length : Int))).toNat = 1 := by rw [el]; simp [sls]; omega
      rw [hl, en, en2]
      simp [sls]
theorem subB_law {d e : Adr} (k : d.Ok) (l : e.Ok) : subB (hostL d.host) (pathL d.figs d.slash) (hostL e.host) (pathL e.figs e.slash) = (decide (d.one ≤ e.one) && decide (d.two ≤ e.two)) := by
  rw [Bool.eq_iff_iff, Bool.and_eq_true, decide_eq_true_iff, decide_eq_true_iff, num_cov k l, ← pre_iff _ _ _ k.figs l.figs, ← pathL_cps, ← path_pre k]
  unfold subB
  by_cases h1 : d.host = e.host
  · by_cases h2 : d.figs = e.figs ∧ d.slash = e.slash
    · have h3 := (pathL_inj k l).mpr h2
      rw [if_pos (by rw [h1, h3]; simp)]
      simp [h1, h2]
    · have h3 : pathL d.figs d.slash ≠ pathL e.figs e.slash := fun q => h2 ((pathL_inj k l).mp q)
      rw [if_neg (by simp [h3]), if_neg (by rw [h1]; simp)]
      simp only [h1, h2, true_and, false_or]
  · have h3 : hostL d.host ≠ hostL e.host := fun q => h1 ((hostL_inj k.host l.host).mp q)
    rw [if_neg (by simp [h3]), if_pos (by simp [h3])]
    simp [h1]
end Mine
end PPL1
theorem Mine.rstPL1 : True := by
  w_top off
  k_with_none
  first | (walk1; fail "x") | exact True.intro
section PWT
open PySem PySem.W PyProof.Rows PySem.Calls PySem.Spec
set_option maxRecDepth 100000
set_option pp.maxSteps 20000
namespace Mine
theorem news_new {g h h' : Heap} {L D : Addr} {m : Str → Option Value} {o : Obj} {news : List (Addr × Obj)} (F : Fr g L h m) (N : News g L h news) (hk : Kp h h') (hD : h'.get? D = some o) (hD0 : h.get? D = none) : News g L h' ((D, o) :: news) := fun p hp => by
  rcases List.mem_cons.mp hp with rfl | hp
  · refine ⟨hD, fun q => ?_, ?_⟩
    · obtain ⟨oL, eL⟩ := ns_there F.ns
      have q' : D = L := q
      rw [q', eL] at hD0; cases hD0
    · cases e : g.get? D with
      | none => rfl
      | some o' => have := F.keep _ _ e; rw [hD0] at this; cases this
  · exact ⟨hk _ _ (N p hp).1, (N p hp).2⟩
theorem isList_kp {h h' : Heap} {a : Addr} {its : Array Value} (x : h.IsList a its) (k : Kp h h') : h'.IsList a its := let ⟨o, e, r⟩ := x; ⟨o, k _ _ e, r⟩
/-- the figures, as ints of a tuple -/
structure FigOk (vs : List Value) (ks : List Nat) : Prop where
  nums : IntsAre vs (natsI ks)
  len : ks.length ≤ 3
  pos : ∀ k ∈ ks, 1 ≤ k ∧ k ≤ 4
theorem FigOk.lt {vs : List Value} {ks : List Nat} (f : FigOk vs ks) : ∀ k ∈ ks, k < 5 := fun k hk => Nat.lt_succ_of_le (f.pos k hk).2
theorem path_size {ks : List Nat} {k : Nat} (h : ks.length ≤ 3) : (Txt.join (Str.ofString "") (ks.map swL)).length + (slashL k).length ≤ sizeLine := by
  have a := join_len ks
  have b := slashL_len k
  rw [sizeLine_eq]
  omega
theorem strs_three {a b c : Str} {ys : List Value} (h : StrsAre ys [a, b, c]) : ∃ t0 t1 t2, ys = [.str a t0, .str b t1, .str c t2] := by
  cases h with
  | cons _ t0 h => cases h with
    | cons _ t1 h => cases h with
      | cons _ t2 h => cases h; exact ⟨t0, t1, t2, rfl⟩
local macro_rules | `(tactic| units_room) => `(tactic| (have hcL' := cLine_is; simp only [units_in1, units_deeper, Around.mark_units, units_caller, Ar] at *; omega))
theorem regWT1 : True := by
  k_with "eval Subscript" => (k_here; (with_reducible show wpAny _ _ (eval (PySem.Expr.Subscript (PySem.Expr.BinOp _ _ _ _) _ _) _) _ _ _); (rename Fr _ _ _ _ => kF); (rename News _ _ _ _ => kN); k_dflt (refine' full_eval kF kN ?s ?m ?v ?l ?_; (case s => (intro _ q; exact nameX_L kF rfl q)); (case m => k_mem); (case v => assumption); (case l => assumption); intro _ _ _ _ _ _ _ _; clear kF kN))
  k_with "eval ListComp" => (k_here; (with_reducible show wpAny _ _ (eval (PySem.Expr.ListComp (PySem.Expr.Subscript _ _ _) _ _ _) _) _ _ _); (rename Fr _ _ _ _ => kF); (rename News _ _ _ _ => kN); (rename IntsAre _ (natsI (full3 _)) => hv0); k_dflt (refine' wcomp (G := wordL) rfl hv0 ?f3 (Nat.le_refl 3) ?s ?tu ?c1 ?c2 ?c3 ?c4 ?c5 ?c6 ?el ?_; (case f3 => assumption); (case s => (intro _ q; exact nameX_L kF rfl q)); (case tu => exact ⟨_, News.get kN (by k_mem), rfl, _, rfl⟩); (case c1 => with_unfolding_all rfl); (case c2 => decide); (case c3 => rfl); (case c4 => decide); (case c5 => rfl); (case c6 => (intro _; rfl)); (case el => (intro _ _ _ _ _ _ _ hk hkp hn hm hq; exact elt_word rfl rfl rfl rfl (hkp _ _ (News.get kN (by k_mem))) (by k_asm) (isList_kp (News.isList kN (by k_mem)) hkp) hn hm hk (fun t' => hq t' _))); intro _ _ _ _ hst' hD' hD0' hkp'; have _ := Fr.keeps kF hkp'; have _ := news_new kF kN hkp' hD' hD0'; clear kF kN hD' hD0' hkp'; obtain ⟨t0', t1', t2', hy'⟩ := strs_three hst'; subst hy'; clear hst'))
  k_with "eval ListComp" => (k_here; (with_reducible show wpAny _ _ (eval (PySem.Expr.ListComp (PySem.Expr.BoolOp _ _ _) _ _ _) _) _ _ _); (rename Fr _ _ _ _ => kF); (rename News _ _ _ _ => kN); (rename IntsAre _ (natsI (full3 _)) => hv0); k_dflt (refine' wcomp (G := turnL) rfl hv0 ?f3 (Nat.le_refl 3) ?s ?tu ?c1 ?c2 ?c3 ?c4 ?c5 ?c6 ?el ?_; (case f3 => assumption); (case s => (intro _ q; exact nameX_L kF rfl q)); (case tu => exact ⟨_, News.get kN (by k_mem), rfl, _, rfl⟩); (case c1 => with_unfolding_all rfl); (case c2 => decide); (case c3 => rfl); (case c4 => decide); (case c5 => rfl); (case c6 => (intro _; rfl)); (case el => (intro _ _ _ _ _ _ _ hk hkp hn hm hq; exact elt_turn rfl rfl rfl rfl (hkp _ _ (News.get kN (by k_mem))) (by k_asm) (isList_kp (News.isList kN (by k_mem)) hkp) hn hm hk hq)); intro _ _ _ _ hst' hD' hD0' hkp'; have _ := Fr.keeps kF hkp'; have _ := news_new kF kN hkp' hD' hD0'; clear kF kN hD' hD0' hkp'; obtain ⟨t0', t1', t2', hy'⟩ := strs_three hst'; subst hy'; clear hst'))
  k_with "eval ListComp" => (k_here; (with_reducible show wpAny _ _ (eval (PySem.Expr.ListComp (PySem.Expr.BinOp _ _ _ _) _ _ _) _) _ _ _); (rename Fr _ _ _ _ => kF); (rename News _ _ _ _ => kN); (rename FigOk _ _ => fo); k_dflt (refine' wcomp (G := swL) rfl fo.nums fo.lt fo.len ?s ?tu ?c1 ?c2 ?c3 ?c4 ?c5 ?c6 ?el ?_; (case s => (intro _ q; exact nameX_L kF rfl q)); (case tu => exact ⟨_, News.get kN (by k_mem), rfl, _, rfl⟩); (case c1 => with_unfolding_all rfl); (case c2 => decide); (case c3 => rfl); (case c4 => decide); (case c5 => rfl); (case c6 => (intro _; rfl)); (case el => (intro _ _ _ _ _ _ _ hk hkp hn hm hq; exact elt_path rfl rfl rfl rfl (hkp _ _ (News.get kN (by k_mem))) (by k_asm) (isList_kp (News.isList kN (by k_mem)) hkp) hn hm hk hq)); intro _ _ _ _ _ hD' hD0' hkp'; have _ := Fr.keeps kF hkp'; have _ := news_new kF kN hkp' hD' hD0'; clear kF kN hD' hD0' hkp'))
  k_with "call builtin:str.join" => (k_here; (rename FigOk _ _ => fo); (rename StrsAre _ (List.map swL _) => hst0); k_dflt (refine' sw_join ?l hst0 fo.len ?_; (case l => exact News.isList (by k_asm) (by k_mem)); intro _ _; clear hst0))
  k_with "subscriptTail Constant Name str int" => (k_here; (with_reducible show wpAny _ _ (subscriptTail _ _ (Value.str (Str.ofString "gh") _) (Value.int _ _)) _ _ _); k_dflt (refine' host_item ?a ?b ?_ ?s ?t; (case a => assumption); (case b => assumption); (case s => with_unfolding_all rfl); (case t => (intro _; with_unfolding_all rfl)); intro _ _))
  k_with "binaryOp Add str str" => (k_here; (with_reducible show wpAny _ _ (binaryOp _ (Value.str _ _) (Value.str (slashL _) _)) _ _ _); (rename FigOk _ _ => fo); (refine' PyProof.Rows.add_str ?_ (path_size fo.len); intro _ _))
  k_with "binaryOp Mult str int" => (k_here; (with_reducible show wpAny _ _ (binaryOp _ (Value.str (Str.ofString "/") _) (Value.int _ _)) _ _ _); (refine' slash_mul ?a ?b ?_; (case a => assumption); (case b => assumption); intro _ _))
  k_with "call ref" => (k_here; (with_reducible show wpAny _ _ (call (Value.ref 111) _ _) _ _ _); (rename Fr _ _ _ _ => kF); (rename News _ _ _ _ => kN); (rename FigOk _ _ => fo); (rename Amb _ _ => am'); (rename Kp _ _ => kp'); k_dflt (refine' numC am' (Kp.trans kp' kF.keep) ?d ?u ?h1 ?h2 ?h3 ?h4 fo.nums fo.len fo.pos (Own.sub (own_of kp' kN) ?o) ?_; (case d => assumption); (case u => (have _ := cLine_is; simp only [Ar, Around.deeper] at *; omega)); (case h1 => omega); (case h2 => omega); (case h3 => assumption); (case h4 => assumption); (case o => (intro _ hp; rw [List.mem_singleton.mp hp]; k_mem)); intro _ _ _ hkp'; have _ := Fr.keeps kF hkp'; have _ := News.grown kN hkp'; clear kF kN hkp'))
  k_with "execs cons" => (k_here; (with_reducible show wpAny _ _ _ _ _ (Shared.mk _ _ _ (_ + 1) _)); k_dflt (refine' norm_ ?kns ?kna ?knb ?knc ?_; (case kns => assumption); (case kna => exact rfl); (case knb => exact rfl); (case knc => exact rfl); intro tk))
  exact True.intro
theorem own3 {h₀ h : Heap} {news : List (Addr × Obj)} {p q r : Addr × Obj} (o : Own h₀ h news) (a : p ∈ news) (b : q ∈ news) (c : r ∈ news) : Own h₀ h [p, q, r] := fun x hx => by
  simp only [List.mem_cons, List.not_mem_nil, or_false] at hx
  rcases hx with rfl | rfl | rfl
  · exact o _ a
  · exact o _ b
  · exact o _ c
/-- a thing made since h1 -/
inductive ThingFr (h₀ h1 h : Heap) (v : Value) (d : Adr) : Prop
  | mk (t row up : Addr) (n0 n1 n2 : Nat) (t0 t1 s0 s1 s2 s3 s4 s5 s6 s7 u0 u1 : Tok) (q1 : v = .ref t) (q2 : Own h₀ h [(t, tupO [.ref row, .ref up, .int (d.one : Int) t0, .int (d.two : Int) t1] n0), (row, tupO [.str (hostL d.host) s0, .str (wordL (d.fig 0)) s1, .str (wordL (d.fig 1)) s2, .str (wordL (d.fig 2)) s3, .str (turnL (d.fig 0)) s4, .str (turnL (d.fig 1)) s5, .str (turnL (d.fig 2)) s6, .int (d.slash : Int) s7] n1), (up, tupO [.str (hostL d.host) u0, .str (pathL d.figs d.slash) u1] n2)]) (q3 : h1.get? t = none) (q4 : h1.get? row = none) (q5 : h1.get? up = none)
theorem fresh_of {g h h' : Heap} {L a x : Addr} {o oa : Obj} {news : List (Addr × Obj)} (hg : ∀ b o, h.get? b = some o → b ∉ [(a, oa)].map (·.1) → g.get? b = some o) (N : News g L h' news) (hp : (x, o) ∈ news) (ha : (a, oa) ∈ news) (hne : o ≠ oa) : h.get? x = none := by
  cases q : h.get? x with
  | none => rfl
  | some o' =>
    by_cases e : x = a
    · have q1 := (N _ hp).1
      have q2 := (N _ ha).1
      dsimp only at q1 q2
      rw [e, q2] at q1
      exact absurd (Option.some.inj q1).symm hne
    · have := hg _ _ q (by simpa using e)
      have q2 := (N _ hp).2.2
      dsimp only at q2
      rw [this] at q2; cases q2
theorem tup_ne {x : Value} {r vs : List Value} {n na : Nat} {ns : List Int} (hv : IntsAre vs ns) (hx : ∀ k t, x ≠ .int k t) : tupO (x :: r) n ≠ tupO vs na := by
  intro q
  have q2 := congrArg Obj.data q
  injection q2 with q3 _
  have q4 := congrArg Array.toList q3
  simp at q4
  cases hv with
  | nil => cases q4
  | cons k t _ =>
    injection q4 with q5 _
    exact hx _ _ q5
theorem one_num {d : Adr} : numV (d.host : Int) (d.slash : Int) false d.figs = (d.one : Int) := by
  simp only [numV, Adr.one, Adr.fig, Bool.false_eq_true, if_false]; omega
theorem two_num {d : Adr} (h : d.host < 2) : numV (1 - (d.host : Int)) (d.slash : Int) true d.figs = (d.two : Int) := by
  simp only [numV, Adr.two, Adr.fig, if_true]; omega
theorem gh_item {k : Nat} (h : k < 2) : Txt.item (Str.ofString "gh") (k : Int) = hostL k := by
  have : k = 0 ∨ k = 1 := by omega
  rcases this with rfl | rfl
  · decide +kernel
  · decide +kernel
set_option maxHeartbeats 4000000 in
theorem thgC {prog : Program} {w : World} {dp un : Nat} {gd : Option (List Code)} {fr : Option (List Env)} {h₀ : Heap} {s : Shared} {Q E : Value → Shared → Prop} {d : Adr} {th ts : Tok} {a : Addr} {na : Nat} {vs : List Value}
    (am : Amb w h₀) (k₀ : Kp h₀ s.heap) (hdp : dp + 1 < recursionLimit) (hun : un + 200 < cLine) (hok : d.Ok) (hvs : IntsAre vs (natsI d.figs))
    (N : Own h₀ s.heap [(a, tupO vs na)])
    (hret : ∀ v h' tk', Kp s.heap h' → ThingFr h₀ s.heap h' v d → Q v { s with heap := h', toks := tk' }) :
    wpAny (model prog w) (Ar dp un fr gd) (call (.ref 116) [.int (d.host : Int) th, .ref a, .int (d.slash : Int) ts]) Q E s := by
  have hfl : (hd.heap_39, PySem.Challenge.rw_pg0090_01) = (hd.heap_39, PySem.Challenge.rw_pg0090_01) := by k_fill; rfl
  clear hfl
  have h2n := hok.host
  have e1 := one_num (d := d)
  have e2 := two_num h2n
  have e3 := gh_item h2n
  have e4 : ((d.slash : Int)).toNat = d.slash := rfl
  have h1 : (0 : Int) ≤ (d.host : Int) := Int.natCast_nonneg _
  have h2 : (d.host : Int) < 2 := by omega
  have h3 : (0 : Int) ≤ (d.slash : Int) := Int.natCast_nonneg _
  have h4 : (d.slash : Int) < 2 := by have := hok.slash; omega
  have fo : FigOk vs d.figs := ⟨hvs, hok.len, hok.figs⟩
  have hret' : ∀ t row up (t0 t1 s0 s1 s2 s3 s4 s5 s6 u0 u1 : Tok) h' tk', Kp s.heap h' → Own h₀ h' [(t, tupO [.ref row, .ref up, .int (numV (d.host : Int) (d.slash : Int) false d.figs) t0, .int (numV (1 - (d.host : Int)) (d.slash : Int) true d.figs) t1] 0),
      (row, tupO [.str (Txt.item (Str.ofString "gh") (d.host : Int)) s0, .str (wordL (d.fig 0)) s1, .str (wordL (d.fig 1)) s2, .str (wordL (d.fig 2)) s3, .str (turnL (d.fig 0)) s4, .str (turnL (d.fig 1)) s5, .str (turnL (d.fig 2)) s6, .int (d.slash : Int) ts] 0),
      (up, tupO [.str (Txt.item (Str.ofString "gh") (d.host : Int)) u0, .str (pathL d.figs ((d.slash : Int)).toNat) u1] 0)] → s.heap.get? t = none → s.heap.get? row = none → s.heap.get? up = none → Q (.ref t) { s with heap := h', toks := tk' } := by
    intro t row up t0 t1 s0 s1 s2 s3 s4 s5 s6 u0 u1 h' tk' hk o f1 f2 f3
    rw [e1, e2, e3, e4] at o
    exact hret _ h' tk' hk ⟨t, row, up, 0, 0, 0, t0, t1, s0, s1, s2, s3, s4, s5, s6, ts, u0, u1, rfl, o, f1, f2, f3⟩
  clear e1 e2 e3 e4 hret h2n
  unfold Adr.fig at hret'
  generalize (d.host : Int) = host at *
  generalize (d.slash : Int) = slash at *
  generalize d.figs = ks at *
  clear hok
  have am0 := am
  have hvs0 := fo.nums
  have hlen0 := fo.len
  have hks := fo.pos
  have hdp' := hdp
  have hf3 : ∀ k ∈ full3 ks, k < 5 := by
    have hg : ∀ i, ks.getD i 0 < 5 := fun i => by
      rw [List.getD_eq_getElem?_getD]
      cases h : ks[i]? with
      | none => decide
      | some f => have := (hks f (List.mem_of_getElem? h)).2; simp; omega
    intro k hk
    simp only [full3, List.mem_cons, List.not_mem_nil, or_false] at hk
    rcases hk with rfl | rfl | rfl <;> exact hg _
  obtain ⟨X, loose, mean, mg, mb, T⟩ := am
  k_dflt (refine' enterPC X T k₀ N ?k6 ?k7 (Nat.lt_of_succ_lt hdp) ?k9 ?kB ?kD ?_ ?c2 ?c3 ?c4; (case k6 => k_is); (case k7 => k_is); (case k9 => exact BindsTo.of_eq rfl); (case kB => exact rfl); (case kD => decide +kernel); (case c2 => exact rfl); (case c3 => exact rfl); (case c4 => exact rfl); k_whole)
  intro g' L' h' tk' cells' F' N' Y' X' T' hl' hk' hg'
  replace F' : Fr g' L' h' (fun y => if y = Str.ofString "slash" then some (Value.int slash ts) else if y = Str.ofString "figures" then some (Value.ref a) else if y = Str.ofString "host" then some (Value.int host th) else none) := by with_unfolding_all exact F'
  k_lt hl'
  k_cells Y'
  simp only [List.cons_append, List.nil_append] at N'
  show wpAny _ _ _ _ _ _
  k_fold
  k_steps
  all_goals (try (dsimp only; (try k_unfold); (try dsimp only)))
  all_goals (refine leaveP_ (by k_asm) (by k_asm) (fun p hp => SubL.mem (by k_subL) p hp) (fun hk => ?_))
  all_goals (rename Kp h₀ _ => kq; rename News _ _ _ _ => nq)
  all_goals (refine' hret' _ _ _ _ _ _ _ _ _ _ _ _ _ _ _ _ hk (own3 (own_of kq nq) ?a ?b ?c) (fresh_of hg' nq ?a ?o (tup_ne hvs0 (fun _ _ q => by cases q))) (fresh_of hg' nq ?b ?o (tup_ne hvs0 (fun _ _ q => by cases q))) (fresh_of hg' nq ?c ?o (tup_ne hvs0 (fun _ _ q => by cases q))); (case a => k_mem); (case b => k_mem); (case c => k_mem); (case o => k_mem))
end Mine
end PWT
theorem Mine.rstWT : True := by
  w_top off
  k_with_none
  first | (walk1; fail "x") | exact True.intro
section PWP
open PySem PySem.W PyProof.Rows PySem.Calls PySem.Spec
set_option maxRecDepth 100000
namespace Mine
def rowO (d : Adr) (s0 s1 s2 s3 s4 s5 s6 s7 : Tok) (n : Nat) : Obj := tupO [.str (hostL d.host) s0, .str (wordL (d.fig 0)) s1, .str (wordL (d.fig 1)) s2, .str (wordL (d.fig 2)) s3, .str (turnL (d.fig 0)) s4, .str (turnL (d.fig 1)) s5, .str (turnL (d.fig 2)) s6, .int (d.slash : Int) s7] n
/-- a row among the objects -/
inductive RowIn (objs : List (Addr × Obj)) (r : Addr) (d : Adr) : Prop
  | mk (s0 : Tok) (s1 : Tok) (s2 : Tok) (s3 : Tok) (s4 : Tok) (s5 : Tok) (s6 : Tok) (s7 : Tok) (n : Nat) (q1 : (r, rowO d s0 s1 s2 s3 s4 s5 s6 s7 n) ∈ objs)
inductive UpIn (objs : List (Addr × Obj)) (u : Addr) (d : Adr) : Prop
  | mk (u0 : Tok) (u1 : Tok) (n : Nat) (q1 : (u, tupO [.str (hostL d.host) u0, .str (pathL d.figs d.slash) u1] n) ∈ objs)
inductive ThingIn (objs : List (Addr × Obj)) (v : Value) (d : Adr) : Prop
  | mk (t : Addr) (row : Addr) (up : Addr) (t0 : Tok) (t1 : Tok) (n : Nat) (q1 : v = .ref t) (q2 : (t, tupO [.ref row, .ref up, .int (d.one : Int) t0, .int (d.two : Int) t1] n) ∈ objs) (q3 : RowIn objs row d) (q4 : UpIn objs up d)
theorem RowIn.mono {o1 o2 : List (Addr × Obj)} {r : Addr} {d : Adr} (h : ∀ p ∈ o1, p ∈ o2) (x : RowIn o1 r d) : RowIn o2 r d := let ⟨a, b, c, e, f, g, i, j, k, m⟩ := x; ⟨a, b, c, e, f, g, i, j, k, h _ m⟩
theorem UpIn.mono {o1 o2 : List (Addr × Obj)} {r : Addr} {d : Adr} (h : ∀ p ∈ o1, p ∈ o2) (x : UpIn o1 r d) : UpIn o2 r d := let ⟨a, b, c, m⟩ := x; ⟨a, b, c, h _ m⟩
theorem ThingIn.mono {o1 o2 : List (Addr × Obj)} {v : Value} {d : Adr} (h : ∀ p ∈ o1, p ∈ o2) (x : ThingIn o1 v d) : ThingIn o2 v d := let ⟨a, b, c, e, f, g, i, j, k, l⟩ := x; ⟨a, b, c, e, f, g, i, h _ j, k.mono h, l.mono h⟩
/-- which of the law's three walks -/
inductive Kind where
  | fst
  | snd
  | bck
def Kind.val : Kind → Adr → Adr → Int
  | .fst, d, e => sgn d.one e.one
  | .snd, d, e => sgn d.two e.two
  | .bck, d, e => - sgn d.one e.one
def Kind.cols : Kind → Int × Int × Int
  | .fst => (1, 2, 3)
  | .snd => (4, 5, 6)
  | .bck => (1, 2, 3)
def Kind.dirs : Kind → Int × Int
  | .fst => (1, 1)
  | .snd => (-1, 1)
  | .bck => (-1, -1)
/-- a walk's select list among the objects -/
inductive SelIn (objs : List (Addr × Obj)) (c : Addr) (κ : Kind) : Prop
  | mk (p0 : Addr) (p1 : Addr) (p2 : Addr) (p3 : Addr) (p4 : Addr) (n : Nat) (n0 : Nat) (n1 : Nat) (n2 : Nat) (n3 : Nat) (n4 : Nat) (i0 : Tok) (i1 : Tok) (i2 : Tok) (i3 : Tok) (i4 : Tok) (j0 : Tok) (j1 : Tok) (j2 : Tok) (j3 : Tok) (j4 : Tok) (q1 : (c, tupO [.ref p0, .ref p1, .ref p2, .ref p3, .ref p4] n) ∈ objs) (q2 : (p0, tupO [.int 0 i0, .int κ.dirs.1 j0] n0) ∈ objs) (q3 : (p1, tupO [.int κ.cols.1 i1, .int κ.dirs.1 j1] n1) ∈ objs) (q4 : (p2, tupO [.int κ.cols.2.1 i2, .int κ.dirs.1 j2] n2) ∈ objs) (q5 : (p3, tupO [.int κ.cols.2.2 i3, .int κ.dirs.1 j3] n3) ∈ objs) (q6 : (p4, tupO [.int 7 i4, .int κ.dirs.2 j4] n4) ∈ objs)
theorem SelIn.mono {o1 o2 : List (Addr × Obj)} {c : Addr} {κ : Kind} (h : ∀ p ∈ o1, p ∈ o2) (x : SelIn o1 c κ) : SelIn o2 c κ := by
  obtain ⟨p0, p1, p2, p3, p4, n, n0, n1, n2, n3, n4, i0, i1, i2, i3, i4, j0, j1, j2, j3, j4, a, b, c, d, e, f⟩ := x
  exact ⟨p0, p1, p2, p3, p4, n, n0, n1, n2, n3, n4, i0, i1, i2, i3, i4, j0, j1, j2, j3, j4, h _ a, h _ b, h _ c, h _ d, h _ e, h _ f⟩
theorem SelIn.up {o1 o2 : List (Addr × Obj)} {c : Addr} {κ : Kind} (x : SelIn o1 c κ) (h : ∀ p ∈ o1, p ∈ o2) : SelIn o2 c κ := x.mono h
theorem RowIn.up {o1 o2 : List (Addr × Obj)} {r : Addr} {d : Adr} (x : RowIn o1 r d) (h : ∀ p ∈ o1, p ∈ o2) : RowIn o2 r d := x.mono h
theorem UpIn.up {o1 o2 : List (Addr × Obj)} {r : Addr} {d : Adr} (x : UpIn o1 r d) (h : ∀ p ∈ o1, p ∈ o2) : UpIn o2 r d := x.mono h
/-- a comparer's own dict -/
abbrev cmpD (hs : Int) (ky : Tok) (c : Addr) (n : Nat) : Obj := dictOf [⟨hs, .str (Str.ofString "comp_select_list") ky, .ref c⟩] n
theorem all_mem {objs : List (Addr × Obj)} : ∀ {l : List (Addr × Obj)}, SubL l objs → ∀ p ∈ l, p ∈ objs := fun h => SubL.mem h
/-- compare, of any of the three walks -/
theorem cmpK {prog : Program} {w : World} {dp un : Nat} {gd : Option (List Code)} {fr : Option (List Env)} {h₀ : Heap} {s : Shared} {Q E : Value → Shared → Prop} {objs : List (Addr × Obj)}
    {κ : Kind} {x dx c l r : Addr} {hs : Int} {ky : Tok} {dn : Nat} {d e : Adr}
    (am : Amb w h₀) (k₀ : Kp h₀ s.heap) (hdp : dp < recursionLimit) (O : Own h₀ s.heap objs) (hx : (x, instObj 95 dx) ∈ objs) (hdx : (dx, cmpD hs ky c dn) ∈ objs) (hc : SelIn objs c κ)
    (hl : RowIn objs l d) (hr : RowIn objs r e) (kd : d.Ok) (ke : e.Ok)
    (hret : ∀ t h' tk', Kp s.heap h' → Q (.int (κ.val d e) t) { s with heap := h', toks := tk' }) :
    codeAny (model prog w) (Ar dp un fr gd) (.call (.ref 92) ⟨[.ref x, .ref l, .ref r], []⟩) (RV Q E) s := by
  obtain ⟨p0, p1, p2, p3, p4, n, n0, n1, n2, n3, n4, i0, i1, i2, i3, i4, j0, j1, j2, j3, j4, m0, m1, m2, m3, m4, m5⟩ := hc
  obtain ⟨s0, s1, s2, s3, s4, s5, s6, s7, nl, ml⟩ := hl
  obtain ⟨t0, t1, t2, t3, t4, t5, t6, t7, nr, mr⟩ := hr
  have S : SubL [(x, instObj 95 dx), (dx, dictOf [⟨hs, .str (Str.ofString "comp_select_list") ky, .ref c⟩] dn), (c, tupO [.ref p0, .ref p1, .ref p2, .ref p3, .ref p4] n)
      , (p0, tupO [.int 0 i0, .int κ.dirs.1 j0] n0), (p1, tupO [.int κ.cols.1 i1, .int κ.dirs.1 j1] n1), (p2, tupO [.int κ.cols.2.1 i2, .int κ.dirs.1 j2] n2), (p3, tupO [.int κ.cols.2.2 i3, .int κ.dirs.1 j3] n3), (p4, tupO [.int 7 i4, .int κ.dirs.2 j4] n4)
      , (l, rowO d s0 s1 s2 s3 s4 s5 s6 s7 nl), (r, rowO e t0 t1 t2 t3 t4 t5 t6 t7 nr)] objs := ⟨hx, hdx, m0, m1, m2, m3, m4, m5, ml, mr, trivial⟩
  have N := O.sub (all_mem S)
  cases κ with
  | fst =>
    refine cmpG am k₀ hdp N (by decide) (by decide) (by decide) (by decide) (by decide) (by decide) (by decide) (by decide) (by decide) (by decide) rfl rfl rfl rfl rfl rfl rfl rfl rfl rfl rfl rfl fun k t h' tk' e1 hk => ?_
    have e2 : k = 1 * sgn d.one e.one := e1.trans (cmp_first kd ke 1)
    rw [e2, Int.one_mul]
    exact hret t h' tk' hk
  | bck =>
    refine cmpG am k₀ hdp N (by decide) (by decide) (by decide) (by decide) (by decide) (by decide) (by decide) (by decide) (by decide) (by decide) rfl rfl rfl rfl rfl rfl rfl rfl rfl rfl rfl rfl fun k t h' tk' e1 hk => ?_
    have e2 : k = -1 * sgn d.one e.one := e1.trans (cmp_first kd ke (-1))
    rw [e2, Int.neg_one_mul]
    exact hret t h' tk' hk
  | snd =>
    refine cmpG am k₀ hdp N (by decide) (by decide) (by decide) (by decide) (by decide) (by decide) (by decide) (by decide) (by decide) (by decide) rfl rfl rfl rfl rfl rfl rfl rfl rfl rfl rfl rfl fun k t h' tk' e1 hk => ?_
    have e2 : k = sgn d.two e.two := e1.trans (cmp_second kd ke)
    rw [e2]
    exact hret t h' tk' hk
/-- is_suburi, of two addresses -/
theorem subK {prog : Program} {w : World} {dp un : Nat} {gd : Option (List Code)} {fr : Option (List Env)} {h₀ : Heap} {s : Shared} {Q E : Value → Shared → Prop} {objs : List (Addr × Obj)}
    {x dx l r : Addr} {es : List DictEntry} {dn : Nat} {d e : Adr}
    (am : Amb w h₀) (k₀ : Kp h₀ s.heap) (hdp : dp < recursionLimit) (hun : un + 100 < cLine) (O : Own h₀ s.heap objs) (hx : (x, instObj 67 dx) ∈ objs) (hdx : (dx, dictOf es dn) ∈ objs)
    (hl : UpIn objs l d) (hr : UpIn objs r e) (kd : d.Ok) (ke : e.Ok)
    (hret : ∀ h' tk', Kp s.heap h' → Q (.bool (decide (d.one ≤ e.one) && decide (d.two ≤ e.two))) { s with heap := h', toks := tk' }) :
    codeAny (model prog w) (Ar dp un fr gd) (.call (.ref 64) ⟨[.ref x, .ref l, .ref r], []⟩) (RV Q E) s := by
  obtain ⟨s0, s1, nl, ml⟩ := hl
  obtain ⟨t0, t1, nr, mr⟩ := hr
  have S : SubL [(x, instObj 67 dx), (dx, dictOf es dn), (l, tupO [.str (hostL d.host) s0, .str (pathL d.figs d.slash) s1] nl), (r, tupO [.str (hostL e.host) t0, .str (pathL e.figs e.slash) t1] nr)] objs := ⟨hx, hdx, ml, mr, trivial⟩
  have N := O.sub (all_mem S)
  refine subA am k₀ hdp hun (pathL_len kd) (shapedS (hostL_ok _) (pathL_ok _ _)) (shapedS (hostL_ok _) (pathL_ok _ _)) N fun k h' tk' e1 hk => ?_
  rw [e1, subB_law kd ke]
  exact hret h' tk' hk
theorem Adr.Ok.one_lt {d : Adr} (k : d.Ok) : d.one < 500 := by
  have a0 := k.fig 0; have a1 := k.fig 1; have a2 := k.fig 2; have a3 := k.slash; have a4 := k.host
  unfold Adr.one; omega
theorem tf_lt {f : Nat} (h : f < 5) : tf f < 5 := by unfold tf; split <;> omega
theorem Adr.Ok.two_lt {d : Adr} (k : d.Ok) : d.two < 500 := by
  have a0 := tf_lt (k.fig 0); have a1 := tf_lt (k.fig 1); have a2 := tf_lt (k.fig 2); have a3 := k.slash; have a4 := k.host
  unfold Adr.two; omega
/-- _law_sign, of a difference of two numbers -/
theorem sgnK {prog : Program} {w : World} {dp un : Nat} {gd : Option (List Code)} {fr : Option (List Env)} {h₀ : Heap} {s : Shared} {Q E : Value → Shared → Prop} {a b : Nat} {t : Tok}
    (am : Amb w h₀) (k₀ : Kp h₀ s.heap) (hdp : dp < recursionLimit) (hun : un + 100 < cLine) (h1 : a < 500) (h2 : b < 500)
    (hret : ∀ t h' tk', Kp s.heap h' → Q (.int (sgn a b) t) { s with heap := h', toks := tk' }) :
    wpAny (model prog w) (Ar dp un fr gd) (call (.ref 123) [.int ((a : Int) - (b : Int)) t]) Q E s := by
  refine sgnA am k₀ hdp hun (by omega) (by omega) fun k t h' tk' e hk => ?_
  have : k = sgn a b := by
    rw [e]; unfold sgn
    by_cases q1 : a < b
    · rw [if_pos (by omega), if_pos q1]
    · rw [if_neg (by omega), if_neg q1]
      by_cases q2 : b < a
      · rw [if_pos (by omega), if_pos q2]
      · rw [if_neg (by omega), if_neg q2]
  rw [this]
  exact hret t h' tk' hk
/-- the manager's own dict -/
abbrev mgrD (hs : Int) (ky : Tok) (c : Addr) (n : Nat) : Obj := dictOf [⟨hs, .str (Str.ofString "passwd") ky, .ref c⟩] n
/-- item by item -/
inductive All2 {α β : Type} (R : α → β → Prop) : List α → List β → Prop
  | nil : All2 R [] []
  | cons {a b as bs} : R a b → All2 R as bs → All2 R (a :: as) (b :: bs)
namespace All2
variable {α β : Type} {R S : α → β → Prop}
theorem len {as : List α} {bs : List β} (h : All2 R as bs) : as.length = bs.length := by induction h with
  | nil => rfl
  | cons _ _ ih => simp [ih]
theorem mono {as : List α} {bs : List β} (k : ∀ a b, R a b → S a b) (h : All2 R as bs) : All2 S as bs := by induction h with
  | nil => exact .nil
  | cons x _ ih => exact .cons (k _ _ x) ih
theorem app {as as' : List α} {bs bs' : List β} (h : All2 R as bs) (h' : All2 R as' bs') : All2 R (as ++ as') (bs ++ bs') := by induction h with
  | nil => exact h'
  | cons x _ ih => exact .cons x ih
theorem snoc {as : List α} {bs : List β} {a : α} {b : β} (h : All2 R as bs) (x : R a b) : All2 R (as ++ [a]) (bs ++ [b]) := h.app (.cons x .nil)
theorem take {as : List α} {bs : List β} (h : All2 R as bs) : ∀ k, All2 R (as.take k) (bs.take k) := by induction h with
  | nil => intro k; simpa using All2.nil
  | cons x _ ih => intro k; cases k with
    | zero => exact .nil
    | succ k => exact .cons x (ih k)
theorem drop {as : List α} {bs : List β} (h : All2 R as bs) : ∀ k, All2 R (as.drop k) (bs.drop k) := by induction h with
  | nil => intro k; simpa using All2.nil
  | cons x r ih => intro k; cases k with
    | zero => exact .cons x r
    | succ k => exact ih k
theorem rev {as : List α} {bs : List β} (h : All2 R as bs) : All2 R as.reverse bs.reverse := by induction h with
  | nil => exact .nil
  | cons x _ ih => rw [List.reverse_cons, List.reverse_cons]; exact ih.snoc x
theorem get {as : List α} {bs : List β} (h : All2 R as bs) : ∀ {i : Nat} {a : α}, as[i]? = some a → ∃ b, bs[i]? = some b ∧ R a b := by induction h with
  | nil => intro i a e; simp at e
  | cons x r ih => intro i a e; cases i with
    | zero => simp at e; subst e; exact ⟨_, rfl, x⟩
    | succ i => simp at e; obtain ⟨b, e1, e2⟩ := ih e; exact ⟨b, by simpa using e1, e2⟩
theorem getR {as : List α} {bs : List β} (h : All2 R as bs) : ∀ {i : Nat} {b : β}, bs[i]? = some b → ∃ a, as[i]? = some a ∧ R a b := by induction h with
  | nil => intro i a e; simp at e
  | cons x r ih => intro i a e; cases i with
    | zero => simp at e; subst e; exact ⟨_, rfl, x⟩
    | succ i => simp at e; obtain ⟨b, e1, e2⟩ := ih e; exact ⟨b, by simpa using e1, e2⟩
theorem set {as : List α} {bs : List β} (h : All2 R as bs) {a : α} {b : β} (x : R a b) : ∀ i, All2 R (as.set i a) (bs.set i b) := by induction h with
  | nil => intro i; simpa using All2.nil
  | cons y r ih => intro i; cases i with
    | zero => exact .cons x r
    | succ i => exact .cons y (ih i)
end All2
/-- all things of a list among the objects -/
abbrev ThingsIn (objs : List (Addr × Obj)) (its : List Value) (ds : List Adr) : Prop := All2 (ThingIn objs) its ds
theorem ThingsIn.at {objs : List (Addr × Obj)} {its : List Value} {ds : List Adr} (h : ThingsIn objs its ds) {i : Nat} {v : Value} (hv : its[i]? = some v) : ∃ d, ds[i]? = some d ∧ d ∈ ds ∧ ThingIn objs v d := by
  obtain ⟨d, e, r⟩ := All2.get h hv
  exact ⟨d, e, List.mem_of_getElem? e, r⟩
end Mine
end PWP
theorem Mine.rstWP : True := by
  w_top off
  k_with_none
  first | (walk1; fail "x") | exact True.intro
section PPD
open PySem
namespace Mine
theorem snoc_ind {α : Type} {P : List α → Prop} (h0 : P []) (h1 : ∀ l x, P l → P (l ++ [x])) (l : List α) : P l := by
  have : ∀ r : List α, P r.reverse := by
    intro r
    induction r with
    | nil => exact h0
    | cons x r ih => rw [List.reverse_cons]; exact h1 _ _ ih
  have q := this l.reverse
  rwa [List.reverse_reverse] at q
/-- where x goes, from place k down -/
def posA (f : Adr → Adr → Int) (x : Adr) (l : List Adr) : Nat → Nat
  | 0 => 0
  | k + 1 => match l[k]? with
    | some y => if f x y < 0 then posA f x l k else k + 1
    | none => k + 1
def insA (f : Adr → Adr → Int) (l : List Adr) (x : Adr) : List Adr := l.take (posA f x l l.length) ++ x :: l.drop (posA f x l l.length)
def lineA (f : Adr → Adr → Int) (ds : List Adr) : List Adr := ds.foldl (insA f) []
theorem posA_le (f : Adr → Adr → Int) (x : Adr) (l : List Adr) : ∀ k, posA f x l k ≤ k
  | 0 => Nat.le_refl _
  | k + 1 => by
    unfold posA
    split
    · split
      · exact Nat.le_succ_of_le (posA_le f x l k)
      · exact Nat.le_refl _
    · exact Nat.le_refl _
theorem insA_len (f : Adr → Adr → Int) (l : List Adr) (x : Adr) : (insA f l x).length = l.length + 1 := by
  have := posA_le f x l l.length
  unfold insA
  rw [List.length_append, List.length_cons, List.length_take, List.length_drop]
  omega
theorem lineA_snoc (f : Adr → Adr → Int) (ds : List Adr) (x : Adr) : lineA f (ds ++ [x]) = insA f (lineA f ds) x := by
  unfold lineA; rw [List.foldl_append]; rfl
theorem lineA_len (f : Adr → Adr → Int) (ds : List Adr) : (lineA f ds).length = ds.length := by
  refine snoc_ind (P := fun ds => (lineA f ds).length = ds.length) rfl (fun l x ih => ?_) ds
  rw [lineA_snoc, insA_len, ih, List.length_append]; rfl
theorem insA_mem {f : Adr → Adr → Int} {l : List Adr} {x y : Adr} : y ∈ insA f l x ↔ y = x ∨ y ∈ l := by
  unfold insA
  have e := List.take_append_drop (posA f x l l.length) l
  generalize posA f x l l.length = p at *
  constructor
  · intro h
    rcases List.mem_append.mp h with h | h
    · exact .inr (List.mem_of_mem_take h)
    · rcases List.mem_cons.mp h with h | h
      · exact .inl h
      · exact .inr (List.mem_of_mem_drop h)
  · rintro (rfl | h)
    · simp
    · rw [← e] at h
      rcases List.mem_append.mp h with h | h
      · exact List.mem_append.mpr (.inl h)
      · exact List.mem_append.mpr (.inr (.tail _ h))
theorem lineA_mem {f : Adr → Adr → Int} {ds : List Adr} {y : Adr} : y ∈ lineA f ds ↔ y ∈ ds := by
  refine snoc_ind (P := fun ds => y ∈ lineA f ds ↔ y ∈ ds) (by simp [lineA]) (fun l x ih => ?_) ds
  rw [lineA_snoc, insA_mem, ih]; simp [or_comm]
/-- the places of a row that stand behind x -/
def behA (f : Adr → Adr → Int) (x : Adr) : Nat → List Adr → List Nat
  | _, [] => []
  | k, y :: r => if f x y < 0 then k :: behA f x (k + 1) r else behA f x (k + 1) r
theorem behA_snoc (f : Adr → Adr → Int) (x y : Adr) : ∀ (l : List Adr) (k : Nat), behA f x k (l ++ [y]) = behA f x k l ++ (if f x y < 0 then [k + l.length] else [])
  | [], k => by simp [behA]
  | z :: r, k => by
    have ih := behA_snoc f x y r (k + 1)
    have e : k + 1 + r.length = k + (z :: r).length := by simp; omega
    rw [e] at ih
    simp only [List.cons_append, behA, ih]
    split <;> simp
theorem behA_lt (f : Adr → Adr → Int) (x : Adr) : ∀ (l : List Adr) (k : Nat), ∀ j ∈ behA f x k l, k ≤ j ∧ j < k + l.length
  | [], k, j, h => by simp [behA] at h
  | z :: r, k, j, h => by
    have ih := behA_lt f x r (k + 1) j
    unfold behA at h
    simp only [List.length_cons]
    split at h
    · rcases List.mem_cons.mp h with rfl | h
      · omega
      · have := ih h; omega
    · have := ih h; omega
/-- laying x into the rows -/
def layA (f : Adr → Adr → Int) : Adr → List (List Adr) → List (List Adr)
  | x, [] => [[x]]
  | x, p :: ps => match behA f x 0 p with
    | [] => (p ++ [x]) :: ps
    | j :: _ => p.set j x :: layA f (p.getD j x) ps
/-- the heights of those that d covers, of what is told -/
def belA (d : Adr) (t : List (Nat × Adr)) : List Nat := (t.filter fun p => decide (d.one ≤ p.2.one) && decide (d.two ≤ p.2.two)).map (·.1)
def hgtA (d : Adr) (t : List (Nat × Adr)) : Nat := 1 + (belA d t).foldl max 0
def toldA (l : List Adr) : List (Nat × Adr) := l.foldl (fun t d => t ++ [(hgtA d t, d)]) []
theorem toldA_snoc (l : List Adr) (d : Adr) : toldA (l ++ [d]) = toldA l ++ [(hgtA d (toldA l), d)] := by
  unfold toldA; rw [List.foldl_append]; rfl
theorem toldA_len (l : List Adr) : (toldA l).length = l.length := by
  refine snoc_ind (P := fun l => (toldA l).length = l.length) rfl (fun l x ih => ?_) l
  rw [toldA_snoc, List.length_append, List.length_append, ih]; rfl
theorem toldA_adr (l : List Adr) : (toldA l).map (·.2) = l := by
  refine snoc_ind (P := fun l => (toldA l).map (·.2) = l) rfl (fun l x ih => ?_) l
  rw [toldA_snoc, List.map_append, ih]; rfl
theorem belA_snoc (d : Adr) (t : List (Nat × Adr)) (p : Nat × Adr) : belA d (t ++ [p]) = belA d t ++ (if (decide (d.one ≤ p.2.one) && decide (d.two ≤ p.2.two)) = true then [p.1] else []) := by
  unfold belA
  rw [List.filter_append, List.map_append]
  congr 1
  simp only [List.filter_cons, List.filter_nil]
  split <;> rfl
theorem foldl_max (l : List Nat) : ∀ a, (∀ x ∈ l, x ≤ l.foldl max a) ∧ a ≤ l.foldl max a ∧ (l.foldl max a = a ∨ l.foldl max a ∈ l) := by
  induction l with
  | nil => intro a; simp
  | cons y r ih =>
    intro a
    obtain ⟨h1, h2, h3⟩ := ih (max a y)
    refine ⟨fun x hx => ?_, Nat.le_trans (Nat.le_max_left _ _) h2, ?_⟩
    · rcases List.mem_cons.mp hx with rfl | hx
      · exact Nat.le_trans (Nat.le_max_right _ _) h2
      · exact h1 x hx
    · show List.foldl max (max a y) r = a ∨ List.foldl max (max a y) r ∈ y :: r
      rcases h3 with h3 | h3
      · rw [h3]
        rcases Nat.le_total a y with h | h
        · right; rw [Nat.max_eq_right h]; exact .head _
        · left; exact Nat.max_eq_left h
      · exact .inr (.tail _ h3)
/-- the greatest, as a list of ints tells it -/
theorem max_ints {l : List Nat} {M : Int} (h : M ∈ (0 : Int) :: l.map fun (k : Nat) => (k : Int)) (hb : ∀ a, a ∈ (0 : Int) :: l.map (fun (k : Nat) => (k : Int)) → a ≤ M) : M = ((l.foldl max 0 : Nat) : Int) := by
  obtain ⟨h1, h2, h3⟩ := foldl_max l 0
  apply Int.le_antisymm
  · rcases List.mem_cons.mp h with rfl | h
    · exact Int.natCast_nonneg _
    · obtain ⟨k, hk, rfl⟩ := List.mem_map.mp h
      exact Int.ofNat_le.mpr (h1 k hk)
  · rcases h3 with h3 | h3
    · rw [h3]; exact hb 0 (.head _)
    · exact hb _ (.tail _ (List.mem_map_of_mem h3))
/-- the next address that a number draws -/
def nxtA (dr : List Adr) (k : Nat) : Adr :=
  let d := dr.getD (k % 8 % dr.length) ⟨0, [], 0⟩
  let r := k / 8
  let o := if r / 8 % 4 = 3 then (⟨d.host, d.figs, 1 - d.slash⟩ : Adr) else ⟨d.host, d.figs.take 2 ++ [r % 4 + 1], r / 4 % 2⟩
  if r / 32 % 8 = 7 then ⟨1 - o.host, o.figs, o.slash⟩ else o
def drwA (l : List Nat) : List Adr := l.foldl (fun dr k => if nxtA dr k ∈ dr then dr else dr ++ [nxtA dr k]) [⟨0, [], 0⟩]
theorem drwA_snoc (l : List Nat) (k : Nat) : drwA (l ++ [k]) = if nxtA (drwA l) k ∈ drwA l then drwA l else drwA l ++ [nxtA (drwA l) k] := by
  unfold drwA; rw [List.foldl_append]; rfl
theorem nxtA_ok {dr : List Adr} (h : ∀ d ∈ dr, d.Ok) (k : Nat) : (nxtA dr k).Ok := by
  have hd : (dr.getD (k % 8 % dr.length) ⟨0, [], 0⟩).Ok := by
    rw [List.getD_eq_getElem?_getD]
    cases q : dr[k % 8 % dr.length]? with
    | none => exact ⟨by decide, by decide, by simp, by simp⟩
    | some d => exact h d (List.mem_of_getElem? q)
  unfold nxtA
  generalize dr.getD (k % 8 % dr.length) ⟨0, [], 0⟩ = d at *
  obtain ⟨h1, h2, h3, h4⟩ := hd
  have a : (⟨d.host, d.figs, 1 - d.slash⟩ : Adr).Ok := ⟨h1, by dsimp only; omega, h3, h4⟩
  have b : (⟨d.host, d.figs.take 2 ++ [k / 8 % 4 + 1], k / 8 / 4 % 2⟩ : Adr).Ok := by
    refine ⟨h1, by dsimp only; omega, ?_, ?_⟩
    · dsimp only; rw [List.length_append, List.length_take, List.length_singleton]; omega
    · dsimp only
      intro f hf
      rcases List.mem_append.mp hf with hf | hf
      · exact h4 f (List.mem_of_mem_take hf)
      · rw [List.mem_singleton.mp hf]; omega
  have c : (if k / 8 / 8 % 4 = 3 then (⟨d.host, d.figs, 1 - d.slash⟩ : Adr) else ⟨d.host, d.figs.take 2 ++ [k / 8 % 4 + 1], k / 8 / 4 % 2⟩).Ok := by split <;> assumption
  dsimp only
  generalize (if k / 8 / 8 % 4 = 3 then (⟨d.host, d.figs, 1 - d.slash⟩ : Adr) else ⟨d.host, d.figs.take 2 ++ [k / 8 % 4 + 1], k / 8 / 4 % 2⟩) = o at *
  split
  · exact ⟨by dsimp only; omega, c.slash, c.len, c.figs⟩
  · exact c
theorem drwA_facts (l : List Nat) : (∀ d ∈ drwA l, d.Ok) ∧ (drwA l).Nodup ∧ 1 ≤ (drwA l).length ∧ (drwA l).length ≤ l.length + 1 := by
  refine snoc_ind (P := fun l => (∀ d ∈ drwA l, d.Ok) ∧ (drwA l).Nodup ∧ 1 ≤ (drwA l).length ∧ (drwA l).length ≤ l.length + 1) ?_ (fun l x ih => ?_) l
  · refine ⟨fun d hd => ?_, by simp [drwA], Nat.le_refl _, Nat.le_refl _⟩
    rw [List.mem_singleton.mp hd]; exact ⟨by decide, by decide, by simp, by simp⟩
  · obtain ⟨h1, h2, h3, h4⟩ := ih
    rw [drwA_snoc]
    split
    · exact ⟨h1, h2, h3, by rw [List.length_append]; omega⟩
    · rename_i hn
      refine ⟨fun d hd => ?_, ?_, by rw [List.length_append]; omega, by rw [List.length_append, List.length_append]; simp; omega⟩
      · rcases List.mem_append.mp hd with hd | hd
        · exact h1 d hd
        · rw [List.mem_singleton.mp hd]; exact nxtA_ok h1 x
      · rw [List.nodup_append]
        refine ⟨h2, by simp, fun a ha b hb => ?_⟩
        rw [List.mem_singleton.mp hb]
        exact fun q => hn (q ▸ ha)
end Mine
end PPD
theorem Mine.rstPD : True := by
  w_top off
  k_with_none
  first | (walk1; fail "x") | exact True.intro
section PWR
open PySem PySem.W PyProof.Rows PySem.Calls PySem.Spec
set_option maxRecDepth 100000
namespace Mine
section
variable {prog : Program} {w : World} {A : Around} {E : Value → Shared → Prop} {s : Shared} {h₀ : Heap} {L D : Addr} {m : Str → Option Value} {news news' : List (Addr × Obj)} {its : List Value} {n : Nat}
theorem len_at {Q : Value → Shared → Prop} (N : News h₀ L s.heap news) (hm : (D, listOf its.toArray n) ∈ news) (hz : its.length ≤ 16384) (h : ∀ t tk, Q (.int (its.length : Int) t) { s with toks := tk }) :
    wpAny (model prog w) A (call (.builtin "len") [.ref D]) Q E s := kun_lenL (N.isList hm) (k := (its.length : Int)) (by rw [List.size_toArray]) (by omega) (h _ _)
theorem item_at {value slice : PySem.Expr} {f : Int} {u : Tok} {v : Value} {Q : Value → Shared → Prop} (N : News h₀ L s.heap news) (hm : (D, listOf its.toArray n) ∈ news) (h0 : 0 ≤ f) (hf : f < 2 ^ 63) (hx : its[f.toNat]? = some v) (h : Q v s)
    (hs : subscripted slice false (.ref D) (.int f u) = operate [.ref D, .int f u] (getItem (.ref D) (.int f u))) : wpAny (model prog w) A (subscriptTail value slice (.ref D) (.int f u)) Q E s :=
  tail_any (N.isList hm).typeIs slot_list_getitem.lookup (wpAny_getItem_list (N.isList hm) h0 hf (by simpa using hx) h) hs
theorem idx_eq {α : Type} {l : List α} {k j : Nat} {v : α} (h : l[k]? = some v) (e : j = k) : l[j]? = some v := e ▸ h
theorem insert_at {x : Int} {u : Tok} {y : Value} {Q : Value → Shared → Prop} (F : Fr h₀ L s.heap m) (N : News h₀ L s.heap news) (h0 : 0 ≤ x) (hle : x ≤ (its.length : Int)) (hz : its.length ≤ 16384)
    (U : Upd D (listOf its.toArray n) (listOf (its.take x.toNat ++ y :: its.drop x.toNat).toArray (n + 1)) news news') (h : ∀ h', Fr h₀ L h' m → News h₀ L h' news' → Q .none { s with heap := h' }) :
    wpAny (model prog w) A (call (.builtin "list.insert") [.ref D, .int x u, y]) Q E s := by
  refine kl_insert F N ?_ ?_ U (by simp only [sizeLine_eq]; omega) h
  · unfold Builtin.List.listFitsIndex; simp; omega
  · show kl_ins its x y = _
    have e1 : ¬ (x < 0) := by omega
    have e2 : min x.toNat its.length = x.toNat := by omega
    unfold kl_ins
    rw [if_neg e1, e2]
theorem append_at' {y : Value} {Q : Value → Shared → Prop} (F : Fr h₀ L s.heap m) (N : News h₀ L s.heap news) (hz : its.length ≤ 16384)
    (U : Upd D (listOf its.toArray n) (listOf (its ++ [y]).toArray (n + 1)) news news') (h : ∀ h', Fr h₀ L h' m → News h₀ L h' news' → Q .none { s with heap := h' }) :
    wpAny (model prog w) A (call (.builtin "list.append") [.ref D, y]) Q E s := by
  obtain ⟨pre, post, rfl, rfl, a, b⟩ := U.split
  have z := N (D, listOf its.toArray n) (List.mem_append.mpr (.inr (.head _)))
  refine append_at (hsz := by rw [List.size_toArray, sizeLine_eq]; omega) z.1 fun h' hs hD => ?_
  refine h h' (F.change hs z.2.1 z.2.2) (news_set N a b hs ?_)
  rw [hD]
  simp
theorem set_at {k : Int} {u : Tok} {y : Value} {Q : Unit → Shared → Prop} (F : Fr h₀ L s.heap m) (N : News h₀ L s.heap news) (h0 : 0 ≤ k) (hlt : k < (its.length : Int)) (hz : its.length ≤ 16384)
    (U : Upd D (listOf its.toArray n) (listOf (its.set k.toNat y).toArray n) news news') (h : ∀ h', Fr h₀ L h' m → News h₀ L h' news' → Q () { s with heap := h' }) :
    wpAny (model prog w) A (setItem (.ref D) (.int k u) y) Q E s := by
  obtain ⟨pre, post, rfl, rfl, a, b⟩ := U.split
  have z := N (D, listOf its.toArray n) (List.mem_append.mpr (.inr (.head _)))
  refine ki_setAt z.1 h0 (by omega) (by rw [List.size_toArray]; omega) (h _ (F.change (Heap.SameBut.update ..) z.2.1 z.2.2) (ki_turn _ N a b ?_ ?_))
  · apply Array.toList_inj.mp
    simp
  · rw [if_pos (by simp)]
/-- a while, by a number that falls -/
theorem while_W {test : PySem.Expr} {body : List Stmt} {pos : Pos} {env : Env} {Q : Flow → Shared → Prop} (I : Nat → Shared → Prop) (n : Nat) (h0 : I n s)
    (turn : ∀ n s, I n s → wpAny (model prog w) A (isTrue test env (eval test env)) (fun b s₂ => if b = true then wpAny (model prog w) A (execs body env) (fun f s₃ => match f with
        | .ret v => Q (.ret v) s₃
        | .brk => Q .next s₃
        | _ => Hold (∃ m, m < n ∧ I m s₃)) NoE s₂ else Q .next s₂) NoE s) :
    wpAny (model prog w) A (exec (.While test body [] pos) env) Q E s := by
  refine wpAny_While (codeAny_whileLoop I (fun n s hI => ?_) n h0)
  refine wpAny_mono (turn n s hI) (fun b s₂ h₂ => ?_) fun _ _ x => x.elim
  cases b with
  | false => exact wpAny_execs_nil h₂
  | true =>
    refine wpAny_mono h₂ (fun f s₃ h₃ => ?_) fun _ _ x => x.elim
    cases f <;> exact h₃
end
end Mine
end PWR
theorem Mine.rstWR : True := by
  w_top off
  k_with_none
  first | (walk1; fail "x") | exact True.intro
section PWG
open PySem PySem.W PyProof.Rows PySem.Calls PySem.Spec
set_option maxRecDepth 100000
set_option pp.maxSteps 20000
namespace Mine
local macro_rules | `(tactic| units_room) => `(tactic| (have hcL' := cLine_is; simp only [units_in1, units_deeper, Around.mark_units, units_caller, Ar] at *; omega))
theorem regWG1 : True := by
  k_with "exec For Tuple Name cons nil" => (k_here; refine hold_ ?_)
  k_with "call ref" => (k_here; (with_reducible show wpAny _ _ (call (Value.ref 92) [Value.ref _, Value.ref _, Value.ref _] _) _ _ _); (rename Fr _ _ _ _ => kF); (rename News _ _ _ _ => kN); (rename Amb _ _ => am'); (rename Kp _ _ => kp'); k_dflt (refine wpAny_call ?_; refine' cmpK am' (Kp.trans kp' kF.keep) ?d (own_of kp' kN) ?x ?dx ?c ?l ?r ?kd ?ke ?_; (case d => assumption); (case x => k_mem); (case dx => k_mem); (case c => (refine SelIn.up (by assumption) ?_; intro _ hp; (first | ((repeat (first | (with_reducible_and_instances exact hp) | refine List.Mem.tail _ ?_)); done) | simp only [List.mem_cons, hp, or_true]))); (case l => (refine RowIn.up (by assumption) ?_; intro _ hp; (first | ((repeat (first | (with_reducible_and_instances exact hp) | refine List.Mem.tail _ ?_)); done) | simp only [List.mem_cons, hp, or_true]))); (case r => (refine RowIn.up (by assumption) ?_; intro _ hp; (first | ((repeat (first | (with_reducible_and_instances exact hp) | refine List.Mem.tail _ ?_)); done) | simp only [List.mem_cons, hp, or_true]))); (case kd => assumption); (case ke => assumption); intro _ _ _ hkp'; have _ := Fr.keeps kF hkp'; have _ := News.grown kN hkp'; clear kF kN hkp'; (try dsimp only [Kind.val])))
  k_with "call ref" => (k_here; (with_reducible show wpAny _ _ (call (Value.ref 64) [Value.ref _, Value.ref _, Value.ref _] _) _ _ _); (rename Fr _ _ _ _ => kF); (rename News _ _ _ _ => kN); (rename Amb _ _ => am'); (rename Kp _ _ => kp'); k_dflt (refine wpAny_call ?_; refine' subK am' (Kp.trans kp' kF.keep) ?d ?u (own_of kp' kN) ?x ?dx ?l ?r ?kd ?ke ?_; (case d => assumption); (case u => (have _ := cLine_is; simp only [Ar, Around.deeper] at *; omega)); (case x => k_mem); (case dx => k_mem); (case l => (refine UpIn.up (by assumption) ?_; intro _ hp; (first | ((repeat (first | (with_reducible_and_instances exact hp) | refine List.Mem.tail _ ?_)); done) | simp only [List.mem_cons, hp, or_true]))); (case r => (refine UpIn.up (by assumption) ?_; intro _ hp; (first | ((repeat (first | (with_reducible_and_instances exact hp) | refine List.Mem.tail _ ?_)); done) | simp only [List.mem_cons, hp, or_true]))); (case kd => assumption); (case ke => assumption); intro _ _ hkp'; have _ := Fr.keeps kF hkp'; have _ := News.grown kN hkp'; clear kF kN hkp'))
  k_with "call ref" => (k_here; (with_reducible show wpAny _ _ (call (Value.ref 123) _ _) _ _ _); (rename Fr _ _ _ _ => kF); (rename News _ _ _ _ => kN); (rename Amb _ _ => am'); (rename Kp _ _ => kp'); k_dflt (refine' sgnK am' (Kp.trans kp' kF.keep) ?d ?u ?h1 ?h2 ?_; (case d => assumption); (case u => (have _ := cLine_is; simp only [Ar, Around.deeper] at *; omega)); (case h1 => assumption); (case h2 => assumption); intro _ _ _ hkp'; have _ := Fr.keeps kF hkp'; have _ := News.grown kN hkp'; clear kF kN hkp'))
  k_with "execs cons" => (k_here; (with_reducible show wpAny _ _ _ _ _ (Shared.mk _ _ _ (_ + 1) _)); k_dflt (refine' norm_ ?kns ?kna ?knb ?knc ?_; (case kns => assumption); (case kna => exact rfl); (case knb => exact rfl); (case knc => exact rfl); intro tk))
  exact True.intro
set_option maxHeartbeats 4000000 in
theorem agrC {prog : Program} {w : World} {dp un : Nat} {gd : Option (List Code)} {fr : Option (List Env)} {h₀ : Heap} {s : Shared} {Q E : Value → Shared → Prop} {objs : List (Addr × Obj)}
    {D x1 x2 x3 dx1 dx2 dx3 c1 c2 : Addr} {hs1 hs2 : Int} {ky1 ky2 : Tok} {nD dn1 dn2 dn3 : Nat} {hs3 : Int} {ky3 : Tok} {pw : Addr} {its : List Value} {ds : List Adr}
    (am : Amb w h₀) (k₀ : Kp h₀ s.heap) (hdp : dp + 1 < recursionLimit) (hun : un + 200 < cLine) (O : Own h₀ s.heap objs)
    (hD : (D, listOf its.toArray nD) ∈ objs) (hx1 : (x1, instObj 95 dx1) ∈ objs) (hdx1 : (dx1, cmpD hs1 ky1 c1 dn1) ∈ objs) (hc1 : SelIn objs c1 .fst)
    (hx2 : (x2, instObj 95 dx2) ∈ objs) (hdx2 : (dx2, cmpD hs2 ky2 c2 dn2) ∈ objs) (hc2 : SelIn objs c2 .snd) (hx3 : (x3, instObj 67 dx3) ∈ objs) (hdx3 : (dx3, mgrD hs3 ky3 pw dn3) ∈ objs)
    (ht : ThingsIn objs its ds) (hok : ∀ d ∈ ds, d.Ok)
    (hret : ∀ h' tk', Kp s.heap h' → Q (.bool true) { s with heap := h', toks := tk' }) :
    wpAny (model prog w) (Ar dp un fr gd) (call (.ref 130) [.ref D, .ref x1, .ref x2, .ref x3]) Q E s := by
  have hfl : (hd.heap_39, PySem.Challenge.rw_pg0090_01) = (hd.heap_39, PySem.Challenge.rw_pg0090_01) := by k_fill; rfl
  clear hfl
  have am0 := am
  obtain ⟨X, loose, mean, mg, mb, T⟩ := am
  k_dflt (refine' enterP X T k₀ O ?k6 ?k7 (Nat.lt_of_succ_lt hdp) ?k9 ?kB ?_ ?c2 ?c3 ?c4 ?c5; (case k6 => k_is); (case k7 => k_is); (case k9 => exact BindsTo.of_eq rfl); (case c5 => decide); (case kB => exact locs rfl); (case c2 => exact rfl); (case c3 => exact rfl); (case c4 => exact rfl); k_whole)
  intro g' L' h' F' N' X' T' hl' hk' hg'
  replace F' : Fr g' L' h' (fun y => List.lookup y [(Str.ofString "manager", Value.ref x3), (Str.ofString "second", Value.ref x2), (Str.ofString "first", Value.ref x1), (Str.ofString "things", Value.ref D)]) := by with_unfolding_all exact F'
  clear hl' hg'
  show wpAny _ _ _ _ _ _
  dsimp only
  show wpAny _ _ _ _ _ _
  k_fold
  k_steps
  unfold Hold
  have hend : ∀ (h' : Heap) (tk : Nat) (m : Str → Option Value) (news : List (Addr × Obj)), Fr g' L' h' m → News g' L' h' news → (∀ p ∈ objs, p ∈ news) → LeaveP g' s.heap objs Q (.bool true) { s with heap := h', toks := tk } :=
    fun h' tk m news F N hs => leaveP_ F N hs fun k => hret _ _ k
  let ps : List (Str × Value) := [(Str.ofString "manager", Value.ref x3), (Str.ofString "second", Value.ref x2), (Str.ofString "first", Value.ref x1), (Str.ofString "things", Value.ref D)]
  refine for_N rfl (ld F' rfl ⟨g', L', D, its.toArray, _, objs, fun _ m news => news = objs ∧ PinL m ps, rfl, F', N', ⟨rfl, rfl, rfl, rfl, rfl, trivial⟩, ?_⟩) (fun _ => rfl)
  refine ⟨?_, ?_, ?_, ?_⟩
  · rintro i m news ⟨e0, _⟩ p hp
    rw [e0] at hp
    exact .inr ⟨_, (N' p hp).1⟩
  · rintro i m news h ⟨e0, _⟩ F N
    rw [e0] at N
    exact N.isList hD
  · intro i v h tk m news I oI hi hv hcls hPat F N _
    refine hide_ fun G hG => ?_
    obtain ⟨e0, e1⟩ := hPat
    rw [e0] at N
    clear e0 news
    have hv' : its[i]? = some v := by simpa using hv
    obtain ⟨d, hd, hdm, t, row, up, t0, t1, n, rfl, mt, mrow, mup⟩ := ThingsIn.at ht hv'
    have kd := hok d hdm
    have F2 := Mine.Fr.pinned F e1
    have N2 : News g' L' h ((t, tupO [.ref row, .ref up, .int (d.one : Int) t0, .int (d.two : Int) t1] n) :: (I, oI) :: (x1, instObj 95 dx1) :: (dx1, cmpD hs1 ky1 c1 dn1) :: (x2, instObj 95 dx2) :: (dx2, cmpD hs2 ky2 c2 dn2) :: (x3, instObj 67 dx3) :: (dx3, mgrD hs3 ky3 pw dn3) :: objs) := fun p hp => by
      simp only [List.mem_cons] at hp
      rcases hp with rfl | rfl | rfl | rfl | rfl | rfl | rfl | rfl | hp
      · exact N _ (.tail _ mt)
      · exact N _ (.head _)
      · exact N _ (.tail _ hx1)
      · exact N _ (.tail _ hdx1)
      · exact N _ (.tail _ hx2)
      · exact N _ (.tail _ hdx2)
      · exact N _ (.tail _ hx3)
      · exact N _ (.tail _ hdx3)
      · exact N _ (.tail _ hp)
    clear F N
    refine hG ?_
    clear hG
    show wpAny _ _ _ _ _ _
    k_fold
    k_steps
    unfold Hold
    rename Fr _ _ _ _ => F3
    rename News _ _ _ _ => N3
    refine for_N rfl (ld F3 rfl ⟨g', L', D, its.toArray, _, (t, tupO [.ref row, .ref up, .int (d.one : Int) t0, .int (d.two : Int) t1] n) :: (I, oI) :: objs, fun _ m news => news = (t, tupO [.ref row, .ref up, .int (d.one : Int) t0, .int (d.two : Int) t1] n) :: (I, oI) :: objs ∧ PinL m ((Str.ofString "two", Value.int (d.two : Int) t1) :: (Str.ofString "one", Value.int (d.one : Int) t0) :: (Str.ofString "upper", Value.ref up) :: (Str.ofString "row", Value.ref row) :: ps), rfl, F3, ?_, ⟨rfl, rfl, rfl, rfl, rfl, rfl, rfl, rfl, rfl, trivial⟩, ?_⟩) (fun _ => rfl)
    · intro p hp
      simp only [List.mem_cons] at hp
      exact N3 p (by simp only [List.mem_cons]; rcases hp with rfl | rfl | hp <;> simp [*])
    refine ⟨?_, ?_, ?_, ?_⟩
    · rintro j m news ⟨e0, _⟩ p hp
      rw [e0] at hp
      refine .inr ⟨p.2, (N3 p ?_).1⟩
      simp only [List.mem_cons] at hp ⊢
      rcases hp with rfl | rfl | hp <;> simp [*]
    · rintro j m news h ⟨e0, _⟩ F N
      rw [e0] at N
      exact N.isList (.tail _ (.tail _ hD))
    · intro j v h tk m news I2 oI2 hj hvj hcls2 hPat F N _
      refine hide_ fun G hG => ?_
      obtain ⟨e0, e1⟩ := hPat
      rw [e0] at N
      clear e0 news
      have hv2 : its[j]? = some v := by simpa using hvj
      obtain ⟨e, he, hem, u, row2, up2, u0, u1, n2, rfl, mt2, mrow2, mup2⟩ := ThingsIn.at ht hv2
      have ke := hok e hem
      have F2 := Mine.Fr.pinned F e1
      have b1 := kd.one_lt
      have b2 := kd.two_lt
      have b3 := ke.one_lt
      have b4 := ke.two_lt
      have N2 : News g' L' h ((u, tupO [.ref row2, .ref up2, .int (e.one : Int) u0, .int (e.two : Int) u1] n2) :: (I2, oI2) :: (t, tupO [.ref row, .ref up, .int (d.one : Int) t0, .int (d.two : Int) t1] n) :: (I, oI) :: (x1, instObj 95 dx1) :: (dx1, cmpD hs1 ky1 c1 dn1) :: (x2, instObj 95 dx2) :: (dx2, cmpD hs2 ky2 c2 dn2) :: (x3, instObj 67 dx3) :: (dx3, mgrD hs3 ky3 pw dn3) :: objs) := fun p hp => by
        simp only [List.mem_cons] at hp
        have tt : ∀ {q}, q ∈ objs → q ∈ (I2, oI2) :: (t, tupO [.ref row, .ref up, .int (d.one : Int) t0, .int (d.two : Int) t1] n) :: (I, oI) :: objs := fun q => .tail _ (.tail _ (.tail _ q))
        rcases hp with rfl | rfl | rfl | rfl | rfl | rfl | rfl | rfl | rfl | rfl | hp
        · exact N _ (tt mt2)
        · exact N _ (.head _)
        · exact N _ (.tail _ (.head _))
        · exact N _ (.tail _ (.tail _ (.head _)))
        · exact N _ (tt hx1)
        · exact N _ (tt hdx1)
        · exact N _ (tt hx2)
        · exact N _ (tt hdx2)
        · exact N _ (tt hx3)
        · exact N _ (tt hdx3)
        · exact N _ (tt hp)
      clear F N
      refine hG ?_
      clear hG
      show wpAny _ _ _ _ _ _
      k_fold
      k_steps
      case' _ => (rename (sgn _ _ ≠ _) => q; exact absurd rfl q)
      case' _ => (rename (sgn _ _ ≠ _) => q; exact absurd rfl q)
      case' _ => (rename_i q1 q2; exfalso; have q3 : d.one ≤ e.one := by omega
                  simp [q3] at q2)
      case' _ => (rename Fr _ _ _ _ => F4; rename News _ _ _ _ => N4; exact TurnN.intro (I := I2) (oI := oI2) _ F4 N4 (.tail _ (.head _)) (by intro p hp; simp only [List.mem_cons] at hp ⊢; rcases hp with rfl | rfl | hp <;> simp [*]) ⟨rfl, rfl, rfl, rfl, rfl, rfl, rfl, rfl, rfl, trivial⟩)
      case' _ => (rename_i q1 q2; exfalso; have q3 : ¬ d.one ≤ e.one := by omega
                  simp [q3] at q2)
      case' _ => (rename Fr _ _ _ _ => F4; rename News _ _ _ _ => N4; exact TurnN.intro (I := I2) (oI := oI2) _ F4 N4 (.tail _ (.head _)) (by intro p hp; simp only [List.mem_cons] at hp ⊢; rcases hp with rfl | rfl | hp <;> simp [*]) ⟨rfl, rfl, rfl, rfl, rfl, rfl, rfl, rfl, rfl, trivial⟩)
    · rintro h tk m news F N ⟨e0, e1⟩
      rw [e0] at N
      refine wpAny_execs_nil ?_
      show TurnN _ _ _ _ _ _ _
      exact TurnN.intro (I := I) (oI := oI) objs F N (.tail _ (.head _)) (fun p hp => .tail _ (.tail _ hp)) ⟨rfl, e1.2.2.2.2⟩
  · intro h tk m news F N hPat
    refine hide_ fun G hG => ?_
    obtain ⟨e0, e1⟩ := hPat
    rw [e0] at N
    refine hG ?_
    clear hG
    show wpAny _ _ _ _ _ _
    k_steps
    exact hend _ _ _ _ F N (fun p hp => hp)
end Mine
end PWG
theorem Mine.rstWG : True := by
  w_top off
  k_with_none
  first | (walk1; fail "x") | exact True.intro
section PWI
open PySem PySem.W PyProof.Rows PySem.Calls PySem.Spec
set_option maxRecDepth 100000
set_option pp.maxSteps 20000
namespace Mine
local macro_rules | `(tactic| units_room) => `(tactic| (have hcL' := cLine_is; simp only [units_in1, units_deeper, Around.mark_units, units_caller, Ar] at *; omega))
local macro_rules | `(tactic| k_all) => `(tactic| assumption)
theorem regWI1 : True := by
  k_with "exec For Name Name cons nil" => (k_here; refine hold_ ?_)
  k_with "exec For Name Subscript cons nil" => (k_here; refine hold_ ?_)
  k_with "exec For Tuple Name cons nil" => (k_here; refine hold_ ?_)
  k_with "exec While BoolOp cons nil" => (k_here; refine hold_ ?_)
  k_with "call ref" => (k_here; (with_reducible show wpAny _ _ (call (Value.ref 92) [Value.ref _, Value.ref _, Value.ref _] _) _ _ _); (rename Fr _ _ _ _ => kF); (rename News _ _ _ _ => kN); (rename Amb _ _ => am'); (rename Kp _ _ => kp'); k_dflt (refine wpAny_call ?_; refine' cmpK am' (Kp.trans kp' kF.keep) ?d (own_of kp' kN) ?x ?dx ?c ?l ?r ?kd ?ke ?_; (case d => assumption); (case x => k_mem); (case dx => k_mem); (case c => (refine SelIn.up (by assumption) ?_; intro _ hp; (first | ((repeat (first | (with_reducible_and_instances exact hp) | refine List.Mem.tail _ ?_)); done) | simp only [List.mem_cons, hp, or_true]))); (case l => (refine RowIn.up (by assumption) ?_; intro _ hp; (first | ((repeat (first | (with_reducible_and_instances exact hp) | refine List.Mem.tail _ ?_)); done) | simp only [List.mem_cons, hp, or_true]))); (case r => (refine RowIn.up (by assumption) ?_; intro _ hp; (first | ((repeat (first | (with_reducible_and_instances exact hp) | refine List.Mem.tail _ ?_)); done) | simp only [List.mem_cons, hp, or_true]))); (case kd => assumption); (case ke => assumption); intro _ _ _ hkp'; have _ := Fr.keeps kF hkp'; have _ := News.grown kN hkp'; clear kF kN hkp'))
  k_with "call ref" => (k_here; (with_reducible show wpAny _ _ (call (Value.ref 64) [Value.ref _, Value.ref _, Value.ref _] _) _ _ _); (rename Fr _ _ _ _ => kF); (rename News _ _ _ _ => kN); (rename Amb _ _ => am'); (rename Kp _ _ => kp'); k_dflt (refine wpAny_call ?_; refine' subK am' (Kp.trans kp' kF.keep) ?d ?u (own_of kp' kN) ?x ?dx ?l ?r ?kd ?ke ?_; (case d => assumption); (case u => (have _ := cLine_is; simp only [Ar, Around.deeper] at *; omega)); (case x => k_mem); (case dx => k_mem); (case l => (refine UpIn.up (by assumption) ?_; intro _ hp; (first | ((repeat (first | (with_reducible_and_instances exact hp) | refine List.Mem.tail _ ?_)); done) | simp only [List.mem_cons, hp, or_true]))); (case r => (refine UpIn.up (by assumption) ?_; intro _ hp; (first | ((repeat (first | (with_reducible_and_instances exact hp) | refine List.Mem.tail _ ?_)); done) | simp only [List.mem_cons, hp, or_true]))); (case kd => assumption); (case ke => assumption); intro _ _ hkp'; have _ := Fr.keeps kF hkp'; have _ := News.grown kN hkp'; clear kF kN hkp'))
  k_with "call builtin:len" => (k_here; (with_reducible show wpAny _ _ (call (Value.builtin "len") [Value.ref _] _) _ _ _); (rename News _ _ _ _ => kN); k_dflt (refine' len_at kN ?m ?z ?_; (case m => k_mem); (case z => assumption); intro _ _))
  k_with "subscriptTail" => (k_here; (with_reducible show wpAny _ _ (subscriptTail _ _ (Value.ref _) (Value.int _ _)) _ _ _); (rename News _ _ _ _ => kN); k_dflt (refine' item_at kN ?m ?h0 ?hf ?hx ?_ ?hs; (case m => k_mem); (case h0 => omega); (case hf => omega); (case hx => (refine idx_eq (by assumption) ?_; omega)); (case hs => with_unfolding_all rfl)))
  k_with "call builtin:list.insert" => (k_here; (with_reducible show wpAny _ _ (call (Value.builtin _) [Value.ref _, Value.int _ _, _] _) _ _ _); (rename Fr _ _ _ _ => kF); (rename News _ _ _ _ => kN); k_dflt (refine' insert_at kF kN ?h0 ?hl ?hz ?U ?_; (case U => k_upd); (case h0 => omega); (case hl => omega); (case hz => assumption); intro _ _ _; clear kF kN))
  k_with "call builtin:list.append" => (k_here; (with_reducible show wpAny _ _ (call (Value.builtin _) [Value.ref _, _] _) _ _ _); (rename Fr _ _ _ _ => kF); (rename News _ _ _ _ => kN); k_dflt (refine' append_at' kF kN ?hz ?U ?_; (case U => k_upd); (case hz => assumption); intro _ _ _; clear kF kN))
  k_with "subscriptTail Name Constant ref int" => (k_here; (with_reducible show wpAny _ _ (subscriptTail _ _ (Value.ref _) (Value.int _ _)) _ _ _); (rename News _ _ _ _ => kN); k_dflt (refine' item_at kN ?m ?h0 ?hf ?hx ?_ ?hs; (case m => k_mem); (case h0 => omega); (case hf => omega); (case hx => (refine idx_eq (by assumption) ?_; omega)); (case hs => with_unfolding_all rfl)))
  k_with "subscriptTail Name Name ref int" => (k_here; (with_reducible show wpAny _ _ (subscriptTail _ _ (Value.ref _) (Value.int _ _)) _ _ _); (rename News _ _ _ _ => kN); k_dflt (refine' item_at kN ?m ?h0 ?hf ?hx ?_ ?hs; (case m => k_mem); (case h0 => omega); (case hf => omega); (case hx => (refine idx_eq (by assumption) ?_; omega)); (case hs => with_unfolding_all rfl)))
  k_with "subscriptTail Name BinOp ref int" => (k_here; (with_reducible show wpAny _ _ (subscriptTail _ _ (Value.ref _) (Value.int _ _)) _ _ _); (rename News _ _ _ _ => kN); k_dflt (refine' item_at kN ?m ?h0 ?hf ?hx ?_ ?hs; (case m => k_mem); (case h0 => omega); (case hf => omega); (case hx => (refine idx_eq (by assumption) ?_; omega)); (case hs => with_unfolding_all rfl)))
  k_with "subscriptTail Name Constant ref int" => (k_here; (with_reducible show wpAny _ _ (subscriptTail _ _ (Value.ref _) (Value.int _ _)) _ _ _); (rename News _ _ _ _ => kN); k_dflt (refine' titem_at kN ?m ?h0 ?hf ?hz ?hx ?_ ?hs; (case m => k_mem); (case h0 => decide); (case hf => decide); (case hz => (simp only [List.length_cons, List.length_nil]; decide)); (case hx => rfl); (case hs => with_unfolding_all rfl)))
  k_with "subscriptTail Subscript Constant ref int" => (k_here; (with_reducible show wpAny _ _ (subscriptTail _ _ (Value.ref _) (Value.int _ _)) _ _ _); (rename News _ _ _ _ => kN); k_dflt (refine' titem_at kN ?m ?h0 ?hf ?hz ?hx ?_ ?hs; (case m => k_mem); (case h0 => decide); (case hf => decide); (case hz => (simp only [List.length_cons, List.length_nil]; decide)); (case hx => rfl); (case hs => with_unfolding_all rfl)))
  k_with "execs cons" => (k_here; (with_reducible show wpAny _ _ _ _ _ (Shared.mk _ _ _ (_ + 1) _)); k_dflt (refine' norm_ ?kns ?kna ?knb ?knc ?_; (case kns => assumption); (case kna => exact rfl); (case knb => exact rfl); (case knc => exact rfl); intro tk))
  exact True.intro
theorem allLt_at {d : Addr} {l : List (Addr × Obj)} (h : AllLt d l) : ∀ p ∈ l, p.1 < d := by
  induction l with
  | nil => intro p hp; cases hp
  | cons a r ih =>
    intro p hp
    rcases List.mem_cons.mp hp with e | hp
    · rw [e]; exact h.1
    · exact ih h.2 p hp
theorem ThingsIn.ins {objs : List (Addr × Obj)} {its : List Value} {ds : List Adr} {v : Value} {d : Adr} (h : ThingsIn objs its ds) (x : ThingIn objs v d) (k : Nat) : ThingsIn objs (its.take k ++ v :: its.drop k) (ds.take k ++ d :: ds.drop k) :=
  (All2.take h k).app (.cons x (All2.drop h k))
set_option maxHeartbeats 4000000 in
theorem linC {prog : Program} {w : World} {dp un : Nat} {gd : Option (List Code)} {fr : Option (List Env)} {h₀ : Heap} {s : Shared} {Q E : Value → Shared → Prop} {objs : List (Addr × Obj)}
    {D x dx c : Addr} {hs : Int} {ky : Tok} {nD dn : Nat} {its : List Value} {ds : List Adr} {κ : Kind}
    (am : Amb w h₀) (k₀ : Kp h₀ s.heap) (hdp : dp + 1 < recursionLimit) (hun : un + 200 < cLine) (O : Own h₀ s.heap objs)
    (hD : (D, listOf its.toArray nD) ∈ objs) (hx : (x, instObj 95 dx) ∈ objs) (hdx : (dx, cmpD hs ky c dn) ∈ objs) (hc : SelIn objs c κ)
    (ht : ThingsIn objs its ds) (hok : ∀ d ∈ ds, d.Ok) (hlen : ds.length ≤ 16)
    (hret : ∀ B n its' h' tk', Kp s.heap h' → h'.get? B = some (listOf its'.toArray n) → s.heap.get? B = none → ThingsIn objs its' (lineA κ.val ds) → Q (.ref B) { s with heap := h', toks := tk' }) :
    wpAny (model prog w) (Ar dp un fr gd) (call (.ref 137) [.ref D, .ref x]) Q E s := by
  have hfl : (hd.heap_39, PySem.Challenge.rw_pg0090_01) = (hd.heap_39, PySem.Challenge.rw_pg0090_01) := by k_fill; rfl
  clear hfl
  have am0 := am
  obtain ⟨X, loose, mean, mg, mb, T⟩ := am
  k_dflt (refine' enterP X T k₀ O ?k6 ?k7 (Nat.lt_of_succ_lt hdp) ?k9 ?kB ?_ ?c2 ?c3 ?c4 ?c5; (case k6 => k_is); (case k7 => k_is); (case k9 => exact BindsTo.of_eq rfl); (case c5 => decide); (case kB => exact locs rfl); (case c2 => exact rfl); (case c3 => exact rfl); (case c4 => exact rfl); k_whole)
  intro g' L' h' F' N' X' T' hl' hk' hg'
  replace F' : Fr g' L' h' (fun y => List.lookup y [(Str.ofString "walk", Value.ref x), (Str.ofString "things", Value.ref D)]) := by with_unfolding_all exact F'
  show wpAny _ _ _ _ _ _
  dsimp only
  show wpAny _ _ _ _ _ _
  k_fold
  k_steps
  unfold Hold
  rename Fr _ _ _ _ => F3
  rename News _ _ _ _ => N3
  rename_i B _ lB _
  have hne : ∀ p ∈ objs, p.1 ≠ B := fun p hp => Nat.ne_of_lt (lB p hp)
  have hB0 : s.heap.get? B = none := by
    cases q : s.heap.get? B with
    | none => rfl
    | some o =>
      have q1 := (N3 _ (.head _)).2.2
      by_cases hb : B ∈ objs.map (·.1)
      · obtain ⟨p, hp, e⟩ := List.mem_map.mp hb
        exact absurd e (hne p hp)
      · have := hg' B o q hb
        rw [this] at q1; cases q1
  have hend : ∀ (h' : Heap) (tk : Nat) (m : Str → Option Value) (lits : List Value) (nB : Nat), Fr g' L' h' m → News g' L' h' ((B, listOf lits.toArray nB) :: objs) → ThingsIn objs lits (lineA κ.val ds) → LeaveP g' s.heap objs Q (.ref B) { s with heap := h', toks := tk } :=
    fun h' tk m lits nB F N hT => leaveP_ F N (fun p hp => .tail _ hp) fun k => hret B nB lits h' tk k (N _ (.head _)).1 hB0 hT
  clear hg' hret
  refine for_N rfl (ld F3 rfl ⟨g', L', D, its.toArray, _, (B, listOf #[] 0) :: objs, fun i m news => ∃ lits nB, news = (B, listOf lits.toArray nB) :: objs ∧ PinL m [(Str.ofString "line", Value.ref B), (Str.ofString "walk", Value.ref x), (Str.ofString "things", Value.ref D)] ∧ ThingsIn objs lits (lineA κ.val (ds.take i)), rfl, F3, N3, ⟨[], 0, rfl, ⟨rfl, rfl, rfl, trivial⟩, by simpa [lineA] using All2.nil⟩, ?_⟩) (fun _ => rfl)
  refine ⟨?_, ?_, ?_, ?_⟩
  · rintro i m news ⟨lits, nB, e0, _⟩ p hp
    rw [e0] at hp
    rcases List.mem_cons.mp hp with rfl | hp
    · exact .inl (by intro e; exact absurd (Value.type.inj e) (by decide))
    · exact .inr ⟨_, (N3 _ (.tail _ hp)).1⟩
  · rintro i m news h ⟨lits, nB, e0, _⟩ F N
    rw [e0] at N
    exact N.isList (.tail _ hD)
  · intro i v h tk m news I oI hi hv hcls hPat F N _
    refine hide_ fun G hG => ?_
    obtain ⟨lits, nB, e0, e1, hT⟩ := hPat
    rw [e0] at N
    clear e0 news
    have hv' : its[i]? = some v := by simpa using hv
    obtain ⟨d, hd, r⟩ := All2.get ht hv'
    have hdm := List.mem_of_getElem? hd
    obtain ⟨t, row, up, t0, t1, n, rfl, mt, mrow, mup⟩ := id r
    have kd := hok d hdm
    have hnx : lineA κ.val (ds.take (i + 1)) = insA κ.val (lineA κ.val (ds.take i)) d := by
      rw [List.take_add_one, hd]
      exact lineA_snoc _ _ _
    have hla : ∀ y ∈ lineA κ.val (ds.take i), y.Ok := fun y hy => hok y (List.mem_of_mem_take (lineA_mem.mp hy))
    have hll := All2.len hT
    have hl16 : lits.length ≤ 16 := by rw [hll, lineA_len, List.length_take]; omega
    have hl17 : lits.length ≤ 16384 := by omega
    generalize hgl : lineA κ.val (ds.take i) = la at *
    have F2 := Mine.Fr.pinned F e1
    have htB : @Ne Nat t B := hne _ mt
    have hxB : @Ne Nat x B := hne _ hx
    have hdB : @Ne Nat dx B := hne _ hdx
    have hIB : @Ne Nat I B := fun q => by
      have q1 : h.get? I = some oI := (N _ (.head _)).1
      have q2 : h.get? B = some (listOf lits.toArray nB) := (N _ (.tail _ (.head _))).1
      rw [show I = B from q, q2] at q1
      rw [← Option.some.inj q1] at hcls
      exact absurd (Value.type.inj hcls) (by decide)
    have N2 : News g' L' h ((t, tupO [.ref row, .ref up, .int (d.one : Int) t0, .int (d.two : Int) t1] n) :: (I, oI) :: (B, listOf lits.toArray nB) :: (x, instObj 95 dx) :: (dx, cmpD hs ky c dn) :: objs) := fun p hp => by
      simp only [List.mem_cons] at hp
      rcases hp with rfl | rfl | rfl | rfl | rfl | hp
      · exact N _ (.tail _ (.tail _ mt))
      · exact N _ (.head _)
      · exact N _ (.tail _ (.head _))
      · exact N _ (.tail _ (.tail _ hx))
      · exact N _ (.tail _ (.tail _ hdx))
      · exact N _ (.tail _ (.tail _ hp))
    clear F N
    refine hG ?_
    clear hG
    show wpAny _ _ _ _ _ _
    k_fold
    k_steps
    unfold Hold
    rename Fr _ _ _ _ => F4
    rename News _ _ _ _ => N4
    refine wpAny_mono (E := NoE) (while_W (E := NoE) (Q := fun f s' => Hold (f = .next ∧ ∃ h tk m tp, s' = { s with heap := h, toks := tk } ∧ Fr g' L' h m ∧ News g' L' h ((t, tupO [.ref row, .ref up, .int (d.one : Int) t0, .int (d.two : Int) t1] n) :: (I, oI) :: (B, listOf lits.toArray nB) :: (x, instObj 95 dx) :: (dx, cmpD hs ky c dn) :: objs) ∧ PinL m [(Str.ofString "place", Value.int ((posA κ.val d la la.length : Nat) : Int) tp), (Str.ofString "thing", Value.ref t), (Str.ofString "line", Value.ref B), (Str.ofString "walk", Value.ref x), (Str.ofString "things", Value.ref D)]))
      (fun k s' => ∃ h tk m tp, s' = { s with heap := h, toks := tk } ∧ Fr g' L' h m ∧ News g' L' h ((t, tupO [.ref row, .ref up, .int (d.one : Int) t0, .int (d.two : Int) t1] n) :: (I, oI) :: (B, listOf lits.toArray nB) :: (x, instObj 95 dx) :: (dx, cmpD hs ky c dn) :: objs) ∧ PinL m [(Str.ofString "place", Value.int (k : Int) tp), (Str.ofString "thing", Value.ref t), (Str.ofString "line", Value.ref B), (Str.ofString "walk", Value.ref x), (Str.ofString "things", Value.ref D)] ∧ k ≤ la.length ∧ posA κ.val d la la.length = posA κ.val d la k)
      lits.length ⟨_, _, _, _, rfl, F4, N4, ⟨rfl, rfl, rfl, rfl, rfl, trivial⟩, by rw [hll]; exact Nat.le_refl _, by rw [hll]⟩ ?_) ?_ (fun _ _ x => x.elim)
    · intro k s' hPat
      refine hide_ fun G hG => ?_
      obtain ⟨h, tk, m, tp, rfl, F, N, ps, hk, hp⟩ := hPat
      have F5 := Mine.Fr.pinned F ps
      cases k with
      | zero =>
        clear F F4 N4
        refine hG ?_
        clear hG
        show wpAny _ _ _ _ _ _
        k_fold
        k_steps
        rename Fr _ _ _ _ => F6
        rename News _ _ _ _ => N6
        exact ⟨rfl, _, _, _, tp, rfl, F6, N6, ⟨by rw [hp]; rfl, rfl, rfl, rfl, rfl, trivial⟩⟩
      | succ k =>
        have hk2 : k < la.length := hk
        obtain ⟨d2, hd2⟩ : ∃ d2, la[k]? = some d2 := ⟨la[k], List.getElem?_eq_getElem hk2⟩
        obtain ⟨v2, hv2, r2⟩ := All2.getR hT hd2
        have kd2 := hla d2 (List.mem_of_getElem? hd2)
        obtain ⟨u, row2, up2, u0, u1, n2, rfl, mu, mrow2, mup2⟩ := id r2
        have N5 : News g' L' h ((u, tupO [.ref row2, .ref up2, .int (d2.one : Int) u0, .int (d2.two : Int) u1] n2) :: (t, tupO [.ref row, .ref up, .int (d.one : Int) t0, .int (d.two : Int) t1] n) :: (I, oI) :: (B, listOf lits.toArray nB) :: (x, instObj 95 dx) :: (dx, cmpD hs ky c dn) :: objs) := fun p hp => by
          rcases List.mem_cons.mp hp with rfl | hp
          · exact N _ (.tail _ (.tail _ (.tail _ (.tail _ (.tail _ mu)))))
          · exact N _ hp
        clear F F4 N4 N hv hv'
        refine hG ?_
        clear hG
        show wpAny _ _ _ _ _ _
        k_fold
        k_steps
        case' _ =>
          rename κ.val d d2 < 0 => hlt
          rename Fr _ _ _ _ => F6
          rename News _ _ _ _ => N6
          refine ⟨k, Nat.lt_succ_self k, _, _, _, ?wtp, rfl, F6, fun p hp => N6 p (.tail _ hp), ⟨?wqe, rfl, rfl, rfl, rfl, trivial⟩, Nat.le_of_lt hk2, ?wqp⟩
          case wqe =>
            show some (Value.int (((k + 1 : Nat) : Int) - 1) _) = some (Value.int (k : Int) _)
            rw [show ((k + 1 : Nat) : Int) - 1 = k by omega]
          case wqp =>
            rw [hp]
            show (match la[k]? with | some y => if κ.val d y < 0 then posA κ.val d la k else k + 1 | none => k + 1) = _
            rw [hd2]
            exact if_pos hlt
        case' _ =>
          rename ¬ κ.val d d2 < 0 => hge
          rename Fr _ _ _ _ => F6
          rename News _ _ _ _ => N6
          have hp2 : posA κ.val d la la.length = k + 1 := by
            rw [hp]
            show (match la[k]? with | some y => if κ.val d y < 0 then posA κ.val d la k else k + 1 | none => k + 1) = _
            rw [hd2]
            exact if_neg hge
          exact ⟨rfl, _, _, _, tp, rfl, F6, fun p hp => N6 p (.tail _ hp), ⟨by rw [hp2]; rfl, rfl, rfl, rfl, rfl, trivial⟩⟩
    · intro f s' hPat
      refine hide_ fun G hG => ?_
      obtain ⟨rfl, h, tk, m, tp, rfl, F, N, ps⟩ := hPat
      have hple := posA_le κ.val d la la.length
      generalize hgp : posA κ.val d la la.length = p at *
      have F5 := Mine.Fr.pinned F ps
      clear F F4 N4
      refine hG ?_
      clear hG
      show wpAny _ _ _ _ _ _
      k_steps
      rename Fr _ _ _ _ => F6
      rename News _ _ _ _ => N6
      refine TurnN.intro (I := I) (oI := oI) ((B, listOf (lits.take p ++ Value.ref t :: lits.drop p).toArray (nB + 1)) :: objs) F6 N6 (.tail _ (.head _)) ?_ ⟨_, _, rfl, ⟨rfl, rfl, rfl, trivial⟩, ?_⟩
      · intro q hq
        rcases List.mem_cons.mp hq with rfl | hq
        · exact .tail _ (.tail _ (.head _))
        · (first | ((repeat (first | (with_reducible_and_instances exact hq) | refine List.Mem.tail _ ?_)); done) | simp only [List.mem_cons, hq, or_true])
      · rw [hnx]
        unfold insA
        rw [hgp]
        exact ThingsIn.ins hT r p
  · intro h tk m news F N hPat
    refine hide_ fun G hG => ?_
    obtain ⟨lits, nB, e0, e1, hT⟩ := hPat
    rw [e0] at N
    have e2 : ds.take its.toArray.size = ds := List.take_of_length_le (by rw [List.size_toArray, All2.len ht]; exact Nat.le_refl _)
    rw [e2] at hT
    have F2 := Mine.Fr.pinned F e1
    clear F F3
    refine hG ?_
    clear hG
    show wpAny _ _ _ _ _ _
    k_steps
    exact hend _ _ _ _ _ F2 N hT
end Mine
end PWI
theorem Mine.rstWI : True := by
  w_top off
  k_with_none
  first | (walk1; fail "x") | exact True.intro
section PWK
open PySem PySem.W PyProof.Rows PySem.Calls PySem.Spec
set_option maxRecDepth 100000
set_option pp.maxSteps 20000
namespace Mine
section
variable {prog : Program} {w : World} {A : Around} {E : Value → Shared → Prop} {s : Shared}
theorem call_enum {l : Addr} {its : Array Value} {Q : Value → Shared → Prop} (hh : A.handled = none) (hl : s.heap.IsList l its) (b₀ : Heap) (k₀ : Kp b₀ s.heap)
    (h : ∀ xv h', Kp s.heap h' → (∀ (elts : List PySem.Expr) (k : Nat) (pos : Pos), Src prog w A (.Tuple elts k pos) b₀ [l] xv { s with heap := h' } its.size (fun i v h => ∃ T t x, v = .ref T ∧ its[i]? = some x ∧ IsTup h T #[.int (i : Int) t, x])) → Q xv { s with heap := h' }) :
    wpAny (model prog w) A (call (.type "enumerate") [.ref l]) Q E s := by
  have hlt : l < s.heap.objs.size := by obtain ⟨_, e, _⟩ := hl; exact Heap.lt_size e
  refine call_enumerate_list hl fun h' hE hI hsz hk => h _ h' hk fun elts k pos => ?_
  intro Q E hq
  refine wpAny_pyIter_enum hE ?_
  have W := (WalksT.enumerate (prog := prog) (w := w) hh (s.heap.objs.size + 1) s.heap.objs.size l (Nat.succ_ne_self _) (Nat.ne_of_lt (Nat.lt_succ_of_lt hlt)) (Nat.ne_of_lt hlt) its).toU
  have n1 : b₀.get? (s.heap.objs.size + 1) = none := k₀.size (new_none (Nat.le_succ _))
  have n2 : b₀.get? s.heap.objs.size = none := k₀.size (new_none (Nat.le_refl _))
  have KT := KTurns.ofWalksU (elts := elts) (k := k) (pos := pos) W
  have KT2 : KTurns prog w A (.Tuple elts k pos) (s.heap.objs.size + 1) [s.heap.objs.size + 1, s.heap.objs.size, l] [s.heap.objs.size + 1, s.heap.objs.size] its.size (fun i v h => ∃ T t x, v = .ref T ∧ its[i]? = some x ∧ IsTup h T #[.int (i : Int) t, x]) _ _ :=
    { KT with go := fun i v s Q E hm hQ => KT.go i v s Q E hm fun h' hP => hQ h' (by
        obtain ⟨T, vals, e, ⟨t, x, hx, rfl⟩, hT⟩ := hP
        exact ⟨T, t, x, e, hx, hT⟩) }
  refine hq { s with heap := h' } (s.heap.objs.size + 1) _ _ _ _ rfl (fun _ _ e => e) KT2 ?_ ?_ ⟨⟨_, hE⟩, hI, ?_⟩ ?_ ?_
  · rintro s' Q' E' ⟨⟨old, he⟩, _⟩ q
    exact wpAny_pyIter_enum he q
  · rintro i h ⟨⟨old, he⟩, ⟨oi, hoi, _⟩, ⟨ol, hol, _⟩⟩ b hb
    simp only [List.mem_cons, List.not_mem_nil, or_false] at hb
    rcases hb with rfl | rfl | rfl
    · exact ⟨_, he⟩
    · exact ⟨_, hoi⟩
    · exact ⟨_, hol⟩
  · exact hl.at fun o e => hk l o e
  · intro b hb
    simp only [List.mem_cons, List.not_mem_nil, or_false] at hb
    rcases hb with rfl | rfl
    · exact n1
    · exact n2
  · intro b hb
    simp only [List.mem_cons, List.not_mem_nil, or_false] at hb
    rcases hb with rfl | rfl | rfl
    · exact .inl n1
    · exact .inl n2
    · exact .inr (.head _)
theorem Src.range {x : Str} {px : Pos} {b₀ : Heap} {r : Addr} {n : Nat} {t u v : Tok} (hh : A.handled = none) (hr : IsRange s.heap r 0 (n : Int) 1 t u v) (hn : n < 10000) (k : Kp b₀ s.heap) :
    Src prog w A (.Name x px) b₀ [] (.ref r) s n (fun i v _ => ∃ t, v = .int (i : Int) t) := by
  intro Q E h
  have sm : Builtin.Range.small 0 (n : Int) 1 = true := by
    exact small_one (by omega) (by omega) (by omega) (by omega)
  have sz : Builtin.Range.rangeSize 0 (n : Int) 1 = (n : Int) := by
    rw [rangeSize_nat]; simp
  refine wpAny_pyIter_range hr sm ?_
  rw [sz]
  have W := Walks.range (prog := prog) (w := w) hh s.heap.objs.size 0 1 n
  have KT := KTurns.ofWalks (target := .Name x px) W (fun i v s Q E st q => by unfold letOwnedTupleGo; exact wpAny_pure q)
  have KT2 : KTurns prog w A (.Name x px) s.heap.objs.size [s.heap.objs.size] [s.heap.objs.size] n (fun i v h => ∃ t, v = .int (i : Int) t) _ _ :=
    { KT with go := fun i v s Q E hm hQ => KT.go i v s Q E hm fun h' hP => hQ h' (by
        obtain ⟨t, e⟩ := hP
        exact ⟨t, by rw [e]; simp⟩) }
  have n2 : b₀.get? s.heap.objs.size = none := k.size (new_none (Nat.le_refl _))
  refine h _ (s.heap.objs.size) _ _ _ _ rfl (fun _ _ e => Heap.get?_push_of_some _ e) KT2 (fun s Q E st q => W.self 0 s Q E st q) ?_ ?_ ?_ ?_
  · intro i h st b hb
    rw [List.mem_singleton.mp hb]
    exact ⟨_, st⟩
  · have e1 : (0 : Int) + ((0 : Nat) : Int) * 1 = 0 := rfl
    have e2 : (n : Int) - ((0 : Nat) : Int) = n := by simp
    show IsRangeIter _ _ (0 + ((0 : Nat) : Int) * 1) ((n : Int) - ((0 : Nat) : Int)) 1
    rw [e1, e2]
    exact Heap.get?_push_size _ rfl
  · intro b hb
    rw [List.mem_singleton.mp hb]
    exact n2
  · intro b hb
    rw [List.mem_singleton.mp hb]
    exact .inl n2
/-- the frame of a comprehension over the base of the frame around it -/
theorem comp_frame {g b₀ h : Heap} {L C : Addr} {m mC : Str → Option Value} (F : Fr g L b₀ m) (k : Kp b₀ h) (hn : h.Ns C mC) (hC : ∀ a o, b₀.get? a = some o → a < C) : Fr g C h mC := by
  obtain ⟨oL, eL⟩ := ns_there F.ns
  exact ⟨hn, fun b o e => k b o (F.keep b o e), Nat.le_of_lt (Nat.lt_of_le_of_lt F.above (hC _ _ eL))⟩
theorem comp_news {g b₀ h : Heap} {L C : Addr} {news : List (Addr × Obj)} (N : News g L b₀ news) (k : Kp b₀ h) (hC : ∀ a o, b₀.get? a = some o → a < C) : News g C h news := fun p hp =>
  ⟨k _ _ (N p hp).1, Nat.ne_of_lt (hC _ _ (N p hp).1), (N p hp).2.2⟩
/-- all that stands in a heap -/
noncomputable def allOf (g h : Heap) (C : Addr) : List (Addr × Obj) := (List.range h.objs.size).filterMap fun a => match h.get? a with
  | some o => if a ≠ C ∧ (g.get? a).isNone = true then some (a, o) else none
  | none => none
theorem allOf_mem {g h : Heap} {C a : Addr} {o : Obj} : (a, o) ∈ allOf g h C ↔ h.get? a = some o ∧ a ≠ C ∧ g.get? a = none := by
  unfold allOf
  rw [List.mem_filterMap]
  constructor
  · rintro ⟨b, _, e⟩
    cases q : h.get? b with
    | none => rw [q] at e; cases e
    | some o' =>
      rw [q] at e
      dsimp only at e
      split at e
      · rename_i c
        cases e
        exact ⟨q, c.1, by simpa using c.2⟩
      · cases e
  · rintro ⟨e, c, n⟩
    refine ⟨a, List.mem_range.mpr (Heap.lt_size e), ?_⟩
    rw [e]
    dsimp only
    rw [if_pos ⟨c, by rw [n]; rfl⟩]
theorem allOf_news {g h : Heap} {C : Addr} : News g C h (allOf g h C) := fun p hp => allOf_mem.mp hp
theorem News.app {g h : Heap} {L : Addr} {a b : List (Addr × Obj)} (x : News g L h a) (y : News g L h b) : News g L h (a ++ b) := fun p hp => (List.mem_append.mp hp).elim (x p) (y p)
/-- a turn of a comprehension, walked in its own frame: what it leaves -/
inductive TurnF (g : Heap) (C : Addr) (s₂ : Shared) (h : Heap) (Jn : List (Addr × Obj) → Prop) (s₅ : Shared) : Prop
  | mk (h₅ : Heap) (tk₅ : Nat) (m₅ : Str → Option Value) (news₅ : List (Addr × Obj)) (nw : List (Addr × Obj)) (q1 : s₅ = { s₂ with heap := h₅, toks := tk₅ }) (q2 : Fr g C h₅ m₅) (q3 : News g C h₅ news₅) (q4 : (∀ p ∈ allOf g h C, p ∈ news₅)) (q5 : (∀ p ∈ nw, p ∈ news₅ ∧ h.get? p.1 = none)) (q6 : Jn nw)
theorem TurnF.toE {g : Heap} {C : Addr} {s₂ : Shared} {h : Heap} {Jn : List (Addr × Obj) → Prop} {s₅ : Shared} (k : Kp g h) (x : TurnF g C s₂ h Jn s₅) : TurnE s₂ C h Jn s₅ := by
  obtain ⟨h₅, tk₅, m₅, news₅, nw, rfl, F, N, ha, hw, j⟩ := x
  refine ⟨h₅, tk₅, m₅, nw, rfl, F.ns, fun b o hb e => ?_, fun p hp => ⟨(N p (hw p hp).1).1, (hw p hp).2⟩, j⟩
  cases q : g.get? b with
  | some o' =>
    have := k _ _ q
    rw [e] at this
    cases this
    exact F.keep _ _ q
  | none => exact (N (b, o) (ha _ (allOf_mem.mpr ⟨e, hb, q⟩))).1
/-- a comprehension's turns, each walked in the comprehension's own frame over the base of the frame around it -/
structure CompN (prog : Program) (w : World) (A : Around) (target elt : PySem.Expr) (ifs : List PySem.Expr) (scope : Scope) (cl : List (Str × Addr)) (env : Env) (g : Heap) (news : List (Addr × Obj)) (s₁ : Shared) (n : Nat) (P : Nat → Value → Heap → Prop)
    (J : Nat → List Value → List (Addr × Obj) → Prop) : Prop where
  zero : J 0 [] []
  size : n ≤ sizeLine
  turn : ∀ i v ys nws C h tk mC, i < n → P i v h → J i ys nws → ys.length ≤ i → Fr g C h mC → News g C h (news ++ allOf g h C) →
      wpAny (model prog w) A (assign target (compEnvC scope cl C env) v) (fun _ s₃ =>
        wpAny (model prog w) A (forIn ifs true fun c r => if r = true then do let ok ← isTrue c (compEnvC scope cl C env) (eval c (compEnvC scope cl C env)); pure (ForInStep.yield ok) else pure (ForInStep.yield r)) (fun ok s₄ =>
          if ok = true then wpAny (model prog w) A (eval elt (compEnvC scope cl C env)) (fun y s₅ => TurnF g C s₁ h (fun nw => J (i + 1) (ys ++ [y]) (nws ++ nw)) s₅) NoE s₄
          else TurnF g C s₁ h (fun nw => J (i + 1) ys (nws ++ nw)) s₄) NoE s₃) NoE { s₁ with heap := h, toks := tk }
theorem CompN.G {target elt : PySem.Expr} {ifs : List PySem.Expr} {scope : Scope} {cl : List (Str × Addr)} {env : Env} {g : Heap} {L : Addr} {m : Str → Option Value} {news : List (Addr × Obj)} {s₁ : Shared} {n : Nat} {P : Nat → Value → Heap → Prop}
    {J : Nat → List Value → List (Addr × Obj) → Prop} {b₀ : Heap} (F : Fr g L b₀ m) (N : News g L b₀ news) (k₁ : Kp b₀ s₁.heap) (x : CompN prog w A target elt ifs scope cl env g news s₁ n P J) {Fin : Addr → Heap → Nat → Prop}
    (fin : ∀ D h tk ys nws, h.get? D = some (lstO ys) → b₀.get? D = none → Kp b₀ h → Ow b₀ h nws → (∀ p ∈ nws, p.1 ≠ D) → ys.length ≤ n → J n ys nws → Fin D h tk) :
    CompG prog w A target elt ifs scope cl env b₀ s₁ n P J Fin where
  zero := x.zero
  size := x.size
  turn := fun i v ys nws C h tk mC hi hP hJ hyl hk ho hC0 hn hC => by
    have F' := comp_frame F hk hn hC
    have N' := comp_news N hk hC
    have kg : Kp g h := fun b o e => hk b o (F.keep b o e)
    refine wpAny_mono (x.turn i v ys nws C h tk mC hi hP hJ hyl F' (News.app N' allOf_news)) (fun _ s₃ h₃ => wpAny_mono h₃ (fun ok s₄ h₄ => ?_) fun _ _ x => x) fun _ _ x => x
    cases ok with
    | false => exact TurnF.toE kg h₄
    | true => exact wpAny_mono h₄ (fun y s₅ h₅ => TurnF.toE kg h₅) fun _ _ x => x
  fin := fin
end
/-- what a frame leaves that may change some of what it was given -/
inductive LeaveM (g h : Heap) (wr : List Addr) (news : List (Addr × Obj)) (R : Value → Shared → Prop) (v : Value) (s' : Shared) : Prop
  | mk (L' : Addr) (m' : Str → Option Value) (news' : List (Addr × Obj)) (q1 : Fr g L' s'.heap m') (q2 : News g L' s'.heap news') (q3 : (∀ p ∈ news, p.1 ∈ wr ∨ p ∈ news')) (q4 : (KpB wr h s'.heap → R v s'))
theorem enterMC {prog : Program} {w : World} {A : Around} {s : Shared} {h₀ : Heap} {news : List (Addr × Obj)} {K : Frag} {p : Program} {loose : List Str} {mean : ExcName → Option Value} {mg mb : Str → Option Value}
    {R E : Value → Shared → Prop} {name qual : Str} {params : Arguments} {body : List Stmt} {scope : Scope} {dV kV doc pm cdv ct oc : Value} {an od : Option Addr} {osl : Array (Option Value)} {f : Addr} {args : List Value} {binds : List (Str × Value)} {wr : List Addr}
    (X₀ : K.In h₀) (T : Top p loose mean mg mb h₀) (k₀ : Kp h₀ s.heap) (N : Own h₀ s.heap news)
    (ho : K.lookup f = some ⟨oc, od, .func (fnOf name qual params body scope dV kV doc pm an cdv ct), osl⟩) (hcd : codeIn K cdv qual = true) (hroom : A.depth < recursionLimit)
    (hbind : BindsTo s (fnOf name qual params body scope dV kV doc pm an cdv ct) ⟨args, []⟩ binds) (hkind : (binds.all fun y => scope.names.lookup y.1 == some .local || scope.names.lookup y.1 == some .cell) = true)
    (hnd : ((cellsFrom 0 scope.names []).map (·.1)).Nodup)
    (h : ∀ g L' h₁ tk cells, Fr g L' h₁ (bindL (envOfC qual scope L' f cdv).kindOf binds fun _ => none) → News g L' h₁ (cells ++ news) →
      CellsAre (bindC (envOfC qual scope L' f cdv).kindOf binds fun _ => none) (cellsFrom (L' + 1) scope.names []) cells → K.In g → Top p loose mean mg mb g → (∀ p ∈ news, p.1 < L') → Kp h₀ g →
      (∀ b o, s.heap.get? b = some o → b ∉ news.map (·.1) → g.get? b = some o) →
      wpAny (model prog w) (A.deeper (envOfC qual scope L' f cdv)) (execs body (envOfC qual scope L' f cdv))
        (fun fl s' => LeaveM g s.heap wr news R (match fl with | .ret v => v | _ => .none) s') (fun _ _ => False)
        { s with heap := h₁, toks := tk })
    (hco : scope.isCoroutine = false) (hgen : scope.isGenerator = false) (hk : scope.kind = .function) : wpAny (model prog w) A (call (.ref f) args) R E s := by
  have nm : ∀ b o, h₀.get? b = some o → b ∉ news.map (·.1) := fun b o e q => by
    obtain ⟨p, hp, rfl⟩ := List.mem_map.mp q
    rw [(N p hp).2] at e; cases e
  have st : Kp h₀ (hideAll s.heap (news.map (·.1))) := fun b o e => hideAll_get _ (k₀ b o e) (nm b o e)
  have X := X₀.keeps k₀
  have hf := X _ _ ho
  refine wpAny_call (codeAny_call_function (fd := fnOf name qual params body scope dV kV doc pm an cdv ct) hroom hf rfl hco hgen rfl (codeRec_of X hcd) (hbind _ _ _ _ ?_))
  refine wpAny_newFunctionEnv_cells hk (kindsX hkind _) fun env' he s' x => ?_
  subst he
  refine ⟨(T.nolimit.keeps k₀).keeps x.toInCall.keep, codeAny_func ?_⟩
  obtain ⟨h₁, tk, rfl, _⟩ := x.done
  have hk₁ := x.toInCall.keep
  obtain ⟨cells, NC, Y⟩ := Cl.news (h₀ := s.heap) (Nat.le_refl _) fun n c hm => ⟨x.cell n c (lookup_of_mem_nodup (cellsFrom_names scope.names 0 (s.heap.objs.size + 1) [] [] rfl ▸ hnd) hm), x.above n c hm⟩
  refine wpAny_mono (h (hideAll s.heap (news.map (fun q : Addr × Obj => q.1))) s.heap.objs.size h₁ tk cells ⟨x.toInCall.ns, fun b o e => hk₁ b o (of_hideAll _ e), Nat.le_of_eq (hideAll_size _ _)⟩ (fun p hp => ?_) Y (X₀.keeps st) (T.keeps st) (fun p hp => Heap.lt_size (N p hp).1) st (fun b o e n => hideAll_get _ e n)) (fun fl s' hl => ?_) (fun _ _ x => x.elim)
  · rcases List.mem_append.mp hp with hp | hp
    · refine ⟨(NC p hp).1, (NC p hp).2.1, ?_⟩
      cases q : (hideAll s.heap (news.map (·.1))).get? p.1 with
      | none => rfl
      | some o => have := of_hideAll _ q; rw [(NC p hp).2.2] at this; cases this
    · exact ⟨hk₁ _ _ (N p hp).1, Nat.ne_of_lt (Heap.lt_size (N p hp).1), hideAll_none _ (List.mem_map_of_mem hp)⟩
  obtain ⟨L', m', news', F', N', hs, k⟩ := hl
  refine k fun b o hbw e => ?_
  by_cases hb : b ∈ news.map (·.1)
  · obtain ⟨p, hp, rfl⟩ := List.mem_map.mp hb
    have e2 := (N p hp).1
    rw [e] at e2
    cases e2
    rcases hs p hp with q | q
    · exact absurd q hbw
    · exact (N' p q).1
  · exact F'.keep b o (hideAll_get _ e hb)
theorem news_after {g b₀ h : Heap} {L D : Addr} {m : Str → Option Value} {o : Obj} {news : List (Addr × Obj)} (F : Fr g L b₀ m) (N : News g L b₀ news) (k : KpB [L] b₀ h) (hD : h.get? D = some o) (hD0 : b₀.get? D = none) : News g L h ((D, o) :: news) := fun p hp => by
  rcases List.mem_cons.mp hp with rfl | hp
  · refine ⟨hD, fun q => ?_, ?_⟩
    · obtain ⟨oL, eL⟩ := ns_there F.ns
      have q' : D = L := q
      rw [q', eL] at hD0; cases hD0
    · cases e : g.get? D with
      | none => rfl
      | some o' => have := F.keep _ _ e; rw [hD0] at this; cases this
  · exact ⟨k _ _ (fun q => (N p hp).2.1 (List.mem_singleton.mp q)) (N p hp).1, (N p hp).2⟩
theorem news_ne {g b₀ : Heap} {L D : Addr} {news : List (Addr × Obj)} (N : News g L b₀ news) (hD0 : b₀.get? D = none) : ∀ p ∈ news, p.1 ≠ D := fun p hp q => by
  have := (N p hp).1
  rw [q, hD0] at this; cases this
theorem intsAre_snoc {k : Int} {t : Tok} : ∀ {vs : List Value} {ns : List Int}, IntsAre vs ns → IntsAre (vs ++ [.int k t]) (ns ++ [k])
  | _, _, .nil => .cons _ _ .nil
  | _, _, .cons a b r => .cons a b (intsAre_snoc r)
section
variable {prog : Program} {w : World} {A : Around} {E : Value → Shared → Prop} {s : Shared} {g : Heap} {L D D2 : Addr} {news : List (Addr × Obj)}
theorem reads_ints {h : Heap} : ∀ {vs : List Value} {ns : List Int}, IntsAre vs ns → ReadsAll h vs (ns.map PyData.int) []
  | _, _, .nil => .nil
  | _, _, .cons a t r => ReadsAll.cons (as := []) (bs := []) (Reads.int a t) (reads_ints r)
theorem canLay_ints : ∀ ns : List Int, PyData.canLayAll0 (ns.map PyData.int) = true
  | [] => rfl
  | _ :: r => by simp [PyData.canLayAll0, PyData.canLay0, canLay_ints r]
theorem depth_ints : ∀ ns : List Int, PyData.depthAll (ns.map PyData.int) ≤ 1
  | [] => by simp [PyData.depthAll]
  | _ :: r => by have := depth_ints r; simp [PyData.depthAll, PyData.depth]; omega
theorem shaped_ints (ns : List Int) : SeqAt.shaped (.list (ns.map PyData.int)) = true := by
  unfold SeqAt.shaped
  rw [Bool.and_eq_true_iff]
  refine ⟨by simp [PyData.canLay0, canLay_ints], ?_⟩
  have := depth_ints ns
  simp [PyData.depth]; omega
theorem eq_ints {ys zs : List Value} {ks ls : List Int} {n n2 : Nat} {Q : Value → Shared → Prop} (N : News g L s.heap news) (h1 : (D, listOf ys.toArray n) ∈ news) (h2 : (D2, listOf zs.toArray n2) ∈ news) (i1 : IntsAre ys ks) (i2 : IntsAre zs ls)
    (hu : A.units + 64 < cLine) (h : Q (.bool (PyData.eqv (.list (ks.map PyData.int)) (.list (ls.map PyData.int)))) s) : wpAny (model prog w) A (compareOp .Eq (.ref D) (.ref D2)) Q E s :=
  SeqAt.compareEq_shaped (Reads.list (N _ h1).1 rfl rfl (by simpa using reads_ints i1)) (Reads.list (N _ h2).1 rfl rfl (by simpa using reads_ints i2)) (shaped_ints _) (shaped_ints _) hu h
theorem eqv_ints : ∀ ks ls : List Int, PyData.eqv (.list (ks.map PyData.int)) (.list (ls.map PyData.int)) = decide (ks = ls)
  | [], [] => by simp [PyData.eqv, PyData.eqvAll]
  | [], _ :: _ => by simp [PyData.eqv, PyData.eqvAll]
  | _ :: _, [] => by simp [PyData.eqv, PyData.eqvAll]
  | a :: r, b :: q => by
    have ih := eqv_ints r q
    simp only [PyData.eqv, List.map_cons, PyData.eqvAll] at ih ⊢
    rw [ih]
    by_cases h : a = b <;> simp [h]
end
section
variable {prog : Program} {w : World} {A : Around} {E : Value → Shared → Prop} {s : Shared}
inductive CompP (prog : Program) (w : World) (A : Around) (target elt : PySem.Expr) (ifs : List PySem.Expr) (scope : Scope) (cl : List (Str × Addr)) (env : Env) (g b₀ : Heap) (L : Addr) (news : List (Addr × Obj)) (mf : Addr → Str → Option Value) (R : Addr → Shared → Prop) (xv : Value) (s₁ : Shared) : Prop
  | mk (n : Nat) (P : Nat → Value → Heap → Prop) (J : Nat → List Value → List (Addr × Obj) → Prop) (srcs : List Addr) (k : Kp b₀ s₁.heap) (S : Src prog w A target b₀ srcs xv s₁ n P) (G : CompN prog w A target elt ifs scope cl env g news s₁ n P J)
      (fin : ∀ D h tk ys nws, Fr g L h (mf D) → News g L h ((D, listOf ys.toArray ys.length) :: news) → (∀ p ∈ news, p.1 ≠ D) → Ow b₀ h nws → (∀ p ∈ nws, p.1 ≠ D) → ys.length ≤ n → J n ys nws → R D { s₁ with heap := h, toks := tk })
/-- y = [..], in a frame -/
theorem comp_N {elt target iter : PySem.Expr} {ifs : List PySem.Expr} {y : Str} {py : Pos} {scope : Scope} {cl : List (Str × Addr)} {pos spos : Pos} {env : Env} {g b₀ : Heap} {L : Addr} {m : Str → Option Value} {news : List (Addr × Obj)} {Q : Flow → Shared → Prop}
    (F : Fr g L b₀ m) (N : News g L b₀ news)
    (hLe : env.locals = L) (hsw : swapsWith (.ListComp elt [⟨target, iter, ifs, 0⟩] scope pos) (some (.Name y py)) spos.line env = pure true)
    (hclos : closureFor scope env = pure cl) (hcell : ∀ y ∈ scope.names, y.2 ≠ .cell) (hkind : scope.kind = .function)
    (hnames : ∀ y ∈ scope.names, y.2 = .local → scope.names.lookup y.1 = some .local)
    (hy : env.kindOf y = some .local) (hp : (env.scope.kind == .class || (env.scope.kind == .module && env.locals != env.globals)) = false)
    (h : wpAny (model prog w) A (eval iter env) (fun xv s₁ => Hold (CompP prog w A target elt ifs scope cl env g b₀ L news (fun D => fun z => if z = y then some (.ref D) else m z) (fun _ => Q .next) xv s₁)) E s)
    (hs : ∀ x, foldedSetIterable iter env x = pure x) :
    wpAny (model prog w) A (exec (.Assign [.Name y py] (.ListComp elt [⟨target, iter, ifs, 0⟩] scope pos) spos) env) Q E s := by
  refine comp_assignX hLe hsw hclos hcell hkind hnames hy hp (wpAny_mono h (fun xv s₁ hh => ?_) fun _ _ x => x) hs
  obtain ⟨n, P, J, srcs, k, S, G, fin⟩ := hh
  refine ⟨b₀, g, m, n, P, J, srcs, k, S, F, CompN.G F N k G (fun _ _ _ _ _ _ _ _ _ _ _ _ => trivial), fun D h tk ys nws hD hD0 hk ho hne hyl hJ F' => ?_⟩
  exact fin D h tk ys nws F' (news_after F N hk hD hD0) (news_ne N hD0) ho hne hyl hJ
/-- [..] as an expression, in a frame -/
theorem comp_NE {elt target iter : PySem.Expr} {ifs : List PySem.Expr} {scope : Scope} {cl : List (Str × Addr)} {pos : Pos} {env : Env} {g b₀ : Heap} {L : Addr} {m : Str → Option Value} {news : List (Addr × Obj)} {Q : Value → Shared → Prop}
    (F : Fr g L b₀ m) (N : News g L b₀ news)
    (hclos : closureFor scope env = pure cl) (hcell : ∀ y ∈ scope.names, y.2 ≠ .cell) (hkind : scope.kind = .function)
    (hnames : ∀ y ∈ scope.names, y.2 = .local → scope.names.lookup y.1 = some .local)
    (h : wpAny (model prog w) A (eval iter env) (fun xv s₁ => Hold (CompP prog w A target elt ifs scope cl env g b₀ L news (fun _ => m) (fun D => Q (.ref D)) xv s₁)) E s)
    (hs : ∀ x, foldedSetIterable iter env x = pure x) :
    wpAny (model prog w) A (eval (.ListComp elt [⟨target, iter, ifs, 0⟩] scope pos) env) Q E s := by
  refine comp_evalX hclos hcell hkind hnames (wpAny_mono h (fun xv s₁ hh => ?_) fun _ _ x => x) hs
  obtain ⟨n, P, J, srcs, k, S, G, fin⟩ := hh
  refine ⟨b₀, n, P, J, srcs, k, S, CompN.G F N k G (fun D h tk ys nws hD hD0 hk ho hne hyl hJ => ?_)⟩
  exact fin D h tk ys nws (F.keeps hk) (news_after F N (fun b o _ e => hk b o e) hD hD0) (news_ne N hD0) ho hne hyl hJ
end
section
variable {M : Model} {A : Around} {E : Value → Shared → Prop} {s : Shared} {K : Frag} {h₀ : Heap} {L L0 a : Addr} {m mg mb : Str → Option Value} {cn : Str} {cs scope : Scope} {ccd : Value} {cl cl0 : List (Str × Addr)} {p : Program} {loose : List Str} {mean : ExcName → Option Value}
  {x : Str} {pos : Pos} {v : Value} {news : List (Addr × Obj)} {c : Addr} {o : Obj}
theorem nameZ_K {Q : Value → Shared → Prop} (F : Fr h₀ L s.heap m) (X : K.In h₀) (T : TopRead p loose mg mb h₀) (e : nsIn K mainGlobals x = some (some v)) (h : Q v s)
    (hk : scope.kind = .function := by rfl) (hx : (compEnvC scope cl L (envX cn cs L0 a ccd cl0)).kindOf x = some .globalImplicit := by rfl) (hd : (x == ("__debug__" : Str)) = false := by decide) :
    wpAny M A (eval (.Name x pos) (compEnvC scope cl L (envX cn cs L0 a ccd cl0))) Q E s := Name_function_global hk hx (loadGlobal_global (env := compEnvC scope cl L (envX cn cs L0 a ccd cl0)) (T.g.keeps F.keep) (mg_of X T.g e) h) hd
theorem nameZ_B {Q : Value → Shared → Prop} (F : Fr h₀ L s.heap m) (X : K.In h₀) (T : TopRead p loose mg mb h₀) (e : nsIn K mainGlobals x = some none) (hv : bootBuiltins x = some v) (hn : x ≠ "__name__") (h : Q v s)
    (hk : scope.kind = .function := by rfl) (hx : (compEnvC scope cl L (envX cn cs L0 a ccd cl0)).kindOf x = some .globalImplicit := by rfl) (hd : (x == ("__debug__" : Str)) = false := by decide) :
    wpAny M A (eval (.Name x pos) (compEnvC scope cl L (envX cn cs L0 a ccd cl0))) Q E s :=
  Name_function_global hk hx (loadGlobal_builtin (env := compEnvC scope cl L (envX cn cs L0 a ccd cl0)) (T.g.keeps F.keep) (mg_none_of X T.g e) (T.b.keeps F.keep) ((T.builtins x hn).trans hv) h) hd
theorem nameZ_L {Q : Value → Shared → Prop} (F : Fr h₀ L s.heap m) (hv : m x = some v) (h : Q v s)
    (hk : scope.kind = .function := by rfl) (hx : (compEnvC scope cl L (envX cn cs L0 a ccd cl0)).kindOf x = some .local := by rfl) (hd : (x == ("__debug__" : Str)) = false := by decide) :
    wpAny M A (eval (.Name x pos) (compEnvC scope cl L (envX cn cs L0 a ccd cl0))) Q E s := wpAny_Name (wpAny_loadName_local hk hx F.ns hv h) hd
theorem nameZ_C {Q : Value → Shared → Prop} (N : News h₀ L s.heap news) (hc : cl.lookup x = some c) (hm : (c, o) ∈ news) (hd : o.data = .cell (some v)) (h : Q v s)
    (hk : scope.kind = .function := by rfl) (hx : (compEnvC scope cl L (envX cn cs L0 a ccd cl0)).kindOf x = some .cell := by rfl) (hb : (x == ("__debug__" : Str)) = false := by decide) :
    wpAny M A (eval (.Name x pos) (compEnvC scope cl L (envX cn cs L0 a ccd cl0))) Q E s := wpAny_Name (wpAny_loadName_cell hk hx hc ⟨o, N.get hm, hd⟩ h) hb
theorem storeZ_L {Q : Unit → Shared → Prop} (F : Fr h₀ L s.heap m) (N : News h₀ L s.heap news)
    (h : ∀ h', Fr h₀ L h' (fun y => if y = x then some v else m y) → News h₀ L h' news → Q () { s with heap := h', toks := s.toks + 1 })
    (hk : scope.kind = .function := by rfl) (hx : (compEnvC scope cl L (envX cn cs L0 a ccd cl0)).kindOf x = some .local := by rfl) : wpAny M A (storeName (compEnvC scope cl L (envX cn cs L0 a ccd cl0)) x v) Q E s :=
  wpAny_storeName_local hx F.ns (fun h' hn hs => h h' (F.set hn hs) (N.set hs)) (by show (scope.kind == .class || (scope.kind == .module && L != mainGlobals)) = false; rw [hk]; rfl)
end
section
variable {prog : Program} {w : World} {A : Around} {E : Value → Shared → Prop} {s : Shared}
theorem for_NH {target iter : PySem.Expr} {body : List Stmt} {pos : Pos} {env : Env} {Q : Flow → Shared → Prop} (hh : A.handled = none)
    (h : wpAny (model prog w) A (eval iter env) (fun xv s₁ => Hold (ForNP prog w A target body env Q xv s₁)) E s)
    (hs : ∀ x, foldedSetIterable iter env x = pure x) :
    wpAny (model prog w) A (exec (.For target iter body [] pos) env) Q E s := for_N hh h hs
variable {h₀ : Heap} {L D D2 : Addr} {m : Str → Option Value} {news : List (Addr × Obj)} {its its2 : List Value} {n n2 : Nat}
theorem rev_at {value slice : PySem.Expr} {ops : List Value} {vk : Value} {Q : Value → Shared → Prop} (F : Fr h₀ L s.heap m) (N : News h₀ L s.heap news) (hm : (D, listOf its.toArray n) ∈ news) (pk : IsPart vk (some (-1))) (hz : its.length ≤ 16384)
    (h : ∀ B h', Fr h₀ L h' m → News h₀ L h' ((B, listOf its.reverse.toArray 0) :: news) → (∀ p ∈ news, p.1 < B) → Q (.ref B) { s with heap := h' })
    (hs : subscripted slice false (.ref D) (.ref s.heap.objs.size) = operate ops (getItem (.ref D) (.ref s.heap.objs.size))) (ht : ∀ r, letTemporaryGo value (.ref D) r = pure ()) :
    wpAny (model prog w) A (subscriptTail value slice (.ref D) (.ref s.heap.objs.size)) Q E { s with heap := s.heap.push { cls := .type "slice", data := .fields #[.none, .none, vk] } } :=
  krv_lit F N (N.isList hm) pk (by simp) h hs ht (by rw [List.size_toArray, sizeLine_eq]; omega)
theorem cat_at {Q : Value → Shared → Prop} (F : Fr h₀ L s.heap m) (N : News h₀ L s.heap news) (h1 : (D, listOf its.toArray n) ∈ news) (h2 : (D2, listOf its2.toArray n2) ∈ news) (hz : its.length + its2.length ≤ 16384)
    (h : ∀ B h', Fr h₀ L h' m → News h₀ L h' ((B, listOf (its ++ its2).toArray 0) :: news) → (∀ p ∈ news, p.1 < B) → Q (.ref B) { s with heap := h' }) :
    wpAny (model prog w) A (binaryOp .Add (.ref D) (.ref D2)) Q E s :=
  add_lists F N (N.isList h1) (N.isList h2) (fun h' F' N' => h _ h' F' N' fun p hp => Heap.lt_size (N p hp).1) (by rw [sizeLine_eq]; omega)
end
theorem news_sub {g h : Heap} {L : Addr} {a b : List (Addr × Obj)} (N : News g L h a) (s : ∀ p ∈ b, p ∈ a) : News g L h b := fun p hp => N p (s p hp)
theorem cut_pick (items : Array Value) (b : Nat) : slicePick items none (some (b : Int)) none = (items.toList.take b).toArray := by
  by_cases h : b ≤ items.size
  · exact slicePick_upto items b h
  · have e : sliceBounds none (some (b : Int)) none items.size = sliceBounds none (some (items.size : Int)) none items.size := by
      simp only [sliceBounds, Option.getD_none]
      have h1 : ¬ ((b : Int) < 0) := by omega
      have h2 : ¬ ((items.size : Int) < 0) := by omega
      simp only [h1, h2, if_false]
      have e1 : min (b : Int) (items.size : Int) = (items.size : Int) := by omega
      first
        | (simp only [e1, Int.min_self]; done)
        | (simp [e1]; done)
        | (simp; omega)
    have e2 : slicePick items none (some (b : Int)) none = slicePick items none (some (items.size : Int)) none := by
      unfold slicePick
      rw [e]
    rw [e2, slicePick_upto items items.size (Nat.le_refl _), List.take_of_length_le (by rw [Array.length_toList]; exact Nat.le_refl _), List.take_of_length_le (by rw [Array.length_toList]; omega)]
section
variable {prog : Program} {w : World} {A : Around} {E : Value → Shared → Prop} {s : Shared} {h₀ : Heap} {L S D D2 : Addr} {m : Str → Option Value} {news : List (Addr × Obj)} {its : List Value} {n : Nat}
theorem cut_at {value slice : PySem.Expr} {b : Int} {u : Tok} {Q : Value → Shared → Prop} (F : Fr h₀ L s.heap m) (N : News h₀ L s.heap news) (hS : h₀.IsList S its.toArray) (h0 : 0 ≤ b) (hz : its.length ≤ 16384)
    (h : ∀ B h', Fr h₀ L h' m → News h₀ L h' ((B, listOf (its.take b.toNat).toArray 0) :: news) → (∀ p ∈ news, p.1 < B) → Q (.ref B) { s with heap := h' })
    (hs : subscripted slice false (.ref S) (.ref s.heap.objs.size) = operate [.ref s.heap.objs.size, .ref S] (getItem (.ref S) (.ref s.heap.objs.size))) (ht : ∀ r, letTemporaryGo value (.ref S) r = pure ()) :
    wpAny (model prog w) A (subscriptTail value slice (.ref S) (.ref s.heap.objs.size)) Q E { s with heap := s.heap.push { cls := .type "slice", data := .fields #[.none, .int b u, .none] } } := by
  obtain ⟨c, rfl⟩ := Int.eq_ofNat_of_zero_le h0
  refine kmk_slice_lit F N (hS.at fun o e => F.keep _ o e) .none (.int _ _) (zs := its.take c) ?_ h hs ht (by rw [List.size_toArray, sizeLine_eq]; omega)
  rw [cut_pick]
theorem tcut_at {value slice : PySem.Expr} {b : Int} {u : Tok} {Q : Value → Shared → Prop} (F : Fr h₀ L s.heap m) (N : News h₀ L s.heap news) (hm : (D, tupO its n) ∈ news) (h0 : 0 ≤ b) (hz : its.length ≤ 16384)
    (h : ∀ B n h', Fr h₀ L h' m → News h₀ L h' ((B, tupO (its.take b.toNat) n) :: news) → Q (.ref B) { s with heap := h' })
    (hs : subscripted slice false (.ref D) (.ref s.heap.objs.size) = operate [.ref s.heap.objs.size, .ref D] (getItem (.ref D) (.ref s.heap.objs.size))) (ht : ∀ r, letTemporaryGo value (.ref D) r = pure ()) :
    wpAny (model prog w) A (subscriptTail value slice (.ref D) (.ref s.heap.objs.size)) Q E { s with heap := s.heap.push { cls := .type "slice", data := .fields #[.none, .int b u, .none] } } := by
  have hD : IsTup s.heap D its.toArray := ⟨_, N.get hm, rfl, n, rfl⟩
  by_cases hb : its.length ≤ b.toNat
  · refine tup_allI F N hD h0 (by rw [List.size_toArray]; exact hb) (fun h' F' N' => h D n h' F' (fun p hp => ?_)) hs ht
    rcases List.mem_cons.mp hp with rfl | hp
    · rw [List.take_of_length_le hb]; exact N' _ hm
    · exact N' p hp
  · exact tup_uptoI F N hD h0 (by rw [List.size_toArray]; omega) rfl (fun B h' F' N' _ => h B 0 h' F' N') hs ht (by rw [List.size_toArray, sizeLine_eq]; omega)
theorem tcat_at {its2 : List Value} {n2 : Nat} {Q : Value → Shared → Prop} (F : Fr h₀ L s.heap m) (N : News h₀ L s.heap news) (h1 : (D, tupO its n) ∈ news) (h2 : (D2, tupO its2 n2) ∈ news) (hne : its2 ≠ []) (hz : its.length + its2.length ≤ 16384)
    (h : ∀ B n h', Fr h₀ L h' m → News h₀ L h' ((B, tupO (its ++ its2) n) :: news) → Q (.ref B) { s with heap := h' }) :
    wpAny (model prog w) A (binaryOp .Add (.ref D) (.ref D2)) Q E s := by
  have hD : IsTup s.heap D its.toArray := ⟨_, N.get h1, rfl, n, rfl⟩
  have hD2 : IsTup s.heap D2 its2.toArray := ⟨_, N.get h2, rfl, n2, rfl⟩
  by_cases hb : its = []
  · subst hb
    refine kde_addT0 F N hD hD2 rfl (by simpa using hz) (h D2 n2 _ F fun p hp => ?_)
    rcases List.mem_cons.mp hp with rfl | hp
    · exact N _ h2
    · exact N p hp
  · exact kde_addT F N hD hD2 hb hne (by simpa using hz) rfl (fun B h' F' N' _ => h B 0 h' F' N')
end
section
variable {prog : Program} {w : World} {A : Around} {E : Value → Shared → Prop} {s : Shared}
inductive CompXP (prog : Program) (w : World) (A : Around) (target elt : PySem.Expr) (ifs : List PySem.Expr) (scope : Scope) (cl : List (Str × Addr)) (env : Env) (Q : Value → Shared → Prop) (xv : Value) (s₁ : Shared) : Prop
  | mk (g : Heap) (L : Addr) (m : Str → Option Value) (news : List (Addr × Obj)) (n : Nat) (P : Nat → Value → Heap → Prop) (J : Nat → List Value → List (Addr × Obj) → Prop) (srcs : List Addr) (F : Fr g L s₁.heap m) (N : News g L s₁.heap news) (S : Src prog w A target s₁.heap srcs xv s₁ n P) (G : CompN prog w A target elt ifs scope cl env g news s₁ n P J)
      (fin : ∀ D h tk ys nws, Fr g L h m → News g L h ((D, listOf ys.toArray ys.length) :: news) → (∀ p ∈ news, p.1 ≠ D) → Ow s₁.heap h nws → (∀ p ∈ nws, p.1 ≠ D) → ys.length ≤ n → J n ys nws → Q (.ref D) { s₁ with heap := h, toks := tk })
/-- [..] as an expression, the frame told behind the source -/
theorem comp_NX {elt target iter : PySem.Expr} {ifs : List PySem.Expr} {scope : Scope} {cl : List (Str × Addr)} {pos : Pos} {env : Env} {Q : Value → Shared → Prop}
    (hclos : closureFor scope env = pure cl) (hcell : ∀ y ∈ scope.names, y.2 ≠ .cell) (hkind : scope.kind = .function)
    (hnames : ∀ y ∈ scope.names, y.2 = .local → scope.names.lookup y.1 = some .local)
    (h : wpAny (model prog w) A (eval iter env) (fun xv s₁ => Hold (CompXP prog w A target elt ifs scope cl env Q xv s₁)) E s)
    (hs : ∀ x, foldedSetIterable iter env x = pure x) :
    wpAny (model prog w) A (eval (.ListComp elt [⟨target, iter, ifs, 0⟩] scope pos) env) Q E s := by
  refine comp_evalX hclos hcell hkind hnames (wpAny_mono h (fun xv s₁ hh => ?_) fun _ _ x => x) hs
  obtain ⟨g, L, m, news, n, P, J, srcs, F, N, S, G, fin⟩ := hh
  refine ⟨s₁.heap, n, P, J, srcs, Kp.refl _, S, CompN.G F N (Kp.refl _) G (fun D h tk ys nws hD hD0 hk ho hne hyl hJ => ?_)⟩
  exact fin D h tk ys nws (F.keeps hk) (news_after F N (fun b o _ e => hk b o e) hD hD0) (news_ne N hD0) ho hne hyl hJ
end
def adrD (d : Adr) : PyData := .tuple [.int (d.host : Int), .tuple ((natsI d.figs).map PyData.int), .int (d.slash : Int)]
theorem eqvAll_ints : ∀ ks ls : List Int, PyData.eqvAll (ks.map PyData.int) (ls.map PyData.int) = decide (ks = ls) := fun ks ls => eqv_ints ks ls
theorem natsI_inj {a b : List Nat} : natsI a = natsI b ↔ a = b := by
  constructor
  · intro h
    have : ∀ a b : List Nat, natsI a = natsI b → a = b := by
      intro a
      induction a with
      | nil => intro b h; cases b with
        | nil => rfl
        | cons x r => simp [natsI] at h
      | cons y q ih => intro b h; cases b with
        | nil => simp [natsI] at h
        | cons x r =>
          simp only [natsI, List.map_cons, List.cons.injEq] at h
          rw [ih r h.2, Int.ofNat_inj.mp h.1]
    exact this a b h
  · rintro rfl; rfl
theorem eqv_adr (d e : Adr) : PyData.eqv (adrD d) (adrD e) = decide (d = e) := by
  obtain ⟨h, f, s⟩ := d
  obtain ⟨h', f', s'⟩ := e
  unfold adrD
  simp only [PyData.eqv, PyData.eqvAll, eqvAll_ints]
  rw [Bool.eq_iff_iff]
  simp only [Bool.and_eq_true, beq_iff_eq, decide_eq_true_iff, Bool.and_true, natsI_inj, Adr.mk.injEq, Int.ofNat_inj]
theorem canLay_adr (d : Adr) : (adrD d).canLay0 = true := by simp only [adrD, PyData.canLay0, PyData.canLayAll0, canLay_ints, Bool.and_self, Bool.and_true, Bool.true_and]
theorem depth_adr (d : Adr) : (adrD d).depth ≤ 4 := by
  have := depth_ints (natsI d.figs)
  simp only [adrD, PyData.depth, PyData.depthAll]
  omega
/-- a drawn address among the objects -/
inductive DrIn (objs : List (Addr × Obj)) (v : Value) (d : Adr) : Prop
  | mk (q : Addr) (f : Addr) (th : Tok) (ts : Tok) (n : Nat) (nf : Nat) (fvs : List Value) (q1 : v = .ref q) (q2 : (q, tupO [.int (d.host : Int) th, .ref f, .int (d.slash : Int) ts] n) ∈ objs) (q3 : (f, tupO fvs nf) ∈ objs) (q4 : IntsAre fvs (natsI d.figs))
theorem DrIn.up {o1 o2 : List (Addr × Obj)} {v : Value} {d : Adr} (x : DrIn o1 v d) (h : ∀ p ∈ o1, p ∈ o2) : DrIn o2 v d := let ⟨a, b, c, e, f, g, i, j, k, l, m⟩ := x; ⟨a, b, c, e, f, g, i, j, h _ k, h _ l, m⟩
theorem DrIn.reads {g h : Heap} {L : Addr} {objs : List (Addr × Obj)} {v : Value} {d : Adr} (N : News g L h objs) (x : DrIn objs v d) : Reads h v (adrD d) [] := by
  obtain ⟨q, f, th, ts, n, nf, fvs, rfl, m1, m2, hi⟩ := x
  have r2 : Reads h (.ref f) (.tuple ((natsI d.figs).map PyData.int)) [] := Reads.tuple (N _ m2).1 rfl rfl (by simpa using reads_ints hi)
  refine Reads.tuple (as := []) (N _ m1).1 rfl rfl ?_
  exact ReadsAll.cons (as := []) (bs := []) (Reads.int _ _) (ReadsAll.cons (as := []) (bs := []) r2 (ReadsAll.cons (as := []) (bs := []) (Reads.int _ _) .nil))
theorem drIns_reads {g h : Heap} {L : Addr} {objs : List (Addr × Obj)} {lits : List Value} {dr : List Adr} (N : News g L h objs) (x : All2 (DrIn objs) lits dr) : ReadsAll h lits (dr.map adrD) [] := by
  induction x with
  | nil => exact .nil
  | cons r _ ih => exact ReadsAll.cons (as := []) (bs := []) (DrIn.reads N r) ih
theorem canLay_adrs : ∀ dr : List Adr, PyData.canLayAll0 (dr.map adrD) = true
  | [] => rfl
  | d :: r => by simp [PyData.canLayAll0, canLay_adr, canLay_adrs r]
theorem any_adr (dr : List Adr) (d : Adr) : ((dr.map adrD).any fun y => PyData.eqv y (adrD d)) = decide (d ∈ dr) := by
  induction dr with
  | nil => simp
  | cons e r ih =>
    rw [List.map_cons, List.any_cons, ih, eqv_adr, Bool.eq_iff_iff]
    simp only [Bool.or_eq_true, decide_eq_true_iff, List.mem_cons]
    constructor
    · rintro (h | h)
      · exact .inl h.symm
      · exact .inr h
    · rintro (h | h)
      · exact .inl h.symm
      · exact .inr h
section
variable {prog : Program} {w : World} {A : Around} {E : Value → Shared → Prop} {s : Shared} {g : Heap} {L D : Addr} {news objs : List (Addr × Obj)}
theorem notIn_at {lits : List Value} {dr : List Adr} {d : Adr} {v : Value} {n : Nat} {Q : Value → Shared → Prop} (N : News g L s.heap news) (h1 : (D, listOf lits.toArray n) ∈ news) (hA : All2 (DrIn objs) lits dr) (hs : ∀ p ∈ objs, p ∈ news) (hx : DrIn news v d)
    (hu : A.units + 100 < cLine) (h : Q (.bool (!decide (d ∈ dr))) s) : wpAny (model prog w) A (compareOp .NotIn v (.ref D)) Q E s := by
  refine SeqAt.notIn_list_reads (xs := dr.map adrD) (Reads.list (N _ h1).1 rfl rfl (by simpa using drIns_reads (news_sub N hs) hA)) (DrIn.reads N hx) (canLay_adrs dr) (canLay_adr d) ?_ ?_
  · have := depth_adr d
    have h2 : min (PyData.depthAll (dr.map adrD)) (adrD d).depth ≤ (adrD d).depth := Nat.min_le_right _ _
    omega
  · rw [any_adr]; exact h
end
theorem apart_cls {g h : Heap} {L x T : Addr} {news : List (Addr × Obj)} {l : List Value} {n n2 : Nat} {l2 : List Value} (N : News g L h news) (h1 : (x, tupO l n) ∈ news) (h2 : (T, listOf l2.toArray n2) ∈ news) : @Ne Nat x T := fun q => by
  have q1 := (N _ h1).1
  have q2 := (N _ h2).1
  dsimp only at q1 q2
  rw [show x = T from q, q2] at q1
  have q3 := congrArg Obj.cls (Option.some.inj q1)
  exact absurd (Value.type.inj q3) (by decide)
section
variable {prog : Program} {w : World} {A : Around} {E : Value → Shared → Prop} {s : Shared}
/-- y = [..], the frame told behind the source -/
inductive CompXA (prog : Program) (w : World) (A : Around) (target elt : PySem.Expr) (ifs : List PySem.Expr) (scope : Scope) (cl : List (Str × Addr)) (env : Env) (y : Str) (L : Addr) (Q : Flow → Shared → Prop) (xv : Value) (s₁ : Shared) : Prop
  | mk (g : Heap) (m : Str → Option Value) (news : List (Addr × Obj)) (n : Nat) (P : Nat → Value → Heap → Prop) (J : Nat → List Value → List (Addr × Obj) → Prop) (srcs : List Addr) (F : Fr g L s₁.heap m) (N : News g L s₁.heap news) (S : Src prog w A target s₁.heap srcs xv s₁ n P) (G : CompN prog w A target elt ifs scope cl env g news s₁ n P J)
      (fin : ∀ D h tk ys nws, Fr g L h (fun z => if z = y then some (.ref D) else m z) → News g L h ((D, listOf ys.toArray ys.length) :: (nws ++ news)) → (∀ p ∈ news, p.1 ≠ D) → Ow s₁.heap h nws → (∀ p ∈ nws, p.1 ≠ D) → ys.length ≤ n → J n ys nws → Q .next { s₁ with heap := h, toks := tk })
theorem comp_NXA {elt target iter : PySem.Expr} {ifs : List PySem.Expr} {y : Str} {py : Pos} {scope : Scope} {cl : List (Str × Addr)} {pos spos : Pos} {env : Env} {L : Addr} {Q : Flow → Shared → Prop}
    (hLe : env.locals = L) (hsw : swapsWith (.ListComp elt [⟨target, iter, ifs, 0⟩] scope pos) (some (.Name y py)) spos.line env = pure true)
    (hclos : closureFor scope env = pure cl) (hcell : ∀ y ∈ scope.names, y.2 ≠ .cell) (hkind : scope.kind = .function)
    (hnames : ∀ y ∈ scope.names, y.2 = .local → scope.names.lookup y.1 = some .local)
    (hy : env.kindOf y = some .local) (hp : (env.scope.kind == .class || (env.scope.kind == .module && env.locals != env.globals)) = false)
    (h : wpAny (model prog w) A (eval iter env) (fun xv s₁ => Hold (CompXA prog w A target elt ifs scope cl env y L Q xv s₁)) E s)
    (hs : ∀ x, foldedSetIterable iter env x = pure x) :
    wpAny (model prog w) A (exec (.Assign [.Name y py] (.ListComp elt [⟨target, iter, ifs, 0⟩] scope pos) spos) env) Q E s := by
  refine comp_assignX hLe hsw hclos hcell hkind hnames hy hp (wpAny_mono h (fun xv s₁ hh => ?_) fun _ _ x => x) hs
  obtain ⟨g, m, news, n, P, J, srcs, F, N, S, G, fin⟩ := hh
  refine ⟨s₁.heap, g, m, n, P, J, srcs, Kp.refl _, S, F, CompN.G F N (Kp.refl _) G (fun _ _ _ _ _ _ _ _ _ _ _ _ => trivial), fun D h tk ys nws hD hD0 hk ho hne hyl hJ F' => ?_⟩
  refine fin D h tk ys nws F' (fun p hp => ?_) (news_ne N hD0) ho hne hyl hJ
  have Na := news_after F N hk hD hD0
  rcases List.mem_cons.mp hp with rfl | hp
  · exact Na _ (.head _)
  rcases List.mem_append.mp hp with hp | hp
  · refine ⟨(ho p hp).1, fun q => ?_, ?_⟩
    · obtain ⟨oL, eL⟩ := ns_there F.ns
      have := (ho p hp).2
      rw [q, eL] at this; cases this
    · cases e : g.get? p.1 with
      | none => rfl
      | some o' => have := F.keep _ _ e; rw [(ho p hp).2] at this; cases this
  · exact Na p (.tail _ hp)
end
end Mine
end PWK
theorem Mine.rstWK : True := by
  w_top off
  k_with_none
  first | (walk1; fail "x") | exact True.intro
section PWY
open PySem PySem.W PyProof.Rows PySem.Calls PySem.Spec
set_option maxRecDepth 100000
set_option pp.maxSteps 20000
namespace Mine
local macro_rules | `(tactic| units_room) => `(tactic| (have hcL' := cLine_is; simp only [units_in1, units_deeper, Around.mark_units, units_caller, Ar] at *; omega))
local macro_rules | `(tactic| k_all) => `(tactic| assumption)
theorem regWY1 : True := by
  k_with "exec For Name Name cons nil" => (k_here; refine hold_ ?_)
  k_with "exec For Name Subscript cons nil" => (k_here; refine hold_ ?_)
  k_with "exec For Tuple Name cons nil" => (k_here; refine hold_ ?_)
  k_with "exec While BoolOp cons nil" => (k_here; refine hold_ ?_)
  k_with "call ref" => (k_here; (with_reducible show wpAny _ _ (call (Value.ref 92) [Value.ref _, Value.ref _, Value.ref _] _) _ _ _); (rename Fr _ _ _ _ => kF); (rename News _ _ _ _ => kN); (rename Amb _ _ => am'); (rename Kp _ _ => kp'); k_dflt (refine wpAny_call ?_; refine' cmpK am' (Kp.trans kp' kF.keep) ?d (own_of kp' kN) ?x ?dx ?c ?l ?r ?kd ?ke ?_; (case d => assumption); (case x => k_mem); (case dx => k_mem); (case c => (refine SelIn.up (by assumption) ?_; intro _ hp; (first | ((repeat (first | (with_reducible_and_instances exact hp) | refine List.Mem.tail _ ?_)); done) | simp only [List.mem_cons, hp, or_true]))); (case l => (refine RowIn.up (by assumption) ?_; intro _ hp; (first | ((repeat (first | (with_reducible_and_instances exact hp) | refine List.Mem.tail _ ?_)); done) | simp only [List.mem_cons, hp, or_true]))); (case r => (refine RowIn.up (by assumption) ?_; intro _ hp; (first | ((repeat (first | (with_reducible_and_instances exact hp) | refine List.Mem.tail _ ?_)); done) | simp only [List.mem_cons, hp, or_true]))); (case kd => assumption); (case ke => assumption); intro _ _ _ hkp'; have _ := Fr.keeps kF hkp'; have _ := News.grown kN hkp'; clear kF kN hkp'))
  k_with "call ref" => (k_here; (with_reducible show wpAny _ _ (call (Value.ref 64) [Value.ref _, Value.ref _, Value.ref _] _) _ _ _); (rename Fr _ _ _ _ => kF); (rename News _ _ _ _ => kN); (rename Amb _ _ => am'); (rename Kp _ _ => kp'); k_dflt (refine wpAny_call ?_; refine' subK am' (Kp.trans kp' kF.keep) ?d ?u (own_of kp' kN) ?x ?dx ?l ?r ?kd ?ke ?_; (case d => assumption); (case u => (have _ := cLine_is; simp only [Ar, Around.deeper] at *; omega)); (case x => k_mem); (case dx => k_mem); (case l => (refine UpIn.up (by assumption) ?_; intro _ hp; (first | ((repeat (first | (with_reducible_and_instances exact hp) | refine List.Mem.tail _ ?_)); done) | simp only [List.mem_cons, hp, or_true]))); (case r => (refine UpIn.up (by assumption) ?_; intro _ hp; (first | ((repeat (first | (with_reducible_and_instances exact hp) | refine List.Mem.tail _ ?_)); done) | simp only [List.mem_cons, hp, or_true]))); (case kd => assumption); (case ke => assumption); intro _ _ hkp'; have _ := Fr.keeps kF hkp'; have _ := News.grown kN hkp'; clear kF kN hkp'))
  k_with "call builtin:len" => (k_here; (with_reducible show wpAny _ _ (call (Value.builtin "len") [Value.ref _] _) _ _ _); (rename News _ _ _ _ => kN); k_dflt (refine' len_at kN ?m ?z ?_; (case m => k_mem); (case z => assumption); intro _ _))
  k_with "subscriptTail" => (k_here; (with_reducible show wpAny _ _ (subscriptTail _ _ (Value.ref _) (Value.int _ _)) _ _ _); (rename News _ _ _ _ => kN); k_dflt (refine' item_at kN ?m ?h0 ?hf ?hx ?_ ?hs; (case m => k_mem); (case h0 => omega); (case hf => omega); (case hx => (refine idx_eq (by assumption) ?_; omega)); (case hs => with_unfolding_all rfl)))
  k_with "call builtin:list.insert" => (k_here; (with_reducible show wpAny _ _ (call (Value.builtin _) [Value.ref _, Value.int _ _, _] _) _ _ _); (rename Fr _ _ _ _ => kF); (rename News _ _ _ _ => kN); k_dflt (refine' insert_at kF kN ?h0 ?hl ?hz ?U ?_; (case U => k_upd); (case h0 => omega); (case hl => omega); (case hz => assumption); intro _ _ _; clear kF kN))
  k_with "call builtin:list.append" => (k_here; (with_reducible show wpAny _ _ (call (Value.builtin _) [Value.ref _, _] _) _ _ _); (rename Fr _ _ _ _ => kF); (rename News _ _ _ _ => kN); k_dflt (refine' append_at' kF kN ?hz ?U ?_; (case U => k_upd); (case hz => assumption); intro _ _ _; clear kF kN))
  k_with "subscriptTail Name Constant ref int" => (k_here; (with_reducible show wpAny _ _ (subscriptTail _ _ (Value.ref _) (Value.int _ _)) _ _ _); (rename News _ _ _ _ => kN); k_dflt (refine' item_at kN ?m ?h0 ?hf ?hx ?_ ?hs; (case m => k_mem); (case h0 => omega); (case hf => omega); (case hx => (refine idx_eq (by assumption) ?_; omega)); (case hs => with_unfolding_all rfl)))
  k_with "subscriptTail Name Name ref int" => (k_here; (with_reducible show wpAny _ _ (subscriptTail _ _ (Value.ref _) (Value.int _ _)) _ _ _); (rename News _ _ _ _ => kN); k_dflt (refine' item_at kN ?m ?h0 ?hf ?hx ?_ ?hs; (case m => k_mem); (case h0 => omega); (case hf => omega); (case hx => (refine idx_eq (by assumption) ?_; omega)); (case hs => with_unfolding_all rfl)))
  k_with "subscriptTail Name BinOp ref int" => (k_here; (with_reducible show wpAny _ _ (subscriptTail _ _ (Value.ref _) (Value.int _ _)) _ _ _); (rename News _ _ _ _ => kN); k_dflt (refine' item_at kN ?m ?h0 ?hf ?hx ?_ ?hs; (case m => k_mem); (case h0 => omega); (case hf => omega); (case hx => (refine idx_eq (by assumption) ?_; omega)); (case hs => with_unfolding_all rfl)))
  k_with "storeName" => (k_here; (with_reducible show wpAny _ _ (storeName (compEnvC _ _ _ _) _ _) _ _ _); (rename Fr _ _ _ _ => kF); (rename News _ _ _ _ => kN); k_dflt (refine' storeZ_L kF kN ?_; intro _ _ _; clear kF kN))
  k_with "eval Name" => (k_here; (with_reducible show wpAny _ _ (eval _ (compEnvC _ _ _ _)) _ _ _); (rename Fr _ _ _ _ => kF); (rename News _ _ _ _ => kN); k_dflt (first | (refine' nameZ_L kF ?k2 ?_; (case k2 => exact rfl); k_whole) | (refine' nameZ_C kN ?k1 ?k2 ?k3 ?_; (case k1 => exact rfl); (case k2 => k_mem); (case k3 => assumption); k_whole) | (refine' nameZ_K kF ?k1 ?k2 ?k3 ?_; (case k1 => k_asm); (case k2 => k_asm); (case k3 => k_is); k_whole) | (refine' nameZ_B kF ?k1 ?k2 ?k3 ?k4 ?k5 ?_; (case k1 => k_asm); (case k2 => k_asm); (case k3 => k_is); (case k4 => boot_by_name); (case k5 => decide); k_whole)))
  k_with "compareOp Eq ref ref" => (k_here; (with_reducible show wpAny _ _ (compareOp .Eq (Value.ref _) (Value.ref _)) _ _ _); (rename News _ _ _ _ => kN); k_dflt (refine' eq_ints kN ?h1 ?h2 ?i1 ?i2 ?u ?_; (case h1 => k_mem); (case h2 => k_mem); (case i1 => first | assumption | exact .nil | exact .cons _ _ (by assumption)); (case i2 => first | exact .nil | assumption); (case u => (have _ := cLine_is; simp only [Ar, Around.deeper] at *; omega)); rw [eqv_ints]; (first | rw [decide_eq_false (List.cons_ne_nil _ _)] | rw [decide_eq_true (rfl : ([] : List Int) = [])])))
  k_with "setItem" => (k_here; (with_reducible show wpAny _ _ (setItem (Value.ref _) (Value.int _ _) _) _ _ _); (rename Fr _ _ _ _ => kF); (rename News _ _ _ _ => kN); k_dflt (refine' set_at kF kN ?h0 ?hl ?hz ?U ?_; (case U => k_upd); (case h0 => omega); (case hl => omega); (case hz => assumption); intro _ _ _; clear kF kN))
  k_with "setItem ref int ref" => (k_here; (with_reducible show wpAny _ _ (setItem (Value.ref _) (Value.int _ _) _) _ _ _); (rename Fr _ _ _ _ => kF); (rename News _ _ _ _ => kN); k_dflt (refine' set_at kF kN ?h0 ?hl ?hz ?U ?_; (case U => k_upd); (case h0 => omega); (case hl => omega); (case hz => assumption); intro _ _ _; clear kF kN))
  exact True.intro
/-- a pile: its address, its items, its counter -/
abbrev Pile := Addr × List Value × Nat
abbrev pobj (p : Pile) : Addr × Obj := (p.1, listOf p.2.1.toArray p.2.2)
abbrev prefs (pl : List Pile) : List Value := pl.map fun p => Value.ref p.1
/-- a row's reference -/
inductive RowV (objs : List (Addr × Obj)) (v : Value) (d : Adr) : Prop
  | mk (r : Addr) (q1 : v = .ref r) (q2 : RowIn objs r d)
abbrev PilesIn (objs : List (Addr × Obj)) (pl : List Pile) (dss : List (List Adr)) : Prop := All2 (fun p ds => All2 (RowV objs) p.2.1 ds) pl dss
theorem split_addr {pl A : List Pile} {i : Nat} {a : Addr} {x : List Value × Nat} (hpi : pl[i]? = some (a, x)) (eA : A.map (·.1) = (pl.take i).map (·.1)) : pl.map (·.1) = A.map (·.1) ++ a :: (pl.drop (i + 1)).map (·.1) := by
  have h := List.take_append_drop i pl
  obtain ⟨hi, e⟩ := List.getElem?_eq_some_iff.mp hpi
  have e2 : pl.drop i = (a, x) :: pl.drop (i + 1) := by rw [List.drop_eq_getElem_cons hi, e]
  rw [eA]
  conv => lhs; rw [← h, e2, List.map_append, List.map_cons]
theorem nodup_mid {α : Type} {P a : α} {l r : List α} (h : (P :: (l ++ a :: r)).Nodup) : P ≠ a ∧ (∀ x ∈ l, x ≠ a) ∧ ∀ x ∈ r, x ≠ a := by
  rw [List.nodup_cons] at h
  obtain ⟨h1, h2⟩ := h
  rw [List.nodup_append] at h2
  obtain ⟨_, h3, h4⟩ := h2
  rw [List.nodup_cons] at h3
  refine ⟨fun q => h1 (by rw [q]; simp), fun x hx => h4 x hx a (.head _), fun x hx q => h3.1 (q ▸ hx)⟩
theorem prefs_of {pl pl2 : List Pile} (h : pl2.map (·.1) = pl.map (·.1)) : prefs pl2 = prefs pl := by
  have : ∀ l : List Pile, prefs l = (l.map (·.1)).map Value.ref := fun l => by simp [prefs]
  rw [this, this, h]
theorem regWY2 : True := by
  k_with "exec Assign cons ListComp" => (k_here; refine hold_ ?_)
  k_with "call type:enumerate" => (k_here; refine hold_ ?_)
  k_with "execs cons" => (k_here; (with_reducible show wpAny _ _ _ _ _ (Shared.mk _ _ _ (_ + 1) _)); k_dflt (refine' norm_ ?kns ?kna ?knb ?knc ?_; (case kns => assumption); (case kna => exact rfl); (case knb => exact rfl); (case knc => exact rfl); intro tk))
  exact True.intro
/-- what stands between two turns of _law_lay -/
inductive LayJ (P L' : Addr) (nP : Nat) (ow : Obj) (objs : List (Addr × Obj)) (pl : List Pile) (goal : List (List Adr)) (κ : Kind) (dss : List (List Adr)) (i : Nat) (m : Str → Option Value) (news : List (Addr × Obj)) : Prop
  | mk (A : List Pile) (dA : List (List Adr)) (r' : Addr) (d' : Adr) (oR : Obj) (e0 : news = (L' + 1 + 1, ow) :: (L' + 1, oR) :: (P, listOf (prefs pl).toArray nP) :: (A.map pobj ++ ((pl.drop i).map pobj ++ objs))) (e1 : PinL m [(Str.ofString "piles", Value.ref P)])
      (dR : oR.data = .cell (some (.ref r'))) (eA : A.map (·.1) = (pl.take i).map (·.1)) (hA : PilesIn objs A dA) (hr : RowIn objs r' d') (kd : d'.Ok) (eL : dA ++ layA κ.val d' (dss.drop i) = goal)
set_option maxHeartbeats 4000000 in
theorem layC {prog : Program} {w : World} {dp un : Nat} {gd : Option (List Code)} {fr : Option (List Env)} {h₀ : Heap} {s : Shared} {Q E : Value → Shared → Prop} {objs : List (Addr × Obj)}
    {P r x dx c : Addr} {hs : Int} {ky : Tok} {nP dn : Nat} {pl : List Pile} {dss : List (List Adr)} {d : Adr} {κ : Kind}
    (am : Amb w h₀) (k₀ : Kp h₀ s.heap) (hdp : dp + 1 < recursionLimit) (hun : un + 200 < cLine) (O : Own h₀ s.heap ((P, listOf (prefs pl).toArray nP) :: (pl.map pobj ++ objs)))
    (hnd : (P :: pl.map (·.1)).Nodup) (hap : ∀ p ∈ objs, p.1 ∉ P :: pl.map (·.1))
    (hr : RowIn objs r d) (hx : (x, instObj 95 dx) ∈ objs) (hdx : (dx, cmpD hs ky c dn) ∈ objs) (hc : SelIn objs c κ)
    (ht : PilesIn objs pl dss) (kd : d.Ok) (hok : ∀ ds ∈ dss, ∀ d ∈ ds, d.Ok) (hlen : dss.length ≤ 16) (hlens : ∀ ds ∈ dss, ds.length ≤ 16)
    (hret : ∀ pl2 nP2 h' tk', KpB (P :: pl.map (·.1)) s.heap h' → (∀ p ∈ (P, listOf (prefs pl2).toArray nP2) :: pl2.map pobj, h'.get? p.1 = some p.2) → (P :: pl2.map (·.1)).Nodup → (∀ p ∈ pl2, p.1 ∈ pl.map (·.1) ∨ s.heap.get? p.1 = none) →
      PilesIn objs pl2 (layA κ.val d dss) → Q .none { s with heap := h', toks := tk' }) :
    wpAny (model prog w) (Ar dp un fr gd) (call (.ref 142) [.ref P, .ref r, .ref x]) Q E s := by
  have hfl : (hd.heap_39, PySem.Challenge.rw_pg0090_01) = (hd.heap_39, PySem.Challenge.rw_pg0090_01) := by k_fill; rfl
  clear hfl
  have am0 := am
  obtain ⟨X, loose, mean, mg, mb, T⟩ := am
  k_dflt (refine' enterMC (wr := P :: pl.map (·.1)) X T k₀ O ?k6 ?k7 (Nat.lt_of_succ_lt hdp) ?k9 ?kB ?kD ?_ ?c2 ?c3 ?c4; (case k6 => k_is); (case k7 => k_is); (case k9 => exact BindsTo.of_eq rfl); (case kB => exact rfl); (case kD => decide +kernel); (case c2 => exact rfl); (case c3 => exact rfl); (case c4 => exact rfl); k_whole)
  intro g' L' h' tk' cells' F' N' Y' X' T' hl' hk' hg'
  replace F' : Fr g' L' h' (fun y => if y = Str.ofString "piles" then some (Value.ref P) else none) := by with_unfolding_all exact F'
  k_cells Y'
  simp only [List.cons_append, List.nil_append] at N'
  show wpAny _ _ _ _ _ _
  k_fold
  k_steps
  unfold Hold
  rename Fr _ _ _ _ => F3
  rename News _ _ _ _ => N3
  rename_i ow or dW dR
  replace dW : ow.data = .cell (some (.ref x)) := by with_unfolding_all exact dW
  replace dR : or.data = .cell (some (.ref r)) := by with_unfolding_all exact dR
  have hlen2 := All2.len ht
  have hPL : P < L' := hl' _ (.head _)
  have hrefs : (prefs pl).toArray.size = pl.length := by simp [prefs]
  refine for_N rfl (nameX_L F3 rfl ⟨g', L', P, (prefs pl).toArray, _, _, fun i m news => LayJ P L' nP ow objs pl (layA κ.val d dss) κ dss i m news, rfl, F3, N3, ⟨[], [], r, d, or, by simp, ⟨rfl, trivial⟩, dR, by simp, .nil, hr, kd, by simp⟩, ?_⟩) (fun _ => rfl)
  refine ⟨?_, ?_, ?_, ?_⟩
  · rintro i m news ⟨A, dA, r', d', oR, e0, _, _, eA, _, _, _, _⟩ p hp
    right
    rw [e0] at hp
    simp only [List.mem_cons, List.mem_append] at hp
    have old : ∀ p ∈ pl.map pobj, ∃ o, h'.get? p.1 = some o := fun p hp => ⟨_, (N3 p (by simp only [List.mem_cons, List.mem_append, hp, true_or, or_true])).1⟩
    rcases hp with rfl | rfl | rfl | hp | hp | hp
    · exact ⟨_, (N3 _ (.head _)).1⟩
    · exact ⟨_, (N3 _ (.tail _ (.head _))).1⟩
    · exact ⟨_, (N3 _ (.tail _ (.tail _ (.head _)))).1⟩
    · obtain ⟨q, hq, rfl⟩ := List.mem_map.mp hp
      have : q.1 ∈ (pl.take i).map (·.1) := eA ▸ List.mem_map_of_mem hq
      obtain ⟨q2, hq2, e⟩ := List.mem_map.mp this
      obtain ⟨o, ho⟩ := old (pobj q2) (List.mem_map_of_mem (List.mem_of_mem_take hq2))
      exact ⟨o, by rw [← ho]; exact congrArg _ e.symm⟩
    · obtain ⟨q, hq, rfl⟩ := List.mem_map.mp hp
      exact old _ (List.mem_map_of_mem (List.mem_of_mem_drop hq))
    · exact ⟨_, (N3 _ (by simp only [List.mem_cons, List.mem_append, hp, or_true])).1⟩
  · rintro i m news h ⟨A, dA, r', d', oR, e0, _, _, _, _, _, _, _⟩ F N
    rw [e0] at N
    exact N.isList (.tail _ (.tail _ (.head _)))
  · intro i v h tk m news I oI hi hv hcls hJJ F N hI0
    refine hide_ fun G hG => ?_
    obtain ⟨A, dA, r', d', oR, e0, e1, dR', eA, hA, hr', kd', eL⟩ := hJJ
    rw [e0] at N
    clear e0 news
    have hi' : i < pl.length := by rw [hrefs] at hi; exact hi
    obtain ⟨⟨a, lits, n⟩, hpi⟩ : ∃ p, pl[i]? = some p := ⟨pl[i], List.getElem?_eq_getElem hi'⟩
    have hv2 : v = .ref a := by
      have hv' : (prefs pl)[i]? = some v := by simpa using hv
      rw [List.getElem?_map, hpi] at hv'
      exact (Option.some.inj hv').symm
    subst hv2
    obtain ⟨ds, hds, hrow⟩ := All2.get ht hpi
    dsimp only at hrow
    have edp : pl.drop i = (a, lits, n) :: pl.drop (i + 1) := by
      rw [List.drop_eq_getElem_cons hi']
      rw [List.getElem?_eq_getElem hi'] at hpi
      rw [Option.some.inj hpi]
    have hdi : i < dss.length := by omega
    have edd : dss.drop i = ds :: dss.drop (i + 1) := by
      rw [List.drop_eq_getElem_cons hdi]
      rw [List.getElem?_eq_getElem hdi] at hds
      rw [Option.some.inj hds]
    have hdsm : ds ∈ dss := List.mem_of_getElem? hds
    have hokd := hok ds hdsm
    have hl16 : lits.length ≤ 16 := by rw [All2.len hrow]; exact hlens ds hdsm
    have hl17 : lits.length ≤ 16384 := by omega
    rw [edp] at N
    rw [edd] at eL
    have ham : (a, lits, n) ∈ pl := List.mem_of_getElem? hpi
    have hadr := split_addr hpi eA
    -- what stands beside the pile
    have hta : ∀ p ∈ (P, listOf (prefs pl).toArray nP) :: (A.map pobj ++ ((pl.drop (i + 1)).map pobj ++ objs)), p.1 ≠ a := by
      obtain ⟨n1, n2, n3⟩ := nodup_mid (hadr ▸ hnd)
      intro p hp
      simp only [List.mem_cons, List.mem_append] at hp
      rcases hp with rfl | hp | hp | hp
      · exact n1
      · obtain ⟨q, hq, rfl⟩ := List.mem_map.mp hp
        exact n2 _ (List.mem_map_of_mem hq)
      · obtain ⟨q, hq, rfl⟩ := List.mem_map.mp hp
        exact n3 _ (List.mem_map_of_mem hq)
      · intro q
        refine hap p hp ?_
        rw [q, hadr]
        simp
    have htl : ∀ p ∈ (P, listOf (prefs pl).toArray nP) :: (A.map pobj ++ ((pl.drop (i + 1)).map pobj ++ objs)), p.1 < L' := by
      intro p hp
      simp only [List.mem_cons, List.mem_append] at hp
      have inpl : ∀ b ∈ pl.map (·.1), b < L' := fun b hb => by
        obtain ⟨q, hq, rfl⟩ := List.mem_map.mp hb
        exact hl' (pobj q) (by simp only [List.mem_cons, List.mem_append]; exact .inr (.inl (List.mem_map_of_mem hq)))
      rcases hp with rfl | hp | hp | hp
      · exact hPL
      · obtain ⟨q, hq, rfl⟩ := List.mem_map.mp hp
        exact inpl _ (by rw [hadr]; exact List.mem_append.mpr (.inl (List.mem_map_of_mem hq)))
      · obtain ⟨q, hq, rfl⟩ := List.mem_map.mp hp
        have hq2 : q.1 ∈ (pl.drop (i + 1)).map (·.1) := List.mem_map_of_mem hq
        exact inpl _ (by rw [hadr]; exact List.mem_append.mpr (.inr (.tail _ hq2)))
      · exact hl' p (by simp only [List.mem_cons, List.mem_append, hp, or_true])
    have haL : a < L' := hl' (pobj (a, lits, n)) (by simp only [List.mem_cons, List.mem_append]; exact .inr (.inl (List.mem_map_of_mem ham)))
    have sT : ∀ p ∈ objs, p ∈ (P, listOf (prefs pl).toArray nP) :: (A.map pobj ++ ((pl.drop (i + 1)).map pobj ++ objs)) := fun p hp => by simp only [List.mem_cons, List.mem_append, hp, or_true]
    have hcT := hc.up sT
    have hrT := hr'.up sT
    have hxT := sT _ hx
    have hdxT := sT _ hdx
    have hrowT : All2 (RowV ((P, listOf (prefs pl).toArray nP) :: (A.map pobj ++ ((pl.drop (i + 1)).map pobj ++ objs)))) lits ds := All2.mono (fun v d ⟨q, e, hq⟩ => ⟨q, e, hq.up sT⟩) hrow
    have N1 : News g' L' h ((I, oI) :: (a, listOf lits.toArray n) :: (L' + 1 + 1, ow) :: (L' + 1, oR) :: (P, listOf (prefs pl).toArray nP) :: (A.map pobj ++ ((pl.drop (i + 1)).map pobj ++ objs))) := fun p hp => N p (by
      simp only [List.mem_cons, List.mem_append, List.map_cons, List.cons_append] at hp ⊢
      rcases hp with hq | hq | hq | hq | hq | hq | hq | hq <;> simp only [hq, true_or, or_true])
    obtain ⟨tail, et⟩ : ∃ tail, tail = (P, listOf (prefs pl).toArray nP) :: (A.map pobj ++ ((pl.drop (i + 1)).map pobj ++ objs)) := ⟨_, rfl⟩
    rw [← et] at N1 hcT hrT hxT hdxT hrowT hta htl
    have N2 : News g' L' h ((I, oI) :: (a, listOf lits.toArray n) :: (L' + 1 + 1, ow) :: (L' + 1, oR) :: (x, instObj 95 dx) :: (dx, cmpD hs ky c dn) :: tail) := fun p hp => N1 p (by
      simp only [List.mem_cons] at hp ⊢
      rcases hp with hq | hq | hq | hq | hq | hq | hq
      · exact .inl hq
      · exact .inr (.inl hq)
      · exact .inr (.inr (.inl hq))
      · exact .inr (.inr (.inr (.inl hq)))
      · rw [hq]; exact .inr (.inr (.inr (.inr hxT)))
      · rw [hq]; exact .inr (.inr (.inr (.inr hdxT)))
      · exact .inr (.inr (.inr (.inr hq))))
    have F2 := Mine.Fr.pinned F e1
    have hIa : @Ne Nat I a := fun q => by
      have q1 := (N3 (pobj (a, lits, n)) (by simp only [List.mem_cons, List.mem_append]; exact .inr (.inr (.inr (.inl (List.mem_map_of_mem ham)))))).1
      have q2 : h'.get? I = some (pobj (a, lits, n)).2 := by rw [show I = a from q]; exact q1
      exact absurd (hI0.symm.trans q2) (by simp)
    have hIL : @Ne Nat I (L' + 1) := fun q => by
      have q1 : h'.get? (L' + 1) = some or := (N3 _ (.tail _ (.head _))).1
      have q2 : h'.get? I = some or := by rw [show I = L' + 1 from q]; exact q1
      exact absurd (hI0.symm.trans q2) (by simp)
    clear hI0
    clear F N N1 F3 N3
    refine hG ?_
    clear hG
    show wpAny _ _ _ _ _ _
    k_fold
    k_steps
    unfold Hold
    rename Fr _ _ _ _ => F4
    rename News _ _ _ _ => N4
    refine' comp_N F4 N4 rfl ?sw ?cl ?ce rfl ?na rfl rfl ?it ?fs
    case sw => with_unfolding_all rfl
    case cl => with_unfolding_all rfl
    case ce => decide
    case na => decide
    case fs => intro _; rfl
    show wpAny _ _ _ _ _ _
    k_fold
    k_steps
    unfold Hold
    refine call_enum rfl (N4.isList (.tail _ (.head _))) _ (Kp.refl _) fun xv hE kE S => ?_
    show Hold _
    have hbl : ∀ j ∈ behA κ.val d' 0 ds, j < ds.length := fun j hj => by have := (behA_lt κ.val d' ds 0 j hj).2; omega
    refine ⟨_, _, fun i2 ys nws => nws = [] ∧ IntsAre ys (natsI (behA κ.val d' 0 (ds.take i2))), _, kE, S _ _ _, ⟨⟨rfl, .nil⟩, by rw [List.size_toArray, sizeLine_eq]; omega, ?_⟩, ?_⟩
    · clear kE S
      intro i2 v ys nws C h2 tk2 mC hi2 hP hJ hyl FC NC
      refine hide_ fun G hG => ?_
      obtain ⟨T, tT, q, rfl, hq, hT⟩ := hP
      obtain ⟨rfl, hJ⟩ := hJ
      have hq' : lits[i2]? = some q := by simpa using hq
      obtain ⟨d2, hd2, q2, rfl, hr2⟩ := All2.get hrowT hq'
      have kd2 := hokd d2 (List.mem_of_getElem? hd2)
      simp only [List.cons_append] at NC
      have sA : ∀ p ∈ allOf g' h2 C, p ∈ tail ++ allOf g' h2 C := fun p hp => List.mem_append.mpr (.inr hp)
      have sT2 : ∀ p ∈ tail, p ∈ tail ++ allOf g' h2 C := fun p hp => List.mem_append.mpr (.inl hp)
      have hcT2 := hcT.up sT2
      have hrT2 := hrT.up sT2
      have hr22 := hr2.up sT2
      have hnx : behA κ.val d' 0 (ds.take (i2 + 1)) = behA κ.val d' 0 (ds.take i2) ++ (if κ.val d' d2 < 0 then [i2] else []) := by
        rw [List.take_add_one, hd2]
        have := behA_snoc κ.val d' d2 (ds.take i2) 0
        have e3 : 0 + (ds.take i2).length = i2 := by
          have := (List.getElem?_eq_some_iff.mp hd2).1
          rw [List.length_take]; omega
        rw [e3] at this
        exact this
      generalize tail ++ allOf g' h2 C = tail2 at *
      refine hG ?_
      clear hG
      show wpAny _ _ _ _ _ _
      k_fold
      k_steps
      case' _ =>
        rename κ.val d' d2 < 0 => hlt
        rename Fr _ _ _ _ => F6
        rename News _ _ _ _ => N6
        refine ⟨_, _, _, _, [], rfl, F6, N6, fun p hp => ?_, fun _ hp => absurd hp List.not_mem_nil, rfl, ?_⟩
        · (first | ((repeat (first | (with_reducible_and_instances exact sA p hp) | refine List.Mem.tail _ ?_)); done) | simp only [List.mem_cons, sA p hp, or_true])
        · rw [hnx, if_pos hlt]
          show IntsAre _ (List.map _ _)
          rw [List.map_append]
          exact intsAre_snoc hJ
      case' _ =>
        rename ¬ κ.val d' d2 < 0 => hge
        rename Fr _ _ _ _ => F6
        rename News _ _ _ _ => N6
        refine ⟨_, _, _, _, [], rfl, F6, N6, fun p hp => ?_, fun _ hp => absurd hp List.not_mem_nil, rfl, ?_⟩
        · (first | ((repeat (first | (with_reducible_and_instances exact sA p hp) | refine List.Mem.tail _ ?_)); done) | simp only [List.mem_cons, sA p hp, or_true])
        · rw [hnx, if_neg hge, List.append_nil]
          exact hJ
    · intro D h2 tk2 ys nws FD ND hneD hoD _ hyl hJ
      refine hide_ fun G hG => ?_
      obtain ⟨rfl, hJ⟩ := hJ
      have eds : ds.take lits.toArray.size = ds := List.take_of_length_le (by rw [List.size_toArray, All2.len hrow]; exact Nat.le_refl _)
      rw [eds] at hJ
      have hneT : ∀ p ∈ tail, p.1 ≠ D := fun p hp => hneD p (by (first | ((repeat (first | (with_reducible_and_instances exact hp) | refine List.Mem.tail _ ?_)); done) | simp only [List.mem_cons, hp, or_true]))
      clear F4 N4 kE S
      clear hoD
      have hwD : @Ne Nat (L' + 1 + 1) D := hneD (L' + 1 + 1, ow) (.tail _ (.tail _ (.head _)))
      have hrD : @Ne Nat (L' + 1) D := hneD (L' + 1, oR) (.tail _ (.tail _ (.tail _ (.head _))))
      have haD : @Ne Nat a D := hneD (a, listOf lits.toArray n) (.tail _ (.head _))
      have hID : @Ne Nat I D := hneD (I, oI) (.head _)
      have hxa : @Ne Nat x a := hta _ hxT
      have hdxa : @Ne Nat dx a := hta _ hdxT
      have hxl : @LT.lt Nat _ x L' := htl _ hxT
      have hdxl : @LT.lt Nat _ dx L' := htl _ hdxT
      have haL2 : @LT.lt Nat _ a L' := haL
      have htR : ∀ p ∈ tail, p.1 ≠ L' + 1 := fun p hp => Nat.ne_of_lt (Nat.lt_succ_of_lt (htl p hp))
      cases hbeh : behA κ.val d' 0 ds with
      | nil =>
        rw [hbeh] at hJ
        cases hJ
        refine hG ?_
        clear hG
        show wpAny _ _ _ _ _ _
        k_fold
        k_steps
        rename Fr _ _ _ _ => F6
        rename News _ _ _ _ => N6
        have hadr2 : (A ++ (a, lits ++ [Value.ref r'], n + 1) :: pl.drop (i + 1)).map (·.1) = pl.map (·.1) := by rw [hadr]; simp
        refine ⟨_, _, _, F6, N6, fun p hp => ?_, fun k => hret (A ++ (a, lits ++ [Value.ref r'], n + 1) :: pl.drop (i + 1)) nP _ _ k ?_ ?_ ?_ ?_⟩
        · simp only [List.mem_cons, List.mem_append] at hp
          rcases hp with rfl | hp | hp
          · exact .inl (.head _)
          · obtain ⟨q, hq, rfl⟩ := List.mem_map.mp hp
            exact .inl (.tail _ (List.mem_map_of_mem (f := fun x : Pile => x.1) hq))
          · have hq : p ∈ tail := et ▸ sT p hp
            exact .inr (by (first | ((repeat (first | (with_reducible_and_instances exact hq) | refine List.Mem.tail _ ?_)); done) | simp only [List.mem_cons, hq, or_true]))
        · rw [prefs_of hadr2]
          have inT : ∀ p, p ∈ (P, listOf (prefs pl).toArray nP) :: (A.map pobj ++ ((pl.drop (i + 1)).map pobj ++ objs)) → Heap.get? _ p.1 = some p.2 := fun p hp => (N6 p (by rw [← et] at hp; (first | ((repeat (first | (with_reducible_and_instances exact hp) | refine List.Mem.tail _ ?_)); done) | simp only [List.mem_cons, hp, or_true]))).1
          intro p hp
          simp only [List.mem_cons, List.map_append, List.map_cons, List.mem_append] at hp
          rcases hp with rfl | hp | rfl | hp
          · exact inT _ (.head _)
          · exact inT _ (by simp only [List.mem_cons, List.mem_append, hp, true_or, or_true])
          · exact (N6 (pobj (a, lits ++ [Value.ref r'], n + 1)) (by (first | ((repeat (first | (with_reducible_and_instances exact List.Mem.head _) | refine List.Mem.tail _ ?_)); done) | simp only [List.mem_cons, true_or, or_true]))).1
          · exact inT _ (by simp only [List.mem_cons, List.mem_append, hp, true_or, or_true])
        · rw [hadr2]; exact hnd
        · intro p hp
          exact .inl (hadr2 ▸ List.mem_map_of_mem (f := fun x : Pile => x.1) hp)
        · rw [← eL]
          have e8 : layA κ.val d' (ds :: List.drop (i + 1) dss) = (ds ++ [d']) :: List.drop (i + 1) dss := by rw [layA, hbeh]
          rw [e8]
          exact All2.app hA (.cons (All2.snoc hrow ⟨r', rfl, hr'⟩) (All2.drop ht (i + 1)))
      | cons j js =>
        rw [hbeh] at hJ
        replace hJ : IntsAre ys ((j : Int) :: natsI js) := hJ
        cases hJ with
        | cons _ tj hJ =>
        rename_i ys
        have h00 : (Value.int (j : Int) tj :: ys)[0]? = some (Value.int (j : Int) tj) := rfl
        have hjl := hbl j (by rw [hbeh]; exact .head _)
        have hjl2 : j < lits.length := by rw [All2.len hrow]; exact hjl
        obtain ⟨dj, hdj⟩ : ∃ e, ds[j]? = some e := ⟨ds[j], List.getElem?_eq_getElem hjl⟩
        obtain ⟨vj, hvj, rj, rfl, hrj0⟩ := All2.getR hrow hdj
        have hrj : RowIn tail rj dj := hrj0.up (fun p hp => et ▸ sT p hp)
        refine hG ?_
        clear hG
        show wpAny _ _ _ _ _ _
        k_fold
        k_steps
        rename Fr _ _ _ _ => F6
        rename News _ _ _ _ => N6
        rename Obj.data _ = Data.cell (some (Value.ref rj)) => dC
        rename_i oC _
        refine TurnN.intro (I := I) (oI := oI) ((L' + 1 + 1, ow) :: (L' + 1, oC) :: (P, listOf (prefs pl).toArray nP) :: ((A ++ [(a, lits.set j (Value.ref r'), n)]).map pobj ++ ((pl.drop (i + 1)).map pobj ++ objs))) F6 N6 ?_ ?_ ⟨A ++ [(a, lits.set j (Value.ref r'), n)], dA ++ [ds.set j d'], rj, dj, oC, rfl, ⟨rfl, trivial⟩, dC, ?_, ?_, hrj0, ?_, ?_⟩
        · (first | ((repeat (first | (with_reducible_and_instances exact List.Mem.head _) | refine List.Mem.tail _ ?_)); done) | simp only [List.mem_cons, true_or, or_true])
        · intro p hp
          have inT : p ∈ (P, listOf (prefs pl).toArray nP) :: (A.map pobj ++ ((pl.drop (i + 1)).map pobj ++ objs)) → p ∈ tail := fun h => et ▸ h
          simp only [List.mem_cons, List.map_append, List.map_cons, List.map_nil, List.mem_append, List.not_mem_nil, or_false] at hp inT
          simp only [List.mem_cons]
          rcases hp with rfl | rfl | rfl | (hp | rfl) | hp | hp
          · simp only [true_or, or_true]
          · simp only [true_or, or_true]
          · simp only [inT (.inl rfl), or_true]
          · simp only [inT (.inr (.inl hp)), or_true]
          · simp only [true_or, or_true, Int.toNat_natCast]
          · simp only [inT (.inr (.inr (.inl hp))), or_true]
          · simp only [inT (.inr (.inr (.inr hp))), or_true]
        · rw [List.take_add_one, hpi]; simp [eA]
        · exact All2.snoc hA (All2.set hrow ⟨r', rfl, hr'⟩ j)
        · exact hokd dj (List.mem_of_getElem? hdj)
        · rw [← eL, List.append_assoc]
          show dA ++ (ds.set j d' :: _) = dA ++ layA κ.val d' (ds :: List.drop (i + 1) dss)
          have e7 : ds.getD j d' = dj := by rw [List.getD_eq_getElem?_getD, hdj]; rfl
          have e8 : layA κ.val d' (ds :: List.drop (i + 1) dss) = ds.set j d' :: layA κ.val (ds.getD j d') (List.drop (i + 1) dss) := by
            rw [layA, hbeh]
          rw [e8, e7]
          rfl
  · rintro h tk m news F N ⟨A, dA, r', d', oR, e0, e1, dR', eA, hA, hr', kd', eL⟩
    rw [e0] at N
    have e2 : pl.drop (prefs pl).toArray.size = [] := by rw [hrefs]; exact List.drop_length
    have e3 : dss.drop (prefs pl).toArray.size = [] := by rw [hrefs, hlen2]; exact List.drop_length
    have e4 : pl.take (prefs pl).toArray.size = pl := by rw [hrefs]; exact List.take_length
    rw [e2] at N
    rw [e3] at eL
    rw [e4] at eA
    simp only [List.map_nil, List.nil_append] at N
    have F2 := Mine.Fr.pinned F e1
    have hPA : ∀ p ∈ A.map pobj ++ objs, p.1 ≠ P := by
      intro p hp q
      rcases List.mem_append.mp hp with hp | hp
      · obtain ⟨z, hz, rfl⟩ := List.mem_map.mp hp
        have hz2 : z.1 ∈ pl.map (·.1) := eA ▸ List.mem_map_of_mem (f := fun x : Pile => x.1) hz
        rw [show z.1 = P from q] at hz2
        exact (List.nodup_cons.mp hnd).1 hz2
      · exact hap p hp (by rw [q]; exact .head _)
    have hpz : (prefs pl).length ≤ 16384 := by
      rw [show (prefs pl).length = pl.length by simp [prefs]]; omega
    have hbelow : ∀ b ∈ P :: pl.map (·.1), b < L' := by
      intro b hb
      rcases List.mem_cons.mp hb with rfl | hb
      · exact hPL
      · obtain ⟨q, hq, rfl⟩ := List.mem_map.mp hb
        exact hl' (pobj q) (by simp only [List.mem_cons, List.mem_append]; exact .inr (.inl (List.mem_map_of_mem hq)))
    have hPl2 : @LT.lt Nat _ P L' := hPL
    obtain ⟨tail, et⟩ : ∃ tail, tail = A.map pobj ++ objs := ⟨_, rfl⟩
    rw [← et] at N hPA
    clear F F3 N3
    show wpAny _ _ _ _ _ _
    k_steps
    rename Fr _ _ _ _ => F6
    rename News _ _ _ _ => N6
    rename_i B _ lB _
    have hB0 : s.heap.get? B = none := by
      cases q : s.heap.get? B with
      | none => rfl
      | some o =>
        have q1 := (N6 _ (.head _)).2.2
        by_cases hb : B ∈ ((P, listOf (prefs pl).toArray nP) :: (pl.map pobj ++ objs)).map (·.1)
        · obtain ⟨p, hp, e⟩ := List.mem_map.mp hb
          have h1 : p.1 < L' := hl' p hp
          have e' : p.1 = B := e
          rw [e'] at h1
          have h2 : @LT.lt Nat _ (L' + 1) B := lB.2.1
          exact absurd (Nat.lt_trans (Nat.lt_succ_self L') h2) (Nat.lt_asymm h1)
        · have := hg' B o q hb
          rw [this] at q1; cases q1
    have hadr2 : (A ++ [((B, [Value.ref r'], 0) : Pile)]).map (·.1) = pl.map (·.1) ++ [B] := by rw [List.map_append, eA]; rfl
    have hpre : prefs (A ++ [((B, [Value.ref r'], 0) : Pile)]) = prefs pl ++ [Value.ref B] := by
      have := prefs_of eA
      rw [← this]; simp [prefs]
    refine ⟨_, _, _, F6, N6, fun p hp => ?_, fun k => hret (A ++ [(B, [Value.ref r'], 0)]) (nP + 1) _ _ k ?_ ?_ ?_ ?_⟩
    · simp only [List.mem_cons, List.mem_append] at hp
      rcases hp with rfl | hp | hp
      · exact .inl (.head _)
      · obtain ⟨q, hq, rfl⟩ := List.mem_map.mp hp
        exact .inl (.tail _ (List.mem_map_of_mem (f := fun x : Pile => x.1) hq))
      · have hq : p ∈ tail := et ▸ List.mem_append.mpr (.inr hp)
        exact .inr (by (first | ((repeat (first | (with_reducible_and_instances exact hq) | refine List.Mem.tail _ ?_)); done) | simp only [List.mem_cons, hq, or_true]))
    · rw [hpre]
      intro p hp
      simp only [List.mem_cons, List.map_append, List.map_cons, List.map_nil, List.mem_append, List.not_mem_nil, or_false] at hp
      rcases hp with rfl | hp | rfl
      · exact (N6 _ (.tail _ (.tail _ (.tail _ (.head _))))).1
      · have hq : p ∈ tail := et ▸ List.mem_append.mpr (.inl hp)
        exact (N6 _ (by (first | ((repeat (first | (with_reducible_and_instances exact hq) | refine List.Mem.tail _ ?_)); done) | simp only [List.mem_cons, hq, or_true]))).1
      · exact (N6 _ (.head _)).1
    · rw [hadr2]
      have hBn : B ∉ P :: pl.map (·.1) := fun hb => by
        have h1 := hbelow B hb
        have h2 : @LT.lt Nat _ (L' + 1) B := lB.2.1
        exact absurd (Nat.lt_trans (Nat.lt_succ_self L') h2) (Nat.lt_asymm h1)
      rw [← List.cons_append, List.nodup_append]
      exact ⟨hnd, by simp, fun x hx y hy => by rw [List.mem_singleton.mp hy]; exact fun q => hBn (q ▸ hx)⟩
    · intro p hp
      rcases List.mem_append.mp hp with hp | hp
      · exact .inl (eA ▸ List.mem_map_of_mem (f := fun x : Pile => x.1) hp)
      · rw [List.mem_singleton.mp hp]; exact .inr hB0
    · rw [← eL]
      exact All2.app hA (.cons (.cons ⟨r', rfl, hr'⟩ .nil) .nil)
end Mine
end PWY
theorem Mine.rstWY : True := by
  w_top off
  k_with_none
  first | (walk1; fail "x") | exact True.intro
section PWH
open PySem PySem.W PyProof.Rows PySem.Calls PySem.Spec
set_option maxRecDepth 100000
set_option pp.maxSteps 20000
namespace Mine
local macro_rules | `(tactic| units_room) => `(tactic| (have hcL' := cLine_is; simp only [units_in1, units_deeper, Around.mark_units, units_caller, Ar] at *; omega))
local macro_rules | `(tactic| k_all) => `(tactic| assumption)
theorem regWH1 : True := by
  k_with "exec For Name Name cons nil" => (k_here; refine hold_ ?_)
  k_with "exec For Name Subscript cons nil" => (k_here; refine hold_ ?_)
  k_with "exec For Tuple Name cons nil" => (k_here; refine hold_ ?_)
  k_with "exec While BoolOp cons nil" => (k_here; refine hold_ ?_)
  k_with "call ref" => (k_here; (with_reducible show wpAny _ _ (call (Value.ref 92) [Value.ref _, Value.ref _, Value.ref _] _) _ _ _); (rename Fr _ _ _ _ => kF); (rename News _ _ _ _ => kN); (rename Amb _ _ => am'); (rename Kp _ _ => kp'); k_dflt (refine wpAny_call ?_; refine' cmpK am' (Kp.trans kp' kF.keep) ?d (own_of kp' kN) ?x ?dx ?c ?l ?r ?kd ?ke ?_; (case d => assumption); (case x => k_mem); (case dx => k_mem); (case c => (refine SelIn.up (by assumption) ?_; intro _ hp; (first | ((repeat (first | (with_reducible_and_instances exact hp) | refine List.Mem.tail _ ?_)); done) | simp only [List.mem_cons, hp, or_true]))); (case l => (refine RowIn.up (by assumption) ?_; intro _ hp; (first | ((repeat (first | (with_reducible_and_instances exact hp) | refine List.Mem.tail _ ?_)); done) | simp only [List.mem_cons, hp, or_true]))); (case r => (refine RowIn.up (by assumption) ?_; intro _ hp; (first | ((repeat (first | (with_reducible_and_instances exact hp) | refine List.Mem.tail _ ?_)); done) | simp only [List.mem_cons, hp, or_true]))); (case kd => assumption); (case ke => assumption); intro _ _ _ hkp'; have _ := Fr.keeps kF hkp'; have _ := News.grown kN hkp'; clear kF kN hkp'))
  k_with "call ref" => (k_here; (with_reducible show wpAny _ _ (call (Value.ref 64) [Value.ref _, Value.ref _, Value.ref _] _) _ _ _); (rename Fr _ _ _ _ => kF); (rename News _ _ _ _ => kN); (rename Amb _ _ => am'); (rename Kp _ _ => kp'); k_dflt (refine wpAny_call ?_; refine' subK am' (Kp.trans kp' kF.keep) ?d ?u (own_of kp' kN) ?x ?dx ?l ?r ?kd ?ke ?_; (case d => assumption); (case u => (have _ := cLine_is; simp only [Ar, Around.deeper] at *; omega)); (case x => k_mem); (case dx => k_mem); (case l => (refine UpIn.up (by assumption) ?_; intro _ hp; (first | ((repeat (first | (with_reducible_and_instances exact hp) | refine List.Mem.tail _ ?_)); done) | simp only [List.mem_cons, hp, or_true]))); (case r => (refine UpIn.up (by assumption) ?_; intro _ hp; (first | ((repeat (first | (with_reducible_and_instances exact hp) | refine List.Mem.tail _ ?_)); done) | simp only [List.mem_cons, hp, or_true]))); (case kd => assumption); (case ke => assumption); intro _ _ hkp'; have _ := Fr.keeps kF hkp'; have _ := News.grown kN hkp'; clear kF kN hkp'))
  k_with "call builtin:len" => (k_here; (with_reducible show wpAny _ _ (call (Value.builtin "len") [Value.ref _] _) _ _ _); (rename News _ _ _ _ => kN); k_dflt (refine' len_at kN ?m ?z ?_; (case m => k_mem); (case z => assumption); intro _ _))
  k_with "subscriptTail" => (k_here; (with_reducible show wpAny _ _ (subscriptTail _ _ (Value.ref _) (Value.int _ _)) _ _ _); (rename News _ _ _ _ => kN); k_dflt (refine' item_at kN ?m ?h0 ?hf ?hx ?_ ?hs; (case m => k_mem); (case h0 => omega); (case hf => omega); (case hx => (refine idx_eq (by assumption) ?_; omega)); (case hs => with_unfolding_all rfl)))
  k_with "call builtin:list.insert" => (k_here; (with_reducible show wpAny _ _ (call (Value.builtin _) [Value.ref _, Value.int _ _, _] _) _ _ _); (rename Fr _ _ _ _ => kF); (rename News _ _ _ _ => kN); k_dflt (refine' insert_at kF kN ?h0 ?hl ?hz ?U ?_; (case U => k_upd); (case h0 => omega); (case hl => omega); (case hz => assumption); intro _ _ _; clear kF kN))
  k_with "call builtin:list.append" => (k_here; (with_reducible show wpAny _ _ (call (Value.builtin _) [Value.ref _, _] _) _ _ _); (rename Fr _ _ _ _ => kF); (rename News _ _ _ _ => kN); k_dflt (refine' append_at' kF kN ?hz ?U ?_; (case U => k_upd); (case hz => assumption); intro _ _ _; clear kF kN))
  k_with "subscriptTail Name Constant ref int" => (k_here; (with_reducible show wpAny _ _ (subscriptTail _ _ (Value.ref _) (Value.int _ _)) _ _ _); (rename News _ _ _ _ => kN); k_dflt (refine' item_at kN ?m ?h0 ?hf ?hx ?_ ?hs; (case m => k_mem); (case h0 => omega); (case hf => omega); (case hx => (refine idx_eq (by assumption) ?_; omega)); (case hs => with_unfolding_all rfl)))
  k_with "subscriptTail Name Name ref int" => (k_here; (with_reducible show wpAny _ _ (subscriptTail _ _ (Value.ref _) (Value.int _ _)) _ _ _); (rename News _ _ _ _ => kN); k_dflt (refine' item_at kN ?m ?h0 ?hf ?hx ?_ ?hs; (case m => k_mem); (case h0 => omega); (case hf => omega); (case hx => (refine idx_eq (by assumption) ?_; omega)); (case hs => with_unfolding_all rfl)))
  k_with "subscriptTail Name BinOp ref int" => (k_here; (with_reducible show wpAny _ _ (subscriptTail _ _ (Value.ref _) (Value.int _ _)) _ _ _); (rename News _ _ _ _ => kN); k_dflt (refine' item_at kN ?m ?h0 ?hf ?hx ?_ ?hs; (case m => k_mem); (case h0 => omega); (case hf => omega); (case hx => (refine idx_eq (by assumption) ?_; omega)); (case hs => with_unfolding_all rfl)))
  k_with "storeName" => (k_here; (with_reducible show wpAny _ _ (storeName (compEnvC _ _ _ _) _ _) _ _ _); (rename Fr _ _ _ _ => kF); (rename News _ _ _ _ => kN); k_dflt (refine' storeZ_L kF kN ?_; intro _ _ _; clear kF kN))
  k_with "eval Name" => (k_here; (with_reducible show wpAny _ _ (eval _ (compEnvC _ _ _ _)) _ _ _); (rename Fr _ _ _ _ => kF); (rename News _ _ _ _ => kN); k_dflt (first | (refine' nameZ_L kF ?k2 ?_; (case k2 => exact rfl); k_whole) | (refine' nameZ_C kN ?k1 ?k2 ?k3 ?_; (case k1 => exact rfl); (case k2 => k_mem); (case k3 => assumption); k_whole) | (refine' nameZ_K kF ?k1 ?k2 ?k3 ?_; (case k1 => k_asm); (case k2 => k_asm); (case k3 => k_is); k_whole) | (refine' nameZ_B kF ?k1 ?k2 ?k3 ?k4 ?k5 ?_; (case k1 => k_asm); (case k2 => k_asm); (case k3 => k_is); (case k4 => boot_by_name); (case k5 => decide); k_whole)))
  k_with "compareOp Eq ref ref" => (k_here; (with_reducible show wpAny _ _ (compareOp .Eq (Value.ref _) (Value.ref _)) _ _ _); (rename News _ _ _ _ => kN); k_dflt (refine' eq_ints kN ?h1 ?h2 ?i1 ?i2 ?u ?_; (case h1 => k_mem); (case h2 => k_mem); (case i1 => first | assumption | exact .nil | exact .cons _ _ (by assumption)); (case i2 => first | exact .nil | assumption); (case u => (have _ := cLine_is; simp only [Ar, Around.deeper] at *; omega)); rw [eqv_ints]; (first | rw [decide_eq_false (List.cons_ne_nil _ _)] | rw [decide_eq_true (rfl : ([] : List Int) = [])])))
  k_with "setItem" => (k_here; (with_reducible show wpAny _ _ (setItem (Value.ref _) (Value.int _ _) _) _ _ _); (rename Fr _ _ _ _ => kF); (rename News _ _ _ _ => kN); k_dflt (refine' set_at kF kN ?h0 ?hl ?hz ?U ?_; (case U => k_upd); (case h0 => omega); (case hl => omega); (case hz => assumption); intro _ _ _; clear kF kN))
  k_with "setItem ref int ref" => (k_here; (with_reducible show wpAny _ _ (setItem (Value.ref _) (Value.int _ _) _) _ _ _); (rename Fr _ _ _ _ => kF); (rename News _ _ _ _ => kN); k_dflt (refine' set_at kF kN ?h0 ?hl ?hz ?U ?_; (case U => k_upd); (case h0 => omega); (case hl => omega); (case hz => assumption); intro _ _ _; clear kF kN))
  k_with "exec Assign cons ListComp" => (k_here; refine hold_ ?_)
  k_with "eval ListComp" => (k_here; refine hold_ ?_)
  k_with "subscriptTail Name Slice ref ref" => (k_here; (with_reducible show wpAny _ _ (subscriptTail _ (PySem.Expr.Slice none none (some _) _) (Value.ref _) (Value.ref _)) _ _ _); (rename Fr _ _ _ _ => kF); (rename News _ _ _ _ => kN); k_dflt (refine' rev_at kF kN ?m ?k ?z ?_ ?s ?t; (case m => k_mem); (case k => exact IsPart.int _ _); (case z => assumption); (case s => with_unfolding_all rfl); (case t => kmk_pure); intro _ _ _ _ _; clear kF kN))
  k_with "binaryOp Add ref ref" => (k_here; (with_reducible show wpAny _ _ (binaryOp _ (Value.ref _) (Value.ref _)) _ _ _); (rename Fr _ _ _ _ => kF); (rename News _ _ _ _ => kN); k_dflt (refine' cat_at kF kN ?h1 ?h2 ?z ?_; (case h1 => k_mem); (case h2 => k_mem); (case z => first | assumption | (simp only [List.length_cons, List.length_nil]; omega)); intro _ _ _ _ lB'; (try k_lt lB'); clear kF kN))
  k_with "call builtin:max" => (k_here; (with_reducible show wpAny _ _ (call (Value.builtin "max") [Value.ref _] _) _ _ _); (rename Fr _ _ _ _ => kF); (rename News _ _ _ _ => kN); k_dflt (refine' max_list_N rfl kF kN ?l ?i ?ne ?_; (case l => exact News.isList kN (by k_mem)); (case i => exact .cons _ _ (by assumption)); (case ne => exact Nat.succ_pos _); intro _ _ _ _ _ _ hM' hB'; clear kF kN; have hM2 := max_ints hM' hB'; subst hM2; clear hM' hB'))
  k_with "execs cons" => (k_here; (with_reducible show wpAny _ _ _ _ _ (Shared.mk _ _ _ (_ + 1) _)); k_dflt (refine' norm_ ?kns ?kna ?knb ?knc ?_; (case kns => assumption); (case kna => exact rfl); (case knb => exact rfl); (case knc => exact rfl); intro tk))
  exact True.intro
/-- what is told of an address: its height and itself -/
inductive TolIn (objs : List (Addr × Obj)) (v : Value) (p : Nat × Adr) : Prop
  | mk (q : Addr) (t : Tok) (up : Addr) (n : Nat) (q1 : v = .ref q) (q2 : (q, tupO [.int (p.1 : Int) t, .ref up] n) ∈ objs) (q3 : UpIn objs up p.2)
theorem TolIn.up {o1 o2 : List (Addr × Obj)} {v : Value} {p : Nat × Adr} (x : TolIn o1 v p) (h : ∀ p ∈ o1, p ∈ o2) : TolIn o2 v p := let ⟨a, b, c, d, e, f, g⟩ := x; ⟨a, b, c, d, e, h _ f, g.up h⟩
set_option maxHeartbeats 4000000 in
theorem hgtC {prog : Program} {w : World} {dp un : Nat} {gd : Option (List Code)} {fr : Option (List Env)} {h₀ : Heap} {s : Shared} {Q E : Value → Shared → Prop} {objs : List (Addr × Obj)}
    {D x dx pw : Addr} {hs : Int} {ky : Tok} {nD dn : Nat} {its : List Value} {ds : List Adr}
    (am : Amb w h₀) (k₀ : Kp h₀ s.heap) (hdp : dp + 1 < recursionLimit) (hun : un + 200 < cLine) (O : Own h₀ s.heap objs)
    (hD : (D, listOf its.toArray nD) ∈ objs) (hx : (x, instObj 67 dx) ∈ objs) (hdx : (dx, mgrD hs ky pw dn) ∈ objs)
    (ht : ThingsIn objs its ds) (hok : ∀ d ∈ ds, d.Ok) (hlen : ds.length ≤ 16)
    (hret : ∀ B n ys h' tk', Kp s.heap h' → h'.get? B = some (listOf ys.toArray n) → s.heap.get? B = none → IntsAre ys (natsI ((toldA ds.reverse).map (·.1))) → Q (.ref B) { s with heap := h', toks := tk' }) :
    wpAny (model prog w) (Ar dp un fr gd) (call (.ref 147) [.ref D, .ref x]) Q E s := by
  have hfl : (hd.heap_39, PySem.Challenge.rw_pg0090_01) = (hd.heap_39, PySem.Challenge.rw_pg0090_01) := by k_fill; rfl
  clear hfl
  have am0 := am
  obtain ⟨X, loose, mean, mg, mb, T⟩ := am
  k_dflt (refine' enterPC X T k₀ O ?k6 ?k7 (Nat.lt_of_succ_lt hdp) ?k9 ?kB ?kD ?_ ?c2 ?c3 ?c4; (case k6 => k_is); (case k7 => k_is); (case k9 => exact BindsTo.of_eq rfl); (case kB => exact rfl); (case kD => decide +kernel); (case c2 => exact rfl); (case c3 => exact rfl); (case c4 => exact rfl); k_whole)
  intro g' L' h' tk' cells' F' N' Y' X' T' hl' hk' hg'
  replace F' : Fr g' L' h' (fun y => if y = Str.ofString "line" then some (Value.ref D) else none) := by with_unfolding_all exact F'
  k_cells Y'
  simp only [List.cons_append, List.nil_append] at N'
  rename_i oT oM dT dM
  replace dM : oM.data = .cell (some (.ref x)) := by with_unfolding_all exact dM
  replace dT : oT.data = .cell none := by with_unfolding_all exact dT
  show wpAny _ _ _ _ _ _
  k_fold
  k_steps
  unfold Hold
  rename Fr _ _ _ _ => F3
  rename News _ _ _ _ => N3
  rename_i T _ lB _
  have hz0 : its.length ≤ 16384 := by rw [All2.len ht]; omega
  have lO := allLt_at lB.2.2
  have hMT : @LT.lt Nat _ (L' + 1) T := lB.2.1
  have hTT : @LT.lt Nat _ (L' + 1 + 1) T := lB.1
  have N3' : News g' L' _ ((T, listOf #[] 0) :: (L' + 1 + 1, oT) :: (L' + 1, oM) :: (D, listOf its.toArray nD) :: objs) := news_sub N3 (by
    intro p hp
    simp only [List.mem_cons] at hp ⊢
    rcases hp with h | h | h | h | h
    · exact .inl h
    · exact .inr (.inl h)
    · exact .inr (.inr (.inl h))
    · rw [h]; exact .inr (.inr (.inr hD))
    · exact .inr (.inr (.inr h)))
  clear N3
  refine for_NH rfl ?_ (fun _ => rfl)
  show wpAny _ _ _ _ _ _
  k_fold
  k_steps
  rename Fr _ _ _ _ => F4
  rename News _ _ _ _ => N4
  rename_i R h4 lR
  have hR0 : R ≠ T := fun q => absurd (lR (T, listOf #[] 0) (.head _)) (by rw [q]; exact Nat.lt_irrefl _)
  refine ⟨g', L', R, its.reverse.toArray, _, _, fun i m news => ∃ (lits : List Value) (nT : Nat) (tobjs : List (Addr × Obj)) (oT : Obj) (v0 : Option Value), news = (T, listOf lits.toArray nT) :: (L' + 1 + 1, oT) :: (L' + 1, oM) :: (tobjs ++ ((R, listOf its.reverse.toArray 0) :: objs)) ∧ PinL m [(Str.ofString "told", Value.ref T)] ∧ oT.data = .cell v0 ∧
    (∀ p ∈ tobjs, (@LT.lt Nat _ T p.1) ∧ p.2.cls = .type "tuple") ∧ All2 (TolIn (tobjs ++ ((R, listOf its.reverse.toArray 0) :: objs))) lits (toldA (ds.reverse.take i)), rfl, F4, news_sub N4 ?sb, ⟨[], 0, [], oT, none, rfl, ⟨rfl, trivial⟩, dT, (fun _ hp => absurd hp List.not_mem_nil), .nil⟩, ?_⟩
  case sb =>
    intro p hp
    simp only [List.mem_cons, List.nil_append] at hp ⊢
    rcases hp with h | h | h | h | h
    · exact .inr (.inl h)
    · exact .inr (.inr (.inl h))
    · exact .inr (.inr (.inr (.inl h)))
    · exact .inl h
    · exact .inr (.inr (.inr (.inr (.inr h))))
  refine ⟨?_, ?_, ?_, ?_⟩
  · rintro i m news ⟨lits, nT, tobjs, oT', v0, e0, _, _, ho, _⟩ p hp
    rw [e0] at hp
    simp only [List.mem_cons, List.mem_append] at hp
    have nt : ∀ a : String, a ≠ "list_iterator" → Value.type a ≠ Value.type "list_iterator" := fun a h q => h (Value.type.inj q)
    rcases hp with rfl | rfl | rfl | hp | rfl | hp
    · exact .inl (nt _ (by decide))
    · exact .inr ⟨_, (N4 (L' + 1 + 1, oT) (by simp)).1⟩
    · exact .inr ⟨_, (N4 _ (by simp)).1⟩
    · exact .inl (by rw [(ho p hp).2]; exact nt _ (by decide))
    · exact .inl (nt _ (by decide))
    · exact .inr ⟨_, (N4 p (by simp [hp])).1⟩
  · rintro i m news h ⟨lits, nT, tobjs, oT', v0, e0, _⟩ F N
    rw [e0] at N
    exact N.isList (n := 0) (.tail _ (.tail _ (.tail _ (List.mem_append.mpr (.inr (.head _))))))
  · intro i v h tk m news I oI hi hv hcls hPat F N hI0
    refine hide_ fun G hG => ?_
    obtain ⟨lits, nT, tobjs, oT', v0, e0, e1, dT', ho, hA⟩ := hPat
    rw [e0] at N
    clear e0 news
    have hv' : its.reverse[i]? = some v := by simpa using hv
    obtain ⟨d, hd, r⟩ := All2.get (All2.rev ht) hv'
    have hdm : d ∈ ds := List.mem_reverse.mp (List.mem_of_getElem? hd)
    obtain ⟨t, row, up, t0, t1, n, rfl, mt, mrow, mup⟩ := id r
    have kd := hok d hdm
    have hnx : toldA (ds.reverse.take (i + 1)) = toldA (ds.reverse.take i) ++ [(hgtA d (toldA (ds.reverse.take i)), d)] := by
      rw [List.take_add_one, hd]
      exact toldA_snoc _ _
    have hta : ∀ p ∈ toldA (ds.reverse.take i), p.2.Ok := fun p hp => by
      have : p.2 ∈ (toldA (ds.reverse.take i)).map (·.2) := List.mem_map_of_mem hp
      rw [toldA_adr] at this
      exact hok _ (List.mem_reverse.mp (List.mem_of_mem_take this))
    have hll := All2.len hA
    have hl16 : lits.length ≤ 16 := by rw [hll, toldA_len, List.length_take, List.length_reverse]; omega
    have hl17 : lits.length ≤ 16384 := by omega
    generalize toldA (ds.reverse.take i) = ta at *
    have hIT : @Ne Nat I T := fun q => by
      have q2 : h4.get? I = some (listOf #[] 0) := by rw [show I = T from q]; exact (N4 (T, listOf #[] 0) (.tail _ (.head _))).1
      cases hI0.symm.trans q2
    have hIL : @Ne Nat I (L' + 1 + 1) := fun q => by
      have q2 : h4.get? I = some oT := by rw [show I = L' + 1 + 1 from q]; exact (N4 (L' + 1 + 1, oT) (.tail _ (.tail _ (.head _)))).1
      cases hI0.symm.trans q2
    have hlL : ∀ p ∈ objs, @LT.lt Nat _ p.1 L' := hl'
    have htl : ∀ p ∈ tobjs ++ ((R, listOf its.reverse.toArray 0) :: objs), p.1 ≠ T := by
      intro p hp
      simp only [List.mem_append, List.mem_cons] at hp
      rcases hp with hp | rfl | hp
      · exact Nat.ne_of_gt (ho p hp).1
      · exact hR0
      · exact Nat.ne_of_lt (lO p hp)
    have htc : ∀ p ∈ tobjs ++ ((R, listOf its.reverse.toArray 0) :: objs), p.1 ≠ L' + 1 + 1 := by
      intro p hp
      simp only [List.mem_append, List.mem_cons] at hp
      rcases hp with hp | rfl | hp
      · exact Nat.ne_of_gt (Nat.lt_trans hTT (ho p hp).1)
      · exact Nat.ne_of_gt (Nat.lt_trans hTT (lR (T, listOf #[] 0) (.head _)))
      · exact Nat.ne_of_lt (Nat.lt_succ_of_lt (Nat.lt_succ_of_lt (hlL p hp)))
    have sT : ∀ p ∈ objs, p ∈ tobjs ++ ((R, listOf its.reverse.toArray 0) :: objs) := fun p hp => by simp only [List.mem_append, List.mem_cons, hp, or_true]
    have mtT := sT _ mt
    have hxT := sT _ hx
    have hdxT := sT _ hdx
    have mupT := mup.up sT
    have N1 : News g' L' h ((I, oI) :: (T, listOf lits.toArray nT) :: (L' + 1 + 1, oT') :: (L' + 1, oM) :: (tobjs ++ ((R, listOf its.reverse.toArray 0) :: objs))) := N
    obtain ⟨tail, et⟩ : ∃ tail, tail = tobjs ++ ((R, listOf its.reverse.toArray 0) :: objs) := ⟨_, rfl⟩
    rw [← et] at N1 htl htc mtT hxT hdxT mupT hA
    have N2 : News g' L' h ((I, oI) :: (T, listOf lits.toArray nT) :: (L' + 1 + 1, oT') :: (L' + 1, oM) :: (t, tupO [.ref row, .ref up, .int (d.one : Int) t0, .int (d.two : Int) t1] n) :: (x, instObj 67 dx) :: (dx, mgrD hs ky pw dn) :: tail) := fun p hp => N1 p (by
      simp only [List.mem_cons] at hp ⊢
      rcases hp with hq | hq | hq | hq | hq | hq | hq | hq
      · exact .inl hq
      · exact .inr (.inl hq)
      · exact .inr (.inr (.inl hq))
      · exact .inr (.inr (.inr (.inl hq)))
      · rw [hq]; exact .inr (.inr (.inr (.inr mtT)))
      · rw [hq]; exact .inr (.inr (.inr (.inr hxT)))
      · rw [hq]; exact .inr (.inr (.inr (.inr hdxT)))
      · exact .inr (.inr (.inr (.inr hq))))
    have htT2 : @Ne Nat t T := htl _ mtT
    have hxT2 : @Ne Nat x T := htl _ hxT
    have hdT2 : @Ne Nat dx T := htl _ hdxT
    have htC2 : @Ne Nat t (L' + 1 + 1) := htc _ mtT
    have hxC2 : @Ne Nat x (L' + 1 + 1) := htc _ hxT
    have hdC2 : @Ne Nat dx (L' + 1 + 1) := htc _ hdxT
    have F2 := Mine.Fr.pinned F e1
    clear F N N1 F4 N4 hI0
    refine hG ?_
    clear hG
    show wpAny _ _ _ _ _ _
    k_fold
    k_steps
    unfold Hold
    rename Fr _ _ _ _ => F5
    rename News _ _ _ _ => N5
    rename_i oC dC
    refine' comp_N F5 N5 rfl ?sw ?cl ?ce rfl ?na rfl rfl ?it ?fs
    case sw => with_unfolding_all rfl
    case cl => with_unfolding_all rfl
    case ce => decide
    case na => decide
    case fs => intro _; rfl
    refine nameX_L F5 rfl ?_
    refine ⟨_, _, fun i2 ys nws => nws = [] ∧ IntsAre ys (natsI (belA d (ta.take i2))), _, Kp.refl _, Src.list rfl (N5.isList (.tail _ (.head _))) (Kp.refl _), ⟨⟨rfl, .nil⟩, by rw [List.size_toArray, sizeLine_eq]; omega, ?_⟩, ?_⟩
    · intro i2 v ys nws C h2 tk2 mC hi2 hP hJ hyl FC NC
      refine hide_ fun G hG => ?_
      obtain ⟨rfl, hJ⟩ := hJ
      have hq' : lits[i2]? = some v := by simpa using hP
      obtain ⟨⟨k2, e2⟩, hd2, r2⟩ := All2.get hA hq'
      have ke2 := hta _ (List.mem_of_getElem? hd2)
      obtain ⟨q2, tq, up2, nq, rfl, mq, mup2⟩ := r2
      dsimp only at ke2 mq mup2
      have hnx2 : belA d (ta.take (i2 + 1)) = belA d (ta.take i2) ++ (if (decide (d.one ≤ e2.one) && decide (d.two ≤ e2.two)) = true then [k2] else []) := by
        rw [List.take_add_one, hd2]
        exact belA_snoc d (ta.take i2) (k2, e2)
      have sA : ∀ p ∈ allOf g' h2 C, p ∈ tail ++ allOf g' h2 C := fun p hp => List.mem_append.mpr (.inr hp)
      have sT2 : ∀ p ∈ tail, p ∈ tail ++ allOf g' h2 C := fun p hp => List.mem_append.mpr (.inl hp)
      have mup2T := mup2.up sT2
      have mupT2 := mupT.up sT2
      simp only [List.cons_append] at NC
      have NC2 : News g' C h2 ((q2, tupO [.int (k2 : Int) tq, .ref up2] nq) :: (I, oI) :: (T, listOf lits.toArray nT) :: (L' + 1 + 1, oC) :: (L' + 1, oM) :: (t, tupO [.ref row, .ref up, .int (d.one : Int) t0, .int (d.two : Int) t1] n) :: (x, instObj 67 dx) :: (dx, mgrD hs ky pw dn) :: (tail ++ allOf g' h2 C)) := fun p hp => by
        rcases List.mem_cons.mp hp with hp | hp
        · rw [hp]
          have := sT2 _ mq
          exact NC _ (by (first | ((repeat (first | (with_reducible_and_instances exact this) | refine List.Mem.tail _ ?_)); done) | simp only [List.mem_cons, this, or_true]))
        · exact NC p hp
      clear NC
      generalize tail ++ allOf g' h2 C = tail2 at *
      refine hG ?_
      clear hG
      show wpAny _ _ _ _ _ _
      k_fold
      k_steps
      case' _ =>
        rename (decide _ && decide _) = true => hb
        rename Fr _ _ _ _ => F6
        rename News _ _ _ _ => N6
        refine ⟨_, _, _, _, [], rfl, F6, N6, fun p hp => ?_, fun _ hp => absurd hp List.not_mem_nil, rfl, ?_⟩
        · (first | ((repeat (first | (with_reducible_and_instances exact sA p hp) | refine List.Mem.tail _ ?_)); done) | simp only [List.mem_cons, sA p hp, or_true])
        · rw [hnx2, if_pos hb]
          show IntsAre _ (List.map _ _)
          rw [List.map_append]
          exact intsAre_snoc hJ
      case' _ =>
        rename (decide _ && decide _) = false => hb
        rename Fr _ _ _ _ => F6
        rename News _ _ _ _ => N6
        refine ⟨_, _, _, _, [], rfl, F6, N6, fun p hp => ?_, fun _ hp => absurd hp List.not_mem_nil, rfl, ?_⟩
        · (first | ((repeat (first | (with_reducible_and_instances exact sA p hp) | refine List.Mem.tail _ ?_)); done) | simp only [List.mem_cons, sA p hp, or_true])
        · rw [hnx2, if_neg (by rw [hb]; decide), List.append_nil]
          exact hJ
    · intro D2 h2 tk2 ys nws FD ND hneD hoD _ hyl hJ
      refine hide_ fun G hG => ?_
      obtain ⟨rfl, hJ⟩ := hJ
      have eds : ta.take lits.toArray.size = ta := List.take_of_length_le (by rw [List.size_toArray, hll]; exact Nat.le_refl _)
      rw [eds] at hJ
      have hyl16 : ys.length ≤ 16 := by rw [List.size_toArray] at hyl; omega
      have hTD : @Ne Nat T D2 := hneD (T, listOf lits.toArray nT) (.tail _ (.head _))
      have hneT : ∀ p ∈ tail, p.1 ≠ D2 := fun p hp => hneD p (by (first | ((repeat (first | (with_reducible_and_instances exact hp) | refine List.Mem.tail _ ?_)); done) | simp only [List.mem_cons, hp, or_true]))
      clear hoD
      refine hG ?_
      clear hG
      show wpAny _ _ _ _ _ _
      k_fold
      k_steps
      rename Fr _ _ _ _ => F6
      rename News _ _ _ _ => N6
      rename_i tkq Q _ lQ _
      have eh : (1 : Int) + (((belA d ta).foldl max 0 : Nat) : Int) = ((hgtA d ta : Nat) : Int) := by unfold hgtA; omega
      rw [eh] at N6
      have lTQ : @LT.lt Nat _ T Q := lQ.2.2.2.2.1
      have inT : ∀ p, p ∈ tobjs ++ ((R, listOf its.reverse.toArray 0) :: objs) → p ∈ tail := fun p hp => et ▸ hp
      refine TurnN.intro (I := I) (oI := oI) ((T, listOf (lits ++ [Value.ref Q]).toArray (nT + 1)) :: (L' + 1 + 1, oC) :: (L' + 1, oM) :: (((Q, tupO [.int ((hgtA d ta : Nat) : Int) tkq, .ref up] 0) :: tobjs) ++ ((R, listOf its.reverse.toArray 0) :: objs))) F6 N6 ?_ ?_ ⟨lits ++ [Value.ref Q], nT + 1, (Q, tupO [.int ((hgtA d ta : Nat) : Int) tkq, .ref up] 0) :: tobjs, oC, _, rfl, ⟨rfl, trivial⟩, dC, ?_, ?_⟩
      · (first | ((repeat (first | (with_reducible_and_instances exact List.Mem.head _) | refine List.Mem.tail _ ?_)); done) | simp only [List.mem_cons, true_or, or_true])
      · intro p hp
        rw [List.cons_append] at hp
        rcases List.mem_cons.mp hp with rfl | hp
        · (first | ((repeat (first | (with_reducible_and_instances exact List.Mem.head _) | refine List.Mem.tail _ ?_)); done) | simp only [List.mem_cons, true_or, or_true])
        rcases List.mem_cons.mp hp with rfl | hp
        · (first | ((repeat (first | (with_reducible_and_instances exact List.Mem.head _) | refine List.Mem.tail _ ?_)); done) | simp only [List.mem_cons, true_or, or_true])
        rcases List.mem_cons.mp hp with rfl | hp
        · (first | ((repeat (first | (with_reducible_and_instances exact List.Mem.head _) | refine List.Mem.tail _ ?_)); done) | simp only [List.mem_cons, true_or, or_true])
        rcases List.mem_cons.mp hp with rfl | hp
        · exact .head _
        · have := inT p hp
          (first | ((repeat (first | (with_reducible_and_instances exact this) | refine List.Mem.tail _ ?_)); done) | simp only [List.mem_cons, this, or_true])
      · intro p hp
        rcases List.mem_cons.mp hp with rfl | hp
        · exact ⟨lTQ, rfl⟩
        · exact ho p hp
      · rw [hnx]
        refine All2.snoc (All2.mono (fun v q hv => TolIn.up hv fun p hp => ?_) hA) ⟨Q, tkq, up, 0, rfl, .head _, mupT.up fun p hp => ?_⟩
        · rw [et] at hp; exact .tail _ hp
        · rw [et] at hp; exact .tail _ hp
  · intro h tk m news F N hPat
    refine hide_ fun G hG => ?_
    obtain ⟨lits, nT, tobjs, oT', v0, e0, e1, dT', ho, hA⟩ := hPat
    rw [e0] at N
    have et : ds.reverse.take its.reverse.toArray.size = ds.reverse := List.take_of_length_le (by rw [List.size_toArray, List.length_reverse, List.length_reverse, All2.len ht]; exact Nat.le_refl _)
    rw [et] at hA
    have hll := All2.len hA
    have hl16 : lits.length ≤ 16 := by rw [hll, toldA_len, List.length_reverse]; omega
    have F2 := Mine.Fr.pinned F e1
    obtain ⟨tail, et⟩ : ∃ tail, tail = tobjs ++ ((R, listOf its.reverse.toArray 0) :: objs) := ⟨_, rfl⟩
    have hsO : ∀ p ∈ objs, p ∈ tail := fun p hp => et ▸ (by simp only [List.mem_append, List.mem_cons, hp, or_true])
    rw [← et] at N hA
    clear F F4 N4
    refine hG ?_
    clear hG
    show wpAny _ _ _ _ _ _
    k_steps
    unfold Hold
    rename Fr _ _ _ _ => F5
    rename News _ _ _ _ => N5
    refine' comp_NE F5 N5 ?cl2 ?ce2 rfl ?na2 ?it2 ?fs2
    case cl2 => with_unfolding_all rfl
    case ce2 => decide
    case na2 => decide
    case fs2 => intro _; rfl
    refine nameX_L F5 rfl ?_
    refine ⟨_, _, fun i2 ys nws => nws = [] ∧ IntsAre ys (natsI (((toldA ds.reverse).take i2).map (·.1))), _, Kp.refl _, Src.list rfl (N5.isList (.head _)) (Kp.refl _), ⟨⟨rfl, .nil⟩, by rw [List.size_toArray, sizeLine_eq]; omega, ?_⟩, ?_⟩
    · intro i2 v ys nws C h2 tk2 mC hi2 hP hJ hyl FC NC
      refine hide_ fun G hG => ?_
      obtain ⟨rfl, hJ⟩ := hJ
      have hq' : lits[i2]? = some v := by simpa using hP
      obtain ⟨⟨k2, e2⟩, hd2, r2⟩ := All2.get hA hq'
      obtain ⟨q2, tq, up2, nq, rfl, mq, mup2⟩ := r2
      dsimp only at mq mup2
      have sA : ∀ p ∈ allOf g' h2 C, p ∈ tail ++ allOf g' h2 C := fun p hp => List.mem_append.mpr (.inr hp)
      have sT2 : ∀ p ∈ tail, p ∈ tail ++ allOf g' h2 C := fun p hp => List.mem_append.mpr (.inl hp)
      simp only [List.cons_append] at NC
      have NC2 : News g' C h2 ((q2, tupO [.int (k2 : Int) tq, .ref up2] nq) :: (T, listOf lits.toArray nT) :: (L' + 1 + 1, oT') :: (L' + 1, oM) :: (tail ++ allOf g' h2 C)) := fun p hp => by
        rcases List.mem_cons.mp hp with hp | hp
        · rw [hp]
          have := sT2 _ mq
          exact NC _ (by (first | ((repeat (first | (with_reducible_and_instances exact this) | refine List.Mem.tail _ ?_)); done) | simp only [List.mem_cons, this, or_true]))
        · exact NC p hp
      clear NC
      generalize tail ++ allOf g' h2 C = tail2 at *
      refine hG ?_
      clear hG
      show wpAny _ _ _ _ _ _
      k_fold
      k_steps
      rename Fr _ _ _ _ => F6
      rename News _ _ _ _ => N6
      refine ⟨_, _, _, _, [], rfl, F6, N6, fun p hp => ?_, fun _ hp => absurd hp List.not_mem_nil, rfl, ?_⟩
      · (first | ((repeat (first | (with_reducible_and_instances exact sA p hp) | refine List.Mem.tail _ ?_)); done) | simp only [List.mem_cons, sA p hp, or_true])
      · rw [List.take_add_one, hd2]
        show IntsAre _ (List.map _ (List.map _ _))
        rw [List.map_append, List.map_append]
        exact intsAre_snoc hJ
    · intro D2 h2 tk2 ys nws FD ND hneD hoD _ hyl hJ
      obtain ⟨rfl, hJ⟩ := hJ
      have eds : (toldA ds.reverse).take lits.toArray.size = toldA ds.reverse := List.take_of_length_le (by rw [List.size_toArray, hll]; exact Nat.le_refl _)
      rw [eds] at hJ
      have hD0 : s.heap.get? D2 = none := by
        cases q : s.heap.get? D2 with
        | none => rfl
        | some o =>
          have q1 := (ND _ (.head _)).2.2
          by_cases hb : D2 ∈ objs.map (·.1)
          · obtain ⟨p, hp, e⟩ := List.mem_map.mp hb
            exact absurd e (hneD p (by (first | ((repeat (first | (with_reducible_and_instances exact hsO p hp) | refine List.Mem.tail _ ?_)); done) | simp only [List.mem_cons, hsO p hp, or_true])))
          · have := hg' D2 o q hb
            rw [this] at q1; cases q1
      exact leaveP_ FD ND (fun p hp => by (first | ((repeat (first | (with_reducible_and_instances exact hsO p hp) | refine List.Mem.tail _ ?_)); done) | simp only [List.mem_cons, hsO p hp, or_true])) fun k => hret D2 _ ys _ _ k (ND _ (.head _)).1 hD0 hJ
end Mine
end PWH
theorem Mine.rstWH : True := by
  w_top off
  k_with_none
  first | (walk1; fail "x") | exact True.intro
section PWX
open PySem PySem.W PyProof.Rows PySem.Calls PySem.Spec
set_option maxRecDepth 100000
set_option pp.maxSteps 20000
namespace Mine
local macro_rules | `(tactic| units_room) => `(tactic| (have hcL' := cLine_is; simp only [units_in1, units_deeper, Around.mark_units, units_caller, Ar] at *; omega))
local macro_rules | `(tactic| k_all) => `(tactic| assumption)
theorem regWX1 : True := by
  k_with "exec For Name Name cons nil" => (k_here; refine hold_ ?_)
  k_with "exec For Name Subscript cons nil" => (k_here; refine hold_ ?_)
  k_with "exec For Tuple Name cons nil" => (k_here; refine hold_ ?_)
  k_with "exec While BoolOp cons nil" => (k_here; refine hold_ ?_)
  k_with "call ref" => (k_here; (with_reducible show wpAny _ _ (call (Value.ref 92) [Value.ref _, Value.ref _, Value.ref _] _) _ _ _); (rename Fr _ _ _ _ => kF); (rename News _ _ _ _ => kN); (rename Amb _ _ => am'); (rename Kp _ _ => kp'); k_dflt (refine wpAny_call ?_; refine' cmpK am' (Kp.trans kp' kF.keep) ?d (own_of kp' kN) ?x ?dx ?c ?l ?r ?kd ?ke ?_; (case d => assumption); (case x => k_mem); (case dx => k_mem); (case c => (refine SelIn.up (by assumption) ?_; intro _ hp; (first | ((repeat (first | (with_reducible_and_instances exact hp) | refine List.Mem.tail _ ?_)); done) | simp only [List.mem_cons, hp, or_true]))); (case l => (refine RowIn.up (by assumption) ?_; intro _ hp; (first | ((repeat (first | (with_reducible_and_instances exact hp) | refine List.Mem.tail _ ?_)); done) | simp only [List.mem_cons, hp, or_true]))); (case r => (refine RowIn.up (by assumption) ?_; intro _ hp; (first | ((repeat (first | (with_reducible_and_instances exact hp) | refine List.Mem.tail _ ?_)); done) | simp only [List.mem_cons, hp, or_true]))); (case kd => assumption); (case ke => assumption); intro _ _ _ hkp'; have _ := Fr.keeps kF hkp'; have _ := News.grown kN hkp'; clear kF kN hkp'))
  k_with "call ref" => (k_here; (with_reducible show wpAny _ _ (call (Value.ref 64) [Value.ref _, Value.ref _, Value.ref _] _) _ _ _); (rename Fr _ _ _ _ => kF); (rename News _ _ _ _ => kN); (rename Amb _ _ => am'); (rename Kp _ _ => kp'); k_dflt (refine wpAny_call ?_; refine' subK am' (Kp.trans kp' kF.keep) ?d ?u (own_of kp' kN) ?x ?dx ?l ?r ?kd ?ke ?_; (case d => assumption); (case u => (have _ := cLine_is; simp only [Ar, Around.deeper] at *; omega)); (case x => k_mem); (case dx => k_mem); (case l => (refine UpIn.up (by assumption) ?_; intro _ hp; (first | ((repeat (first | (with_reducible_and_instances exact hp) | refine List.Mem.tail _ ?_)); done) | simp only [List.mem_cons, hp, or_true]))); (case r => (refine UpIn.up (by assumption) ?_; intro _ hp; (first | ((repeat (first | (with_reducible_and_instances exact hp) | refine List.Mem.tail _ ?_)); done) | simp only [List.mem_cons, hp, or_true]))); (case kd => assumption); (case ke => assumption); intro _ _ hkp'; have _ := Fr.keeps kF hkp'; have _ := News.grown kN hkp'; clear kF kN hkp'))
  k_with "call builtin:len" => (k_here; (with_reducible show wpAny _ _ (call (Value.builtin "len") [Value.ref _] _) _ _ _); (rename News _ _ _ _ => kN); k_dflt (refine' len_at kN ?m ?z ?_; (case m => k_mem); (case z => assumption); intro _ _))
  k_with "subscriptTail" => (k_here; (with_reducible show wpAny _ _ (subscriptTail _ _ (Value.ref _) (Value.int _ _)) _ _ _); (rename News _ _ _ _ => kN); k_dflt (refine' item_at kN ?m ?h0 ?hf ?hx ?_ ?hs; (case m => k_mem); (case h0 => omega); (case hf => omega); (case hx => (refine idx_eq (by assumption) ?_; omega)); (case hs => with_unfolding_all rfl)))
  k_with "call builtin:list.insert" => (k_here; (with_reducible show wpAny _ _ (call (Value.builtin _) [Value.ref _, Value.int _ _, _] _) _ _ _); (rename Fr _ _ _ _ => kF); (rename News _ _ _ _ => kN); k_dflt (refine' insert_at kF kN ?h0 ?hl ?hz ?U ?_; (case U => k_upd); (case h0 => omega); (case hl => omega); (case hz => assumption); intro _ _ _; clear kF kN))
  k_with "call builtin:list.append" => (k_here; (with_reducible show wpAny _ _ (call (Value.builtin _) [Value.ref _, _] _) _ _ _); (rename Fr _ _ _ _ => kF); (rename News _ _ _ _ => kN); k_dflt (refine' append_at' kF kN ?hz ?U ?_; (case U => k_upd); (case hz => assumption); intro _ _ _; clear kF kN))
  k_with "subscriptTail Name Constant ref int" => (k_here; (with_reducible show wpAny _ _ (subscriptTail _ _ (Value.ref _) (Value.int _ _)) _ _ _); (rename News _ _ _ _ => kN); k_dflt (refine' item_at kN ?m ?h0 ?hf ?hx ?_ ?hs; (case m => k_mem); (case h0 => omega); (case hf => omega); (case hx => (refine idx_eq (by assumption) ?_; omega)); (case hs => with_unfolding_all rfl)))
  k_with "subscriptTail Name Name ref int" => (k_here; (with_reducible show wpAny _ _ (subscriptTail _ _ (Value.ref _) (Value.int _ _)) _ _ _); (rename News _ _ _ _ => kN); k_dflt (refine' item_at kN ?m ?h0 ?hf ?hx ?_ ?hs; (case m => k_mem); (case h0 => omega); (case hf => omega); (case hx => (refine idx_eq (by assumption) ?_; omega)); (case hs => with_unfolding_all rfl)))
  k_with "subscriptTail Name BinOp ref int" => (k_here; (with_reducible show wpAny _ _ (subscriptTail _ _ (Value.ref _) (Value.int _ _)) _ _ _); (rename News _ _ _ _ => kN); k_dflt (refine' item_at kN ?m ?h0 ?hf ?hx ?_ ?hs; (case m => k_mem); (case h0 => omega); (case hf => omega); (case hx => (refine idx_eq (by assumption) ?_; omega)); (case hs => with_unfolding_all rfl)))
  k_with "subscriptTail Name Constant ref int" => (k_here; (with_reducible show wpAny _ _ (subscriptTail _ _ (Value.ref _) (Value.int _ _)) _ _ _); (rename News _ _ _ _ => kN); k_dflt (refine' titem_at kN ?m ?h0 ?hf ?hz ?hx ?_ ?hs; (case m => k_mem); (case h0 => decide); (case hf => decide); (case hz => (simp only [List.length_cons, List.length_nil]; decide)); (case hx => rfl); (case hs => with_unfolding_all rfl)))
  k_with "subscriptTail Subscript Constant ref int" => (k_here; (with_reducible show wpAny _ _ (subscriptTail _ _ (Value.ref _) (Value.int _ _)) _ _ _); (rename News _ _ _ _ => kN); k_dflt (refine' titem_at kN ?m ?h0 ?hf ?hz ?hx ?_ ?hs; (case m => k_mem); (case h0 => decide); (case hf => decide); (case hz => (simp only [List.length_cons, List.length_nil]; decide)); (case hx => rfl); (case hs => with_unfolding_all rfl)))
  k_with "storeName" => (k_here; (with_reducible show wpAny _ _ (storeName (compEnvC _ _ _ _) _ _) _ _ _); (rename Fr _ _ _ _ => kF); (rename News _ _ _ _ => kN); k_dflt (refine' storeZ_L kF kN ?_; intro _ _ _; clear kF kN))
  k_with "eval Name" => (k_here; (with_reducible show wpAny _ _ (eval _ (compEnvC _ _ _ _)) _ _ _); (rename Fr _ _ _ _ => kF); (rename News _ _ _ _ => kN); k_dflt (first | (refine' nameZ_L kF ?k2 ?_; (case k2 => exact rfl); k_whole) | (refine' nameZ_C kN ?k1 ?k2 ?k3 ?_; (case k1 => exact rfl); (case k2 => k_mem); (case k3 => assumption); k_whole) | (refine' nameZ_K kF ?k1 ?k2 ?k3 ?_; (case k1 => k_asm); (case k2 => k_asm); (case k3 => k_is); k_whole) | (refine' nameZ_B kF ?k1 ?k2 ?k3 ?k4 ?k5 ?_; (case k1 => k_asm); (case k2 => k_asm); (case k3 => k_is); (case k4 => boot_by_name); (case k5 => decide); k_whole)))
  k_with "compareOp Eq ref ref" => (k_here; (with_reducible show wpAny _ _ (compareOp .Eq (Value.ref _) (Value.ref _)) _ _ _); (rename News _ _ _ _ => kN); k_dflt (refine' eq_ints kN ?h1 ?h2 ?i1 ?i2 ?u ?_; (case h1 => k_mem); (case h2 => k_mem); (case i1 => first | assumption | exact .nil | exact .cons _ _ (by assumption)); (case i2 => first | exact .nil | assumption); (case u => (have _ := cLine_is; simp only [Ar, Around.deeper] at *; omega)); rw [eqv_ints]; (first | rw [decide_eq_false (List.cons_ne_nil _ _)] | rw [decide_eq_true (rfl : ([] : List Int) = [])])))
  k_with "setItem" => (k_here; (with_reducible show wpAny _ _ (setItem (Value.ref _) (Value.int _ _) _) _ _ _); (rename Fr _ _ _ _ => kF); (rename News _ _ _ _ => kN); k_dflt (refine' set_at kF kN ?h0 ?hl ?hz ?U ?_; (case U => k_upd); (case h0 => omega); (case hl => omega); (case hz => assumption); intro _ _ _; clear kF kN))
  k_with "setItem ref int ref" => (k_here; (with_reducible show wpAny _ _ (setItem (Value.ref _) (Value.int _ _) _) _ _ _); (rename Fr _ _ _ _ => kF); (rename News _ _ _ _ => kN); k_dflt (refine' set_at kF kN ?h0 ?hl ?hz ?U ?_; (case U => k_upd); (case h0 => omega); (case hl => omega); (case hz => assumption); intro _ _ _; clear kF kN))
  k_with "exec Assign cons ListComp" => (k_here; refine hold_ ?_)
  k_with "eval ListComp" => (k_here; refine hold_ ?_)
  k_with "subscriptTail Name Slice ref ref" => (k_here; (with_reducible show wpAny _ _ (subscriptTail _ (PySem.Expr.Slice none none (some _) _) (Value.ref _) (Value.ref _)) _ _ _); (rename Fr _ _ _ _ => kF); (rename News _ _ _ _ => kN); k_dflt (refine' rev_at kF kN ?m ?k ?z ?_ ?s ?t; (case m => k_mem); (case k => exact IsPart.int _ _); (case z => assumption); (case s => with_unfolding_all rfl); (case t => kmk_pure); intro _ _ _ _ _; clear kF kN))
  k_with "binaryOp Add ref ref" => (k_here; (with_reducible show wpAny _ _ (binaryOp _ (Value.ref _) (Value.ref _)) _ _ _); (rename Fr _ _ _ _ => kF); (rename News _ _ _ _ => kN); k_dflt (refine' cat_at kF kN ?h1 ?h2 ?z ?_; (case h1 => k_mem); (case h2 => k_mem); (case z => first | assumption | (simp only [List.length_cons, List.length_nil]; omega)); intro _ _ _ _ lB'; (try k_lt lB'); clear kF kN))
  k_with "call builtin:max" => (k_here; (with_reducible show wpAny _ _ (call (Value.builtin "max") [Value.ref _] _) _ _ _); (rename Fr _ _ _ _ => kF); (rename News _ _ _ _ => kN); k_dflt (refine' max_list_N rfl kF kN ?l ?i ?ne ?_; (case l => exact News.isList kN (by k_mem)); (case i => exact .cons _ _ (by assumption)); (case ne => exact Nat.succ_pos _); intro _ _ _ _ _ _ hM' hB'; clear kF kN; have hM2 := max_ints hM' hB'; subst hM2; clear hM' hB'))
  k_with "subscriptTail Name Slice ref ref" => (k_here; (with_reducible show wpAny _ _ (subscriptTail _ (PySem.Expr.Slice none (some _) none _) (Value.ref _) (Value.ref _)) _ _ _); (rename Fr _ _ _ _ => kF); (rename News _ _ _ _ => kN); k_dflt (first | (refine' cut_at kF kN ?m ?k ?z ?_ ?s ?t; (case m => assumption); (case k => decide); (case z => assumption); (case s => with_unfolding_all rfl); (case t => kmk_pure); intro _ _ _ _ lB'; (try k_lt lB'); clear kF kN) | (refine' tcut_at kF kN ?m ?k ?z ?_ ?s ?t; (case m => k_mem); (case k => decide); (case z => assumption); (case s => with_unfolding_all rfl); (case t => kmk_pure); intro _ _ _ _ _; clear kF kN)))
  k_with "binaryOp Add ref ref" => (k_here; (with_reducible show wpAny _ _ (binaryOp _ (Value.ref _) (Value.ref _)) _ _ _); (rename Fr _ _ _ _ => kF); (rename News _ _ _ _ => kN); k_dflt (refine' tcat_at kF kN ?h1 ?h2 ?ne ?z ?_; (case h1 => k_mem); (case h2 => k_mem); (case ne => exact List.cons_ne_nil _ _); (case z => (simp only [List.length_take, List.length_cons, List.length_nil]; omega)); intro _ _ _ _ _; clear kF kN))
  exact True.intro
def numA (c : Int) : Nat := (c % 1000000).toNat
theorem numA_eq (c : Int) : c.fmod (10 ^ Int.toNat 6) = ((numA c : Nat) : Int) := by
  have e : (10 : Int) ^ Int.toNat 6 = 1000000 := by decide
  rw [e, Int.fmod_eq_emod_of_nonneg _ (by omega)]
  unfold numA
  omega
theorem numA_lt (c : Int) : numA c < 1000000 := by unfold numA; omega
theorem regWX2 : True := by
  k_with "compareOp NotIn ref ref" => (k_here; refine hold_ ?_)
  k_with "exec For Name BinOp cons nil" => (k_here; refine hold_ ?_)
  k_with "execs cons" => (k_here; (with_reducible show wpAny _ _ _ _ _ (Shared.mk _ _ _ (_ + 1) _)); k_dflt (refine' norm_ ?kns ?kna ?knb ?knc ?_; (case kns => assumption); (case kna => exact rfl); (case knb => exact rfl); (case knc => exact rfl); intro tk))
  k_with "execs cons If cons" => (k_here; refine hold_ ?_)
  exact True.intro
/-- what stands between two ifs of a turn of _law_drawn -/
inductive DrwM (s : Shared) (g : Heap) (L I : Addr) (oI : Obj) (T : Addr) (lits : List Value) (nT : Nat) (tail : List (Addr × Obj)) (k : Nat) (hh : Int) (th : Tok) (o : Adr) (s' : Shared) : Prop
  | mk (h : Heap) (tk : Nat) (m : Str → Option Value) (D f : Addr) (fvs : List Value) (t1 t2 tr : Tok) (n1 n2 : Nat) (news : List (Addr × Obj)) (e : s' = { s with heap := h, toks := tk }) (F : Fr g L h m)
      (p : PinL m [(Str.ofString "one", Value.ref D), (Str.ofString "drawn", Value.ref T), (Str.ofString "rest", Value.int ((k : Int).fdiv 8) tr), (Str.ofString "host", Value.int hh th)]) (N : News g L h news)
      (mI : (I, oI) ∈ news) (mT : (T, listOf lits.toArray nT) ∈ news) (mD : (D, tupO [.int (o.host : Int) t1, .ref f, .int (o.slash : Int) t2] n1) ∈ news) (mf : (f, tupO fvs n2) ∈ news) (sb : ∀ p ∈ tail, p ∈ news) (hf : IntsAre fvs (natsI o.figs))
theorem DrwM.led {g h : Heap} {L I : Addr} {oI : Obj} {T : Addr} {lits : List Value} {nT : Nat} {tail news : List (Addr × Obj)} {p q : Addr × Obj} (N : News g L h news) (mI : (I, oI) ∈ news) (mT : (T, listOf lits.toArray nT) ∈ news) (mD : p ∈ news) (mf : q ∈ news) (sb : ∀ p ∈ tail, p ∈ news) :
    News g L h ((I, oI) :: (T, listOf lits.toArray nT) :: p :: q :: tail) := fun x hp => N x (by
  rcases List.mem_cons.mp hp with e | hp
  · rw [e]; exact mI
  rcases List.mem_cons.mp hp with e | hp
  · rw [e]; exact mT
  rcases List.mem_cons.mp hp with e | hp
  · rw [e]; exact mD
  rcases List.mem_cons.mp hp with e | hp
  · rw [e]; exact mf
  · exact sb _ hp)
/-- what stands between two turns of _law_drawn -/
inductive DrwJ (T B : Addr) (ws : List Value) (dr : List Adr) (m : Str → Option Value) (news : List (Addr × Obj)) : Prop
  | mk (lits : List Value) (nT : Nat) (tobjs : List (Addr × Obj)) (e0 : news = (T, listOf lits.toArray nT) :: (B, listOf ws.toArray 0) :: tobjs) (e1 : PinL m [(Str.ofString "drawn", Value.ref T)])
      (ho : ∀ p ∈ tobjs, (@Ne Nat p.1 T) ∧ p.2.cls = .type "tuple") (hA : All2 (DrIn tobjs) lits dr)
set_option maxHeartbeats 4000000 in
theorem drwC {prog : Program} {w : World} {dp un : Nat} {gd : Option (List Code)} {fr : Option (List Env)} {h₀ : Heap} {s : Shared} {Q E : Value → Shared → Prop}
    {S : Addr} {vs : List Value} {ns : List Int}
    (am : Amb w h₀) (k₀ : Kp h₀ s.heap) (hdp : dp + 1 < recursionLimit) (hun : un + 200 < cLine) (hS : s.heap.IsList S vs.toArray) (hvs : IntsAre vs ns) (hvz : vs.length ≤ 16384)
    (hret : ∀ B n its nobjs h' tk', Kp s.heap h' → (∀ p ∈ (B, listOf its.toArray n) :: nobjs, h'.get? p.1 = some p.2 ∧ s.heap.get? p.1 = none) → All2 (DrIn nobjs) its (drwA ([0, 193, 16, 1801] ++ (ns.take 4).map numA)) → Q (.ref B) { s with heap := h', toks := tk' }) :
    wpAny (model prog w) (Ar dp un fr gd) (call (.ref 104) [.ref S]) Q E s := by
  have hfl : (hd.heap_39, PySem.Challenge.rw_pg0090_01) = (hd.heap_39, PySem.Challenge.rw_pg0090_01) := by k_fill; rfl
  clear hfl
  have am0 := am
  obtain ⟨X, loose, mean, mg, mb, T⟩ := am
  k_dflt (refine' enterP (news := []) X T k₀ Own.nil ?k6 ?k7 (Nat.lt_of_succ_lt hdp) ?k9 ?kB ?_ ?c2 ?c3 ?c4 ?c5; (case k6 => k_is); (case k7 => k_is); (case k9 => exact BindsTo.of_eq rfl); (case c5 => decide); (case kB => exact locs rfl); (case c2 => exact rfl); (case c3 => exact rfl); (case c4 => exact rfl); k_whole)
  intro g' L' h' F' N' X' T' hl' hk' hg'
  replace F' : Fr g' L' h' (fun y => List.lookup y [(Str.ofString "script", Value.ref S)]) := by with_unfolding_all exact F'
  have hSg : g'.IsList S vs.toArray := by
    obtain ⟨o, e, r⟩ := hS
    exact ⟨o, hg' _ _ e (by simp), r⟩
  show wpAny _ _ _ _ _ _
  dsimp only
  show wpAny _ _ _ _ _ _
  k_fold
  k_steps
  unfold Hold
  rename Fr _ _ _ _ => F3
  rename News _ _ _ _ => N3
  rename_i tq0 f0 _ lf0 q0 _ lq0 T _ lT _
  refine for_NH rfl ?_ (fun _ => rfl)
  show wpAny _ _ _ _ _ _
  k_fold
  k_steps
  unfold Hold
  rename Fr _ _ _ _ => F4
  rename News _ _ _ _ => N4
  rename_i Z _ lZ
  refine' comp_NX ?cl ?ce rfl ?na ?it ?fs
  case cl => with_unfolding_all rfl
  case ce => decide
  case na => decide
  case fs => intro _; rfl
  show wpAny _ _ _ _ _ _
  k_fold
  k_steps
  rename Fr _ _ _ _ => F5
  rename News _ _ _ _ => N5
  rename_i Y _ lY
  have hv4 := hvs.take 4
  refine ⟨_, _, _, _, _, _, fun i2 ys nws => nws = [] ∧ IntsAre ys (natsI (((ns.take 4).take i2).map numA)), _, F5, N5, Src.list rfl (N5.isList (.head _)) (Kp.refl _), ⟨⟨rfl, .nil⟩, by rw [List.size_toArray, sizeLine_eq, List.length_take]; omega, ?_⟩, ?_⟩
  · intro i2 v ys nws C h2 tk2 mC hi2 hP hJ hyl FC NC
    obtain ⟨rfl, hJ⟩ := hJ
    have hq' : (vs.take 4)[i2]? = some v := by simpa using hP
    have hi4 : i2 < (ns.take 4).length := by rw [← hv4.length]; exact (List.getElem?_eq_some_iff.mp hq').1
    obtain ⟨t, ht⟩ := hv4.get i2 ((ns.take 4)[i2]) (by rw [List.getElem?_eq_getElem hi4])
    have ev : v = .int ((ns.take 4)[i2]) t := Option.some.inj (hq'.symm.trans ht)
    subst ev
    have hnx : ((ns.take 4).take (i2 + 1)).map numA = ((ns.take 4).take i2).map numA ++ [numA ((ns.take 4)[i2])] := by
      rw [List.take_add_one, List.getElem?_eq_getElem hi4, List.map_append]; rfl
    generalize (ns.take 4)[i2] = c at *
    simp only [List.cons_append, List.nil_append] at NC
    show wpAny _ _ _ _ _ _
    k_fold
    k_steps
    rename Fr _ _ _ _ => F6
    rename News _ _ _ _ => N6
    refine ⟨_, _, _, _, [], rfl, F6, N6, fun p hp => ?_, fun _ hp => absurd hp List.not_mem_nil, rfl, ?_⟩
    · (first | ((repeat (first | (with_reducible_and_instances exact hp) | refine List.Mem.tail _ ?_)); done) | simp only [List.mem_cons, hp, or_true])
    · rw [hnx]
      show IntsAre _ (List.map _ _)
      rw [List.map_append]
      rw [numA_eq c]
      exact intsAre_snoc hJ
  · intro D2 h2 tk2 ys nws FD ND hneD hoD _ hyl hJ
    obtain ⟨rfl, hJ⟩ := hJ
    have hyl4 : ys.length ≤ 4 := by rw [List.size_toArray, List.length_take] at hyl; omega
    have eds : (ns.take 4).take (vs.take (Int.toNat 4)).toArray.size = ns.take 4 := List.take_of_length_le (by rw [List.size_toArray]; exact Nat.le_of_eq hv4.length.symm)
    rw [eds] at hJ
    clear hoD
    have hcz : [Value.int 0 tk, Value.int 193 (tk + 1), Value.int 16 (tk + 1 + 1), Value.int 1801 (tk + 1 + 1 + 1)].length + ys.length ≤ 16384 := by simp only [List.length_cons, List.length_nil]; omega
    show wpAny _ _ _ _ _ _
    k_steps
    rename Fr _ _ _ _ => F7
    rename News _ _ _ _ => N7
    rename_i B _
    have hW : IntsAre ([Value.int 0 tk, Value.int 193 (tk + 1), Value.int 16 (tk + 1 + 1), Value.int 1801 (tk + 1 + 1 + 1)] ++ ys) (natsI ([0, 193, 16, 1801] ++ (ns.take 4).map numA)) := .cons _ _ (.cons _ _ (.cons _ _ (.cons _ _ hJ)))
    have hWl : ([0, 193, 16, 1801] ++ (ns.take 4).map numA).length ≤ 8 := by rw [List.length_append, List.length_map, List.length_take]; simp; omega
    have hWb : ∀ k ∈ [0, 193, 16, 1801] ++ (ns.take 4).map numA, k < 1000000 := by
      intro k hk
      rcases List.mem_append.mp hk with hk | hk
      · simp at hk; omega
      · obtain ⟨c, _, rfl⟩ := List.mem_map.mp hk; exact numA_lt c
    generalize [0, 193, 16, 1801] ++ (ns.take 4).map numA = nums at *
    generalize [Value.int 0 tk, Value.int 193 (tk + 1), Value.int 16 (tk + 1 + 1), Value.int 1801 (tk + 1 + 1 + 1)] ++ ys = ws at *
    have lTB : @Ne Nat B T := Nat.ne_of_gt lB'.2.2.2.1
    have lqT : @Ne Nat q0 T := Nat.ne_of_lt lT.1
    have lfT : @Ne Nat f0 T := Nat.ne_of_lt lT.2
    refine ⟨g', L', B, ws.toArray, _, _, fun i m news => DrwJ T B ws (drwA (nums.take i)) m news, rfl, F7, news_sub N7 ?sb, ⟨[.ref q0], 0, [(q0, tupO [.int 0 tq0, .ref f0, .int 0 (tq0 + 1)] 0), (f0, tupO [] 0)], rfl, ⟨rfl, trivial⟩, ?ob, .cons ⟨q0, f0, tq0, tq0 + 1, 0, 0, [], rfl, .head _, .tail _ (.head _), .nil⟩ .nil⟩, ?_⟩
    case sb =>
      intro p hp
      simp only [List.mem_cons, List.not_mem_nil, or_false] at hp ⊢
      rcases hp with h | h | h | h
      · exact .inr (.inr (.inr (.inr (.inl h))))
      · exact .inl h
      · exact .inr (.inr (.inr (.inr (.inr (.inl h)))))
      · exact .inr (.inr (.inr (.inr (.inr (.inr h)))))
    case ob =>
      intro p hp
      simp only [List.mem_cons, List.not_mem_nil, or_false] at hp
      rcases hp with rfl | rfl
      · exact ⟨lqT, rfl⟩
      · exact ⟨lfT, rfl⟩
    refine ⟨?_, ?_, ?_, ?_⟩
    · rintro i m news ⟨lits, nT, tobjs, e0, _, ho, _⟩ p hp
      rw [e0] at hp
      have nt : ∀ a : String, a ≠ "list_iterator" → Value.type a ≠ Value.type "list_iterator" := fun a h q => h (Value.type.inj q)
      simp only [List.mem_cons] at hp
      rcases hp with rfl | rfl | hp
      · exact .inl (nt _ (by decide))
      · exact .inl (nt _ (by decide))
      · exact .inl (by rw [(ho p hp).2]; exact nt _ (by decide))
    · rintro i m news h ⟨lits, nT, tobjs, e0, _⟩ F N
      rw [e0] at N
      exact N.isList (n := 0) (.tail _ (.head _))
    · intro i v h tk3 m news I oI hi hv hcls hJJ F N hI0
      refine hide_ fun G hG => ?_
      obtain ⟨lits, nT, tobjs, e0, e1, ho, hA⟩ := hJJ
      rw [e0] at N
      clear e0 news
      have hv' : ws[i]? = some v := by simpa using hv
      have hin : i < nums.length := by
        have h1 := (List.getElem?_eq_some_iff.mp hv').1
        have h2 := hW.length
        rw [List.length_map] at h2; omega
      obtain ⟨tv, htv⟩ := hW.get i ((nums[i] : Nat) : Int) (by rw [List.getElem?_map, List.getElem?_eq_getElem hin]; rfl)
      have ev : v = .int ((nums[i] : Nat) : Int) tv := Option.some.inj (hv'.symm.trans htv)
      subst ev
      have hkb := hWb _ (List.getElem_mem hin)
      have hnx : drwA (nums.take (i + 1)) = if nxtA (drwA (nums.take i)) nums[i] ∈ drwA (nums.take i) then drwA (nums.take i) else drwA (nums.take i) ++ [nxtA (drwA (nums.take i)) nums[i]] := by
        rw [List.take_add_one, List.getElem?_eq_getElem hin]; exact drwA_snoc _ _
      obtain ⟨hok, hnd, hl1, hl2⟩ := drwA_facts (nums.take i)
      have hl9 : (drwA (nums.take i)).length ≤ 9 := by rw [List.length_take] at hl2; omega
      generalize nums[i] = k at *
      generalize drwA (nums.take i) = dr at *
      have hll := All2.len hA
      have hl16 : lits.length ≤ 16384 := by omega
      have hix : k % 8 % dr.length < dr.length := Nat.mod_lt _ hl1
      obtain ⟨d, hd⟩ : ∃ d, dr[k % 8 % dr.length]? = some d := ⟨_, List.getElem?_eq_getElem hix⟩
      obtain ⟨vq, hvq, r⟩ := All2.getR hA hd
      have kd := hok d (List.mem_of_getElem? hd)
      obtain ⟨q, f, th, ts, n, nf, fvs, rfl, mq, mf, hfv⟩ := id r
      have hfx : ((k : Int).fmod 8).fmod (lits.length : Int) = ((k % 8 % dr.length : Nat) : Int) := by
        rw [hll, Int.fmod_eq_emod_of_nonneg _ (by omega), Int.fmod_eq_emod_of_nonneg _ (by omega)]; rfl
      have hflen : fvs.length ≤ 3 := by rw [hfv.length, List.length_map]; exact kd.len
      have hfz : fvs.length ≤ 16384 := by omega
      have hqT : @Ne Nat q T := (ho _ mq).1
      have hfT : @Ne Nat f T := (ho _ mf).1
      have hIT : @Ne Nat I T := fun q => by
        have q1 : h.get? I = some oI := (N _ (.head _)).1
        have q2 : h.get? T = some (listOf lits.toArray nT) := (N _ (.tail _ (.head _))).1
        rw [show I = T from q, q2] at q1
        rw [← Option.some.inj q1] at hcls
        exact absurd (Value.type.inj hcls) (by decide)
      have htT : ∀ p ∈ (B, listOf ws.toArray 0) :: tobjs, p.1 ≠ T := by
        intro p hp
        rcases List.mem_cons.mp hp with rfl | hp
        · exact lTB
        · exact (ho p hp).1
      have N2 : News g' L' h ((I, oI) :: (T, listOf lits.toArray nT) :: (q, tupO [.int (d.host : Int) th, .ref f, .int (d.slash : Int) ts] n) :: (f, tupO fvs nf) :: ((B, listOf ws.toArray 0) :: tobjs)) := fun p hp => N p (by
        simp only [List.mem_cons] at hp ⊢
        rcases hp with hq | hq | hq | hq | hq
        · exact .inl hq
        · exact .inr (.inl hq)
        · rw [hq]; exact .inr (.inr (.inr mq))
        · rw [hq]; exact .inr (.inr (.inr mf))
        · exact .inr (.inr hq))
      obtain ⟨tail, et⟩ : ∃ tail, tail = (B, listOf ws.toArray 0) :: tobjs := ⟨_, rfl⟩
      rw [← et] at N2 htT
      have F2 := Mine.Fr.pinned F e1
      clear F N hI0 F7 N7
      have e1 : ((k : Int).fdiv 8).fmod 4 = ((k / 8 % 4 : Nat) : Int) := by rw [Int.fdiv_eq_ediv_of_nonneg _ (by omega), Int.fmod_eq_emod_of_nonneg _ (by omega)]; rfl
      have e2 : (((k : Int).fdiv 8).fdiv 4).fmod 2 = ((k / 8 / 4 % 2 : Nat) : Int) := by rw [Int.fdiv_eq_ediv_of_nonneg _ (by omega), Int.fdiv_eq_ediv_of_nonneg _ (by omega), Int.fmod_eq_emod_of_nonneg _ (by omega)]; rfl
      have e3 : (((k : Int).fdiv 8).fdiv 8).fmod 4 = ((k / 8 / 8 % 4 : Nat) : Int) := by rw [Int.fdiv_eq_ediv_of_nonneg _ (by omega), Int.fdiv_eq_ediv_of_nonneg _ (by omega), Int.fmod_eq_emod_of_nonneg _ (by omega)]; rfl
      have e4 : (((k : Int).fdiv 8).fdiv 32).fmod 8 = ((k / 8 / 32 % 8 : Nat) : Int) := by rw [Int.fdiv_eq_ediv_of_nonneg _ (by omega), Int.fdiv_eq_ediv_of_nonneg _ (by omega), Int.fmod_eq_emod_of_nonneg _ (by omega)]; rfl
      have hgd : dr.getD (k % 8 % dr.length) ⟨0, [], 0⟩ = d := by rw [List.getD_eq_getElem?_getD, hd]; rfl
      have nx : ∀ o : Adr, (k / 8 / 8 % 4 = 3 → o = ⟨d.host, d.figs, 1 - d.slash⟩) → (k / 8 / 8 % 4 ≠ 3 → o = ⟨d.host, d.figs.take 2 ++ [k / 8 % 4 + 1], k / 8 / 4 % 2⟩) →
          nxtA dr k = if k / 8 / 32 % 8 = 7 then ⟨1 - o.host, o.figs, o.slash⟩ else o := by
        intro o h1 h2
        unfold nxtA
        rw [hgd]
        dsimp only
        by_cases h : k / 8 / 8 % 4 = 3
        · rw [if_pos h, h1 h]
        · rw [if_neg h, h2 h]
      have hkh := kd.host
      have hks := kd.slash
      have hfv2 : ∀ t, IntsAre (fvs.take (Int.toNat 2) ++ [Value.int ((k / 8 % 4 + 1 : Nat) : Int) t]) (natsI (d.figs.take 2 ++ [k / 8 % 4 + 1])) := fun t => by
        have := hfv.take 2
        rw [← List.map_take] at this
        show IntsAre _ (List.map _ _)
        rw [List.map_append]
        exact intsAre_snoc this
      have i1 : (1 : Int) - (d.host : Int) = ((1 - d.host : Nat) : Int) := by omega
      have i2 : (1 : Int) - (d.slash : Int) = ((1 - d.slash : Nat) : Int) := by omega
      have i3 : ((k / 8 % 4 : Nat) : Int) + 1 = ((k / 8 % 4 + 1 : Nat) : Int) := by omega
      have hlT := hll
      have fin : ∀ (h' : Heap) (m' : Str → Option Value) (news' : List (Addr × Obj)) (D' f' : Addr) (fvs' : List Value) (n1 n2 : Nat) (t1 t2 : Tok), Fr g' L' h' m' → m' (Str.ofString "drawn") = some (.ref T) → News g' L' h' news' → (∀ p ∈ tail, p ∈ news') →
          (D', tupO [.int ((nxtA dr k).host : Int) t1, .ref f', .int ((nxtA dr k).slash : Int) t2] n1) ∈ news' → (f', tupO fvs' n2) ∈ news' → IntsAre fvs' (natsI (nxtA dr k).figs) →
          ((nxtA dr k ∈ dr ∧ (T, listOf lits.toArray nT) ∈ news') ∨ (nxtA dr k ∉ dr ∧ (T, listOf (lits ++ [Value.ref D']).toArray (nT + 1)) ∈ news')) →
          ∃ news₄, (∀ p ∈ news₄, p ∈ news') ∧ DrwJ T B ws (drwA (nums.take (i + 1))) m' news₄ := by
        intro h' m' news' D' f' fvs' n1 n2 t1 t2 _ hm N hsub hD' hf' hfv' hT
        have inB : (B, listOf ws.toArray 0) ∈ news' := hsub _ (et ▸ .head _)
        have inO : ∀ p ∈ tobjs, p ∈ news' := fun p hp => hsub _ (et ▸ .tail _ hp)
        have apart : ∀ (x : Addr) (l l2 : List Value) (n n2 : Nat), (x, tupO l n) ∈ news' → (T, listOf l2.toArray n2) ∈ news' → @Ne Nat x T := fun x l l2 n n2 h1 h2 q => by
          have q1 : h'.get? x = some _ := (N _ h1).1
          have q2 : h'.get? T = some _ := (N _ h2).1
          rw [show x = T from q, q2] at q1
          have q3 := congrArg Obj.cls (Option.some.inj q1)
          exact absurd (Value.type.inj q3) (by decide)
        rcases hT with ⟨hin, hT⟩ | ⟨hin, hT⟩
        · refine ⟨(T, listOf lits.toArray nT) :: (B, listOf ws.toArray 0) :: tobjs, fun p hp => ?_, lits, nT, tobjs, rfl, ⟨hm, trivial⟩, ho, ?_⟩
          · rcases List.mem_cons.mp hp with rfl | hp
            · exact hT
            rcases List.mem_cons.mp hp with rfl | hp
            · exact inB
            · exact inO p hp
          · rw [hnx, if_pos hin]; exact hA
        · refine ⟨(T, listOf (lits ++ [Value.ref D']).toArray (nT + 1)) :: (B, listOf ws.toArray 0) :: ((D', tupO [.int ((nxtA dr k).host : Int) t1, .ref f', .int ((nxtA dr k).slash : Int) t2] n1) :: (f', tupO fvs' n2) :: tobjs), fun p hp => ?_, _, _, _, rfl, ⟨hm, trivial⟩, fun p hp => ?_, ?_⟩
          · rcases List.mem_cons.mp hp with rfl | hp
            · exact hT
            rcases List.mem_cons.mp hp with rfl | hp
            · exact inB
            rcases List.mem_cons.mp hp with rfl | hp
            · exact hD'
            rcases List.mem_cons.mp hp with rfl | hp
            · exact hf'
            · exact inO p hp
          · rcases List.mem_cons.mp hp with rfl | hp
            · exact ⟨apart _ _ _ _ _ hD' hT, rfl⟩
            rcases List.mem_cons.mp hp with rfl | hp
            · exact ⟨apart _ _ _ _ _ hf' hT, rfl⟩
            · exact ho p hp
          · rw [hnx, if_neg hin]
            exact All2.snoc (All2.mono (fun v q hv => DrIn.up hv fun p hp => .tail _ (.tail _ hp)) hA) ⟨D', f', t1, t2, n1, n2, fvs', rfl, .head _, .tail _ (.head _), hfv'⟩
      obtain ⟨o1, ho1⟩ : ∃ o1 : Adr, o1 = if k / 8 / 8 % 4 = 3 then ⟨d.host, d.figs, 1 - d.slash⟩ else ⟨d.host, d.figs.take 2 ++ [k / 8 % 4 + 1], k / 8 / 4 % 2⟩ := ⟨_, rfl⟩
      obtain ⟨o2, ho2⟩ : ∃ o2 : Adr, o2 = if k / 8 / 32 % 8 = 7 then ⟨1 - d.host, o1.figs, o1.slash⟩ else o1 := ⟨_, rfl⟩
      have hod : o1.host = d.host := by rw [ho1]; split <;> rfl
      have ho : nxtA dr k = o2 := by
        rw [nx o1 (fun h => by rw [ho1, if_pos h]) (fun h => by rw [ho1, if_neg h]), ho2, hod]
      have hAt : All2 (DrIn tail) lits dr := All2.mono (fun v q hv => DrIn.up hv fun p hp => et ▸ .tail _ hp) hA
      refine hG ?_
      clear hG
      show wpAny _ _ _ _ _ _
      k_fold
      k_steps
      unfold Hold
      rename News _ _ _ _ => N6
      simp only [e1, e2, i3] at N6
      refine execs_mid (DrwM s g' L' I oI T lits nT tail k (d.host : Int) th o1) ?ca ?cb
      case ca =>
        show wpAny _ _ _ _ _ _
        k_steps
        case' _ =>
          have h3 : k / 8 / 8 % 4 = 3 := by omega
          rename Fr _ _ _ _ => F8
          rename News _ _ _ _ => N8
          simp only [i2] at N8
          rw [ho1, if_pos h3]
          refine' ⟨rfl, DrwM.mk _ _ _ _ _ _ _ _ _ _ _ _ rfl F8 ⟨rfl, rfl, rfl, rfl, trivial⟩ N8 ?zI ?zT ?zD ?zf ?zs hfv⟩
          case zI => k_mem
          case zT => k_mem
          case zD => k_mem
          case zf => k_mem
          case zs => (intro p hp; (first | ((repeat (first | (with_reducible_and_instances exact hp) | refine List.Mem.tail _ ?_)); done) | simp only [List.mem_cons, hp, or_true]))
        case' _ =>
          have h3 : k / 8 / 8 % 4 ≠ 3 := by omega
          rename Fr _ _ _ _ => F8
          rename News _ _ _ _ => N8
          skip
          rw [ho1, if_neg h3]
          refine' ⟨rfl, DrwM.mk _ _ _ _ _ _ _ _ _ _ _ _ rfl F8 ⟨rfl, rfl, rfl, rfl, trivial⟩ N8 ?zI ?zT ?zD ?zf ?zs (hfv2 _)⟩
          case zI => k_mem
          case zT => k_mem
          case zD => k_mem
          case zf => k_mem
          case zs => (intro p hp; (first | ((repeat (first | (with_reducible_and_instances exact hp) | refine List.Mem.tail _ ?_)); done) | simp only [List.mem_cons, hp, or_true]))
      clear N6
      rename Fr _ _ _ _ => F6
      clear F6
      intro s' hM
      refine hide_ fun G hG => ?_
      obtain ⟨h9, tk9, m9, D9, f9, fvs9, t1, t2, tr, n1, n2, news9, rfl, F9, p9, N9, mI, mT, mD, mf, sb, hf9⟩ := hM
      have N10 := DrwM.led N9 mI mT mD mf sb
      have F10 := Mine.Fr.pinned F9 p9
      clear F9 N9 mI mT mD mf sb
      refine hG ?_
      clear hG
      refine execs_mid (DrwM s g' L' I oI T lits nT tail k (d.host : Int) th o2) ?cc ?cd
      case cc =>
        show wpAny _ _ _ _ _ _
        k_fold
        k_steps
        case' _ =>
          have h7 : k / 8 / 32 % 8 = 7 := by omega
          rename Fr _ _ _ _ => F8
          rename News _ _ _ _ => N8
          simp only [i1] at N8
          rw [ho2, if_pos h7]
          refine' ⟨rfl, DrwM.mk _ _ _ _ _ _ _ _ _ _ _ _ rfl F8 ⟨rfl, rfl, rfl, rfl, trivial⟩ N8 ?zI ?zT ?zD ?zf ?zs hf9⟩
          case zI => k_mem
          case zT => k_mem
          case zD => k_mem
          case zf => k_mem
          case zs => (intro p hp; (first | ((repeat (first | (with_reducible_and_instances exact hp) | refine List.Mem.tail _ ?_)); done) | simp only [List.mem_cons, hp, or_true]))
        case' _ =>
          have h7 : k / 8 / 32 % 8 ≠ 7 := by omega
          rename Fr _ _ _ _ => F8
          rename News _ _ _ _ => N8
          skip
          rw [ho2, if_neg h7]
          refine' ⟨rfl, DrwM.mk _ _ _ _ _ _ _ _ _ _ _ _ rfl F8 ⟨rfl, rfl, rfl, rfl, trivial⟩ N8 ?zI ?zT ?zD ?zf ?zs hf9⟩
          case zI => k_mem
          case zT => k_mem
          case zD => k_mem
          case zf => k_mem
          case zs => (intro p hp; (first | ((repeat (first | (with_reducible_and_instances exact hp) | refine List.Mem.tail _ ?_)); done) | simp only [List.mem_cons, hp, or_true]))
      clear N10 F10 hf9
      intro s' hM
      refine hide_ fun G hG => ?_
      obtain ⟨h9, tk9, m9, D9, f9, fvs9, t1, t2, tr, n1, n2, news9, rfl, F9, p9, N9, mI, mT, mD, mf, sb, hf9⟩ := hM
      rw [← ho] at mD hf9
      have N10 := DrwM.led N9 mI mT mD mf sb
      have F10 := Mine.Fr.pinned F9 p9
      have hb1 := apart_cls N9 mD mT
      have hb2 := apart_cls N9 mf mT
      clear F9 N9 mI mT mD mf sb
      refine hG ?_
      clear hG
      show wpAny _ _ _ _ _ _
      k_fold
      k_steps
      unfold Hold
      rename Fr _ _ _ _ => F6
      rename News _ _ _ _ => N6
      refine' notIn_at (d := nxtA dr k) N6 ?zA hAt ?zB ⟨_, _, _, _, _, _, _, rfl, ?zC, ?zE, hf9⟩ ?zU ?_
      case zA => k_mem
      case zB => (intro p hp; (first | ((repeat (first | (with_reducible_and_instances exact hp) | refine List.Mem.tail _ ?_)); done) | simp only [List.mem_cons, hp, or_true]))
      case zC => k_mem
      case zE => k_mem
      case zU => (have hcL' := cLine_is; simp only [Ar, Around.deeper] at *; omega)
      k_steps
      case' _ =>
        rename _ ∈ dr => hb
        rename Fr _ _ _ _ => F8
        rename News _ _ _ _ => N8
        exact TurnN.ex (I := I) (oI := oI) F8 N8 (by k_mem) (fin _ _ _ _ _ _ _ _ _ _ F8 rfl N8 (by intro p hp; (first | ((repeat (first | (with_reducible_and_instances exact hp) | refine List.Mem.tail _ ?_)); done) | simp only [List.mem_cons, hp, or_true])) (by k_mem) (by k_mem) hf9 (.inl ⟨hb, by k_mem⟩))
      case' _ =>
        rename ¬ _ ∈ dr => hb
        rename Fr _ _ _ _ => F8
        rename News _ _ _ _ => N8
        exact TurnN.ex (I := I) (oI := oI) F8 N8 (by k_mem) (fin _ _ _ _ _ _ _ _ _ _ F8 rfl N8 (by intro p hp; (first | ((repeat (first | (with_reducible_and_instances exact hp) | refine List.Mem.tail _ ?_)); done) | simp only [List.mem_cons, hp, or_true])) (by k_mem) (by k_mem) hf9 (.inr ⟨hb, by k_mem⟩))
    · rintro h tk3 m news F N ⟨lits, nT, tobjs, e0, e1, ho, hA⟩
      rw [e0] at N
      have hwl : ws.toArray.size = nums.length := by rw [List.size_toArray, hW.length, List.length_map]
      have et : nums.take ws.toArray.size = nums := by rw [hwl]; exact List.take_length
      rw [et] at hA
      have F2 := Mine.Fr.pinned F e1
      clear F F7 N7
      show wpAny _ _ _ _ _ _
      k_steps
      refine leaveP_ F2 N (fun p hp => absurd hp List.not_mem_nil) fun k => hret T nT lits tobjs _ _ k (fun p hp => ?_) hA
      have hN := N p (by
        rcases List.mem_cons.mp hp with rfl | hp
        · exact .head _
        · exact .tail _ (.tail _ hp))
      refine ⟨hN.1, ?_⟩
      cases q : s.heap.get? p.1 with
      | none => rfl
      | some o =>
        have := hg' _ o q (by simp)
        rw [hN.2.2] at this; cases this
end Mine
end PWX
theorem Mine.rstWX : True := by
  w_top off
  k_with_none
  first | (walk1; fail "x") | exact True.intro
section PPE
open PySem
namespace Mine
/-- the second walk's compare -/
abbrev f2 (d e : Adr) : Int := sgn d.two e.two
theorem sgn_neg {a b : Nat} : sgn a b < 0 ↔ a < b := by
  unfold sgn; split
  · simp [*]
  · split <;> simp <;> omega
/-- the rows' first items go up -/
def Up : Int → List (List Adr) → Prop
  | _, [] => True
  | _, [] :: _ => False
  | lo, (h :: _) :: B => lo < (h.two : Int) ∧ Up (h.two : Int) B
theorem Up.mono {lo lo' : Int} (h : lo' ≤ lo) : ∀ {B : List (List Adr)}, Up lo B → Up lo' B
  | [], _ => trivial
  | [] :: _, u => u.elim
  | (_ :: _) :: _, u => ⟨by have := u.1; omega, u.2⟩
/-- rows joined one by one -/
def joinR : List (List Adr) → List (List Adr) → List (List Adr)
  | [], B => B
  | A, [] => A
  | a :: A, b :: B => (a ++ b) :: joinR A B
theorem joinR_nil (A : List (List Adr)) : joinR A [] = A := by cases A <;> rfl
theorem joinR_len (i : Nat) : ∀ (A B : List (List Adr)) (i : Nat), ((joinR A B).getD i []).length = (A.getD i []).length + (B.getD i []).length
  | [], B, i => by simp [joinR]
  | a :: A, [], i => by simp [joinR]
  | a :: A, b :: B, 0 => by simp [joinR]
  | a :: A, b :: B, i + 1 => by simpa [joinR] using joinR_len 0 A B i
theorem joinR_length : ∀ (A B : List (List Adr)), (joinR A B).length = max A.length B.length
  | [], B => by simp [joinR]
  | a :: A, [] => by simp [joinR]
  | a :: A, b :: B => by
    have := joinR_length A B
    simp only [joinR, List.length_cons, this, Nat.add_max_add_right]
theorem joinR_mem : ∀ {A B : List (List Adr)} {r : List Adr}, r ∈ joinR A B → ∀ e ∈ r, (∃ a ∈ A, e ∈ a) ∨ ∃ b ∈ B, e ∈ b
  | [], B, r, h, e, he => .inr ⟨r, h, he⟩
  | a :: A, [], r, h, e, he => .inl ⟨r, h, he⟩
  | a :: A, b :: B, r, h, e, he => by
    rcases List.mem_cons.mp h with rfl | h
    · rcases List.mem_append.mp he with he | he
      · exact .inl ⟨a, .head _, he⟩
      · exact .inr ⟨b, .head _, he⟩
    · rcases joinR_mem h e he with ⟨a', h1, h2⟩ | ⟨b', h1, h2⟩
      · exact .inl ⟨a', .tail _ h1, h2⟩
      · exact .inr ⟨b', .tail _ h1, h2⟩
theorem Up.join : ∀ {A B : List (List Adr)} {lo m : Int}, Up lo A → Up m B → lo ≤ m → (∀ a ∈ A, ∀ e ∈ a, (e.two : Int) ≤ m) → Up lo (joinR A B)
  | [], B, lo, m, _, uB, h, _ => uB.mono h
  | [] :: A, B, _, _, uA, _, _, _ => uA.elim
  | (h :: t) :: A, [], lo, m, uA, _, _, _ => uA
  | (h :: t) :: A, [] :: B, _, _, _, uB, _, _ => uB.elim
  | (h :: t) :: A, (h' :: t') :: B, lo, m, uA, uB, hl, hm => by
    have e1 := hm _ (.head _) h (.head _)
    have e2 := uB.1
    refine ⟨uA.1, Up.join uA.2 uB.2 (by omega) fun a ha e he => ?_⟩
    have := hm a (.tail _ ha) e he
    omega
theorem behA_none {d : Adr} : ∀ {l : List Adr} {k : Nat}, (∀ e ∈ l, e.two < d.two) → behA f2 d k l = []
  | [], _, _ => rfl
  | y :: r, k, h => by
    have := h y (.head _)
    unfold behA
    rw [if_neg (by rw [sgn_neg]; omega)]
    exact behA_none fun e he => h e (.tail _ he)
theorem behA_app {d : Adr} : ∀ {a b : List Adr} {k : Nat}, (∀ e ∈ a, e.two < d.two) → behA f2 d k (a ++ b) = behA f2 d (k + a.length) b
  | [], _, _, _ => rfl
  | y :: r, b, k, h => by
    have := h y (.head _)
    rw [List.cons_append]
    unfold behA
    rw [if_neg (by rw [sgn_neg]; omega), behA_app fun e he => h e (.tail _ he)]
    have e : k + 1 + r.length = k + (y :: r).length := by simp; omega
    rw [e]
    cases b <;> rfl
theorem behA_shift {d : Adr} : ∀ (b : List Adr) (k c : Nat), behA f2 d (k + c) b = (behA f2 d k b).map (· + c)
  | [], _, _ => rfl
  | y :: r, k, c => by
    have ih := behA_shift (d := d) r (k + 1) c
    have e : k + 1 + c = k + c + 1 := by omega
    rw [e] at ih
    unfold behA
    rw [ih]
    split <;> simp
theorem layA_join : ∀ (A B : List (List Adr)) (d : Adr), (∀ a ∈ A, ∀ e ∈ a, e.two < d.two) → (∀ a ∈ A, ∀ e ∈ a, ∀ b ∈ B, ∀ x ∈ b, e.two < x.two) → layA f2 d (joinR A B) = joinR A (layA f2 d B)
  | [], B, d, _, _ => by simp [joinR]
  | a :: A, [], d, h, _ => by
    show layA f2 d (a :: A) = joinR (a :: A) [[d]]
    rw [layA, behA_none (h a (.head _))]
    show (a ++ [d]) :: A = (a ++ [d]) :: joinR A []
    rw [joinR_nil]
  | a :: A, b :: B, d, h, hb => by
    show layA f2 d ((a ++ b) :: joinR A B) = joinR (a :: A) (layA f2 d (b :: B))
    have e0 : behA f2 d 0 (a ++ b) = (behA f2 d 0 b).map (· + a.length) := by
      rw [behA_app (h a (.head _))]
      exact behA_shift b 0 a.length
    cases q : behA f2 d 0 b with
    | nil =>
      rw [q] at e0
      rw [layA, e0, layA, q]
      show (a ++ b ++ [d]) :: joinR A B = (a ++ (b ++ [d])) :: joinR A B
      rw [List.append_assoc]
    | cons j js =>
      rw [q] at e0
      have hj : j < b.length := by have := (behA_lt f2 d b 0 j (by rw [q]; exact .head _)).2; omega
      rw [layA, e0, layA, q]
      show (a ++ b).set (j + a.length) d :: layA f2 ((a ++ b).getD (j + a.length) d) (joinR A B) = (a ++ b.set j d) :: joinR A (layA f2 (b.getD j d) B)
      have e1 : (a ++ b).set (j + a.length) d = a ++ b.set j d := by
        rw [List.set_append_right _ _ (by omega)]
        congr 2; omega
      have e2 : (a ++ b).getD (j + a.length) d = b.getD j d := by
        rw [List.getD_eq_getElem?_getD, List.getD_eq_getElem?_getD, List.getElem?_append_right (by omega)]
        congr 2; omega
      have hbm : b.getD j d ∈ b := by
        rw [List.getD_eq_getElem?_getD, List.getElem?_eq_getElem hj]; exact List.getElem_mem hj
      rw [e1, e2, layA_join A B _ (fun a' ha e he => hb a' (.tail _ ha) e he b (.head _) _ hbm) (fun a' ha e he b' hb' => hb a' (.tail _ ha) e he b' (.tail _ hb'))]
/-- x below all firsts: each row's first moves one row down -/
theorem layA_push : ∀ (B : List (List Adr)) (x : Adr) (lo : Int), Up (x.two : Int) B → lo < (x.two : Int) →
    Up lo (layA f2 x B) ∧ (layA f2 x B).length = B.length + 1 ∧ (∀ i, ((layA f2 x B).getD i []).length = (B.getD i []).length + if i = B.length then 1 else 0) ∧ ∀ r ∈ layA f2 x B, ∀ e ∈ r, e = x ∨ ∃ b ∈ B, e ∈ b
  | [], x, lo, _, h => by
    refine ⟨⟨h, trivial⟩, rfl, fun i => ?_, fun r hr e he => ?_⟩
    · cases i <;> simp [layA]
    · rw [show layA f2 x [] = [[x]] from rfl, List.mem_singleton] at hr
      rw [hr, List.mem_singleton] at he
      exact .inl he
  | [] :: B, x, lo, u, _ => u.elim
  | (h :: t) :: B, x, lo, u, hl => by
    obtain ⟨i1, i2, i3, i4⟩ := layA_push B h (x.two : Int) u.2 u.1
    have hlt : x.two < h.two := by have := u.1; omega
    have e0 : layA f2 x ((h :: t) :: B) = (x :: t) :: layA f2 h B := by
      rw [layA]
      have : behA f2 x 0 (h :: t) = 0 :: behA f2 x 1 t := by
        rw [behA, if_pos (by rw [sgn_neg]; exact hlt)]
      rw [this]
      rfl
    rw [e0]
    refine ⟨⟨hl, i1⟩, by simp [i2], fun i => ?_, fun r hr e he => ?_⟩
    · cases i with
      | zero => simp
      | succ i => simpa using i3 i
    · rcases List.mem_cons.mp hr with rfl | hr
      · rcases List.mem_cons.mp he with rfl | he
        · exact .inl rfl
        · exact .inr ⟨_, .head _, .tail _ he⟩
      · rcases i4 r hr e he with rfl | ⟨b, hb, hb2⟩
        · exact .inr ⟨_, .head _, .head _⟩
        · exact .inr ⟨b, .tail _ hb, hb2⟩
def rowsF (l : List Adr) : List (List Adr) := l.foldr (fun d P => layA f2 d P) []
def toldF (l : List Adr) : List (Nat × Adr) := l.foldr (fun d t => t ++ [(hgtA d t, d)]) []
theorem toldF_adr (l : List Adr) : ∀ p ∈ toldF l, p.2 ∈ l := by
  induction l with
  | nil => intro p hp; simp [toldF] at hp
  | cons x r ih =>
    intro p hp
    rcases List.mem_append.mp hp with hp | hp
    · exact .tail _ (ih p hp)
    · rw [List.mem_singleton.mp hp]; exact .head _
theorem rowsF_app (D R : List Adr) (h : ∀ r ∈ R, ∀ d ∈ D, r.two < d.two) (mR : ∀ a ∈ rowsF R, ∀ e ∈ a, e ∈ R) (mD : ∀ S : List Adr, S <:+ D → ∀ a ∈ rowsF S, ∀ e ∈ a, e ∈ S) : rowsF (D ++ R) = joinR (rowsF R) (rowsF D) := by
  induction D with
  | nil => show rowsF R = joinR (rowsF R) []; rw [joinR_nil]
  | cons d D ih =>
    have ih' := ih (fun r hr d' hd => h r hr d' (.tail _ hd)) (fun S hS => mD S (hS.trans (List.suffix_cons _ _)))
    show layA f2 d (rowsF (D ++ R)) = joinR (rowsF R) (layA f2 d (rowsF D))
    rw [ih', layA_join]
    · intro a ha e he
      exact h e (mR a ha e he) d (.head _)
    · intro a ha e he b hb x hx
      exact h e (mR a ha e he) x (.tail _ (mD D (List.suffix_cons _ _) b hb x hx))
theorem belA_nil {d : Adr} {t s : List (Nat × Adr)} (h : ∀ p ∈ t, p.2.two < d.two) : belA d (t ++ s) = belA d s := by
  unfold belA
  rw [List.filter_append]
  have : t.filter (fun p => decide (d.one ≤ p.2.one) && decide (d.two ≤ p.2.two)) = [] := by
    rw [List.filter_eq_nil_iff]
    intro p hp
    have := h p hp
    simp; omega
  rw [this]; rfl
theorem toldF_app (D R : List Adr) (h : ∀ r ∈ R, ∀ d ∈ D, r.two < d.two) : toldF (D ++ R) = toldF R ++ toldF D := by
  induction D with
  | nil => show toldF R = toldF R ++ []; rw [List.append_nil]
  | cons d D ih =>
    have ih' := ih (fun r hr d' hd => h r hr d' (.tail _ hd))
    show toldF (D ++ R) ++ [(hgtA d (toldF (D ++ R)), d)] = toldF R ++ (toldF D ++ [(hgtA d (toldF D), d)])
    rw [ih', List.append_assoc]
    have : hgtA d (toldF R ++ toldF D) = hgtA d (toldF D) := by
      unfold hgtA
      rw [belA_nil fun p hp => h _ (toldF_adr R p hp) d (.head _)]
    rw [this]
/-- in first order; what covers a later one covers all between -/
structure Good (l : List Adr) : Prop where
  srt : l.Pairwise fun a b => a.one < b.one ∧ a.two ≠ b.two
  tree : ∀ a b c, [a, b, c].Sublist l → a.two < c.two → a.two < b.two
theorem Good.sub {l l' : List Adr} (g : Good l) (h : l'.Sublist l) : Good l' := ⟨g.srt.sublist h, fun a b c s => g.tree a b c (s.trans h)⟩
theorem good_split {x : Adr} : ∀ {l : List Adr}, Good (x :: l) → ∃ D R, l = D ++ R ∧ (∀ d ∈ D, x.two < d.two) ∧ ∀ r ∈ R, r.two < x.two
  | [], _ => ⟨[], [], rfl, by simp, by simp⟩
  | y :: r, g => by
    have gs := g.sub (l' := x :: r) (.cons₂ _ (.cons _ (List.Sublist.refl _)))
    obtain ⟨D, R, e, h1, h2⟩ := good_split gs
    have hxy := (List.pairwise_cons.mp g.srt).1 y (.head _)
    by_cases h : x.two < y.two
    · exact ⟨y :: D, R, by rw [e]; rfl, fun d hd => by rcases List.mem_cons.mp hd with rfl | hd; exact h; exact h1 d hd, h2⟩
    · refine ⟨[], y :: r, rfl, by simp, fun z hz => ?_⟩
      rcases List.mem_cons.mp hz with rfl | hz
      · omega
      · have hxz := (List.pairwise_cons.mp g.srt).1 z (.tail _ hz)
        by_cases hz2 : x.two < z.two
        · exact absurd (g.tree x y z (.cons₂ _ (.cons₂ _ (List.singleton_sublist.mpr hz))) hz2) h
        · omega
theorem foldl_max_app (a b : List Nat) (c : Nat) : (a ++ b).foldl max c = max (a.foldl max c) (b.foldl max 0) := by
  rw [List.foldl_append]
  generalize a.foldl max c = m
  induction b generalizing m with
  | nil => simp
  | cons y r ih =>
    show r.foldl max (max m y) = max m (r.foldl max (max 0 y))
    rw [ih, ih (max 0 y), Nat.zero_max, Nat.max_assoc]
theorem shape : ∀ (n : Nat) (l : List Adr), l.length ≤ n → Good l → Up (-1) (rowsF l) ∧ (∀ a ∈ rowsF l, ∀ e ∈ a, e ∈ l) ∧ (rowsF l).length = ((toldF l).map (·.1)).foldl max 0 ∧ ∀ i, ((rowsF l).getD i []).length = ((toldF l).map (·.1)).count (i + 1)
  | _, [], _, _ => ⟨trivial, by simp [rowsF], rfl, fun i => by simp [rowsF, toldF]⟩
  | 0, x :: l, h, _ => by simp at h
  | n + 1, x :: l, h, g => by
    obtain ⟨D, R, rfl, hD, hR⟩ := good_split g
    have gl := g.sub (List.sublist_cons_self x (D ++ R))
    have gD := gl.sub (List.sublist_append_left D R)
    have gR := gl.sub (List.sublist_append_right D R)
    have hlen : D.length + R.length ≤ n := by simp at h; omega
    obtain ⟨d1, d2, d3, d4⟩ := shape n D (by omega) gD
    obtain ⟨r1, r2, r3, r4⟩ := shape n R (by omega) gR
    have hRD : ∀ r ∈ R, ∀ d ∈ D, r.two < d.two := fun r hr d hd => Nat.lt_trans (hR r hr) (hD d hd)
    have mD : ∀ S : List Adr, S <:+ D → ∀ a ∈ rowsF S, ∀ e ∈ a, e ∈ S := fun S hS => (shape n S (by have := hS.length_le; omega) (gD.sub hS.sublist)).2.1
    have eR := rowsF_app D R hRD r2 mD
    have eT := toldF_app D R hRD
    -- the firsts of D's rows lie above x
    have uD : Up (x.two : Int) (rowsF D) := by
      have key : ∀ (B : List (List Adr)) (lo : Int), Up lo B → (∀ b ∈ B, ∀ e ∈ b, x.two < e.two) → Up (x.two : Int) B := by
        intro B lo u hb
        cases B with
        | nil => trivial
        | cons b B => cases b with
          | nil => exact u.elim
          | cons y t => exact ⟨by have := hb _ (.head _) y (.head _); omega, u.2⟩
      exact key _ _ d1 fun b hb e he => hD e (d2 b hb e he)
    obtain ⟨p1, p2, p3, p4⟩ := layA_push (rowsF D) x ((x.two : Int) - 1) uD (by omega)
    have e1 : rowsF (x :: (D ++ R)) = joinR (rowsF R) (layA f2 x (rowsF D)) := by
      show layA f2 x (rowsF (D ++ R)) = _
      rw [eR, layA_join]
      · exact fun a ha e he => hR e (r2 a ha e he)
      · exact fun a ha e he b hb y hy => hRD e (r2 a ha e he) y (d2 b hb y hy)
    have hx : hgtA x (toldF R ++ toldF D) = 1 + ((toldF D).map (·.1)).foldl max 0 := by
      unfold hgtA
      rw [belA_nil fun p hp => hR _ (toldF_adr R p hp)]
      have : belA x (toldF D) = (toldF D).map (·.1) := by
        unfold belA
        rw [List.filter_eq_self.mpr]
        intro p hp
        have hm := toldF_adr D p hp
        have h1 := (List.pairwise_cons.mp g.srt).1 p.2 (List.mem_append.mpr (.inl hm))
        have h2 := hD _ hm
        simp; omega
      rw [this]
    have e2 : toldF (x :: (D ++ R)) = toldF R ++ toldF D ++ [(1 + (rowsF D).length, x)] := by
      show toldF (D ++ R) ++ [(hgtA x (toldF (D ++ R)), x)] = _
      rw [eT, hx, d3]
    rw [e1, e2]
    refine ⟨?_, ?_, ?_, fun i => ?_⟩
    · refine Up.join (r1.mono (Int.le_refl _)) p1 (by omega) fun a ha e he => ?_
      have := hR e (r2 a ha e he); omega
    · intro a ha e he
      rcases joinR_mem ha e he with ⟨b, hb, hb2⟩ | ⟨b, hb, hb2⟩
      · exact .tail _ (List.mem_append.mpr (.inr (r2 b hb e hb2)))
      · rcases p4 b hb e hb2 with rfl | ⟨c, hc, hc2⟩
        · exact .head _
        · exact .tail _ (List.mem_append.mpr (.inl (d2 c hc e hc2)))
    · rw [joinR_length, p2, List.map_append, List.map_append, foldl_max_app, foldl_max_app, ← r3, ← d3]
      simp; omega
    · rw [joinR_len 0, p3, List.map_append, List.map_append, List.count_append, List.count_append, r4, d4]
      have : List.count (i + 1) (List.map (fun x => x.1) [(1 + (rowsF D).length, x)]) = if i = (rowsF D).length then 1 else 0 := by
        simp only [List.map_cons, List.map_nil, List.count_singleton]
        by_cases q : i = (rowsF D).length
        · rw [if_pos q, if_pos (by simp; omega)]
        · rw [if_neg q, if_neg (by simp; omega)]
      rw [this]; omega
end Mine
end PPE
theorem Mine.rstPE : True := by
  w_top off
  k_with_none
  first | (walk1; fail "x") | exact True.intro
section PPF
open PySem
namespace Mine
theorem posA_facts (f : Adr → Adr → Int) (x : Adr) (l : List Adr) : ∀ k, k ≤ l.length → (∀ q y, posA f x l k ≤ q → q < k → l[q]? = some y → f x y < 0) ∧ (posA f x l k = 0 ∨ ∃ y, l[posA f x l k - 1]? = some y ∧ ¬ f x y < 0)
  | 0, _ => ⟨fun q y h1 h2 => absurd h2 (Nat.not_lt_zero _), .inl rfl⟩
  | k + 1, hk => by
    obtain ⟨i1, i2⟩ := posA_facts f x l k (by omega)
    have hy : l[k]? = some l[k] := List.getElem?_eq_getElem (by omega)
    have e : posA f x l (k + 1) = if f x l[k] < 0 then posA f x l k else k + 1 := by
      show (match l[k]? with | some y => if f x y < 0 then posA f x l k else k + 1 | none => k + 1) = _
      rw [hy]
    by_cases h : f x l[k] < 0
    · rw [e, if_pos h]
      refine ⟨fun q y h1 h2 h3 => ?_, i2⟩
      by_cases hq : q = k
      · subst hq
        rw [hy] at h3
        rw [← Option.some.inj h3]; exact h
      · exact i1 q y h1 (by omega) h3
    · rw [e, if_neg h]
      exact ⟨fun q y h1 h2 => by omega, .inr ⟨l[k], hy, h⟩⟩
theorem insA_perm (f : Adr → Adr → Int) (l : List Adr) (x : Adr) : (insA f l x).Perm (x :: l) := by
  unfold insA
  refine List.perm_middle.trans ?_
  rw [List.take_append_drop]
theorem insA_sorted {f : Adr → Adr → Int} {key : Adr → Int} {l : List Adr} {x : Adr} (hf : ∀ y ∈ l, f x y < 0 ↔ key x < key y) (hs : l.Pairwise fun a b => key a < key b) (hne : ∀ y ∈ l, key y ≠ key x) : (insA f l x).Pairwise fun a b => key a < key b := by
  obtain ⟨p1, p2⟩ := posA_facts f x l l.length (Nat.le_refl _)
  have ple := posA_le f x l l.length
  unfold insA
  generalize posA f x l l.length = p at *
  have hsplit := hs
  rw [← List.take_append_drop p l, List.pairwise_append] at hsplit
  obtain ⟨s1, s2, s3⟩ := hsplit
  have hd : ∀ y ∈ l.drop p, key x < key y := by
    intro y hy
    obtain ⟨j, hj⟩ := List.mem_iff_getElem?.mp hy
    rw [List.getElem?_drop] at hj
    have hlt := (List.getElem?_eq_some_iff.mp hj).1
    exact (hf y (List.mem_of_mem_drop hy)).mp (p1 (p + j) y (by omega) hlt hj)
  have ht : ∀ y ∈ l.take p, key y < key x := by
    intro y hy
    rcases p2 with p0 | ⟨z, hz, hz2⟩
    · rw [p0] at hy; simp at hy
    · obtain ⟨j, hj⟩ := List.mem_iff_getElem?.mp hy
      have hjp : j < p := by have := (List.getElem?_eq_some_iff.mp hj).1; rw [List.length_take] at this; omega
      have hjl : l[j]? = some y := by rw [List.getElem?_take] at hj; simpa [hjp] using hj
      have hzm := List.mem_of_getElem? hz
      have hzx : key z < key x := by
        have h1 := hne z hzm
        have h2 : ¬ key x < key z := fun q => hz2 ((hf z hzm).mpr q)
        omega
      by_cases hjq : j = p - 1
      · rw [hjq, hz] at hjl
        rw [← Option.some.inj hjl]; exact hzx
      · have h1 := (List.getElem?_eq_some_iff.mp hjl)
        have h2 := (List.getElem?_eq_some_iff.mp hz)
        obtain ⟨a1, a2⟩ := h1
        obtain ⟨b1, b2⟩ := h2
        have := List.pairwise_iff_getElem.mp hs j (p - 1) a1 b1 (by omega)
        rw [a2, b2] at this
        omega
  rw [List.pairwise_append]
  refine ⟨s1, List.pairwise_cons.mpr ⟨hd, s2⟩, fun a ha b hb => ?_⟩
  rcases List.mem_cons.mp hb with rfl | hb
  · exact ht a ha
  · exact s3 a ha b hb
theorem lineA_perm (f : Adr → Adr → Int) (ds : List Adr) : (lineA f ds).Perm ds := by
  refine snoc_ind (P := fun ds => (lineA f ds).Perm ds) (List.Perm.refl _) (fun l x ih => ?_) ds
  rw [lineA_snoc]
  refine (insA_perm f _ x).trans ?_
  exact (ih.cons x).trans (List.perm_append_singleton x l).symm
theorem lineA_sorted {f : Adr → Adr → Int} {key : Adr → Int} (ds : List Adr) : (∀ a ∈ ds, ∀ b ∈ ds, f a b < 0 ↔ key a < key b) → ds.Pairwise (fun a b => key a ≠ key b) → (lineA f ds).Pairwise fun a b => key a < key b := by
  refine snoc_ind (P := fun ds => (∀ a ∈ ds, ∀ b ∈ ds, f a b < 0 ↔ key a < key b) → ds.Pairwise (fun a b => key a ≠ key b) → (lineA f ds).Pairwise fun a b => key a < key b) (fun _ _ => List.Pairwise.nil) (fun l x ih => ?_) ds
  intro hf hp
  rw [List.pairwise_append] at hp
  obtain ⟨h1, _, h3⟩ := hp
  rw [lineA_snoc]
  refine insA_sorted (fun y hy => ?_) (ih (fun a ha b hb => hf a (List.mem_append.mpr (.inl ha)) b (List.mem_append.mpr (.inl hb))) h1) (fun y hy => h3 y (lineA_mem.mp hy) x (.head _))
  exact hf x (List.mem_append.mpr (.inr (.head _))) y (List.mem_append.mpr (.inl (lineA_mem.mp hy)))
theorem good_line {l : List Adr} (hok : ∀ d ∈ l, d.Ok) (hs : l.Pairwise fun a b => a.one < b.one) : Good l := by
  refine ⟨?_, fun a b c s h => ?_⟩
  · refine List.Pairwise.imp_of_mem (fun {a b} ha hb h => ⟨h, two_ne (hok a ha) (hok b hb) h⟩) hs
  · have hp := hs.sublist s
    simp only [List.pairwise_cons, List.mem_cons, List.not_mem_nil, or_false, forall_eq_or_imp, forall_eq, false_implies, implies_true, and_true] at hp
    exact tree_ok (hok a (s.subset (.head _))) (hok b (s.subset (.tail _ (.head _)))) (hok c (s.subset (.tail _ (.tail _ (.head _))))) hp.1.1 hp.2.1 h
/-- the rows of the law -/
def pilesA (l : List Adr) : List (List Adr) := l.foldl (fun P d => layA f2 d P) []
theorem law_plain (ds : List Adr) (hok : ∀ d ∈ ds, d.Ok) (hnd : ds.Nodup) :
    (pilesA (lineA (fun d e => - sgn d.one e.one) ds)).map List.length = (List.range (pilesA (lineA (fun d e => - sgn d.one e.one) ds)).length).map fun i => ((toldA (lineA (fun d e => sgn d.one e.one) ds).reverse).map (·.1)).count (i + 1) := by
  have hne : ds.Pairwise (fun a b => a.one ≠ b.one) := List.Pairwise.imp_of_mem (fun {a b} ha hb h q => h (one_inj (hok a ha) (hok b hb) q)) hnd
  have s1 := lineA_sorted (f := fun d e => sgn d.one e.one) (key := fun d => (d.one : Int)) ds (fun a _ b _ => by rw [sgn_neg]; omega) (hne.imp fun h q => h (by omega))
  have s2 := lineA_sorted (f := fun d e => - sgn d.one e.one) (key := fun d => - (d.one : Int)) ds (fun a _ b _ => by
    have : - sgn a.one b.one < 0 ↔ b.one < a.one := by
      unfold sgn; split
      · simp; omega
      · split <;> simp <;> omega
    rw [this]; omega) (hne.imp fun h q => h (by omega))
  have e : lineA (fun d e => - sgn d.one e.one) ds = (lineA (fun d e => sgn d.one e.one) ds).reverse := by
    refine List.Perm.eq_of_pairwise (le := fun a b => - (a.one : Int) < - (b.one : Int)) (fun a b _ _ h1 h2 => by omega) s2 ?_ (((lineA_perm _ ds).trans (lineA_perm _ ds).symm).trans (List.reverse_perm _).symm)
    rw [List.pairwise_reverse]
    exact s1.imp fun h => by omega
  rw [e]
  generalize hL : lineA (fun d e => sgn d.one e.one) ds = L at *
  have hokL : ∀ d ∈ L, d.Ok := fun d hd => hok d (by rw [← hL] at hd; exact lineA_mem.mp hd)
  have g := good_line hokL (s1.imp fun h => by omega)
  obtain ⟨_, _, h3, h4⟩ := shape L.length L (Nat.le_refl _) g
  have e1 : pilesA L.reverse = rowsF L := by unfold pilesA rowsF; rw [List.foldl_reverse]
  have e2 : toldA L.reverse = toldF L := by unfold toldA toldF; rw [List.foldl_reverse]
  rw [e1, e2]
  apply List.ext_getElem
  · simp
  · intro i q1 q2
    simp only [List.getElem_map, List.getElem_range]
    rw [← h4 i]
    rw [List.length_map] at q1
    rw [List.getD_eq_getElem?_getD, List.getElem?_eq_getElem q1]
    rfl
end Mine
end PPF
theorem Mine.rstPF : True := by
  w_top off
  k_with_none
  first | (walk1; fail "x") | exact True.intro
section PPG
open PySem
namespace Mine
theorem layA_facts (f : Adr → Adr → Int) (N : Nat) : ∀ (P : List (List Adr)) (x : Adr), (∀ r ∈ P, r.length ≤ N) → (layA f x P).length ≤ P.length + 1 ∧ (∀ r ∈ layA f x P, r.length ≤ N + 1) ∧ ∀ r ∈ layA f x P, ∀ e ∈ r, e = x ∨ ∃ b ∈ P, e ∈ b
  | [], x, _ => by
    refine ⟨Nat.le_refl _, fun r hr => ?_, fun r hr e he => ?_⟩
    · rw [show layA f x [] = [[x]] from rfl, List.mem_singleton] at hr
      rw [hr]; simp
    · rw [show layA f x [] = [[x]] from rfl, List.mem_singleton] at hr
      rw [hr, List.mem_singleton] at he
      exact .inl he
  | p :: ps, x, h => by
    have hp := h p (.head _)
    rw [layA]
    cases q : behA f x 0 p with
    | nil =>
      refine ⟨Nat.le_succ _, fun r hr => ?_, fun r hr e he => ?_⟩
      · rcases List.mem_cons.mp hr with rfl | hr
        · rw [List.length_append, List.length_singleton]; omega
        · exact Nat.le_succ_of_le (h r (.tail _ hr))
      · rcases List.mem_cons.mp hr with rfl | hr
        · rcases List.mem_append.mp he with he | he
          · exact .inr ⟨p, .head _, he⟩
          · exact .inl (List.mem_singleton.mp he)
        · exact .inr ⟨r, .tail _ hr, he⟩
    | cons j js =>
      obtain ⟨i1, i2, i3⟩ := layA_facts f N ps (p.getD j x) (fun r hr => h r (.tail _ hr))
      have hj : j < p.length := by have := (behA_lt f x p 0 j (by rw [q]; exact .head _)).2; omega
      have hm : p.getD j x ∈ p := by rw [List.getD_eq_getElem?_getD, List.getElem?_eq_getElem hj]; exact List.getElem_mem hj
      refine ⟨by simp only [List.length_cons]; omega, fun r hr => ?_, fun r hr e he => ?_⟩
      · rcases List.mem_cons.mp hr with rfl | hr
        · rw [List.length_set]; omega
        · exact i2 r hr
      · rcases List.mem_cons.mp hr with rfl | hr
        · rcases List.mem_or_eq_of_mem_set he with he | he
          · exact .inr ⟨p, .head _, he⟩
          · exact .inl he
        · rcases i3 r hr e he with he | ⟨b, hb, he⟩
          · exact .inr ⟨p, .head _, he ▸ hm⟩
          · exact .inr ⟨b, .tail _ hb, he⟩
theorem pilesA_snoc (l : List Adr) (x : Adr) : pilesA (l ++ [x]) = layA f2 x (pilesA l) := by unfold pilesA; rw [List.foldl_append]; rfl
theorem pilesA_facts (l : List Adr) : (pilesA l).length ≤ l.length ∧ (∀ r ∈ pilesA l, r.length ≤ l.length) ∧ ∀ r ∈ pilesA l, ∀ e ∈ r, e ∈ l := by
  refine snoc_ind (P := fun l => (pilesA l).length ≤ l.length ∧ (∀ r ∈ pilesA l, r.length ≤ l.length) ∧ ∀ r ∈ pilesA l, ∀ e ∈ r, e ∈ l) ⟨Nat.le_refl _, by simp [pilesA], by simp [pilesA]⟩ (fun l x ih => ?_) l
  obtain ⟨h1, h2, h3⟩ := ih
  obtain ⟨a, b, c⟩ := layA_facts f2 l.length (pilesA l) x h2
  rw [pilesA_snoc, List.length_append, List.length_singleton]
  refine ⟨by omega, b, fun r hr e he => ?_⟩
  rcases c r hr e he with rfl | ⟨q, hq, he⟩
  · exact List.mem_append.mpr (.inr (.head _))
  · exact List.mem_append.mpr (.inl (h3 q hq e he))
end Mine
end PPG
theorem Mine.rstPG : True := by
  w_top off
  k_with_none
  first | (walk1; fail "x") | exact True.intro
section PWZ
open PySem PySem.W PyProof.Rows PySem.Calls PySem.Spec
set_option maxRecDepth 100000
set_option pp.maxSteps 20000
namespace Mine
theorem frS {g h : Heap} {L S : Addr} {m : Str → Option Value} {vs : Array Value} (_hS : g.IsList S vs) (F : Fr g L h m) (e : m = fun y => if y = Str.ofString "script" then some (Value.ref S) else none) : Fr g L h (fun y => if y = Str.ofString "script" then some (Value.ref S) else none) := e ▸ F
theorem news_add {g h h' : Heap} {L : Addr} {m : Str → Option Value} {news nw : List (Addr × Obj)} (F : Fr g L h m) (N : News g L h news) (hk : Kp h h') (ho : ∀ p ∈ nw, h'.get? p.1 = some p.2 ∧ h.get? p.1 = none) : News g L h' (nw ++ news) := fun p hp => by
  rcases List.mem_append.mp hp with hp | hp
  · refine ⟨(ho p hp).1, fun q => ?_, ?_⟩
    · obtain ⟨oL, eL⟩ := ns_there F.ns
      have := (ho p hp).2
      rw [q, eL] at this; cases this
    · cases e : g.get? p.1 with
      | none => rfl
      | some o => have := F.keep _ _ e; rw [(ho p hp).2] at this; cases this
  · exact ⟨hk _ _ (N p hp).1, (N p hp).2⟩
theorem fresh_back {g h hc : Heap} {C x : Addr} {m : Str → Option Value} {news : List (Addr × Obj)} (F : Fr g C hc m) (N : News g C hc news) (all : ∀ p ∈ allOf g h C, p ∈ news) (kg : Kp g h) (hx : hc.get? x = none) : h.get? x = none := by
  cases q : h.get? x with
  | none => rfl
  | some o =>
    by_cases hC : x = C
    · obtain ⟨oL, eL⟩ := ns_there F.ns
      rw [← hC, hx] at eL; cases eL
    · cases e : g.get? x with
      | some o' => have := F.keep _ _ e; rw [hx] at this; cases this
      | none =>
        have := (N (x, o) (all _ (allOf_mem.mpr ⟨q, hC, e⟩))).1
        rw [hx] at this; cases this
section
variable {prog : Program} {w : World} {A : Around} {E : Value → Shared → Prop} {s : Shared}
end
theorem thingFr_in {h₀ h1 h : Heap} {v : Value} {d : Adr} (x : ThingFr h₀ h1 h v d) : ∃ nw : List (Addr × Obj), (∀ p ∈ nw, h.get? p.1 = some p.2 ∧ h1.get? p.1 = none) ∧ ThingIn nw v d := by
  obtain ⟨t, row, up, n0, n1, n2, t0, t1, s0, s1, s2, s3, s4, s5, s6, s7, u0, u1, rfl, o, f1, f2, f3⟩ := x
  refine ⟨_, fun p hp => ⟨(o p hp).1, ?_⟩, t, row, up, t0, t1, n0, rfl, .head _, ⟨s0, s1, s2, s3, s4, s5, s6, s7, n1, .tail _ (.head _)⟩, ⟨u0, u1, n2, .tail _ (.tail _ (.head _))⟩⟩
  simp only [List.mem_cons, List.not_mem_nil, or_false] at hp
  rcases hp with rfl | rfl | rfl <;> assumption
/-- one object taken out of a ledger -/
inductive Pull (x : Addr × Obj) : List (Addr × Obj) → List (Addr × Obj) → Prop
  | here {r} : Pull x (x :: r) r
  | there {y r r'} : Pull x r r' → Pull x (y :: r) (y :: r')
theorem Pull.mem {x : Addr × Obj} {l r : List (Addr × Obj)} (p : Pull x l r) : ∀ q ∈ x :: r, q ∈ l := by
  induction p with
  | here => exact fun q hq => hq
  | there p ih =>
    intro q hq
    rcases List.mem_cons.mp hq with rfl | hq
    · exact .tail _ (ih _ (.head _))
    rcases List.mem_cons.mp hq with rfl | hq
    · exact .head _
    · exact .tail _ (ih _ (.tail _ hq))
theorem news_pull {g h : Heap} {L : Addr} {x : Addr × Obj} {l r : List (Addr × Obj)} (N : News g L h l) (p : Pull x l r) : News g L h (x :: r) := fun q hq => N q (p.mem q hq)
/-- the law's frame between two statements -/
inductive LM (s1 : Shared) (oC : Obj) (pins : List (Str × Value)) (ex : List (Addr × Obj) → Prop) (s' : Shared) : Prop
  | mk (h : Heap) (tk : Nat) (m : Str → Option Value) (objs : List (Addr × Obj)) (q1 : s' = { s1 with heap := h, toks := tk }) (q2 : Fr s1.heap s1.heap.objs.size h m) (q3 : News s1.heap s1.heap.objs.size h ((s1.heap.objs.size + 1, oC) :: objs)) (q4 : PinL m pins) (q5 : ex objs)
inductive TH (objs : List (Addr × Obj)) (D : Addr) (ds : List Adr) : Prop
  | mk (ys : List Value) (n : Nat) (q1 : (D, listOf ys.toArray n) ∈ objs) (q2 : ThingsIn objs ys ds)
inductive CMP (objs : List (Addr × Obj)) (x : Addr) (κ : Kind) : Prop
  | mk (dx : Addr) (hs : Int) (ky : Tok) (c : Addr) (dn : Nat) (q1 : (x, instObj 95 dx) ∈ objs) (q2 : (dx, cmpD hs ky c dn) ∈ objs) (q3 : SelIn objs c κ)
inductive MGR (objs : List (Addr × Obj)) (x : Addr) : Prop
  | mk (dx : Addr) (hs : Int) (ky : Tok) (pw : Addr) (dn : Nat) (q1 : (x, instObj 67 dx) ∈ objs) (q2 : (dx, mgrD hs ky pw dn) ∈ objs)
theorem TH.up {o1 o2 : List (Addr × Obj)} {D : Addr} {ds : List Adr} (x : TH o1 D ds) (h : ∀ p ∈ o1, p ∈ o2) : TH o2 D ds := let ⟨ys, n, a, b⟩ := x; ⟨ys, n, h _ a, All2.mono (fun v d t => t.mono h) b⟩
theorem CMP.up {o1 o2 : List (Addr × Obj)} {y : Addr} {κ : Kind} (x : CMP o1 y κ) (h : ∀ p ∈ o1, p ∈ o2) : CMP o2 y κ := let ⟨dx, hs, ky, c, dn, a, b, d⟩ := x; ⟨dx, hs, ky, c, dn, h _ a, h _ b, d.up h⟩
theorem MGR.up {o1 o2 : List (Addr × Obj)} {y : Addr} (x : MGR o1 y) (h : ∀ p ∈ o1, p ∈ o2) : MGR o2 y := let ⟨dx, hs, ky, c, dn, a, b⟩ := x; ⟨dx, hs, ky, c, dn, h _ a, h _ b⟩
/-- all but cells -/
def Sb (o1 o2 : List (Addr × Obj)) : Prop := ∀ p ∈ o1, (∀ v, p.2.data ≠ .cell v) → p ∈ o2
theorem RowIn.sb {o1 o2 : List (Addr × Obj)} {r : Addr} {d : Adr} (x : RowIn o1 r d) (h : Sb o1 o2) : RowIn o2 r d := let ⟨a, b, c, e, f, g, i, j, k, m⟩ := x; ⟨a, b, c, e, f, g, i, j, k, h _ m (fun _ q => nomatch q)⟩
theorem UpIn.sb {o1 o2 : List (Addr × Obj)} {r : Addr} {d : Adr} (x : UpIn o1 r d) (h : Sb o1 o2) : UpIn o2 r d := let ⟨a, b, c, m⟩ := x; ⟨a, b, c, h _ m (fun _ q => nomatch q)⟩
theorem ThingIn.sb {o1 o2 : List (Addr × Obj)} {v : Value} {d : Adr} (x : ThingIn o1 v d) (h : Sb o1 o2) : ThingIn o2 v d := let ⟨a, b, c, e, f, g, i, j, k, l⟩ := x; ⟨a, b, c, e, f, g, i, h _ j (fun _ q => nomatch q), k.sb h, l.sb h⟩
theorem SelIn.sb {o1 o2 : List (Addr × Obj)} {c : Addr} {κ : Kind} (x : SelIn o1 c κ) (h : Sb o1 o2) : SelIn o2 c κ := by
  obtain ⟨p0, p1, p2, p3, p4, n, n0, n1, n2, n3, n4, i0, i1, i2, i3, i4, j0, j1, j2, j3, j4, a, b, c, d, e, f⟩ := x
  exact ⟨p0, p1, p2, p3, p4, n, n0, n1, n2, n3, n4, i0, i1, i2, i3, i4, j0, j1, j2, j3, j4, h _ a (fun _ q => nomatch q), h _ b (fun _ q => nomatch q), h _ c (fun _ q => nomatch q), h _ d (fun _ q => nomatch q), h _ e (fun _ q => nomatch q), h _ f (fun _ q => nomatch q)⟩
theorem TH.sb {o1 o2 : List (Addr × Obj)} {D : Addr} {ds : List Adr} (x : TH o1 D ds) (h : Sb o1 o2) : TH o2 D ds := let ⟨ys, n, a, b⟩ := x; ⟨ys, n, h _ a (fun _ q => nomatch q), All2.mono (fun v d t => t.sb h) b⟩
theorem CMP.sb {o1 o2 : List (Addr × Obj)} {y : Addr} {κ : Kind} (x : CMP o1 y κ) (h : Sb o1 o2) : CMP o2 y κ := let ⟨dx, hs, ky, c, dn, a, b, d⟩ := x; ⟨dx, hs, ky, c, dn, h _ a (fun _ q => nomatch q), h _ b (fun _ q => nomatch q), d.sb h⟩
theorem MGR.sb {o1 o2 : List (Addr × Obj)} {y : Addr} (x : MGR o1 y) (h : Sb o1 o2) : MGR o2 y := let ⟨dx, hs, ky, c, dn, a, b⟩ := x; ⟨dx, hs, ky, c, dn, h _ a (fun _ q => nomatch q), h _ b (fun _ q => nomatch q)⟩
theorem news_dup {g h : Heap} {L : Addr} {x : Addr × Obj} {l : List (Addr × Obj)} (N : News g L h l) (hx : x ∈ l) : News g L h (x :: l) := fun q hq => by
  rcases List.mem_cons.mp hq with rfl | hq
  · exact N _ hx
  · exact N q hq
/-- the law's frame with the piles -/
inductive LP (s1 : Shared) (oC : Obj) (P : Addr) (pins : List (Str × Value)) (ex : List (Addr × Obj) → Prop) (dss : List (List Adr)) (s' : Shared) : Prop
  | mk (h : Heap) (tk : Nat) (m : Str → Option Value) (objs : List (Addr × Obj)) (pl : List Pile) (nP : Nat) (q1 : s' = { s1 with heap := h, toks := tk }) (q2 : Fr s1.heap s1.heap.objs.size h m) (q3 : News s1.heap s1.heap.objs.size h ((s1.heap.objs.size + 1, oC) :: (P, listOf (prefs pl).toArray nP) :: (pl.map pobj ++ objs))) (q4 : (P :: pl.map (·.1)).Nodup) (q5 : (∀ p ∈ objs, p.1 ∉ P :: pl.map (·.1))) (q6 : PinL m pins) (q7 : ex objs) (q8 : PilesIn objs pl dss)
theorem after_lay {g h h' : Heap} {L P : Addr} {m : Str → Option Value} {X objs : List (Addr × Obj)} {pl pl2 : List Pile} {nP nP2 : Nat} (F : Fr g L h m) (N : News g L h (X ++ (P, listOf (prefs pl).toArray nP) :: (pl.map pobj ++ objs))) (hk : KpB (P :: pl.map (·.1)) h h')
    (ho : ∀ p ∈ (P, listOf (prefs pl2).toArray nP2) :: pl2.map pobj, h'.get? p.1 = some p.2) (hnew : ∀ p ∈ pl2, p.1 ∈ pl.map (·.1) ∨ h.get? p.1 = none) (hX : ∀ p ∈ X, p.1 ∉ P :: pl.map (·.1)) (hO : ∀ p ∈ objs, p.1 ∉ P :: pl.map (·.1)) :
    Fr g L h' m ∧ News g L h' (X ++ (P, listOf (prefs pl2).toArray nP2) :: (pl2.map pobj ++ objs)) ∧ ∀ p ∈ objs, p.1 ∉ P :: pl2.map (·.1) := by
  have NP := N (P, listOf (prefs pl).toArray nP) (List.mem_append.mpr (.inr (.head _)))
  have NL : ∀ q ∈ pl, h.get? q.1 = some (pobj q).2 ∧ q.1 ≠ L ∧ g.get? q.1 = none := fun q hq => N (pobj q) (List.mem_append.mpr (.inr (.tail _ (List.mem_append.mpr (.inl (List.mem_map_of_mem hq))))))
  have NO : ∀ p ∈ objs, h.get? p.1 = some p.2 ∧ p.1 ≠ L ∧ g.get? p.1 = none := fun p hp => N p (List.mem_append.mpr (.inr (.tail _ (List.mem_append.mpr (.inr hp)))))
  have wrF : ∀ b ∈ P :: pl.map (·.1), b ≠ L ∧ g.get? b = none := fun b hb => by
    rcases List.mem_cons.mp hb with rfl | hb
    · exact NP.2
    · obtain ⟨q, hq, rfl⟩ := List.mem_map.mp hb
      exact (NL q hq).2
  refine ⟨⟨F.ns.at fun o e => hk _ o (fun q => (wrF _ q).1 rfl) e, fun b o e => hk b o (fun q => ?_) (F.keep b o e), F.above⟩, fun p hp => ?_, fun p hp q => ?_⟩
  · have := (wrF b q).2
    rw [e] at this; cases this
  · rcases List.mem_append.mp hp with hp | hp
    · exact ⟨hk _ _ (hX p hp) (N p (List.mem_append.mpr (.inl hp))).1, (N p (List.mem_append.mpr (.inl hp))).2⟩
    rcases List.mem_cons.mp hp with rfl | hp
    · exact ⟨ho _ (.head _), NP.2⟩
    rcases List.mem_append.mp hp with hp | hp
    · refine ⟨ho p (.tail _ hp), ?_⟩
      obtain ⟨q, hq, rfl⟩ := List.mem_map.mp hp
      rcases hnew q hq with hi | hi
      · exact wrF q.1 (.tail _ hi)
      · refine ⟨fun e => ?_, ?_⟩
        · obtain ⟨oL, eL⟩ := ns_there F.ns
          rw [show q.1 = L from e, eL] at hi; cases hi
        · show g.get? q.1 = none
          cases e : g.get? q.1 with
          | none => rfl
          | some o => have := F.keep _ _ e; rw [hi] at this; cases this
    · exact ⟨hk _ _ (hO p hp) (NO p hp).1, (NO p hp).2⟩
  · rcases List.mem_cons.mp q with q | q
    · exact hO p hp (by rw [q]; exact .head _)
    · obtain ⟨z, hz, e⟩ := List.mem_map.mp q
      rcases hnew z hz with hi | hi
      · exact hO p hp (.tail _ (e ▸ hi))
      · have := (NO p hp).1
        rw [show z.1 = p.1 from e, this] at hi; cases hi
theorem not_pile {g h : Heap} {L P a : Addr} {o : Obj} {led : List (Addr × Obj)} {pl : List Pile} {nP : Nat} (N : News g L h led) (hP : (P, listOf (prefs pl).toArray nP) ∈ led) (hpl : ∀ p ∈ pl, pobj p ∈ led) (hx : (a, o) ∈ led) (hne : ∀ its n, o ≠ listOf its n) : a ∉ P :: pl.map (·.1) := by
  intro hb
  have h1 := (N _ hx).1
  dsimp only at h1
  rcases List.mem_cons.mp hb with e | hb
  · have h2 := (N _ hP).1
    dsimp only at h2
    rw [e, h2] at h1
    exact hne _ _ (Option.some.inj h1).symm
  · obtain ⟨q, hq, e⟩ := List.mem_map.mp hb
    have h2 := (N _ (hpl q hq)).1
    dsimp only at h2
    rw [← e, h2] at h1
    exact hne _ _ (Option.some.inj h1).symm
/-- what stands beside the cell -/
def offC (c : Addr) (objs : List (Addr × Obj)) : List (Addr × Obj) := objs.filter fun p => decide (p.1 ≠ c)
theorem sb_filter {g h : Heap} {L c : Addr} {oC : Obj} {v : Option Value} {objs : List (Addr × Obj)} (N : News g L h ((c, oC) :: objs)) (dC : oC.data = .cell v) : Sb objs (offC c objs) := fun p hp hd => by
  refine List.mem_filter.mpr ⟨hp, decide_eq_true fun q => ?_⟩
  have h1 := (N p (.tail _ hp)).1
  have h2 := (N _ (.head _)).1
  dsimp only at h2
  rw [q, h2] at h1
  exact hd v (by rw [← Option.some.inj h1]; exact dC)
theorem offC_ne {c : Addr} {objs : List (Addr × Obj)} : ∀ p ∈ offC c objs, p.1 ≠ c := fun p hp => of_decide_eq_true (List.mem_filter.mp hp).2
theorem offC_sub {c : Addr} {objs : List (Addr × Obj)} : ∀ p ∈ offC c objs, p ∈ objs := fun p hp => (List.mem_filter.mp hp).1
/-- the law's frame with the heights -/
inductive LQ (s1 : Shared) (P : Addr) (dss : List (List Adr)) (hs : List Nat) (s' : Shared) : Prop
  | mk (h : Heap) (tk : Nat) (m : Str → Option Value) (pl : List Pile) (nP : Nat) (oH : Obj) (H : Addr) (ys : List Value) (nH : Nat) (tail : List (Addr × Obj)) (q1 : s' = { s1 with heap := h, toks := tk }) (q2 : Fr s1.heap s1.heap.objs.size h m) (q3 : News s1.heap s1.heap.objs.size h ((s1.heap.objs.size + 1, oH) :: (H, listOf ys.toArray nH) :: (P, listOf (prefs pl).toArray nP) :: tail)) (q4 : (∀ p ∈ pl, pobj p ∈ tail)) (q5 : PinL m [(Str.ofString "piles", Value.ref P)]) (q6 : oH.data = .cell (some (.ref H))) (q7 : IntsAre ys (natsI hs)) (q8 : All2 (fun p ds => p.2.1.length = ds.length) pl dss)
/-- a pair of two written ints -/
theorem pair_eval {prog : Program} {w : World} {A : Around} {E : Value → Shared → Prop} {s : Shared} {env : Env} {h₀ : Heap} {L : Addr} {m : Str → Option Value} {news : List (Addr × Obj)} {c d : Int} {k1 k2 : Nat} {p1 p2 : Pos} {ed : PySem.Expr} {Q : Value → Shared → Prop}
    (F : Fr h₀ L s.heap m) (N : News h₀ L s.heap news)
    (hst : backTo p2 (starEach [.Constant (.int c) k1 p1, ed] env) = [(false, eval (.Constant (.int c) k1 p1) env), (false, eval ed env)])
    (hed : ∀ (Q : Value → Shared → Prop) (tk : Nat), (∀ t tk', Q (.int d t) { s with toks := tk' }) → wpAny (model prog w) A (eval ed env) Q E { s with toks := tk })
    (h : ∀ p h' tk t0 t1, Fr h₀ L h' m → News h₀ L h' ((p, tupO [.int c t0, .int d t1] 0) :: news) → Q (.ref p) { s with heap := h', toks := tk }) :
    wpAny (model prog w) A (eval (.Tuple [.Constant (.int c) k1 p1, ed] k2 p2) env) Q E s := by
  refine Tuple_ ?_
  rw [hst]
  refine spliced_cons (wpAny_Constant_int (spliced_cons ?_))
  refine hed _ (s.toks + 1) fun t tk' => ?_
  refine spliced_nil ?_
  refine newTuple_N (s := { s with toks := tk' }) F N (fun h1 F1 N1 => ?_) (by show 2 ≤ sizeLine; rw [sizeLine_eq]; decide)
  exact h _ h1 _ _ _ F1 N1
end Mine
end PWZ
theorem Mine.rstWZ : True := by
  w_top off
  k_with_none
  first | (walk1; fail "x") | exact True.intro
section PLW
open PySem PySem.W PyProof.Rows PySem.Calls PySem.Spec
set_option maxRecDepth 100000
set_option pp.maxSteps 20000
namespace Mine
local macro_rules | `(tactic| units_room) => `(tactic| (have hcL' := cLine_is; simp only [units_in1, units_deeper, Around.mark_units, units_caller, Ar] at *; omega))
local macro_rules | `(tactic| k_all) => `(tactic| assumption)
theorem regLW1 : True := by
  k_with "exec For Name Name cons nil" => (k_here; refine hold_ ?_)
  k_with "exec For Name Subscript cons nil" => (k_here; refine hold_ ?_)
  k_with "exec For Tuple Name cons nil" => (k_here; refine hold_ ?_)
  k_with "exec While BoolOp cons nil" => (k_here; refine hold_ ?_)
  k_with "call ref" => (k_here; (with_reducible show wpAny _ _ (call (Value.ref 92) [Value.ref _, Value.ref _, Value.ref _] _) _ _ _); (rename Fr _ _ _ _ => kF); (rename News _ _ _ _ => kN); (rename Amb _ _ => am'); (rename Kp _ _ => kp'); k_dflt (refine wpAny_call ?_; refine' cmpK am' (Kp.trans kp' kF.keep) ?d (own_of kp' kN) ?x ?dx ?c ?l ?r ?kd ?ke ?_; (case d => assumption); (case x => k_mem); (case dx => k_mem); (case c => (refine SelIn.up (by assumption) ?_; intro _ hp; (first | ((repeat (first | (with_reducible_and_instances exact hp) | refine List.Mem.tail _ ?_)); done) | simp only [List.mem_cons, hp, or_true]))); (case l => (refine RowIn.up (by assumption) ?_; intro _ hp; (first | ((repeat (first | (with_reducible_and_instances exact hp) | refine List.Mem.tail _ ?_)); done) | simp only [List.mem_cons, hp, or_true]))); (case r => (refine RowIn.up (by assumption) ?_; intro _ hp; (first | ((repeat (first | (with_reducible_and_instances exact hp) | refine List.Mem.tail _ ?_)); done) | simp only [List.mem_cons, hp, or_true]))); (case kd => assumption); (case ke => assumption); intro _ _ _ hkp'; have _ := Fr.keeps kF hkp'; have _ := News.grown kN hkp'; clear kF kN hkp'))
  k_with "call ref" => (k_here; (with_reducible show wpAny _ _ (call (Value.ref 64) [Value.ref _, Value.ref _, Value.ref _] _) _ _ _); (rename Fr _ _ _ _ => kF); (rename News _ _ _ _ => kN); (rename Amb _ _ => am'); (rename Kp _ _ => kp'); k_dflt (refine wpAny_call ?_; refine' subK am' (Kp.trans kp' kF.keep) ?d ?u (own_of kp' kN) ?x ?dx ?l ?r ?kd ?ke ?_; (case d => assumption); (case u => (have _ := cLine_is; simp only [Ar, Around.deeper] at *; omega)); (case x => k_mem); (case dx => k_mem); (case l => (refine UpIn.up (by assumption) ?_; intro _ hp; (first | ((repeat (first | (with_reducible_and_instances exact hp) | refine List.Mem.tail _ ?_)); done) | simp only [List.mem_cons, hp, or_true]))); (case r => (refine UpIn.up (by assumption) ?_; intro _ hp; (first | ((repeat (first | (with_reducible_and_instances exact hp) | refine List.Mem.tail _ ?_)); done) | simp only [List.mem_cons, hp, or_true]))); (case kd => assumption); (case ke => assumption); intro _ _ hkp'; have _ := Fr.keeps kF hkp'; have _ := News.grown kN hkp'; clear kF kN hkp'))
  k_with "call builtin:len" => (k_here; (with_reducible show wpAny _ _ (call (Value.builtin "len") [Value.ref _] _) _ _ _); (rename News _ _ _ _ => kN); k_dflt (refine' len_at kN ?m ?z ?_; (case m => k_mem); (case z => assumption); intro _ _))
  k_with "subscriptTail" => (k_here; (with_reducible show wpAny _ _ (subscriptTail _ _ (Value.ref _) (Value.int _ _)) _ _ _); (rename News _ _ _ _ => kN); k_dflt (refine' item_at kN ?m ?h0 ?hf ?hx ?_ ?hs; (case m => k_mem); (case h0 => omega); (case hf => omega); (case hx => (refine idx_eq (by assumption) ?_; omega)); (case hs => with_unfolding_all rfl)))
  k_with "call builtin:list.insert" => (k_here; (with_reducible show wpAny _ _ (call (Value.builtin _) [Value.ref _, Value.int _ _, _] _) _ _ _); (rename Fr _ _ _ _ => kF); (rename News _ _ _ _ => kN); k_dflt (refine' insert_at kF kN ?h0 ?hl ?hz ?U ?_; (case U => k_upd); (case h0 => omega); (case hl => omega); (case hz => assumption); intro _ _ _; clear kF kN))
  k_with "call builtin:list.append" => (k_here; (with_reducible show wpAny _ _ (call (Value.builtin _) [Value.ref _, _] _) _ _ _); (rename Fr _ _ _ _ => kF); (rename News _ _ _ _ => kN); k_dflt (refine' append_at' kF kN ?hz ?U ?_; (case U => k_upd); (case hz => assumption); intro _ _ _; clear kF kN))
  k_with "subscriptTail Name Constant ref int" => (k_here; (with_reducible show wpAny _ _ (subscriptTail _ _ (Value.ref _) (Value.int _ _)) _ _ _); (rename News _ _ _ _ => kN); k_dflt (refine' item_at kN ?m ?h0 ?hf ?hx ?_ ?hs; (case m => k_mem); (case h0 => omega); (case hf => omega); (case hx => (refine idx_eq (by assumption) ?_; omega)); (case hs => with_unfolding_all rfl)))
  k_with "subscriptTail Name Name ref int" => (k_here; (with_reducible show wpAny _ _ (subscriptTail _ _ (Value.ref _) (Value.int _ _)) _ _ _); (rename News _ _ _ _ => kN); k_dflt (refine' item_at kN ?m ?h0 ?hf ?hx ?_ ?hs; (case m => k_mem); (case h0 => omega); (case hf => omega); (case hx => (refine idx_eq (by assumption) ?_; omega)); (case hs => with_unfolding_all rfl)))
  k_with "subscriptTail Name BinOp ref int" => (k_here; (with_reducible show wpAny _ _ (subscriptTail _ _ (Value.ref _) (Value.int _ _)) _ _ _); (rename News _ _ _ _ => kN); k_dflt (refine' item_at kN ?m ?h0 ?hf ?hx ?_ ?hs; (case m => k_mem); (case h0 => omega); (case hf => omega); (case hx => (refine idx_eq (by assumption) ?_; omega)); (case hs => with_unfolding_all rfl)))
  k_with "subscriptTail Name Constant ref int" => (k_here; (with_reducible show wpAny _ _ (subscriptTail _ _ (Value.ref _) (Value.int _ _)) _ _ _); (rename News _ _ _ _ => kN); k_dflt (refine' titem_at kN ?m ?h0 ?hf ?hz ?hx ?_ ?hs; (case m => k_mem); (case h0 => decide); (case hf => decide); (case hz => (simp only [List.length_cons, List.length_nil]; decide)); (case hx => rfl); (case hs => with_unfolding_all rfl)))
  k_with "subscriptTail Subscript Constant ref int" => (k_here; (with_reducible show wpAny _ _ (subscriptTail _ _ (Value.ref _) (Value.int _ _)) _ _ _); (rename News _ _ _ _ => kN); k_dflt (refine' titem_at kN ?m ?h0 ?hf ?hz ?hx ?_ ?hs; (case m => k_mem); (case h0 => decide); (case hf => decide); (case hz => (simp only [List.length_cons, List.length_nil]; decide)); (case hx => rfl); (case hs => with_unfolding_all rfl)))
  k_with "storeName" => (k_here; (with_reducible show wpAny _ _ (storeName (compEnvC _ _ _ _) _ _) _ _ _); (rename Fr _ _ _ _ => kF); (rename News _ _ _ _ => kN); k_dflt (refine' storeZ_L kF kN ?_; intro _ _ _; clear kF kN))
  k_with "eval Name" => (k_here; (with_reducible show wpAny _ _ (eval _ (compEnvC _ _ _ _)) _ _ _); (rename Fr _ _ _ _ => kF); (rename News _ _ _ _ => kN); k_dflt (first | (refine' nameZ_L kF ?k2 ?_; (case k2 => exact rfl); k_whole) | (refine' nameZ_C kN ?k1 ?k2 ?k3 ?_; (case k1 => exact rfl); (case k2 => k_mem); (case k3 => assumption); k_whole) | (refine' nameZ_K kF ?k1 ?k2 ?k3 ?_; (case k1 => k_asm); (case k2 => k_asm); (case k3 => k_is); k_whole) | (refine' nameZ_B kF ?k1 ?k2 ?k3 ?k4 ?k5 ?_; (case k1 => k_asm); (case k2 => k_asm); (case k3 => k_is); (case k4 => boot_by_name); (case k5 => decide); k_whole)))
  k_with "compareOp Eq ref ref" => (k_here; (with_reducible show wpAny _ _ (compareOp .Eq (Value.ref _) (Value.ref _)) _ _ _); (rename News _ _ _ _ => kN); k_dflt (refine' eq_ints kN ?h1 ?h2 ?i1 ?i2 ?u ?_; (case h1 => k_mem); (case h2 => k_mem); (case i1 => first | assumption | exact .nil | exact .cons _ _ (by assumption)); (case i2 => first | exact .nil | assumption); (case u => (have _ := cLine_is; simp only [Ar, Around.deeper] at *; omega)); rw [eqv_ints]; (first | rw [decide_eq_false (List.cons_ne_nil _ _)] | rw [decide_eq_true (rfl : ([] : List Int) = [])])))
  k_with "setItem" => (k_here; (with_reducible show wpAny _ _ (setItem (Value.ref _) (Value.int _ _) _) _ _ _); (rename Fr _ _ _ _ => kF); (rename News _ _ _ _ => kN); k_dflt (refine' set_at kF kN ?h0 ?hl ?hz ?U ?_; (case U => k_upd); (case h0 => omega); (case hl => omega); (case hz => assumption); intro _ _ _; clear kF kN))
  k_with "setItem ref int ref" => (k_here; (with_reducible show wpAny _ _ (setItem (Value.ref _) (Value.int _ _) _) _ _ _); (rename Fr _ _ _ _ => kF); (rename News _ _ _ _ => kN); k_dflt (refine' set_at kF kN ?h0 ?hl ?hz ?U ?_; (case U => k_upd); (case h0 => omega); (case hl => omega); (case hz => assumption); intro _ _ _; clear kF kN))
  k_with "subscriptTail Name Slice ref ref" => (k_here; (with_reducible show wpAny _ _ (subscriptTail _ (PySem.Expr.Slice none none (some _) _) (Value.ref _) (Value.ref _)) _ _ _); (rename Fr _ _ _ _ => kF); (rename News _ _ _ _ => kN); k_dflt (refine' rev_at kF kN ?m ?k ?z ?_ ?s ?t; (case m => k_mem); (case k => exact IsPart.int _ _); (case z => assumption); (case s => with_unfolding_all rfl); (case t => kmk_pure); intro _ _ _ _ _; clear kF kN))
  k_with "binaryOp Add ref ref" => (k_here; (with_reducible show wpAny _ _ (binaryOp _ (Value.ref _) (Value.ref _)) _ _ _); (rename Fr _ _ _ _ => kF); (rename News _ _ _ _ => kN); k_dflt (refine' cat_at kF kN ?h1 ?h2 ?z ?_; (case h1 => k_mem); (case h2 => k_mem); (case z => first | assumption | (simp only [List.length_cons, List.length_nil]; omega)); intro _ _ _ _ lB'; (try k_lt lB'); clear kF kN))
  k_with "call builtin:max" => (k_here; (with_reducible show wpAny _ _ (call (Value.builtin "max") [Value.ref _] _) _ _ _); (rename Fr _ _ _ _ => kF); (rename News _ _ _ _ => kN); k_dflt (refine' max_list_N rfl kF kN ?l ?i ?ne ?_; (case l => exact News.isList kN (by k_mem)); (case i => exact .cons _ _ (by assumption)); (case ne => exact Nat.succ_pos _); intro _ _ _ _ _ _ hM' hB'; clear kF kN; have hM2 := max_ints hM' hB'; subst hM2; clear hM' hB'))
  k_with "subscriptTail Name Slice ref ref" => (k_here; (with_reducible show wpAny _ _ (subscriptTail _ (PySem.Expr.Slice none (some _) none _) (Value.ref _) (Value.ref _)) _ _ _); (rename Fr _ _ _ _ => kF); (rename News _ _ _ _ => kN); k_dflt (first | (refine' cut_at kF kN ?m ?k ?z ?_ ?s ?t; (case m => assumption); (case k => decide); (case z => assumption); (case s => with_unfolding_all rfl); (case t => kmk_pure); intro _ _ _ _ lB'; (try k_lt lB'); clear kF kN) | (refine' tcut_at kF kN ?m ?k ?z ?_ ?s ?t; (case m => k_mem); (case k => decide); (case z => assumption); (case s => with_unfolding_all rfl); (case t => kmk_pure); intro _ _ _ _ _; clear kF kN)))
  k_with "binaryOp Add ref ref" => (k_here; (with_reducible show wpAny _ _ (binaryOp _ (Value.ref _) (Value.ref _)) _ _ _); (rename Fr _ _ _ _ => kF); (rename News _ _ _ _ => kN); k_dflt (refine' tcat_at kF kN ?h1 ?h2 ?ne ?z ?_; (case h1 => k_mem); (case h2 => k_mem); (case ne => exact List.cons_ne_nil _ _); (case z => (simp only [List.length_take, List.length_cons, List.length_nil]; omega)); intro _ _ _ _ _; clear kF kN))
  k_with "exec Assign cons ListComp" => (k_here; refine hold_ ?_)
  k_with "eval ListComp" => (k_here; refine hold_ ?_)
  k_with "exec For Name Call cons nil" => (k_here; refine hold_ ?_)
  k_with "call ref" => (k_here; (with_reducible show wpAny _ _ (call (Value.ref 104) _ _) _ _ _); refine hold_ ?_)
  k_with "call ref" => (k_here; (with_reducible show wpAny _ _ (call (Value.ref 116) _ _) _ _ _); refine hold_ ?_)
  k_with "call ref" => (k_here; (with_reducible show wpAny _ _ (call (Value.ref 130) _ _) _ _ _); refine hold_ ?_)
  k_with "call ref" => (k_here; (with_reducible show wpAny _ _ (call (Value.ref 137) _ _) _ _ _); refine hold_ ?_)
  k_with "call ref" => (k_here; (with_reducible show wpAny _ _ (call (Value.ref 142) _ _) _ _ _); refine hold_ ?_)
  k_with "call ref" => (k_here; (with_reducible show wpAny _ _ (call (Value.ref 147) _ _) _ _ _); refine hold_ ?_)
  exact True.intro
theorem natsI_count (l : List Nat) (k : Nat) : (natsI l).count ((k : Int) + 1) = l.count (k + 1) := by
  induction l with
  | nil => rfl
  | cons a r ih =>
    show List.count _ ((a : Int) :: natsI r) = _
    rw [List.count_cons, List.count_cons, ih]
    by_cases h : a = k + 1
    · subst h; simp
    · have : ¬ ((a : Int) = (k : Int) + 1) := by omega
      simp [h, this]
theorem regLW2 : True := by
  k_with "call builtin:list.count" => (k_here; (with_reducible show wpAny _ _ (call (Value.builtin _) [Value.ref _, Value.int _ _] _) _ _ _); (rename News _ _ _ _ => kN); k_dflt (refine' count_list_ints (News.isList kN ?m) ?i ?_; (case m => k_mem); (case i => assumption)))
  k_with "compareOp Eq ref ref" => (k_here; (with_reducible show wpAny _ _ (compareOp .Eq (Value.ref _) (Value.ref _)) _ _ _); (rename News _ _ _ _ => kN); k_dflt (refine' eq_ints kN ?h1 ?h2 ?i1 ?i2 ?u ?_; (case h1 => k_mem); (case h2 => k_mem); (case i1 => assumption); (case i2 => assumption); (case u => (have _ := cLine_is; simp only [Ar, Around.deeper, callerA] at *; omega)); rw [eqv_ints, decide_eq_true (by assumption)]))
  k_with "execs cons" => (k_here; (with_reducible show wpAny _ _ _ _ _ (Shared.mk _ _ _ (_ + 1) _)); k_dflt (refine' norm_ ?kns ?kna ?knb ?knc ?_; (case kns => assumption); (case kna => exact rfl); (case knb => exact rfl); (case knc => exact rfl); intro tk))
  k_with "eval Tuple" => (k_here; (with_reducible show wpAny _ _ (eval (PySem.Expr.Tuple [PySem.Expr.Constant _ _ _, _] _ _) _) _ _ _); (rename Fr _ _ _ _ => kF); (rename News _ _ _ _ => kN); k_dflt (refine' pair_eval kF kN ?pst ?ped ?_; (case pst => exact rfl); (case ped => first | exact fun _ _ q => wpAny_Constant_int (q _ _) | exact fun _ _ q => UnaryOp_ (wpAny_Constant_int (neg_int (q _ _)))); intro _ _ _ _ _ _ _; clear kF kN))
  exact True.intro
set_option maxHeartbeats 8000000 in
theorem lawT : PySem.Challenge.rw_pg0090_01.Holds := hd (by
  k_go0
  rename Fr _ _ _ _ => F0
  rename CellsAre _ _ _ => Y0
  rename News _ _ _ _ => N0
  rename Frag.In _ _ => KX
  rename Top _ _ _ _ _ _ => TT
  rename Heap.IsList _ _ _ => hSl
  rename IntsAre _ _ => hSi
  rename Shared => s1
  rename Addr => S
  rename List Value => vs
  rename List Int => ns
  rename Obj => oC
  have F1 := frS hSl F0 (by with_unfolding_all rfl)
  clear F0 Y0
  rename Obj.data _ = Data.cell _ => dC
  replace dC : oC.data = .cell none := by with_unfolding_all exact dC
  have am : Amb _ s1.heap := ⟨KX, _, _, _, _, TT⟩
  have hcL' := cLine_is
  have hvl : vs.length = ns.length := hSi.length
  have hvz : vs.length ≤ 16384 := by omega
  obtain ⟨hok, hnd, hl1, hl2⟩ := drwA_facts ([0, 193, 16, 1801] ++ (ns.take 4).map numA)
  have hl9 : (drwA ([0, 193, 16, 1801] ++ (ns.take 4).map numA)).length ≤ 9 := by
    refine Nat.le_trans hl2 ?_
    rw [List.length_append, List.length_map, List.length_take]; simp; omega
  generalize hds : drwA ([0, 193, 16, 1801] ++ (ns.take 4).map numA) = ds at *
  have kp0 : Kp s1.heap s1.heap := Kp.refl _
  show wpAny _ _ _ _ _ _
  refine execs_mid (fun s' => ∃ D, LM s1 oC [(Str.ofString "things", Value.ref D)] (fun objs => TH objs D ds) s') ?st1 ?rest1
  case st1 =>
    refine' comp_NXA rfl ?sw1 ?cl1 ?ce1 rfl ?na1 rfl rfl ?it1 ?fs1
    case sw1 => with_unfolding_all rfl
    case cl1 => with_unfolding_all rfl
    case ce1 => decide
    case na1 => decide
    case fs1 => intro _; rfl
    show wpAny _ _ _ _ _ _
    k_fold
    k_steps
    unfold Hold
    rename Fr _ _ _ _ => F2
    rename News _ _ _ _ => N2
    k_dflt (refine' drwC am F2.keep ?dd1 ?du1 (isList_kp hSl F2.keep) hSi hvz ?_)
    case dd1 => decide
    case du1 => (simp only [Around.deeper, callerA] at *; omega)
    intro B nB its nobjs hB tkB hkB hobjs hA
    rw [hds] at hA
    have F3 := Fr.keeps F2 hkB
    have N3 := news_add F2 N2 hkB hobjs
    have hitl : its.length ≤ 9 := by rw [All2.len hA]; exact hl9
    show Hold _
    refine ⟨_, _, _, _, _, fun i ys nws => ThingsIn nws ys (ds.take i), _, F3, N3, Src.list rfl (News.isList N3 (.head _)) (Kp.refl _), ⟨.nil, by rw [List.size_toArray, sizeLine_eq]; omega, ?_⟩, ?_⟩
    · intro i v ys nws C h2 tk2 mC hi hP hJ hyl FC NC
      have hq' : its[i]? = some v := by simpa using hP
      obtain ⟨d, hd, q, f, th, ts, n, nf, fvs, rfl, mq, mf, hfv⟩ := All2.get hA hq'
      have kd := hok d (List.mem_of_getElem? hd)
      have sA : ∀ p ∈ allOf s1.heap h2 C, p ∈ (nobjs ++ [(s1.heap.objs.size + 1, oC)]) ++ allOf s1.heap h2 C := fun p hp => List.mem_append.mpr (.inr hp)
      have sN : ∀ p ∈ nobjs, p ∈ (nobjs ++ [(s1.heap.objs.size + 1, oC)]) ++ allOf s1.heap h2 C := fun p hp => List.mem_append.mpr (.inl (List.mem_append.mpr (.inl hp)))
      have NC2 : News s1.heap C h2 ((q, tupO [.int (d.host : Int) th, .ref f, .int (d.slash : Int) ts] n) :: (f, tupO fvs nf) :: ((nobjs ++ [(s1.heap.objs.size + 1, oC)]) ++ allOf s1.heap h2 C)) := fun p hp => by
        rcases List.mem_cons.mp hp with rfl | hp
        · exact NC _ (List.mem_append.mpr (.inl (.tail _ (List.mem_append.mpr (.inl mq)))))
        rcases List.mem_cons.mp hp with rfl | hp
        · exact NC _ (List.mem_append.mpr (.inl (.tail _ (List.mem_append.mpr (.inl mf)))))
        rcases List.mem_append.mp hp with hp | hp
        · exact NC _ (List.mem_append.mpr (.inl (.tail _ hp)))
        · exact NC _ (List.mem_append.mpr (.inr hp))
      have kgC : Kp s1.heap h2 := FC.keep
      clear NC
      generalize (nobjs ++ [(s1.heap.objs.size + 1, oC)]) ++ allOf s1.heap h2 C = tail2 at *
      show wpAny _ _ _ _ _ _
      k_fold
      k_steps
      unfold Hold
      rename Fr _ _ _ _ => F5
      rename News _ _ _ _ => N5
      k_dflt (refine' thgC am F5.keep ?dd2 ?du2 kd hfv (Own.sub (own_of kp0 N5) ?su2) ?_)
      case dd2 => decide
      case du2 => (simp only [Around.deeper, callerA] at *; omega)
      case su2 => (intro p hp; rw [List.mem_singleton.mp hp]; exact .tail _ (.head _))
      intro v3 h3 tk3 hk3 hth
      obtain ⟨nw, hnw, hin⟩ := thingFr_in hth
      have hall : ∀ p ∈ allOf s1.heap h2 C, p ∈ (q, tupO [.int (d.host : Int) th, .ref f, .int (d.slash : Int) ts] n) :: (f, tupO fvs nf) :: tail2 := fun p hp => .tail _ (.tail _ (sA p hp))
      refine ⟨_, _, _, _, nw, rfl, F5.keeps hk3, news_add F5 N5 hk3 hnw, fun p hp => List.mem_append.mpr (.inr (hall p hp)), fun p hp => ⟨List.mem_append.mpr (.inl hp), fresh_back F5 N5 hall kgC (hnw p hp).2⟩, ?_⟩
      rw [List.take_add_one, hd]
      exact All2.snoc (All2.mono (fun v d t => t.mono fun p hp => List.mem_append.mpr (.inl hp)) hJ) (hin.mono fun p hp => List.mem_append.mpr (.inr hp))
    · intro D h2 tk2 ys nws FD ND hneD hoD hneW hyl hJ
      have eds : ds.take its.toArray.size = ds := List.take_of_length_le (by rw [List.size_toArray, All2.len hA]; exact Nat.le_refl _)
      rw [eds] at hJ
      refine ⟨rfl, D, h2, tk2, _, (D, listOf ys.toArray ys.length) :: (nws ++ ((B, listOf its.toArray nB) :: nobjs)), rfl, FD, fun p hp => ND p ?_, ⟨rfl, trivial⟩, ys, ys.length, .head _, All2.mono (fun v d t => t.mono fun p hp => .tail _ (List.mem_append.mpr (.inl hp))) hJ⟩
      simp only [List.mem_cons, List.mem_append, List.not_mem_nil, or_false] at hp ⊢
      rcases hp with h | h | h | h | h
      · exact .inr (.inr (.inr h))
      · exact .inl h
      · exact .inr (.inl h)
      · exact .inr (.inr (.inl (.inl h)))
      · exact .inr (.inr (.inl (.inr h)))
  intro s' hM
  obtain ⟨D, h, tk, m, objs, rfl, F, N, ps, hTH⟩ := hM
  clear F1 N0
  refine execs_mid (fun s' => ∃ x1, LM s1 oC [(Str.ofString "first", Value.ref x1), (Str.ofString "things", Value.ref D)] (fun objs => TH objs D ds ∧ CMP objs x1 .fst) s') ?st2 ?rest2
  case st2 =>
    have F2 := Mine.Fr.pinned F ps
    clear F
    show wpAny _ _ _ _ _ _
    k_fold
    k_steps
    rename Fr _ _ _ _ => F3
    rename News _ _ _ _ => N3
    refine' ⟨rfl, _, _, _, _, _, rfl, F3, news_dup N3 (by k_mem), ⟨rfl, rfl, trivial⟩, hTH.up ?u20, ?nw2⟩
    case u20 => (intro p hp; (first | ((repeat (first | (with_reducible_and_instances exact hp) | refine List.Mem.tail _ ?_)); done) | simp only [List.mem_cons, hp, or_true]))
    case nw2 =>
      refine' ⟨_, _, _, _, _, ?ca2, ?cb2, _, _, _, _, _, _, _, _, _, _, _, _, _, _, _, _, _, _, _, _, _, ?cc2, ?cd2, ?ce2, ?cf2, ?cg2, ?ch2⟩
      case ca2 => k_mem
      case cb2 => k_mem
      case cc2 => k_mem
      case cd2 => k_mem
      case ce2 => k_mem
      case cf2 => k_mem
      case cg2 => k_mem
      case ch2 => k_mem
  clear F N ps hTH
  intro s' hM
  obtain ⟨x1, h, tk, m, objs, rfl, F, N, ps, hTH, hC1⟩ := hM
  refine execs_mid (fun s' => ∃ x2, LM s1 oC [(Str.ofString "second", Value.ref x2), (Str.ofString "first", Value.ref x1), (Str.ofString "things", Value.ref D)] (fun objs => TH objs D ds ∧ CMP objs x1 .fst ∧ CMP objs x2 .snd) s') ?st3 ?rest3
  case st3 =>
    have F2 := Mine.Fr.pinned F ps
    clear F
    show wpAny _ _ _ _ _ _
    k_fold
    k_steps
    rename Fr _ _ _ _ => F3
    rename News _ _ _ _ => N3
    refine' ⟨rfl, _, _, _, _, _, rfl, F3, news_dup N3 (by k_mem), ⟨rfl, rfl, rfl, trivial⟩, hTH.up ?u30, hC1.up ?u31, ?nw3⟩
    case u30 => (intro p hp; (first | ((repeat (first | (with_reducible_and_instances exact hp) | refine List.Mem.tail _ ?_)); done) | simp only [List.mem_cons, hp, or_true]))
    case u31 => (intro p hp; (first | ((repeat (first | (with_reducible_and_instances exact hp) | refine List.Mem.tail _ ?_)); done) | simp only [List.mem_cons, hp, or_true]))
    case nw3 =>
      refine' ⟨_, _, _, _, _, ?ca3, ?cb3, _, _, _, _, _, _, _, _, _, _, _, _, _, _, _, _, _, _, _, _, _, ?cc3, ?cd3, ?ce3, ?cf3, ?cg3, ?ch3⟩
      case ca3 => k_mem
      case cb3 => k_mem
      case cc3 => k_mem
      case cd3 => k_mem
      case ce3 => k_mem
      case cf3 => k_mem
      case cg3 => k_mem
      case ch3 => k_mem
  clear F N ps hTH hC1
  intro s' hM
  obtain ⟨x2, h, tk, m, objs, rfl, F, N, ps, hTH, hC1, hC2⟩ := hM
  refine execs_mid (fun s' => ∃ x3, LM s1 oC [(Str.ofString "manager", Value.ref x3), (Str.ofString "second", Value.ref x2), (Str.ofString "first", Value.ref x1), (Str.ofString "things", Value.ref D)] (fun objs => TH objs D ds ∧ CMP objs x1 .fst ∧ CMP objs x2 .snd ∧ MGR objs x3) s') ?st4 ?rest4
  case st4 =>
    have F2 := Mine.Fr.pinned F ps
    clear F
    show wpAny _ _ _ _ _ _
    k_fold
    k_steps
    rename Fr _ _ _ _ => F3
    rename News _ _ _ _ => N3
    refine' ⟨rfl, _, _, _, _, _, rfl, F3, news_dup N3 (by k_mem), ⟨rfl, rfl, rfl, rfl, trivial⟩, hTH.up ?u40, hC1.up ?u41, hC2.up ?u42, ?nw4⟩
    case u40 => (intro p hp; (first | ((repeat (first | (with_reducible_and_instances exact hp) | refine List.Mem.tail _ ?_)); done) | simp only [List.mem_cons, hp, or_true]))
    case u41 => (intro p hp; (first | ((repeat (first | (with_reducible_and_instances exact hp) | refine List.Mem.tail _ ?_)); done) | simp only [List.mem_cons, hp, or_true]))
    case u42 => (intro p hp; (first | ((repeat (first | (with_reducible_and_instances exact hp) | refine List.Mem.tail _ ?_)); done) | simp only [List.mem_cons, hp, or_true]))
    case nw4 =>
      refine' ⟨_, _, _, _, _, ?ca4, ?cb4⟩
      case ca4 => k_mem
      case cb4 => k_mem
  clear F N ps hTH hC1 hC2
  intro s' hM
  obtain ⟨x3, h, tk, m, objs, rfl, F, N, ps, hTH, hC1, hC2, hMG⟩ := hM
  refine execs_mid (fun s' => LM s1 oC [(Str.ofString "manager", Value.ref x3), (Str.ofString "second", Value.ref x2), (Str.ofString "first", Value.ref x1), (Str.ofString "things", Value.ref D)] (fun objs => TH objs D ds ∧ CMP objs x1 .fst ∧ CMP objs x2 .snd ∧ MGR objs x3) s') ?st5 ?rest5
  case st5 =>
    have F2 := Mine.Fr.pinned F ps
    clear F
    show wpAny _ _ _ _ _ _
    k_fold
    k_steps
    unfold Hold
    rename Fr _ _ _ _ => F5
    rename News _ _ _ _ => N5
    obtain ⟨ys, nD, mD, hTs⟩ := id hTH
    obtain ⟨dx1, hs1, ky1, c1, dn1, a1, b1, e1⟩ := id hC1
    obtain ⟨dx2, hs2, ky2, c2, dn2, a2, b2, e2⟩ := id hC2
    obtain ⟨dx3, hs3, ky3, pw, dn3, a3, b3⟩ := id hMG
    k_dflt (refine' agrC am F5.keep ?dd5 ?du5 (Own.sub (own_of kp0 N5) ?su5) mD a1 b1 e1 a2 b2 e2 a3 b3 hTs hok ?_)
    case dd5 => decide
    case du5 => (simp only [Around.deeper, callerA] at *; omega)
    case su5 => exact fun p hp => .tail _ hp
    intro h5 tk5 hk5
    have F6 := Fr.keeps F5 hk5
    have N6 := News.grown N5 hk5
    clear F5 N5
    k_steps
    exact ⟨rfl, _, _, _, _, rfl, F6, N6, ⟨rfl, rfl, rfl, rfl, trivial⟩, hTH, hC1, hC2, hMG⟩
  clear F N ps hTH hC1 hC2 hMG
  intro s' hM
  obtain ⟨h, tk, m, objs, rfl, F, N, ps, hTH, hC1, hC2, hMG⟩ := hM
  refine execs_mid (fun s' => ∃ x4, LM s1 oC [(Str.ofString "back", Value.ref x4), (Str.ofString "manager", Value.ref x3), (Str.ofString "second", Value.ref x2), (Str.ofString "first", Value.ref x1), (Str.ofString "things", Value.ref D)] (fun objs => TH objs D ds ∧ CMP objs x1 .fst ∧ CMP objs x2 .snd ∧ MGR objs x3 ∧ CMP objs x4 .bck) s') ?st6 ?rest6
  case st6 =>
    have F2 := Mine.Fr.pinned F ps
    clear F
    show wpAny _ _ _ _ _ _
    k_fold
    k_steps
    rename Fr _ _ _ _ => F3
    rename News _ _ _ _ => N3
    refine' ⟨rfl, _, _, _, _, _, rfl, F3, news_dup N3 (by k_mem), ⟨rfl, rfl, rfl, rfl, rfl, trivial⟩, hTH.up ?u60, hC1.up ?u61, hC2.up ?u62, hMG.up ?u63, ?nw6⟩
    case u60 => (intro p hp; (first | ((repeat (first | (with_reducible_and_instances exact hp) | refine List.Mem.tail _ ?_)); done) | simp only [List.mem_cons, hp, or_true]))
    case u61 => (intro p hp; (first | ((repeat (first | (with_reducible_and_instances exact hp) | refine List.Mem.tail _ ?_)); done) | simp only [List.mem_cons, hp, or_true]))
    case u62 => (intro p hp; (first | ((repeat (first | (with_reducible_and_instances exact hp) | refine List.Mem.tail _ ?_)); done) | simp only [List.mem_cons, hp, or_true]))
    case u63 => (intro p hp; (first | ((repeat (first | (with_reducible_and_instances exact hp) | refine List.Mem.tail _ ?_)); done) | simp only [List.mem_cons, hp, or_true]))
    case nw6 =>
      refine' ⟨_, _, _, _, _, ?ca6, ?cb6, _, _, _, _, _, _, _, _, _, _, _, _, _, _, _, _, _, _, _, _, _, ?cc6, ?cd6, ?ce6, ?cf6, ?cg6, ?ch6⟩
      case ca6 => k_mem
      case cb6 => k_mem
      case cc6 => k_mem
      case cd6 => k_mem
      case ce6 => k_mem
      case cf6 => k_mem
      case cg6 => k_mem
      case ch6 => k_mem
  clear F N ps hTH hC1 hC2 hMG
  intro s' hM
  obtain ⟨x4, h, tk, m, objs, rfl, F, N, ps, hTH, hC1, hC2, hMG, hC4⟩ := hM
  refine execs_mid (fun s' => ∃ P, LP s1 oC P ((Str.ofString "piles", Value.ref P) :: [(Str.ofString "back", Value.ref x4), (Str.ofString "manager", Value.ref x3), (Str.ofString "second", Value.ref x2), (Str.ofString "first", Value.ref x1), (Str.ofString "things", Value.ref D)]) (fun objs => TH objs D ds ∧ CMP objs x1 .fst ∧ CMP objs x2 .snd ∧ MGR objs x3 ∧ CMP objs x4 .bck) [] s') ?st7 ?rest7
  case st7 =>
    have F2 := Mine.Fr.pinned F ps
    clear F
    show wpAny _ _ _ _ _ _
    k_fold
    k_steps
    rename Fr _ _ _ _ => F3
    rename News _ _ _ _ => N3
    rename_i P _ lP _
    refine ⟨rfl, P, _, _, _, objs, [], 0, rfl, F3, fun p hp => N3 p ?_, by simp, fun p hp => ?_, ⟨rfl, rfl, rfl, rfl, rfl, rfl, trivial⟩, ⟨hTH, hC1, hC2, hMG, hC4⟩, .nil⟩
    · simp only [List.map_nil, List.nil_append, List.mem_cons] at hp ⊢
      rcases hp with h | h | h
      · exact .inr (.inl h)
      · exact .inl h
      · exact .inr (.inr h)
    · have h1 : p.1 < P := allLt_at lP.2 p hp
      simp only [List.map_nil, List.mem_cons, List.not_mem_nil, or_false]
      exact Nat.ne_of_lt h1
  clear F N ps hTH hC1 hC2 hMG hC4
  intro s' hM
  obtain ⟨P, h, tk, m, objs, pl, nP, rfl, F, N, hnd7, hap7, ps, ⟨hTH, hC1, hC2, hMG, hC4⟩, hPi⟩ := hM
  have ekb : Kind.bck.val = (fun d e => - sgn d.one e.one) := funext fun _ => funext fun _ => rfl
  have eks : Kind.snd.val = f2 := funext fun _ => funext fun _ => rfl
  refine execs_mid (fun s' => LP s1 oC P ((Str.ofString "piles", Value.ref P) :: [(Str.ofString "back", Value.ref x4), (Str.ofString "manager", Value.ref x3), (Str.ofString "second", Value.ref x2), (Str.ofString "first", Value.ref x1), (Str.ofString "things", Value.ref D)]) (fun objs => TH objs D ds ∧ CMP objs x1 .fst ∧ CMP objs x2 .snd ∧ MGR objs x3 ∧ CMP objs x4 .bck) (pilesA (lineA Kind.bck.val ds)) s') ?st8 ?rest8
  case st8 =>
    have hpl0 : pl = [] := by cases hPi; rfl
    subst hpl0
    have F2 := Mine.Fr.pinned F ps
    clear F
    show wpAny _ _ _ _ _ _
    k_fold
    k_steps
    unfold Hold
    refine for_NH rfl ?_ (fun _ => rfl)
    show wpAny _ _ _ _ _ _
    k_fold
    k_steps
    unfold Hold
    rename Fr _ _ _ _ => F5
    rename News _ _ _ _ => N5
    obtain ⟨ys, nD, mD, hTs⟩ := id hTH
    obtain ⟨dx4, hs4, ky4, c4, dn4, a4, b4, e4⟩ := id hC4
    k_dflt (refine' linC am F5.keep ?dd8 ?du8 (Own.sub (own_of kp0 N5) ?su8) mD a4 b4 e4 hTs hok (by omega) ?_)
    case dd8 => decide
    case du8 => (simp only [Around.deeper, callerA] at *; omega)
    case su8 => exact fun p hp => .tail _ (.tail _ hp)
    intro B nB its h8 tk8 hk8 hB8 hBn hT8
    have F6 := Fr.keeps F5 hk8
    have N6 := news_add (nw := [(B, listOf its.toArray nB)]) F5 N5 hk8 (fun p hp => by rw [List.mem_singleton.mp hp]; exact ⟨hB8, hBn⟩)
    clear F5
    have hBP : B ≠ P := fun q => by
      have h1 := (N5 (P, listOf (prefs []).toArray nP) (.tail _ (.head _))).1
      rw [q] at hBn
      exact absurd (hBn.symm.trans h1) (by simp)
    clear N5
    have sB : ∀ p ∈ objs, p ∈ (B, listOf its.toArray nB) :: objs := fun p hp => .tail _ hp
    have hapB : ∀ p ∈ (B, listOf its.toArray nB) :: objs, p.1 ∉ P :: ([] : List Pile).map (·.1) := fun p hp => by
      rcases List.mem_cons.mp hp with rfl | hp
      · simpa using hBP
      · exact hap7 p hp
    obtain ⟨hC2d, hs2, ky2, c2, dn2, a2, b2, e2⟩ := id hC2
    have hlml : (lineA Kind.bck.val ds).length ≤ 9 := by rw [lineA_len]; exact hl9
    have hokl : ∀ d ∈ lineA Kind.bck.val ds, d.Ok := fun d hd => hok d (lineA_mem.mp hd)
    have hT8' : ThingsIn ((B, listOf its.toArray nB) :: objs) its (lineA Kind.bck.val ds) := All2.mono (fun v d t => t.mono sB) hT8
    have a2' := sB _ a2
    have b2' := sB _ b2
    have e2' := e2.up sB
    show Hold _
    generalize hll : lineA Kind.bck.val ds = ll at *
    obtain ⟨objs8, eo8⟩ : ∃ o, o = (B, listOf its.toArray nB) :: objs := ⟨_, rfl⟩
    rw [← eo8] at hapB hT8' a2' b2' e2'
    have hBm : (B, listOf its.toArray nB) ∈ objs8 := eo8 ▸ .head _
    refine ⟨s1.heap, s1.heap.objs.size, B, its.toArray, _, (s1.heap.objs.size + 1, oC) :: (P, listOf (prefs []).toArray nP) :: objs8, fun i m news => ∃ (pl : List Pile) (nP : Nat), news = (s1.heap.objs.size + 1, oC) :: (P, listOf (prefs pl).toArray nP) :: (pl.map pobj ++ objs8) ∧ (P :: pl.map (·.1)).Nodup ∧ (∀ p ∈ objs8, p.1 ∉ P :: pl.map (·.1)) ∧ PinL m ((Str.ofString "piles", Value.ref P) :: [(Str.ofString "back", Value.ref x4), (Str.ofString "manager", Value.ref x3), (Str.ofString "second", Value.ref x2), (Str.ofString "first", Value.ref x1), (Str.ofString "things", Value.ref D)]) ∧ PilesIn objs8 pl (pilesA (ll.take i)), rfl, F6, news_sub N6 ?sb8, ⟨[], nP, rfl, hnd7, hapB, ⟨rfl, rfl, rfl, rfl, rfl, rfl, trivial⟩, .nil⟩, ?_⟩
    case sb8 =>
      intro p hp
      simp only [eo8] at hp
      rcases List.mem_cons.mp hp with rfl | hp
      · exact .tail _ (.head _)
      rcases List.mem_cons.mp hp with rfl | hp
      · exact .tail _ (.tail _ (.head _))
      rcases List.mem_cons.mp hp with rfl | hp
      · exact .head _
      · exact .tail _ (.tail _ (.tail _ hp))
    refine ⟨?_, ?_, ?_, ?_⟩
    · rintro i m news ⟨pl, nP', e0, _, _, _, _⟩ p hp
      rw [e0] at hp
      have nt : ∀ a : String, a ≠ "list_iterator" → Value.type a ≠ Value.type "list_iterator" := fun a h q => h (Value.type.inj q)
      rcases List.mem_cons.mp hp with rfl | hp
      · exact .inr ⟨_, (N6 (s1.heap.objs.size + 1, oC) (.tail _ (.head _))).1⟩
      rcases List.mem_cons.mp hp with rfl | hp
      · exact .inl (nt _ (by decide))
      rcases List.mem_append.mp hp with hp | hp
      · obtain ⟨q, hq, rfl⟩ := List.mem_map.mp hp
        exact .inl (nt _ (by decide))
      · rw [eo8] at hp
        rcases List.mem_cons.mp hp with rfl | hp
        · exact .inl (nt _ (by decide))
        · exact .inr ⟨_, (N6 p (.tail _ (.tail _ (.tail _ hp)))).1⟩
    · rintro i m news h ⟨pl, nP', e0, _⟩ F N
      rw [e0] at N
      exact N.isList (.tail _ (.tail _ (List.mem_append.mpr (.inr hBm))))
    · intro i v h9 tk9 m9 news I oI hi hv hcls hPat F9 N9 hI0
      refine hide_ fun G hG => ?_
      obtain ⟨pl, nP', e0, hnd9, hap9, e1, hP9⟩ := hPat
      rw [e0] at N9
      clear e0 news
      have hv' : its[i]? = some v := by simpa using hv
      obtain ⟨d, hd, t, row, up, t0, t1, n, rfl, mt, mrow, mup⟩ := All2.get hT8' hv'
      have kd := hokl d (List.mem_of_getElem? hd)
      have hnx : pilesA (ll.take (i + 1)) = layA Kind.snd.val d (pilesA (ll.take i)) := by
        rw [List.take_add_one, hd, eks]; exact pilesA_snoc _ _
      obtain ⟨f1, f2', f3⟩ := pilesA_facts (ll.take i)
      have htl : (ll.take i).length ≤ 9 := by rw [List.length_take]; omega
      have hXn : ∀ p ∈ [(I, oI), (s1.heap.objs.size + 1, oC)], p.1 ∉ P :: pl.map (·.1) := by
        intro p hp
        have key : ∀ a o, (a, o) ∈ (I, oI) :: (s1.heap.objs.size + 1, oC) :: (P, listOf (prefs pl).toArray nP') :: (pl.map pobj ++ objs8) → (∀ its n, o ≠ listOf its n) → a ∉ P :: pl.map (·.1) := fun a o ha ho => not_pile N9 (.tail _ (.tail _ (.head _))) (fun p hp => .tail _ (.tail _ (.tail _ (List.mem_append.mpr (.inl (List.mem_map_of_mem hp)))))) ha ho
        simp only [List.mem_cons, List.not_mem_nil, or_false] at hp
        rcases hp with rfl | rfl
        · exact key I oI (.head _) fun its n q => by rw [q] at hcls; exact absurd (Value.type.inj hcls) (by decide)
        · exact key _ oC (.tail _ (.head _)) fun its n q => by rw [q] at dC; cases dC
      have N10 : News s1.heap s1.heap.objs.size h9 ((t, tupO [.ref row, .ref up, .int (d.one : Int) t0, .int (d.two : Int) t1] n) :: ([(I, oI), (s1.heap.objs.size + 1, oC)] ++ (P, listOf (prefs pl).toArray nP') :: (pl.map pobj ++ objs8))) := fun p hp => by
        rcases List.mem_cons.mp hp with rfl | hp
        · exact N9 _ (.tail _ (.tail _ (.tail _ (List.mem_append.mpr (.inr mt)))))
        · exact N9 p hp
      have F2 := Mine.Fr.pinned F9 e1
      clear F9 N9 hI0
      obtain ⟨tail, et⟩ : ∃ tail, tail = [(I, oI), (s1.heap.objs.size + 1, oC)] ++ (P, listOf (prefs pl).toArray nP') :: (pl.map pobj ++ objs8) := ⟨_, rfl⟩
      rw [← et] at N10
      refine hG ?_
      clear hG
      show wpAny _ _ _ _ _ _
      k_fold
      k_steps
      unfold Hold
      rename Fr _ _ _ _ => F11
      rename News _ _ _ _ => N11
      have N12 : News s1.heap s1.heap.objs.size _ ([(I, oI), (s1.heap.objs.size + 1, oC)] ++ (P, listOf (prefs pl).toArray nP') :: (pl.map pobj ++ objs8)) := news_sub N11 (fun p hp => .tail _ (et ▸ hp))
      k_dflt (refine' layC am F11.keep ?dd9 ?du9 (Own.sub (own_of kp0 N12) ?su9) hnd9 hap9 mrow a2' b2' e2' hP9 kd (fun r hr e he => hokl e (List.mem_of_mem_take (f3 r hr e he))) (by omega) (fun r hr => by have := f2' r hr; omega) ?_)
      case dd9 => decide
      case du9 => (simp only [Around.deeper, callerA] at *; omega)
      case su9 => exact fun p hp => .tail _ (.tail _ hp)
      intro pl2 nP2 h12 tk12 hk12 ho12 hnd12 hnew12 hPi12
      obtain ⟨F13, N13, hap13⟩ := after_lay F11 N12 hk12 ho12 hnew12 hXn hap9
      clear F11 N11 N12
      k_steps
      exact TurnN.intro (I := I) (oI := oI) ((s1.heap.objs.size + 1, oC) :: (P, listOf (prefs pl2).toArray nP2) :: (pl2.map pobj ++ objs8)) F13 N13 (.head _) (fun p hp => .tail _ hp) ⟨pl2, nP2, rfl, hnd12, hap13, ⟨rfl, rfl, rfl, rfl, rfl, rfl, trivial⟩, by rw [hnx]; exact hPi12⟩
    · rintro h9 tk9 m9 news F9 N9 ⟨pl, nP', e0, hnd9, hap9, e1, hP9⟩
      rw [e0] at N9
      have htk : ll.take its.toArray.size = ll := List.take_of_length_le (by rw [List.size_toArray, All2.len hT8']; exact Nat.le_refl _)
      rw [htk] at hP9
      have sO : ∀ p ∈ objs, p ∈ objs8 := fun p hp => eo8 ▸ .tail _ hp
      exact ⟨rfl, h9, tk9, m9, objs8, pl, nP', rfl, F9, N9, hnd9, hap9, e1, ⟨hTH.up sO, hC1.up sO, hC2.up sO, hMG.up sO, hC4.up sO⟩, by rw [hll]; exact hP9⟩
  clear F N ps hTH hC1 hC2 hMG hC4 hPi hnd7 hap7
  intro s' hM
  obtain ⟨h, tk, m, objs, pl, nP, rfl, F, N, hnd7, hap7, ps, ⟨hTH, hC1, hC2, hMG, hC4⟩, hPi⟩ := hM
  refine execs_mid (fun s' => LQ s1 P (pilesA (lineA Kind.bck.val ds)) ((toldA (lineA Kind.fst.val ds).reverse).map (·.1)) s') ?st9 ?rest9
  case st9 =>
    have sbf := sb_filter N dC
    obtain ⟨ys, nD, mD, hTs⟩ := hTH.sb (fun p hp hd => sbf p (.tail _ (List.mem_append.mpr (.inr hp))) hd)
    obtain ⟨dx1, hs1, ky1, c1, dn1, a1, b1, e1⟩ := hC1.sb (fun p hp hd => sbf p (.tail _ (List.mem_append.mpr (.inr hp))) hd)
    obtain ⟨dx3, hs3, ky3, pw, dn3, a3, b3⟩ := hMG.sb (fun p hp hd => sbf p (.tail _ (List.mem_append.mpr (.inr hp))) hd)
    have mP := sbf (P, listOf (prefs pl).toArray nP) (.head _) (fun _ q => nomatch q)
    have mpl : ∀ p ∈ pl, pobj p ∈ offC (s1.heap.objs.size + 1) ((P, listOf (prefs pl).toArray nP) :: (pl.map pobj ++ objs)) := fun p hp => sbf (pobj p) (.tail _ (List.mem_append.mpr (.inl (List.mem_map_of_mem hp)))) (fun _ q => nomatch q)
    have hneO := offC_ne (c := s1.heap.objs.size + 1) (objs := (P, listOf (prefs pl).toArray nP) :: (pl.map pobj ++ objs))
    have N2 : News s1.heap s1.heap.objs.size h ((s1.heap.objs.size + 1, oC) :: offC (s1.heap.objs.size + 1) ((P, listOf (prefs pl).toArray nP) :: (pl.map pobj ++ objs))) := news_sub N (fun p hp => by
      rcases List.mem_cons.mp hp with rfl | hp
      · exact .head _
      · exact .tail _ (offC_sub p hp))
    generalize offC (s1.heap.objs.size + 1) ((P, listOf (prefs pl).toArray nP) :: (pl.map pobj ++ objs)) = ob at *
    have F2 := Mine.Fr.pinned F ps
    clear F N
    show wpAny _ _ _ _ _ _
    k_fold
    k_steps
    unfold Hold
    rename Fr _ _ _ _ => F5
    rename News _ _ _ _ => N5
    k_dflt (refine' linC am F5.keep ?dd10 ?du10 (Own.sub (own_of kp0 N5) ?su10) mD a1 b1 e1 hTs hok (by omega) ?_)
    case dd10 => decide
    case du10 => (simp only [Around.deeper, callerA] at *; omega)
    case su10 => exact fun p hp => .tail _ hp
    intro B nB its h8 tk8 hk8 hB8 hBn hT8
    have F6 := Fr.keeps F5 hk8
    have N6 := news_add (nw := [(B, listOf its.toArray nB)]) F5 N5 hk8 (fun p hp => by rw [List.mem_singleton.mp hp]; exact ⟨hB8, hBn⟩)
    have hBc : @Ne Nat B (s1.heap.objs.size + 1) := fun q => by
      have h1 := (N5 (s1.heap.objs.size + 1, oC) (.head _)).1
      rw [show B = _ from q] at hBn
      exact absurd (hBn.symm.trans h1) (by simp)
    clear F5 N5
    k_steps
    unfold Hold
    rename Fr _ _ _ _ => F7
    rename News _ _ _ _ => N7
    have sB : ∀ p ∈ ob, p ∈ (B, listOf its.toArray nB) :: ob := fun p hp => .tail _ hp
    k_dflt (refine' hgtC am F7.keep ?dd11 ?du11 (Own.sub (own_of kp0 N7) ?su11) (.head _) (sB _ a3) (sB _ b3) (All2.mono (fun v d t => t.mono sB) hT8) (fun d hd => hok d (lineA_mem.mp hd)) (by rw [lineA_len]; omega) ?_)
    case dd11 => decide
    case du11 => (simp only [Around.deeper, callerA] at *; omega)
    case su11 =>
      intro p hp
      rcases List.mem_cons.mp hp with rfl | hp
      · exact .head _
      · exact .tail _ (.tail _ hp)
    intro H nH yh h9 tk9 hk9 hH9 hHn hHi
    have F8 := Fr.keeps F7 hk9
    have N8 := news_add (nw := [(H, listOf yh.toArray nH)]) F7 N7 hk9 (fun p hp => by rw [List.mem_singleton.mp hp]; exact ⟨hH9, hHn⟩)
    have hHc : @Ne Nat H (s1.heap.objs.size + 1) := fun q => by
      have h1 := (N7 (s1.heap.objs.size + 1, oC) (.tail _ (.head _))).1
      rw [show H = _ from q] at hHn
      exact absurd (hHn.symm.trans h1) (by simp)
    clear F7 N7
    simp only [List.cons_append, List.nil_append] at N8
    k_steps
    rename Fr _ _ _ _ => F12
    rename News _ _ _ _ => N12
    rename_i oH dH
    refine ⟨rfl, _, _, _, pl, nP, oH, H, yh, nH, (B, listOf its.toArray nB) :: ob, rfl, F12, fun p hp => N12 p ?_, fun p hp => .tail _ (mpl p hp), ⟨rfl, trivial⟩, dH, hHi, All2.mono (fun p d t => All2.len t) hPi⟩
    rcases List.mem_cons.mp hp with rfl | hp
    · exact .tail _ (.tail _ (.head _))
    rcases List.mem_cons.mp hp with rfl | hp
    · exact .head _
    rcases List.mem_cons.mp hp with rfl | hp
    · exact .tail _ (.tail _ (.tail _ mP))
    rcases List.mem_cons.mp hp with rfl | hp
    · exact .tail _ (.head _)
    · exact .tail _ (.tail _ (.tail _ hp))
  clear F N ps hTH hC1 hC2 hMG hC4 hPi hnd7 hap7
  intro s' hM
  obtain ⟨h, tk, m, pl, nP, oH, H, yh, nH, tail, rfl, F, N, mpl, ps, dH, hHi, hPi⟩ := hM
  have F2 := Mine.Fr.pinned F ps
  clear F
  show wpAny _ _ _ _ _ _
  k_steps
  unfold Hold
  rename Fr _ _ _ _ => F3
  rename News _ _ _ _ => N3
  generalize hdss : pilesA (lineA Kind.bck.val ds) = dss at *
  have hpl16 : pl.length ≤ 9 := by
    rw [All2.len hPi, ← hdss]
    exact Nat.le_trans (pilesA_facts _).1 (by rw [lineA_len]; exact hl9)
  have hrow9 : ∀ r ∈ dss, r.length ≤ 9 := fun r hr => by
    rw [← hdss] at hr
    exact Nat.le_trans ((pilesA_facts _).2.1 r hr) (by rw [lineA_len]; exact hl9)
  have hpz : (prefs pl).length ≤ 16384 := by rw [show (prefs pl).length = pl.length by simp [prefs]]; omega
  refine' comp_NE F3 N3 ?cla ?cea rfl ?naa ?ita ?fsa
  case cla => with_unfolding_all rfl
  case cea => decide
  case naa => decide
  case fsa => intro _; rfl
  refine nameX_L F3 rfl ?_
  refine ⟨_, _, fun i ys nws => nws = [] ∧ IntsAre ys (natsI ((dss.take i).map List.length)), _, Kp.refl _, Src.list rfl (N3.isList (.tail _ (.tail _ (.head _)))) (Kp.refl _), ⟨⟨rfl, .nil⟩, by rw [List.size_toArray, sizeLine_eq]; omega, ?_⟩, ?_⟩
  · intro i v ys nws C h2 tk2 mC hi hP hJ hyl FC NC
    obtain ⟨rfl, hJ⟩ := hJ
    have hv' : (prefs pl)[i]? = some v := by simpa using hP
    have hil : i < pl.length := by have := (List.getElem?_eq_some_iff.mp hv').1; simpa [prefs] using this
    obtain ⟨⟨a, lits, n⟩, hpi⟩ : ∃ p, pl[i]? = some p := ⟨pl[i], List.getElem?_eq_getElem hil⟩
    have ev : v = .ref a := by
      rw [List.getElem?_map, hpi] at hv'
      exact (Option.some.inj hv').symm
    subst ev
    obtain ⟨r, hr, hlen⟩ := All2.get hPi hpi
    dsimp only at hlen
    have hmem := mpl _ (List.mem_of_getElem? hpi)
    have hlz : lits.length ≤ 16384 := by have := hrow9 r (List.mem_of_getElem? hr); omega
    have NC2 : News s1.heap C h2 ((a, listOf lits.toArray n) :: (allOf s1.heap h2 C)) := fun p hp => by
      rcases List.mem_cons.mp hp with rfl | hp
      · exact NC _ (List.mem_append.mpr (.inl (.tail _ (.tail _ (.tail _ hmem)))))
      · exact NC _ (List.mem_append.mpr (.inr hp))
    clear NC
    have sA : ∀ p ∈ allOf s1.heap h2 C, p ∈ (a, listOf lits.toArray n) :: allOf s1.heap h2 C := fun p hp => .tail _ hp
    show wpAny _ _ _ _ _ _
    k_fold
    k_steps
    rename Fr _ _ _ _ => F6
    rename News _ _ _ _ => N6
    refine ⟨_, _, _, _, [], rfl, F6, N6, sA, fun _ hp => absurd hp List.not_mem_nil, rfl, ?_⟩
    rw [List.take_add_one, hr, hlen]
    show IntsAre _ (List.map _ (List.map _ _))
    rw [List.map_append, List.map_append]
    exact intsAre_snoc hJ
  · intro D2 h2 tk2 ys nws FD ND hneD hoD _ hyl hJ
    refine hide_ fun G hG => ?_
    obtain ⟨rfl, hJ⟩ := hJ
    have edd : dss.take (prefs pl).toArray.size = dss := List.take_of_length_le (by rw [List.size_toArray, show (prefs pl).length = pl.length by simp [prefs], All2.len hPi]; exact Nat.le_refl _)
    rw [edd] at hJ
    clear hoD F3 N3
    refine hG ?_
    clear hG
    show wpAny _ _ _ _ _ _
    k_steps
    unfold Hold
    refine' comp_NX ?clb ?ceb rfl ?nab ?itb ?fsb
    case clb => with_unfolding_all rfl
    case ceb => decide
    case nab => decide
    case fsb => intro _; rfl
    show wpAny _ _ _ _ _ _
    k_fold
    k_steps
    rename IsRange _ _ _ _ _ _ _ _ => hR
    rename Fr _ _ _ _ => F5
    rename News _ _ _ _ => N5
    have hpl : (prefs pl).length = pl.length := by simp [prefs]
    generalize hhs : ((toldA (lineA Kind.fst.val ds).reverse).map (·.1)) = hs at *
    refine ⟨_, _, _, _, (prefs pl).length, _, fun i ys nws => nws = [] ∧ IntsAre ys (natsI ((List.range i).map fun f => hs.count (f + 1))), [], F5, N5, Src.range rfl hR (by omega) (Kp.refl _), ⟨⟨rfl, .nil⟩, by rw [sizeLine_eq]; omega, ?_⟩, ?_⟩
    · intro i v ys2 nws C h3 tk3 mC hi hP hJ2 hyl2 FC NC
      obtain ⟨rfl, hJ2⟩ := hJ2
      obtain ⟨t, rfl⟩ := hP
      have sA : ∀ p ∈ allOf s1.heap h3 C, p ∈ tail ++ allOf s1.heap h3 C := fun p hp => List.mem_append.mpr (.inr hp)
      simp only [List.cons_append] at NC
      generalize tail ++ allOf s1.heap h3 C = tail2 at *
      show wpAny _ _ _ _ _ _
      k_fold
      k_steps
      rename Fr _ _ _ _ => F6
      rename News _ _ _ _ => N6
      refine ⟨_, _, _, _, [], rfl, F6, N6, fun p hp => ?_, fun _ hp => absurd hp List.not_mem_nil, rfl, ?_⟩
      · (first | ((repeat (first | (with_reducible_and_instances exact sA p hp) | refine List.Mem.tail _ ?_)); done) | simp only [List.mem_cons, sA p hp, or_true])
      · rw [natsI_count, List.range_succ]
        show IntsAre _ (List.map _ (List.map _ _))
        rw [List.map_append, List.map_append]
        exact intsAre_snoc hJ2
    · intro D3 h3 tk3 ys2 nws FD3 ND3 hneD3 hoD3 _ hyl3 hJ3
      obtain ⟨rfl, hJ3⟩ := hJ3
      have hend : natsI (dss.map List.length) = natsI ((List.range (prefs pl).length).map fun f => hs.count (f + 1)) := by
        have := law_plain ds hok hnd
        rw [hpl, All2.len hPi, ← hhs, ← hdss]
        rw [ekb, this]
        rfl
      clear hoD3 F5 N5
      show wpAny _ _ _ _ _ _
      k_steps
      done)
end Mine
end PLW
theorem Mine.rstLW : True := by
  w_top off
  k_with_none
  first | (walk1; fail "x") | exact True.intro
theorem PySem.Challenge.cw_pg0090_01_holds : PySem.Challenge.rw_pg0090_01.Holds := by
  exact Mine.lawT
