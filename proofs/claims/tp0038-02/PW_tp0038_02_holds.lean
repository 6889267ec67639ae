import PyProof.Rows.All
import Wide.All
import OpenK.AllK
import Wide.FinOn
import PySem.Challenge.RW_tp0038_02
set_option Elab.async false
section
open PySem PySem.W PyProof.Rows
set_option maxRecDepth 100000
set_option maxHeartbeats 0
noncomputable def Mine.view2 : Program := view PySem.Challenge.rw_tp0038_02.row.prog [0,1,3,5,6,7,9,10,11,13,15,16,17]
local macro_rules | `(tactic| o_head $H) => `(tactic| (
  refine holds_open (q := Mine.view2) (loose := [Str.ofString "tspecials", Str.ofString "_name_disallowed_re", Str.ofString "_value_disallowed_re", Str.ofString "_formatparam"]) (Xt := fun s => xlAt Mine.view2 [] s && recOk (RowW.records PySem.Challenge.rw_tp0038_02.row.toRowW) s) (XP := XL Mine.view2 []) (Yf := Hook.obs $H) (Ya := Hook.val $H) (YP := Hook.says $H) (N := 3914) ?hl (Hook.of $H) (Hook.keeps $H) (fun s e => xl_of s (Bool.and_eq_true_iff.mp e).1) XL.keeps (by rfl) (by rfl) (by rfl) (fun s e => recFacts_of (Bool.and_eq_true_iff.mp e).2) (by rfl) (by first | assumption | decide +kernel) (by decide +kernel) ⟨rfl, rfl, rfl, rfl, rfl, by decide +kernel⟩ ?hw ?hc
  case hl => (intro w; unfold openEnds fencedOpening topFrom; (first | rw [PySem.W.Fast.te14364793385576792824, PySem.W.Fast.te10274390034422433532, PySem.W.Fast.te14289696077712309145, PySem.W.Fast.te1435165496053646825, PySem.W.Fast.te14082659384304107361, PySem.W.Fast.te4187177175401517315, PySem.W.Fast.te5923862056798008813] | skip); kernel_rfl)))
namespace Mine
open_top hd for PySem.Challenge.rw_tp0038_02
end Mine
end
open PySem PySem.W PyProof.Rows PySem.Calls
local macro_rules | `(tactic| walk_at "mine:enter") => `(tactic| k_dflt first
  | (refine' code_def ?k1 ?k2 ?k3 ?k4 ?k5 ?kA ?kF ?kK ?k6 ?k7 ?k8 ?k9 ?kB ?_ ?c2 ?c3 ?c4 ?c5; (case kA => exact rfl); (case kF => exact rfl); (case kK => first | exact rfl | assumption); (case k1 => k_asm); (case k2 => k_asm); (case k3 => k_asm); (case k4 => k_asm); (case k5 => k_asm); (case k6 => k_is); (case k7 => k_is); (case k8 => ktr_room); (case k9 => first | exact BindsTo.of_eq rfl | exact binds_K (by k_in) rfl (by k_is) rfl rfl rfl | fail "k_enter: no rule for these arguments"); (case c5 => decide); (case kB => exact locs rfl); (case c2 => exact rfl); (case c3 => exact rfl); (case c4 => exact rfl); k_whole; intro g' L' h' FG' F' N' B' X' T'; (try dsimp only); (try k_lift B'); (try k_fold))
  | (refine' code_defC ?k1 ?k2 ?k3 ?k4 ?k5 ?kA ?kF ?kK ?k6 ?k7 ?k8 ?k9 ?kB ?kD ?_ ?c2 ?c3 ?c4; (case kA => exact rfl); (case kF => exact rfl); (case kK => first | exact rfl | assumption); (case k1 => k_asm); (case k2 => k_asm); (case k3 => k_asm); (case k4 => k_asm); (case k5 => k_asm); (case k6 => k_is); (case k7 => k_is); (case k8 => ktr_room); (case k9 => first | exact BindsTo.of_eq rfl | exact binds_K (by k_in) rfl (by k_is) rfl rfl rfl | fail "k_enter: no rule for these arguments"); (case kB => exact rfl); (case kD => decide +kernel); (case c2 => exact rfl); (case c3 => exact rfl); (case c4 => exact rfl); k_whole; intro g' L' h' tk' cells' FG' F' N' Y' B' X' T' l1; (try k_lt l1); k_cells Y'; (try simp only [List.cons_append, List.nil_append] at N'); (try dsimp only); (try k_lift B'); (try k_fold)))
local macro_rules | `(tactic| walk_at "mine:step") => `(tactic| first | (k_unfold; (try dsimp only)) | (k_end; wrow_close) | walk1 | (dsimp only; walk1) | (leave1; walk_say "STEP leave1"; try dsimp only) | fail "no step")
theorem Mine.fresh_FnAttr : True := by
  w_top off
  k_with_none
  trivial
section
open PySem PySem.W PyProof.Rows PySem.Calls PySem.Builtin.ObjectAttr
set_option maxRecDepth 100000
namespace Mine
section
variable {prog : Program} {w : World} {A : Around} {E : Value → Shared → Prop} {s : Shared} {K : Frag} {h₀ : Heap} {L f : Addr} {m : Str → Option Value} {news : List (Addr × Obj)} {g : Obj → List (Addr × Obj)}

theorem refuse_fn (self : Value) : refuseLoop self "__setattr__" [.type "function", .type "object"] = pure () := by
  kernel_rfl

theorem fn_setattr {fd : FuncData} {name : Str} {v : Value} {Q : Unit → Shared → Prop} (F : Fr h₀ L s.heap m) (X₀ : K.In h₀) (N : News h₀ L s.heap news)
    (U : UpdF f { cls := .type "function", data := .func fd } news g) (hn : fastLookup "function" name = some none)
    (h : ∀ dx h' tk, Fr h₀ L h' m → News h₀ L h' ((dx, dictOf [⟨PyData.keyHash w.params name, .str name (s.toks + 1), v⟩] 1) :: g { cls := .type "function", dict := some dx, data := .func fd }) →
      (∀ q ∈ news, q.1 < dx) → Q () { s with heap := h', toks := tk }) :
    wpAny (model prog w) A (setAttr (.ref f) name v) Q E s := by
  obtain ⟨pre, post, rfl, hg, h1, h2⟩ := U.split
  have hf := (N (f, _) (List.mem_append_right _ (.head _))).1
  have X : K.In s.heap := X₀.keeps F.keep
  have T1 : Looks (model prog w) s.heap (typeOf (.ref f)) (.type "function") := (Looks.ld (part := none) hf).andThen .now
  have hs : findIn K (.type "function") "__setattr__" = some (some (.builtin "object.__setattr__")) := by kernel_rfl
  have SF := PySem.F.store_object
  have sub : Looks (model prog w) s.heap (isInstance (.ref f) (.type "object")) true := T1.andThen (looks_subIn X (t := .type "function") (by kernel_rfl))
  have hm : Looks (model prog w) s.heap (mroOf (.type "function")) [.type "function", .type "object"] := Looks.of_pure (by kernel_rfl)
  have main : codeAny (model prog w) A (.call (.builtin "object.__setattr__") ⟨[.ref f, .str name s.toks, v], []⟩) (fun r s' => match r with | .ok (.ret _) => Q () s' | .ok _ => False | .error e => E e s') { s with toks := s.toks + 1 } := by
    refine codeAny_call_builtin SF.slot.plain SF.entry (@check_slot (model prog w) _ _ { s with toks := s.toks + 1 } "object.__setattr__" "object" "__setattr__" (.ref f) [.str name s.toks, v] [] _ SF.kind SF.split sub (SF.args (.ref f) (.str name s.toks) v) ?_)
    rw [osa_eq, refuse_eq]
    refine wpAny_bind (wpAny_bind (T1.at (wpAny_bind (hm.at ?_))))
    rw [refuse_fn]
    refine wpAny_pure (wpAny_bind (T1.at (wpAny_bind ((looks_findIn X (t := .type "function") (name := name) (r := none) hn).at (wpAny_bind (wpAny_pure ?_))))))
    dsimp only
    unfold storeInOwnDict
    refine wpAny_bind (wpAny_pure ?_)
    rw [if_neg (by decide)]
    refine wpAny_bind (wpAny_bind (wpAny_loadPart hf ?_))
    dsimp only
    show wpAny _ _ (alloc { cls := .type "dict", data := .dict #[] } >>= _) _ _ _
    refine wpAny_bind (wpAny_alloc ?_)
    have hf' := Heap.get?_push_of_some ({ cls := .type "dict", data := .dict #[] } : Obj) hf
    refine wpAny_bind (wpAny_update hf' ?_)
    show wpAny _ _ (dictMade _ _ _) _ _ _
    show wpAny _ _ (pure (some s.heap.objs.size)) _ _ _
    refine wpAny_pure ?_
    show wpAny _ _ (storeInDict s.heap.objs.size (.str name s.toks) name v) _ _ _
    have F1 := F.push ({ cls := .type "dict", data := .dict #[] } : Obj)
    have N1 := N.push F ({ cls := .type "dict", data := .dict #[] } : Obj) rfl
    have hne : ∀ q ∈ pre ++ (f, ({ cls := .type "function", data := .func fd } : Obj)) :: post, q.1 < s.heap.objs.size := fun q hq => Heap.lt_size (N q hq).1
    have U2 := news_upd (pre := (s.heap.objs.size, ({ cls := .type "dict", data := .dict #[] } : Obj)) :: pre) (post := post) (d := f) (o' := ({ cls := .type "function", dict := some s.heap.objs.size, data := .func fd } : Obj)) (f := fun o => { o with dict := some s.heap.objs.size }) F1 N1 (fun p hp => by
      rcases List.mem_cons.mp hp with rfl | hp
      · exact Nat.ne_of_gt (hne (f, _) (List.mem_append_right _ (.head _)))
      · exact h1 p hp) h2 rfl rfl
    obtain ⟨F2, N2⟩ := U2
    have U3 := news_upd (pre := []) (post := pre ++ (f, ({ cls := .type "function", dict := some s.heap.objs.size, data := .func fd } : Obj)) :: post) (d := s.heap.objs.size) (o := dictOf [] 0) (o' := dictOf [⟨PyData.keyHash w.params name, .str name (s.toks + 1), v⟩] 1) (f := Obj.putName name (PyData.keyHash w.params name) (.str name (s.toks + 1)) v) F2 N2 (fun _ h => nomatch h) (fun p hp => by
      rcases List.mem_append.mp hp with hp | hp
      · exact Nat.ne_of_lt (hne p (List.mem_append_left _ hp))
      · rcases List.mem_cons.mp hp with rfl | hp
        · exact Nat.ne_of_lt (hne (f, { cls := .type "function", data := .func fd }) (List.mem_append_right _ (.head _)))
        · exact Nat.ne_of_lt (hne p (List.mem_append_right _ (.tail _ hp)))) (by rw [putName_dict]; rfl) rfl
    obtain ⟨F3, N3⟩ := U3
    have D := (N2 (s.heap.objs.size, dictOf [] 0) (.head _)).1
    have D' := (N3 (s.heap.objs.size, _) (.head _)).1
    refine wpAny_bind (wpAny_pure (wpAny_bind ?_))
    unfold nsSet
    refine wpAny_bind (wpAny_bind (wpAny_askSetting (wpAny_pure (wpAny_bind (wpAny_mkText (wpAny_bind (wpAny_loadPart D ?_)))))))
    dsimp only
    rw [aRefKeyMayBeTheName_at]
    rw [if_neg (by simp)]
    refine wpAny_updatePart D ?_
    refine wpAny_bind (wpAny_lookBehind D' (pastItsLine_dict (by simp)) ?_)
    exact wpAny_pure (h _ _ _ F3 (by rw [hg]; exact N3) hne)
  refine wpAny_bind (wpAny_mkText (wpAny_bind (wpAny_bind (wpAny_bind (T1 _ _ _ _ (fun _ _ e => e) (looks_findIn X hs _ _ _ _ (fun _ _ e => e) (wpAny_holding ?_)))))))
  rw [PySem.F.store_object.slot.bind]
  refine wpAny_bind (wpAny_pure (wpAny_bind (wpAny_call (codeAny_mono main fun r s' z => ?_))))
  rcases r with e | (v | _ | _ | _) <;> first | exact z | exact wpAny_pure (wpAny_pure z)

theorem slot_function_ga : Slot "function" "__getattribute__" "object.__getattribute__" :=
  .of (owner := "object") (n := "__getattribute__") (by rw [typeLookup_type, builtinLookup_eq_fast]; kernel_rfl) (by decide +kernel) (by decide +kernel) (by decide +kernel)
    (by first | exact .inl (by decide +kernel) | exact .inr (by decide +kernel)) (by rw [isSubtype_type]; kernel_rfl)
theorem fn_no_hook : typeLookup (.type "function") "__getattr__" = pure none := by rw [typeLookup_type, builtinLookup_eq_fast]; kernel_rfl

theorem fn_getattr {fd : FuncData} {dx : Addr} {es : List DictEntry} {n : Nat} {name : Str} {v : Value} {ex : Bool} {Q : Value → Shared → Prop}
    (hf : s.heap.get? f = some { cls := .type "function", dict := some dx, data := .func fd }) (hd : s.heap.get? dx = some (dictOf es n)) (hl : getL name es = some (some v))
    (hn : typeLookup (.type "function") name = pure none) (hv : handedIn v = true) (h : Q v { s with toks := s.toks + 1 }) :
    wpAny (model prog w) A (getAttr (.ref f) name ex) Q E s := by
  obtain ⟨hp, g, d, tk, os⟩ := s
  have hT : ∀ tk', (⟨hp, g, d, tk', os⟩ : Shared).TypeIs (.ref f) "function" := fun _ => ⟨_, hf, rfl⟩
  have f3 := slot_function_ga.lookup
  have f4 := slot_function_ga.bind (.ref f)
  have hT1 := hT (tk + 1)
  have hgo : handedOut v = pure v := handedOut_of hv
  have hlk : nsLook name (dictOf es n) = pure (some v) := nsLook_of (by rw [lookIn_dict]; exact hl)
  unfold getAttr getAttrBy getAttrByItsOwn
  repeat (any_goals (first | assumption | wp_step))
  have hoh : onTheHeap (Value.builtin "object.__getattribute__") = false := rfl
  rw [hoh, Bool.and_false, if_neg Bool.false_ne_true]
  unfold boundAndCalled
  repeat (any_goals (first | assumption | wp_step))
  refine codeAny_call_builtin slot_function_ga.plain F.entry_object_getattribute (slot_function_ga.check _ _ _ _ _ _ _ _ hT1 (F.args_object_getattribute_2 _ _) ?_)
  repeat (any_goals (first | assumption | wp_step))

theorem fn_getmethod {fd : FuncData} {dx : Addr} {es : List DictEntry} {n : Nat} {name : Str} {v : Value} {pl : Sem Bool} {Q : Value × List Value → Shared → Prop}
    (hf : s.heap.get? f = some { cls := .type "function", dict := some dx, data := .func fd }) (hd : s.heap.get? dx = some (dictOf es n)) (hl : getL name es = some (some v))
    (hn : typeLookup (.type "function") name = pure none) (hv : handedIn v = true) (h : Q (v, []) { s with toks := s.toks + 1 }) :
    wpAny (model prog w) A (getMethod (.ref f) name pl) Q E s := by
  have T1 : Looks (model prog w) s.heap (typeOf (.ref f)) (.type "function") := (Looks.ld (part := none) hf).andThen .now
  have S1 : Looks (model prog w) s.heap (specialOf (.ref f) "__getattribute__") (some (.builtin "object.__getattribute__")) := T1.andThen (Looks.of_pure slot_function_ga.lookup)
  have S2 : Looks (model prog w) s.heap (specialOf (.ref f) "__getattr__") none := T1.andThen (Looks.of_pure fn_no_hook)
  have S3 : Looks (model prog w) s.heap (specialOf (.ref f) name) none := T1.andThen (Looks.of_pure hn)
  have hcan := PySem.F.canon_object_ga
  unfold getMethod
  refine wpAny_bind (S1.here ?_)
  dsimp only
  rw [hcan, if_neg Bool.false_ne_true]
  refine wpAny_bind (S2.here (wpAny_bind (S3.here ?_)))
  exact wpAny_bind (fn_getattr hf hd hl hn hv (wpAny_pure h))
end
end Mine
end
local macro_rules | `(tactic| walk_at "mine:none1") => `(tactic| fail "none")
theorem Mine.fresh_CIter : True := by
  w_top off
  k_with_none
  trivial
section
open PySem PySem.W PyProof.Rows PySem.Calls
set_option maxRecDepth 100000
namespace Mine
theorem slot_ci_next : Slot "callable_iterator" "__next__" "callable_iterator.__next__" :=
  .of (owner := "callable_iterator") (n := "__next__") (by rw [typeLookup_type, builtinLookup_eq_fast]; kernel_rfl) (by decide +kernel) (by decide +kernel) (by decide +kernel)
    (by first | exact .inl (by decide +kernel) | exact .inr (by decide +kernel)) (by rw [isSubtype_type]; kernel_rfl)
theorem entry_ci_next : entryFor table "callable_iterator.__next__" = some Builtin.«callable_iterator.__next__» := entryFor_of_tree (by kernel_rfl)
theorem args_ci_next (a : Value) : argsOk "callable_iterator.__next__" ⟨[a], []⟩ := by unfold argsOk; kernel_rfl
theorem slot_ci_iter : Slot "callable_iterator" "__iter__" "callable_iterator.__iter__" :=
  .of (owner := "callable_iterator") (n := "__iter__") (by rw [typeLookup_type, builtinLookup_eq_fast]; kernel_rfl) (by decide +kernel) (by decide +kernel) (by decide +kernel)
    (by first | exact .inl (by decide +kernel) | exact .inr (by decide +kernel)) (by rw [isSubtype_type]; kernel_rfl)
theorem args_ci_iter (a : Value) : argsOk "callable_iterator.__iter__" ⟨[a], []⟩ := by unfold argsOk; kernel_rfl
noncomputable abbrev ciObj (q : Addr) (ts : Tok) : Obj := { cls := .type "callable_iterator", data := .fields #[.ref q, .str (Str.ofString "") ts, .bool false] }
section
variable {prog : Program} {w : World} {A : Around} {E : Value → Shared → Prop} {s : Shared}
theorem wpAny_borrowed {f : Value} {pos : List Value} {Q : Value → Shared → Prop} (h : wpAny (model prog w) A (call f pos) Q E s) : wpAny (model prog w) A (callBorrowed f pos) Q E s := fun Γ p hΓ => by
  have h1 := h Γ p hΓ
  rw [Sem.wp_cmd_call] at h1
  unfold callBorrowed
  rw [Sem.wp_call]
  refine wpCode_mono (fun r s' hr => ?_) h1
  rcases r with e | (v | _ | _ | _) <;> first | exact hr | exact hr.elim
theorem ci_next {it q f : Addr} {self : Value} {ts : Tok} {fd : FuncData} {cf : Value} {df : Option Addr} {sf : Array (Option Value)} {Q : Option Value → Shared → Prop}
    (hi : s.heap.get? it = some (ciObj q ts)) (hq : s.heap.get? q = some (methodObj (.ref f) self)) (hf : s.heap.get? f = some ⟨cf, df, .func fd, sf⟩)
    (h : codeAny (model prog w) A.in1 (.call (.ref f) ⟨[self], []⟩) (fun r s' => ∃ x t, r = .ok (.ret (.str x t)) ∧ s'.heap.get? it = some (ciObj q ts) ∧ x ≠ Str.ofString "" ∧ Q (some (.str x t)) s') s) :
    wpAny (model prog w) A (pyNext (.ref it)) Q E s := by
  have T1 : Looks (model prog w) s.heap (typeOf (.ref it)) (.type "callable_iterator") := (Looks.ld (part := none) hi).andThen .now
  have S1 : Looks (model prog w) s.heap (typeLookup (.type "callable_iterator") "__next__") (some (.builtin "callable_iterator.__next__")) := Looks.of_pure slot_ci_next.lookup
  have hT : s.TypeIs (.ref it) "callable_iterator" := ⟨_, hi, rfl⟩
  have main : wpAny (model prog w) A (call (.builtin "callable_iterator.__next__") [.ref it]) (fun v s' => Q (some v) s') (fun _ _ => False) s := by
    refine wpAny_call (codeAny_call_builtin slot_ci_next.plain entry_ci_next (slot_ci_next.check _ _ _ _ _ _ _ _ hT (args_ci_next _) ?_))
    unfold Builtin.«callable_iterator.__next__»
    have f2 : Looks (model prog w) s.heap (field (.ref it) 2) (.bool false) := looks_field hi 2 rfl
    have f0 : Looks (model prog w) s.heap (field (.ref it) 0) (.ref q) := looks_field hi 0 rfl
    refine wpAny_bind (wpAny_pure (wpAny_bind (f2.here ?_)))
    rw [if_neg (by decide)]
    refine wpAny_bind (f0.here (wpAny_bind (wpAny_attempt ?_)))
    unfold callOutOfASlot
    have fb : Looks (model prog w) s.heap (borrowsExactly (.ref q)) true := by
      unfold borrowsExactly
      exact (Looks.ld (part := none) hq).andThen ((Looks.ld (part := none) hf).andThen .now)
    refine wpAny_bind (fb.here ?_)
    rw [if_pos rfl]
    refine wpAny_borrowed (wpAny_call (method_call hq (codeAny_mono h fun r s' hr => ?_)))
    obtain ⟨x, t, rfl, hi', hx, hQ⟩ := hr
    have f2' : Looks (model prog w) s'.heap (field (.ref it) 2) (.bool false) := looks_field hi' 2 rfl
    have f1' : Looks (model prog w) s'.heap (field (.ref it) 1) (.str (Str.ofString "") ts) := looks_field hi' 1 rfl
    dsimp only
    refine wpAny_bind (f2'.here ?_)
    rw [if_neg (by decide)]
    refine wpAny_bind (f1'.here (wpAny_bind (wpAny_holding (wpAny_eqBool_str ?_))))
    rw [decide_eq_false (fun e => hx e.symm)]
    exact wpAny_pure hQ
  unfold pyNext
  refine wpAny_bind (wpAny_attempt (wpAny_bind (wpAny_bind (T1.here (S1.here (wpAny_holding ?_))))))
  rw [slot_ci_next.bind]
  refine wpAny_bind (wpAny_pure (wpAny_bind (wpAny_mono main (fun v s' hq => ?_) fun _ _ z => z.elim)))
  exact wpAny_pure (wpAny_pure hq)
theorem entry_ci_iter : entryFor table "callable_iterator.__iter__" = some Builtin.«dict_keyiterator.__iter__» :=
  entryFor_alias (id' := "dict_keyiterator.__iter__") (by kernel_rfl) rfl (by decide +kernel) (by kernel_rfl)
theorem ci_iter {it q : Addr} {ts : Tok} {Q : Value → Shared → Prop} (hi : s.heap.get? it = some (ciObj q ts)) (h : Q (.ref it) s) : wpAny (model prog w) A (pyIter (.ref it)) Q E s := by
  have T1 : Looks (model prog w) s.heap (typeOf (.ref it)) (.type "callable_iterator") := (Looks.ld (part := none) hi).andThen .now
  have S1 : Looks (model prog w) s.heap (typeLookup (.type "callable_iterator") "__iter__") (some (.builtin "callable_iterator.__iter__")) := Looks.of_pure slot_ci_iter.lookup
  have S2 : Looks (model prog w) s.heap (typeLookup (.type "callable_iterator") "__next__") (some (.builtin "callable_iterator.__next__")) := Looks.of_pure slot_ci_next.lookup
  have hT : s.TypeIs (.ref it) "callable_iterator" := ⟨_, hi, rfl⟩
  have one : ∀ refuse : Sem Value, wpAny (model prog w) A (callSpecialIfBoundUnlessNone? (.ref it) "__iter__" refuse) (fun r s' => r = some (.ref it) ∧ s' = s) E s := by
    intro refuse
    simp only [callSpecialIfBoundUnlessNone?, bindSpecialIfBound?]
    refine wpAny_holding (wpAny_bind (wpAny_bind (wpAny_bind (T1.here (S1.here ?_)))))
    refine wpAny_bind (wpAny_askSetting (wpAny_ite ?_))
    have fin2 : wpAny (model prog w) A (call (.builtin "callable_iterator.__iter__") [.ref it] >>= fun v => pure (some v)) (fun r s' => r = some (.ref it) ∧ s' = s) E s := by
      refine wpAny_bind (wpAny_call (codeAny_call_builtin slot_ci_iter.plain entry_ci_iter (slot_ci_iter.check _ _ _ _ _ _ _ _ hT (args_ci_iter _) ?_)))
      exact wpAny_pure (wpAny_pure ⟨rfl, rfl⟩)
    have hb := slot_ci_iter.bind (.ref it)
    split
    · rw [hb]
      exact wpAny_bind (wpAny_pure (wpAny_pure fin2))
    · rw [hb]
      exact wpAny_tryCatch (wpAny_bind (wpAny_pure (wpAny_pure fin2)))
  unfold pyIter
  refine wpAny_bind (wpAny_bind (T1.here (S1.here ?_)))
  show wpAny (model prog w) A (callSpecialIfBoundUnlessNone? (.ref it) "__iter__" _ >>= _) Q E s
  refine wpAny_bind (wpAny_mono (one _) (fun r s' hr => ?_) fun _ _ z => z)
  obtain ⟨rfl, rfl⟩ := hr
  exact wpAny_bind (wpAny_bind (T1.here (S2.here (wpAny_pure h))))
end
section
variable {prog : Program} {w : World} {A : Around} {E : Value → Shared → Prop} {s : Shared} {h₀ : Heap} {L : Addr} {m : Str → Option Value} {news : List (Addr × Obj)}
theorem method_call_look : typeLookup (.type "method") "__call__" = pure (some (.builtin "method.__call__")) := by rw [typeLookup_type, builtinLookup_eq_fast]; kernel_rfl
theorem iter2_call {q f : Addr} {self : Value} {ts : Tok} {Q : Value → Shared → Prop} (F : Fr h₀ L s.heap m) (N : News h₀ L s.heap news) (hq : (q, methodObj (.ref f) self) ∈ news)
    (h : ∀ it h', Fr h₀ L h' m → News h₀ L h' ((it, ciObj q ts) :: news) → (∀ p ∈ news, p.1 < it) → Q (.ref it) { s with heap := h' }) :
    wpAny (model prog w) A (call (.builtin "iter") [.ref q, .str (Str.ofString "") ts]) Q E s := by
  have hq' := (N _ hq).1
  have T1 : Looks (model prog w) s.heap (typeOf (.ref q)) (.type "method") := (Looks.ld (part := none) hq').andThen .now
  have S1 : Looks (model prog w) s.heap (specialOf (.ref q) "__call__") (some (.builtin "method.__call__")) := T1.andThen (Looks.of_pure method_call_look)
  have hargs : argsOk "iter" ⟨[.ref q, .str (Str.ofString "") ts], []⟩ := by unfold argsOk; kernel_rfl
  refine Calls.call_function_entry (by decide +kernel) (by decide +kernel) (entryFor_of_tree (b := Builtin.«iter») (by kernel_rfl)) hargs ?_
  unfold Builtin.«iter»
  refine wpAny_bind (wpAny_pure ?_)
  refine wpAny_bind (S1.here ?_)
  rw [if_neg (by decide)]
  refine wpAny_bind (wpAny_rule (wpAny_bind ?_))
  refine wpAny_newObj_type ?_ (by size_fits)
  exact wpAny_pure ⟨_, rfl, h _ _ (F.push _) (N.push F _ rfl) (fun p hp => Heap.lt_size (N p hp).1)⟩
end
end Mine
end
theorem Mine.fresh_RC : True := by
  w_top off
  k_with_none
  trivial
section
open PySem PySem.W PyProof.Rows PySem.Calls
namespace Mine
local macro_rules | `(tactic| k_room) => `(tactic| ktr_room)
local macro_rules | `(tactic| k_all) => `(tactic| assumption)
local macro_rules | `(tactic| k_mem) => `(tactic| with_reducible assumption)
local macro_rules | `(tactic| walk_at "getMethod ref") => `(tactic| (k_here; k_dflt (refine' fn_getmethod ?a ?b ?c ?d ?e ?_; (case a => exact (News.get (by k_asm) (by k_mem))); (case b => exact (News.get (by k_asm) (by k_mem))); (case c => exact rfl); (case d => (rw [typeLookup_type, builtinLookup_eq_fast]; kernel_rfl)); (case e => exact rfl); k_whole; (try dsimp only))))
local macro_rules | `(tactic| walk_at "callWith ref") => `(tactic| (k_here; k_dflt (refine' callWith_F ?k1 ?_; (case k1 => exact FnAt.of (by k_asm) (by k_mem)); k_whole)))
noncomputable abbrev lexDict (w : World) (ln : Int) (tl t1 t2 t3 t4 : Tok) (fs : Addr) (ws : Str) (tw : Tok) (pb : Addr) : Obj :=
  dictOf [⟨PyData.keyHash w.params (Str.ofString "lineno"), .str (Str.ofString "lineno") t1, .int ln tl⟩, ⟨PyData.keyHash w.params (Str.ofString "instream"), .str (Str.ofString "instream") t2, .ref fs⟩,
    ⟨PyData.keyHash w.params (Str.ofString "whitespace"), .str (Str.ofString "whitespace") t3, .str ws tw⟩, ⟨PyData.keyHash w.params (Str.ofString "pushback"), .str (Str.ofString "pushback") t4, .ref pb⟩] 4
noncomputable abbrev txt (l : List Nat) : Str := ⟨l.toArray⟩
/-- what the reading function does -/
noncomputable def ReadSpec (prog : Program) (w : World) (K : Frag) (p : Program) (loose : List Str) (mean : ExcName → Option Value) (mg mb : Str → Option Value) (ll fr : Addr) (rest : List (Addr × Obj)) : Prop :=
  ∀ (dp un : Nat) (gd : Option (List Code)) (cn : Str) (cs : Scope) (a : Addr) (ccd : Value) (cl : List (Str × Addr)) (outer : List Env) (A₀ : Around) (base h₀ : Heap) (L : Addr) (m : Str → Option Value) (pre : List (Addr × Obj)) (s : Shared) (x : List Nat) (tx t : Tok) (R : Result → Shared → Prop),
    Below A₀ base outer h₀ → Fr h₀ L s.heap m → K.In h₀ → News h₀ L s.heap ((ll, listOf #[.str (txt x) tx] 0) :: (pre ++ rest)) → (∀ q ∈ pre ++ rest, q.1 ≠ ll) → Top p loose mean mg mb h₀ → cs.kind = .function → dp + 2 < recursionLimit → un + 8 < cLine → x.length ≤ 100000 →
    (∀ t' tx' h' tk', Fr h₀ L h' m → News h₀ L h' ((ll, listOf #[.str (txt (x.drop 1)) tx'] 0) :: (pre ++ rest)) → R (.ok (.ret (.str (txt (x.take 1)) t'))) { s with heap := h', toks := tk' }) →
    codeAny (model prog w) (ktrTop dp un gd cn cs L a ccd cl outer) (.call (.ref fr) ⟨[.int 1 t], []⟩) R s

set_option maxRecDepth 100000 in
set_option maxHeartbeats 4000000 in
theorem read_char_spec {w : World} {p : Program} {loose : List Str} {mean : ExcName → Option Value} {mg mb : Str → Option Value} {dp un : Nat} {gd : Option (List Code)} {cn : Str} {cs : Scope} {a : Addr} {ccd : Value} {cl : List (Str × Addr)} {outer : List Env} {A₀ : Around} {base h₀ : Heap} {L : Addr} {m : Str → Option Value} {s : Shared} {R : Result → Shared → Prop}
  {ll fr ld lx fs sd pb : Addr} {rest : List (Addr × Obj)} {fd fdr : FuncData} {ln : Int} {tl t1 t2 t3 t4 tw t5 : Tok} {ws : Str} {x : List Nat} {tx : Tok}
  (B : Below A₀ base outer h₀) (F : Fr h₀ L s.heap m) (X : (hd.heap_39 w.params).In h₀) (N : News h₀ L s.heap ((ll, listOf #[.str (txt x) tx] 0) :: (ld, lexDict w ln tl t1 t2 t3 t4 fs ws tw pb) :: rest)) (T : Top p loose mean mg mb h₀) (hk : cs.kind = .function)
  (hdp : dp + 4 < recursionLimit) (hun : un + 20 < cLine) (hxl : x.length ≤ 100000) (hln : ln.natAbs ≤ 100000)
  (o1 : @Ne Nat ld ll) (o2 : ∀ q ∈ rest, q.1 ≠ ll) (o3 : ∀ q ∈ rest, q.1 ≠ ld)
  (m1 : List.Mem (lx, instObj 76 ld) rest) (m2 : List.Mem (fs, ({ cls := .type "function", dict := some sd, data := .func fd } : Obj)) rest) (m3 : List.Mem (sd, dictOf [⟨PyData.keyHash w.params (Str.ofString "read"), .str (Str.ofString "read") t5, .ref fr⟩] 1) rest)
  (m4 : List.Mem (fr, ({ cls := .type "function", data := .func fdr } : Obj)) rest)
  (hread : ReadSpec PySem.Challenge.rw_tp0038_02.row.prog w (hd.heap_39 w.params) p loose mean mg mb ll fr rest)
  (hret : ∀ t' tx' ln' tl' h' tk', ln'.natAbs ≤ ln.natAbs + 1 → Fr h₀ L h' m → News h₀ L h' ((ll, listOf #[.str (txt (x.drop 1)) tx'] 0) :: (ld, lexDict w ln' tl' t1 t2 t3 t4 fs ws tw pb) :: rest) → R (.ok (.ret (.str (txt (x.take 1)) t'))) { s with heap := h', toks := tk' }) :
  codeAny (model PySem.Challenge.rw_tp0038_02.row.prog w) (ktrTop dp un gd cn cs L a ccd cl outer) (.call (.ref 59) ⟨[.ref lx], []⟩) R s := by
  revert X; k_fill; intro X
  walk_at "mine:enter"
  repeat' ((fail_if_success (with_reducible show wpAny _ _ (call (Value.ref fr) _ _) _ _ _)); walk_at "mine:step")
  refine wpAny_call (hread _ _ _ _ _ _ _ _ _ _ _ _ _ _ [(ld, lexDict w ln tl t1 t2 t3 t4 fs ws tw pb)] _ _ _ _ _ (by k_asm) (by k_asm) (by k_asm) (by k_asm) ?_ (by k_asm) rfl (by ktr_room) (by ktr_units) hxl ?_)
  · intro q hq
    rcases List.mem_cons.mp hq with rfl | hq
    · exact o1
    · exact o2 q hq
  intro t' tx' h' tk' F' N'
  dsimp only [List.cons_append, List.nil_append] at N' ⊢
  k_steps
  all_goals (refine' hret _ _ _ _ _ _ ?a ?b ?c; (case b => k_asm); (case c => k_asm); (case a => omega))
end Mine
end
theorem Mine.fresh_GT : True := by
  w_top off
  k_with_none
  trivial
section
open PySem PySem.W PyProof.Rows PySem.Calls
namespace Mine
local macro_rules | `(tactic| k_room) => `(tactic| ktr_room)
local macro_rules | `(tactic| k_all) => `(tactic| assumption)
local macro_rules | `(tactic| k_mem) => `(tactic| with_reducible assumption)
local macro_rules | `(tactic| walk_at "call builtin:iter") => `(tactic| (k_here; k_dflt (refine' iter2_call ?F ?N ?q ?_; (case F => k_asm); (case N => k_asm); (case q => k_mem); k_whole); intro it' h' F' N' l1; (try k_sweep)))
local macro_rules | `(tactic| walk_at "mine:go") => `(tactic| repeat' ((fail_if_success (with_reducible show wpAny _ _ (exec (Stmt.For _ _ _ _ _) _) _ _ _)); (fail_if_success (with_reducible show wpAny _ _ (call (Value.ref 59) _ _) _ _ _)); walk_at "mine:step"))
local macro_rules | `(tactic| walk_at "truthy ref") => `(tactic| (k_here; (with_reducible show wpAny _ _ (truthy (Value.ref _)) _ _ _); k_dflt (refine' wpAny_truthy_list ?l ?f ?_; (case l => exact News.isList (by k_asm) (by k_mem)); (case f => exact Int.lt_of_not_ge (by decide)); k_whole)))

/-- the sign-by-sign laws of a token -/
inductive InQ : List Nat → List Nat → List Nat → Prop
  | close (r) : InQ (34 :: r) [] r
  | esc (c r t r') : InQ r t r' → InQ (92 :: c :: r) (c :: t) r'
  | plain (c r t r') : c ≠ 34 → c ≠ 92 → InQ r t r' → InQ (c :: r) (c :: t) r'
inductive InW (ws : List Nat) : List Nat → List Nat → List Nat → Prop
  | stop (c r) : c ∈ ws → InW ws (c :: r) [] r
  | esc (c r t r') : 92 ∉ ws → InW ws r t r' → InW ws (92 :: c :: r) (c :: t) r'
  | plain (c r t r') : c ∉ ws → c ≠ 92 → InW ws r t r' → InW ws (c :: r) (c :: t) r'
inductive GT (ws : List Nat) : List Nat → List Nat → List Nat → Prop
  | skip (c r t r') : c ∈ ws → GT ws r t r' → GT ws (c :: r) t r'
  | quote (r t r') : 34 ∉ ws → InQ r t r' → GT ws (34 :: r) t r'
  | esc (c r t r') : 92 ∉ ws → InW ws r t r' → GT ws (92 :: c :: r) (c :: t) r'
  | word (c r t r') : c ∉ ws → c ≠ 34 → c ≠ 92 → InW ws r t r' → GT ws (c :: r) (c :: t) r'

theorem ReadSpec.more {prog : Program} {w : World} {K : Frag} {p : Program} {loose : List Str} {mean : ExcName → Option Value} {mg mb : Str → Option Value} {ll fr : Addr} {rest : List (Addr × Obj)} (h : ReadSpec prog w K p loose mean mg mb ll fr rest) (xs : List (Addr × Obj)) :
    ReadSpec prog w K p loose mean mg mb ll fr (xs ++ rest) := by
  intro dp un gd cn cs a ccd cl outer A₀ base h₀ L m pre s x tx t R B F X N hne T hk hd hu hx hret
  have e : pre ++ (xs ++ rest) = (pre ++ xs) ++ rest := (List.append_assoc ..).symm
  rw [e] at N hne
  refine h dp un gd cn cs a ccd cl outer A₀ base h₀ L m (pre ++ xs) s x tx t R B F X N hne T hk hd hu hx ?_
  rw [← e]
  exact hret

section
variable {prog : Program} {w : World} {A : Around} {E : Value → Shared → Prop} {s : Shared} {env : Env}
theorem for_own {v : Str} {px pos : Pos} {iter : Expr} {body : List Stmt} {Q : Flow → Shared → Prop}
    (h : wpAny (model prog w) A (eval iter env) (fun xv s₁ => wpAny (model prog w) A (pyIter xv) (fun it s₂ => ∃ I n, it = .ref I ∧ OwitRest prog w A E env v body Q I n s₂) E s₁) E s)
    (hs : ∀ x, foldedSetIterable iter env x = pure x := by intro _; rfl) (hE : PassesOwn (model prog w) A env E := by passes_own) :
    wpAny (model prog w) A (exec (.For (.Name v px) iter body [] pos) env) Q E s := by
  refine wpAny_For (wpAny_mono h (fun xv s₁ h₁ => wpAny_mono h₁ (fun it s₂ h₂ => ?_) fun _ _ z => z) fun _ _ z => z) hs
  obtain ⟨I, n, rfl, h₂⟩ := h₂
  refine codeAny_forLoop (R := fun r s' => match r with | .ok f => Q f s' | .error e => cameBackBy (model prog w) A env E e s') (fun k s' => OwitRest prog w A E env v body Q I k s') ?_ n h₂
  intro k s' hk
  cases k with
  | zero => exact hk.elim
  | succ k =>
    refine wpAny_passesOwn hE (wpAny_mono (hk : wpAny (model prog w) A (pyNext (.ref I)) _ E s') (fun r s₁ hr => ?_) fun _ _ z => z)
    cases r with
    | none => exact wpAny_execs_nil hr
    | some y =>
      refine wpAny_passesOwn hE (wpAny_assign_Name (wpAny_mono hr (fun _ s₂ h₂ => ?_) fun _ _ z => z))
      refine wpAny_passesOwn hE (wpAny_mono h₂ (fun f s₃ h₃ => ?_) fun _ _ z => z)
      cases f with
      | next => exact ⟨k, Nat.lt_succ_self k, h₃⟩
      | cont => exact ⟨k, Nat.lt_succ_self k, h₃⟩
      | brk => exact h₃
      | ret _ => exact h₃
theorem owit_less {v : Str} {body : List Stmt} {Q : Flow → Shared → Prop} {I : Addr} : ∀ {n k : Nat} {s : Shared}, OwitRest prog w A E env v body Q I n s → n ≤ k → OwitRest prog w A E env v body Q I k s := by
  intro n
  induction n with
  | zero => intro k s h _; exact h.elim
  | succ n ih =>
    intro k s h hk
    obtain ⟨k, rfl⟩ : ∃ j, k = j + 1 := ⟨k - 1, by omega⟩
    show wpAny (model prog w) A (pyNext (.ref I)) (OwitTurn prog w A E env v body Q (OwitRest prog w A E env v body Q I k)) E s
    refine wpAny_mono (h : wpAny (model prog w) A (pyNext (.ref I)) (OwitTurn prog w A E env v body Q (OwitRest prog w A E env v body Q I n)) E s) (fun r s₁ hr => ?_) fun _ _ z => z
    cases r with
    | none => exact hr
    | some y =>
      refine wpAny_mono (hr : wpAny _ _ _ _ _ _) (fun _ s₂ h₂ => wpAny_mono h₂ (fun f s₃ h₃ => ?_) fun _ _ z => z) fun _ _ z => z
      cases f with
      | next => exact ih h₃ (by omega)
      | cont => exact ih h₃ (by omega)
      | brk => exact h₃
      | ret _ => exact h₃
noncomputable def Back (J : Nat → Shared → Prop) (k : Nat) (s' : Shared) : Prop := ∃ k', k' < k ∧ J k' s'
theorem owit_ind {v : Str} {body : List Stmt} {Q : Flow → Shared → Prop} {I : Addr} (J : Nat → Shared → Prop)
    (step : ∀ k s, J k s → wpAny (model prog w) A (pyNext (.ref I)) (OwitTurn prog w A E env v body Q (fun s' => Back J k s')) E s) : ∀ k s, J k s → OwitRest prog w A E env v body Q I (k + 1) s := by
  intro k
  induction k using Nat.strongRecOn with
  | ind k ih =>
    intro s hJ
    show wpAny (model prog w) A (pyNext (.ref I)) (OwitTurn prog w A E env v body Q (OwitRest prog w A E env v body Q I k)) E s
    refine wpAny_mono (step k s hJ) (fun r s₁ hr => ?_) fun _ _ z => z
    cases r with
    | none => exact hr
    | some y =>
      refine wpAny_mono (hr : wpAny _ _ _ _ _ _) (fun _ s₂ h₂ => wpAny_mono h₂ (fun f s₃ h₃ => ?_) fun _ _ z => z) fun _ _ z => z
      cases f with
      | next => obtain ⟨k', hk', hJ'⟩ := h₃; exact owit_less (ih k' hk' _ hJ') (by omega)
      | cont => obtain ⟨k', hk', hJ'⟩ := h₃; exact owit_less (ih k' hk' _ hJ') (by omega)
      | brk => exact h₃
      | ret _ => exact h₃
end

theorem two {rest : List (Addr × Obj)} {a b : Addr × Obj} {x : Addr} (h : ∀ q ∈ rest, q.1 ≠ x) (ha : @Ne Nat a.1 x) (hb : @Ne Nat b.1 x) : ∀ q ∈ a :: b :: rest, q.1 ≠ x := by
  intro q hq
  rcases List.mem_cons.mp hq with rfl | hq
  · exact ha
  rcases List.mem_cons.mp hq with rfl | hq
  · exact hb
  exact h q hq
theorem GT.cons {ws x t x' : List Nat} (h : GT ws x t x') : ∃ c r, x = c :: r := by cases h <;> exact ⟨_, _, rfl⟩
theorem InQ.cons {x t x' : List Nat} (h : InQ x t x') : ∃ c r, x = c :: r := by cases h <;> exact ⟨_, _, rfl⟩
theorem InW.cons {ws x t x' : List Nat} (h : InW ws x t x') : ∃ c r, x = c :: r := by cases h <;> exact ⟨_, _, rfl⟩
theorem txt_one (c : Nat) : txt [c] ≠ Str.ofString "" := by intro h; cases h
theorem InQ.inv34 {r t r' : List Nat} (h : InQ (34 :: r) t r') : t = [] ∧ r' = r := by
  cases h with
  | close => exact ⟨rfl, rfl⟩
  | plain _ _ _ _ h _ => exact absurd rfl h
theorem InQ.inv92 {r t r' : List Nat} (h : InQ (92 :: r) t r') : ∃ d r2 t2, r = d :: r2 ∧ t = d :: t2 ∧ InQ r2 t2 r' := by
  cases h with
  | esc c r t _ h => exact ⟨_, _, _, rfl, rfl, h⟩
  | plain _ _ _ _ _ h => exact absurd rfl h
theorem InQ.invp {c : Nat} {r t r' : List Nat} (h : InQ (c :: r) t r') (h1 : c ≠ 34) (h2 : c ≠ 92) : ∃ t2, t = c :: t2 ∧ InQ r t2 r' := by
  cases h with
  | close => exact absurd rfl h1
  | esc => exact absurd rfl h2
  | plain _ _ t _ _ _ h => exact ⟨_, rfl, h⟩
theorem InW.invs {ws : List Nat} {c : Nat} {r t r' : List Nat} (h : InW ws (c :: r) t r') (h1 : c ∈ ws) : t = [] ∧ r' = r := by
  cases h with
  | stop => exact ⟨rfl, rfl⟩
  | esc _ _ _ _ h => exact absurd h1 h
  | plain _ _ _ _ h => exact absurd h1 h
theorem InW.inv92 {ws : List Nat} {r t r' : List Nat} (h : InW ws (92 :: r) t r') (h1 : 92 ∉ ws) : ∃ d r2 t2, r = d :: r2 ∧ t = d :: t2 ∧ InW ws r2 t2 r' := by
  cases h with
  | stop _ _ h => exact absurd h h1
  | esc c r t _ _ h => exact ⟨_, _, _, rfl, rfl, h⟩
  | plain _ _ _ _ _ h => exact absurd rfl h
theorem InW.invp {ws : List Nat} {c : Nat} {r t r' : List Nat} (h : InW ws (c :: r) t r') (h1 : c ∉ ws) (h2 : c ≠ 92) : ∃ t2, t = c :: t2 ∧ InW ws r t2 r' := by
  cases h with
  | stop _ _ h => exact absurd h h1
  | esc => exact absurd rfl h2
  | plain _ _ t _ _ _ h => exact ⟨_, rfl, h⟩
theorem GT.invs {ws : List Nat} {c : Nat} {r t r' : List Nat} (h : GT ws (c :: r) t r') (h1 : c ∈ ws) : GT ws r t r' := by
  cases h with
  | skip _ _ _ _ _ h => exact h
  | quote _ _ _ h => exact absurd h1 h
  | esc _ _ _ _ h => exact absurd h1 h
  | word _ _ _ _ h => exact absurd h1 h
theorem GT.inv34 {ws : List Nat} {r t r' : List Nat} (h : GT ws (34 :: r) t r') (h1 : 34 ∉ ws) : InQ r t r' := by
  cases h with
  | skip _ _ _ _ h => exact absurd h h1
  | quote _ _ _ _ h => exact h
  | word _ _ _ _ _ h => exact absurd rfl h
theorem GT.inv92 {ws : List Nat} {r t r' : List Nat} (h : GT ws (92 :: r) t r') (h1 : 92 ∉ ws) : ∃ d r2 t2, r = d :: r2 ∧ t = d :: t2 ∧ InW ws r2 t2 r' := by
  cases h with
  | skip _ _ _ _ h => exact absurd h h1
  | esc c r t _ _ h => exact ⟨_, _, _, rfl, rfl, h⟩
  | word _ _ _ _ _ _ h => exact absurd rfl h
theorem GT.invw {ws : List Nat} {c : Nat} {r t r' : List Nat} (h : GT ws (c :: r) t r') (h1 : c ∉ ws) (h2 : c ≠ 34) (h3 : c ≠ 92) : ∃ t2, t = c :: t2 ∧ InW ws r t2 r' := by
  cases h with
  | skip _ _ _ _ h => exact absurd h h1
  | quote => exact absurd rfl h2
  | esc => exact absurd rfl h3
  | word _ _ t _ _ _ _ h => exact ⟨_, rfl, h⟩
theorem has_no {wl : List Nat} {c : Nat} (h : (Builtin.Str.occurrences (txt wl) (txt [c]) 0 (txt wl).length 1).isEmpty = true) : c ∉ wl := by
  have e := empty_one (txt wl) c
  rw [show (⟨#[c]⟩ : Str) = txt [c] from rfl, h] at e
  have := e.symm
  simpa using this
theorem has_yes {wl : List Nat} {c : Nat} (h : (Builtin.Str.occurrences (txt wl) (txt [c]) 0 (txt wl).length 1).isEmpty = false) : c ∈ wl := by
  have e := empty_one (txt wl) c
  rw [show (⟨#[c]⟩ : Str) = txt [c] from rfl, h] at e
  have := e.symm
  simpa using this
theorem txt_inj {a b : List Nat} (h : txt a = txt b) : a = b := by
  have := congrArg (fun x : Str => x.cps.toList) h
  simpa using this
theorem q_yes {c : Nat} (h : (txt [c] == Str.ofString "\"") = true) : c = 34 := by
  have := txt_inj ((beq_iff_eq.mp h).trans (show Str.ofString "\"" = txt [34] by decide +kernel)); simpa using this
theorem q_no {c : Nat} (h : (txt [c] == Str.ofString "\"") = false) : c ≠ 34 := by
  rintro rfl; exact absurd h (by decide +kernel)
theorem b_yes {c : Nat} (h : (txt [c] == Str.ofString "\\") = true) : c = 92 := by
  have := txt_inj ((beq_iff_eq.mp h).trans (show Str.ofString "\\" = txt [92] by decide +kernel)); simpa using this
theorem b_no {c : Nat} (h : (txt [c] == Str.ofString "\\") = false) : c ≠ 92 := by
  rintro rfl; exact absurd h (by decide +kernel)
theorem txt_app (a b : List Nat) : txt a ++ txt b = txt (a ++ b) := by
  show Str.mk _ = Str.mk _
  simp [List.append_toArray]
theorem txt_len (a : List Nat) : (txt a).length = a.length := rfl
theorem iadd_txt {prog : Program} {w : World} {A : Around} {E : Value → Shared → Prop} {s : Shared} {a b : List Nat} {t u : Tok} {Q : Value → Shared → Prop} (hl : a.length + b.length ≤ 300000) (h : ∀ t' tk, Q (.str (txt (a ++ b)) t') { s with toks := tk }) :
    wpAny (model prog w) A (inplaceOp .Add (.str (txt a) t) (.str (txt b) u)) Q E s := by
  refine iadd_str (fun t' tk => ?_) (by show a.length + b.length ≤ sizeLine; rw [sizeLine_eq]; omega)
  rw [txt_app]; exact h t' tk

theorem news_drop2 {h₀ h : Heap} {L : Addr} {a b c d : Addr × Obj} {rest : List (Addr × Obj)} (N : News h₀ L h (a :: b :: c :: d :: rest)) : News h₀ L h (a :: b :: rest) := by
  intro p hp
  refine N p ?_
  simp only [List.mem_cons] at hp ⊢
  rcases hp with h | h | h <;> simp only [h, true_or, or_true]
theorem fn_in_get {K : Frag} {h : Heap} {f : Addr} (X : K.In h) (hf : fnIn K f = true) : ∃ cf df fd sf, h.get? f = some ⟨cf, df, .func fd, sf⟩ := by
  unfold fnIn at hf
  split at hf
  · rename_i e
    exact ⟨_, _, _, _, X _ _ e⟩
  · cases hf
theorem fr_kst {h₀ h : Heap} {L : Addr} {m₁ : Str → Option Value} (ps : List (Str × Value)) (F : Fr h₀ L h m₁) (e : ∀ p ∈ ps, m₁ p.1 = some p.2) : Fr h₀ L h (kstB m₁ ps) := by
  have : kstB m₁ ps = m₁ := funext fun z => kstB_eq e fun _ => rfl
  rw [this]; exact F
theorem all3 {P : Str × Value → Prop} {a b c : Str × Value} (h1 : P a) (h2 : P b) (h3 : P c) : ∀ p ∈ [a, b, c], P p := by
  intro p hp
  rcases List.mem_cons.mp hp with rfl | hp
  · exact h1
  rcases List.mem_cons.mp hp with rfl | hp
  · exact h2
  rcases List.mem_cons.mp hp with rfl | hp
  · exact h3
  cases hp

local macro_rules | `(tactic| walk_at "inplaceOp Add str str") => `(tactic| (k_here; (with_reducible show wpAny _ _ (inplaceOp Operator.Add (Value.str _ _) (Value.str _ _)) _ _ _); k_dflt (refine' iadd_txt ?l ?_; (case l => (simp only [List.length_append, List.length_cons, List.length_nil]; omega)); k_whole); intro t' tk))
set_option maxRecDepth 100000 in
set_option maxHeartbeats 4000000 in
theorem next_spec {w : World} {p : Program} {loose : List Str} {mean : ExcName → Option Value} {mg mb : Str → Option Value} {A : Around} {A₀ : Around} {base h₀ : Heap} {L : Addr} {m : Str → Option Value} {s : Shared} {Q : Option Value → Shared → Prop} {E : Value → Shared → Prop}
  {dp un : Nat} {gd : Option (List Code)} {cn : Str} {cs : Scope} {a : Addr} {ccd : Value} {cl : List (Str × Addr)} {outer : List Env}
  {ll fr ld lx fs sd pb it q : Addr} {rest : List (Addr × Obj)} {fd fdr : FuncData} {ln : Int} {tl t1 t2 t3 t4 tw t5 ts : Tok} {ws : Str} {c : Nat} {r : List Nat} {tx : Tok}
  (hA : A.in1 = ktrTop dp un gd cn cs L a ccd cl outer)
  (B : Below A₀ base outer h₀) (F : Fr h₀ L s.heap m) (X : (hd.heap_39 w.params).In h₀) (N : News h₀ L s.heap ((ll, listOf #[.str (txt (c :: r)) tx] 0) :: (ld, lexDict w ln tl t1 t2 t3 t4 fs ws tw pb) :: (it, ciObj q ts) :: (q, methodObj (.ref 59) (.ref lx)) :: rest)) (T : Top p loose mean mg mb h₀) (hk : cs.kind = .function)
  (hdp : dp + 4 < recursionLimit) (hun : un + 20 < cLine) (hln : r.length + 1 + ln.natAbs ≤ 100000)
  (o1 : @Ne Nat ld ll) (o2 : ∀ q ∈ rest, q.1 ≠ ll) (o3 : ∀ q ∈ rest, q.1 ≠ ld) (q1 : @Ne Nat q ll) (q2 : @Ne Nat q ld) (i1 : @Ne Nat it ll) (i2 : @Ne Nat it ld)
  (m1 : List.Mem (lx, instObj 76 ld) rest) (m2 : List.Mem (fs, ({ cls := .type "function", dict := some sd, data := .func fd } : Obj)) rest) (m3 : List.Mem (sd, dictOf [⟨PyData.keyHash w.params (Str.ofString "read"), .str (Str.ofString "read") t5, .ref fr⟩] 1) rest)
  (m4 : List.Mem (fr, ({ cls := .type "function", data := .func fdr } : Obj)) rest)
  (hread : ReadSpec PySem.Challenge.rw_tp0038_02.row.prog w (hd.heap_39 w.params) p loose mean mg mb ll fr rest)
  (hret : ∀ tc tx2 ln2 tl2 h' kk, ln2.natAbs ≤ ln.natAbs + 1 → Fr h₀ L h' m → News h₀ L h' ((ll, listOf #[.str (txt r) tx2] 0) :: (ld, lexDict w ln2 tl2 t1 t2 t3 t4 fs ws tw pb) :: (it, ciObj q ts) :: (q, methodObj (.ref 59) (.ref lx)) :: rest) → Q (some (.str (txt [c]) tc)) { s with heap := h', toks := kk }) :
  wpAny (model PySem.Challenge.rw_tp0038_02.row.prog w) A (pyNext (.ref it)) Q E s := by
  revert X; k_fill; intro X
  obtain ⟨cf, df, fd59, sf, hf⟩ := fn_in_get X (f := 59) (by k_is)
  have RR := hread.more [(it, ciObj q ts), (q, methodObj (.ref 59) (.ref lx))]
  dsimp only [List.cons_append, List.nil_append] at RR
  refine ci_next (N.get (by k_mem)) (N.get (by k_mem)) (F.keep _ _ hf) ?_
  rw [hA]
  refine read_char_spec B F X N T hk hdp hun (by rw [List.length_cons]; omega) (by omega) o1 (two o2 i1 q1) (two o3 i2 q2) (.tail _ (.tail _ m1)) (.tail _ (.tail _ m2)) (.tail _ (.tail _ m3)) (.tail _ (.tail _ m4)) RR ?_
  intro tc tx2 ln2 tl2 h' kk hl3 F2 N2
  exact ⟨_, _, rfl, N2.get (by k_mem), txt_one c, hret _ _ _ _ _ _ hl3 F2 N2⟩

set_option maxRecDepth 100000 in
set_option maxHeartbeats 4000000 in
theorem get_token_spec {w : World} {p : Program} {loose : List Str} {mean : ExcName → Option Value} {mg mb : Str → Option Value} {dp un : Nat} {gd : Option (List Code)} {cn : Str} {cs : Scope} {a : Addr} {ccd : Value} {cl : List (Str × Addr)} {outer : List Env} {A₀ : Around} {base h₀ : Heap} {L : Addr} {m : Str → Option Value} {s : Shared} {R : Result → Shared → Prop}
  {ll fr ld lx fs sd pb : Addr} {rest : List (Addr × Obj)} {fd fdr : FuncData} {ln : Int} {tl t1 t2 t3 t4 tw t5 : Tok} {wl x tkn x' : List Nat} {tx : Tok}
  (B : Below A₀ base outer h₀) (F : Fr h₀ L s.heap m) (X : (hd.heap_39 w.params).In h₀) (N : News h₀ L s.heap ((ll, listOf #[.str (txt x) tx] 0) :: (ld, lexDict w ln tl t1 t2 t3 t4 fs (txt wl) tw pb) :: rest)) (T : Top p loose mean mg mb h₀) (hk : cs.kind = .function)
  (hdp : dp + 6 < recursionLimit) (hun : un + 40 < cLine) (hxl : x.length ≤ 100000) (hln : ln.natAbs + x.length ≤ 100000)
  (o1 : @Ne Nat ld ll) (o2 : ∀ q ∈ rest, q.1 ≠ ll) (o3 : ∀ q ∈ rest, q.1 ≠ ld)
  (m0 : List.Mem (pb, listOf #[] 0) rest)
  (m1 : List.Mem (lx, instObj 76 ld) rest) (m2 : List.Mem (fs, ({ cls := .type "function", dict := some sd, data := .func fd } : Obj)) rest) (m3 : List.Mem (sd, dictOf [⟨PyData.keyHash w.params (Str.ofString "read"), .str (Str.ofString "read") t5, .ref fr⟩] 1) rest)
  (m4 : List.Mem (fr, ({ cls := .type "function", data := .func fdr } : Obj)) rest)
  (hread : ReadSpec PySem.Challenge.rw_tp0038_02.row.prog w (hd.heap_39 w.params) p loose mean mg mb ll fr rest)
  (hgt : GT wl x tkn x')
  (hret : ∀ t' tx' ln' tl' h' kk, ln'.natAbs + x'.length ≤ ln.natAbs + x.length → Fr h₀ L h' m → News h₀ L h' ((ll, listOf #[.str (txt x') tx'] 0) :: (ld, lexDict w ln' tl' t1 t2 t3 t4 fs (txt wl) tw pb) :: rest) → R (.ok (.ret (.str (txt tkn) t'))) { s with heap := h', toks := kk }) :
  codeAny (model PySem.Challenge.rw_tp0038_02.row.prog w) (ktrTop dp un gd cn cs L a ccd cl outer) (.call (.ref 66) ⟨[.ref lx], []⟩) R s := by
  revert X; k_fill; intro X
  walk_at "mine:enter"
  rename_i g₁ L₁ hh₁ FG₁ F₁ N₁ B₁ X₁ T₁
  repeat' ((fail_if_success (with_reducible show wpAny _ _ (exec (Stmt.For _ _ _ _ _) _) _ _ _)); walk_at "mine:step")
  refine for_own ?_
  walk_at "mine:go"
  with_reducible rename Fr g₁ L₁ _ _ => F1
  with_reducible rename News g₁ L₁ _ _ => N1
  rename_i _ q h1 l0 it h2 l1 h3
  have FF := fr_kst [(Str.ofString "fiter", .ref it), (Str.ofString "token", .str (txt []) _), (Str.ofString "self", .ref lx)] F1 (all3 rfl rfl rfl)
  obtain ⟨ts, N1⟩ : ∃ ts, News g₁ L₁ h3 ((it, ciObj q ts) :: (q, methodObj (.ref 59) (.ref lx)) :: (ll, listOf #[.str (txt x) tx] 0) :: (ld, lexDict w ln tl t1 t2 t3 t4 fs (txt wl) tw pb) :: rest) := ⟨_, N1⟩
  obtain ⟨q1, q2, q3⟩ := l0
  have NN : News g₁ L₁ h3 ((ll, listOf #[.str (txt x) tx] 0) :: (ld, lexDict w ln tl t1 t2 t3 t4 fs (txt wl) tw pb) :: (it, ciObj q ts) :: (q, methodObj (.ref 59) (.ref lx)) :: rest) := by
    intro p hp
    refine N1 p ?_
    simp only [List.mem_cons] at hp ⊢
    rcases hp with h | h | h | h | h <;> simp only [h, true_or, or_true]
  clear F1 N1
  have i0 := l1 _ (List.Mem.head _)
  have q1' : @Ne Nat q ll := fun e => absurd q1 (by rw [e]; exact Nat.lt_irrefl _)
  have q2' : @Ne Nat q ld := fun e => absurd q2 (by rw [e]; exact Nat.lt_irrefl _)
  have i1' : @Ne Nat it ll := fun e => absurd (l1 _ (List.Mem.tail _ (List.Mem.head _))) (by rw [e]; exact Nat.lt_irrefl _)
  have i2' : @Ne Nat it ld := fun e => absurd (l1 _ (List.Mem.tail _ (List.Mem.tail _ (List.Mem.head _)))) (by rw [e]; exact Nat.lt_irrefl _)
  refine ci_iter (NN.get (by k_mem)) ⟨_, _, rfl, owit_ind (fun k s' => ∃ u h tk' x1 tx1 ln1 tl1 tt, s' = { s with heap := h, toks := tk' } ∧ Fr g₁ L₁ h (kstB u [(Str.ofString "fiter", .ref it), (Str.ofString "token", .str (txt []) tt), (Str.ofString "self", .ref lx)]) ∧ News g₁ L₁ h ((ll, listOf #[.str (txt x1) tx1] 0) :: (ld, lexDict w ln1 tl1 t1 t2 t3 t4 fs (txt wl) tw pb) :: (it, ciObj q ts) :: (q, methodObj (.ref 59) (.ref lx)) :: rest) ∧ GT wl x1 tkn x' ∧ ln1.natAbs + x1.length ≤ ln.natAbs + x.length ∧ x1.length = k) ?step _ _ ⟨_, _, _, _, _, _, _, _, rfl, FF, NN, hgt, Nat.le_refl _, rfl⟩⟩
  case step =>
    rintro k _ ⟨u, h, tk', x1, tx1, ln1, tl1, tt, rfl, F1, N1, G1, hl1, rfl⟩
    obtain ⟨c, r, rfl⟩ := G1.cons
    have hl2 : r.length + 1 + ln1.natAbs ≤ 100000 := by rw [List.length_cons] at hl1; omega
    refine next_spec rfl (by k_asm) F1 X₁ N1 T₁ rfl (by ktr_room) (by ktr_units) hl2 o1 o2 o3 q1' q2' i1' i2' m1 m2 m3 m4 hread ?_
    intro tc tx2 ln2 tl2 h' kk hl3 F2 N2
    dsimp only [OwitTurn]
    walk_at "mine:go"
    · -- the quoted token
      rw [List.length_cons] at hl1
      have k1 := has_no (by assumption)
      obtain rfl := q_yes (by assumption)
      have G2 := G1.inv34 k1
      refine for_own ?_
      walk_at "mine:go"
      with_reducible rename Fr g₁ L₁ _ _ => F3
      with_reducible rename News g₁ L₁ _ _ => N3
      have FF := fr_kst [(Str.ofString "fiter", .ref it), (Str.ofString "token", .str (txt []) _), (Str.ofString "self", .ref lx)] F3 (all3 rfl rfl rfl)
      refine ci_iter (N3.get (by k_mem)) ⟨_, _, rfl, owit_ind (fun k s' => ∃ u h tk' x1 tx1 ln1 tl1 tt ta tb, s' = { s with heap := h, toks := tk' } ∧ Fr g₁ L₁ h (kstB u [(Str.ofString "fiter", .ref it), (Str.ofString "token", .str (txt ta) tt), (Str.ofString "self", .ref lx)]) ∧ News g₁ L₁ h ((ll, listOf #[.str (txt x1) tx1] 0) :: (ld, lexDict w ln1 tl1 t1 t2 t3 t4 fs (txt wl) tw pb) :: (it, ciObj q ts) :: (q, methodObj (.ref 59) (.ref lx)) :: rest) ∧ InQ x1 tb x' ∧ tkn = ta ++ tb ∧ ln1.natAbs + x1.length ≤ ln.natAbs + x.length ∧ ta.length + x1.length ≤ 100000 ∧ x1.length = k) ?stepq _ _ ⟨_, _, _, _, _, _, _, _, _, _, rfl, FF, N3, G2, rfl, by omega, by (simp only [List.length_nil, List.length_cons]; omega), rfl⟩⟩
      case stepq =>
        clear G1 G2 hl1 hl2 hl3 hgt
        rintro k _ ⟨u, h, tk', x1, tx1, ln1, tl1, tt, ta, tb, rfl, F1, N1, GQ, rfl, hl1, hl5, rfl⟩
        obtain ⟨c, r, rfl⟩ := GQ.cons
        rw [List.length_cons] at hl1 hl5
        have hl2 : r.length + 1 + ln1.natAbs ≤ 100000 := by omega
        refine next_spec rfl (by k_asm) F1 X₁ N1 T₁ rfl (by ktr_room) (by ktr_units) hl2 o1 o2 o3 q1' q2' i1' i2' m1 m2 m3 m4 hread ?_
        intro tc tx2 ln2 tl2 h' kk hl3 F2 N2
        dsimp only [OwitTurn]
        walk_at "mine:go"
        · -- the end of the token
          obtain rfl := q_yes (by assumption)
          obtain ⟨rfl, rfl⟩ := GQ.inv34
          rw [List.append_nil] at hret
          with_reducible rename News h₀ L _ _ => NE
          exact hret _ _ _ _ _ _ (by omega) (by k_asm) (news_drop2 NE)
        · -- behind a backslash
          obtain rfl := b_yes (by assumption)
          obtain ⟨d, r2, t2, rfl, rfl, GQ2⟩ := GQ.inv92
          rw [List.length_cons] at hl1 hl2 hl5
          with_reducible rename Fr g₁ L₁ _ _ => F3
          with_reducible rename News g₁ L₁ _ _ => N3
          refine wpAny_call (read_char_spec (by k_asm) F3 X₁ N3 T₁ rfl (by ktr_room) (by ktr_units) (by rw [List.length_cons]; omega) (by omega) o1 (two o2 i1' q1') (two o3 i2' q2') (.tail _ (.tail _ m1)) (.tail _ (.tail _ m2)) (.tail _ (.tail _ m3)) (.tail _ (.tail _ m4)) (hread.more [(it, ciObj q ts), (q, methodObj (.ref 59) (.ref lx))]) ?_)
          intro t4' tx4 ln4 tl4 h4 k4 hl4 F4 N4
          dsimp only [List.drop, List.take] at N4 ⊢
          walk_at "mine:go"
          with_reducible rename Fr g₁ L₁ _ _ => F5
          with_reducible rename News g₁ L₁ _ _ => N5
          exact ⟨r2.length, by (simp only [List.length_cons]; omega), _, _, _, _, _, _, _, _, _, _, rfl, fr_kst [(Str.ofString "fiter", .ref it), (Str.ofString "token", .str (txt (ta ++ [d])) _), (Str.ofString "self", .ref lx)] F5 (all3 rfl rfl rfl), N5, GQ2, (List.append_assoc ta [d] t2).symm, by omega, by (simp only [List.length_append, List.length_cons, List.length_nil]; omega), rfl⟩
        · -- any other sign
          obtain ⟨t2, rfl, GQ2⟩ := GQ.invp (q_no (by assumption)) (b_no (by assumption))
          walk_at "mine:go"
          with_reducible rename Fr g₁ L₁ _ _ => F5
          with_reducible rename News g₁ L₁ _ _ => N5
          exact ⟨r.length, by (simp only [List.length_cons]; omega), _, _, _, _, _, _, _, _, _, _, rfl, fr_kst [(Str.ofString "fiter", .ref it), (Str.ofString "token", .str (txt (ta ++ [c])) _), (Str.ofString "self", .ref lx)] F5 (all3 rfl rfl rfl), N5, GQ2, (List.append_assoc ta [c] t2).symm, by omega, by (simp only [List.length_append, List.length_cons, List.length_nil]; omega), rfl⟩
    · -- a word that starts with a backslash
      have k1 := has_no (by assumption)
      obtain rfl := b_yes (by assumption)
      obtain ⟨c0, r2, tb0, rfl, htk, G2⟩ := G1.inv92 k1
      simp only [List.length_cons] at hl1 hl2
      with_reducible rename Fr g₁ L₁ _ _ => F3
      with_reducible rename News g₁ L₁ _ _ => N3
      refine wpAny_call (read_char_spec (by k_asm) F3 X₁ N3 T₁ rfl (by ktr_room) (by ktr_units) (by rw [List.length_cons]; omega) (by omega) o1 (two o2 i1' q1') (two o3 i2' q2') (.tail _ (.tail _ m1)) (.tail _ (.tail _ m2)) (.tail _ (.tail _ m3)) (.tail _ (.tail _ m4)) (hread.more [(it, ciObj q ts), (q, methodObj (.ref 59) (.ref lx))]) ?_)
      intro t4' tx4 ln4 tl4 h4 k4 hl4 F4 N4
      dsimp only [List.drop, List.take] at N4 ⊢
      walk_at "mine:go"
      refine for_own ?_
      walk_at "mine:go"
      with_reducible rename Fr g₁ L₁ _ _ => F3
      with_reducible rename News g₁ L₁ _ _ => N3
      have FF := fr_kst [(Str.ofString "fiter", .ref it), (Str.ofString "token", .str (txt [c0]) _), (Str.ofString "self", .ref lx)] F3 (all3 rfl rfl rfl)
      refine ci_iter (N3.get (by k_mem)) ⟨_, _, rfl, owit_ind (fun k s' => ∃ u h tk' x1 tx1 ln1 tl1 tt ta tb, s' = { s with heap := h, toks := tk' } ∧ Fr g₁ L₁ h (kstB u [(Str.ofString "fiter", .ref it), (Str.ofString "token", .str (txt ta) tt), (Str.ofString "self", .ref lx)]) ∧ News g₁ L₁ h ((ll, listOf #[.str (txt x1) tx1] 0) :: (ld, lexDict w ln1 tl1 t1 t2 t3 t4 fs (txt wl) tw pb) :: (it, ciObj q ts) :: (q, methodObj (.ref 59) (.ref lx)) :: rest) ∧ InW wl x1 tb x' ∧ tkn = ta ++ tb ∧ ln1.natAbs + x1.length ≤ ln.natAbs + x.length ∧ ta.length + x1.length ≤ 100000 ∧ x1.length = k) ?stepv _ _ ⟨_, _, _, _, _, _, _, _, _, _, rfl, FF, N3, G2, htk, by omega, by (simp only [List.length_nil, List.length_cons]; omega), rfl⟩⟩
      case stepv =>
        clear G1 G2 hl1 hl2 hl3 hgt htk
        rintro k _ ⟨u, h, tk', x1, tx1, ln1, tl1, tt, ta, tb, rfl, F1, N1, GQ, rfl, hl1, hl5, rfl⟩
        obtain ⟨c, r, rfl⟩ := GQ.cons
        rw [List.length_cons] at hl1 hl5
        have hl2 : r.length + 1 + ln1.natAbs ≤ 100000 := by omega
        refine next_spec rfl (by k_asm) F1 X₁ N1 T₁ rfl (by ktr_room) (by ktr_units) hl2 o1 o2 o3 q1' q2' i1' i2' m1 m2 m3 m4 hread ?_
        intro tc tx2 ln2 tl2 h' kk hl3 F2 N2
        dsimp only [OwitTurn]
        walk_at "mine:go"
        · -- behind a backslash
          obtain rfl := b_yes (by assumption)
          obtain ⟨d, r2, t2, rfl, rfl, GQ2⟩ := GQ.inv92 (has_no (by assumption))
          rw [List.length_cons] at hl1 hl2 hl5
          with_reducible rename Fr g₁ L₁ _ _ => F3
          with_reducible rename News g₁ L₁ _ _ => N3
          refine wpAny_call (read_char_spec (by k_asm) F3 X₁ N3 T₁ rfl (by ktr_room) (by ktr_units) (by rw [List.length_cons]; omega) (by omega) o1 (two o2 i1' q1') (two o3 i2' q2') (.tail _ (.tail _ m1)) (.tail _ (.tail _ m2)) (.tail _ (.tail _ m3)) (.tail _ (.tail _ m4)) (hread.more [(it, ciObj q ts), (q, methodObj (.ref 59) (.ref lx))]) ?_)
          intro t4' tx4 ln4 tl4 h4 k4 hl4 F4 N4
          dsimp only [List.drop, List.take] at N4 ⊢
          walk_at "mine:go"
          with_reducible rename Fr g₁ L₁ _ _ => F5
          with_reducible rename News g₁ L₁ _ _ => N5
          exact ⟨r2.length, by (simp only [List.length_cons]; omega), _, _, _, _, _, _, _, _, _, _, rfl, fr_kst [(Str.ofString "fiter", .ref it), (Str.ofString "token", .str (txt (ta ++ [d])) _), (Str.ofString "self", .ref lx)] F5 (all3 rfl rfl rfl), N5, GQ2, (List.append_assoc ta [d] t2).symm, by omega, by (simp only [List.length_append, List.length_cons, List.length_nil]; omega), rfl⟩
        · -- any other sign
          obtain ⟨t2, rfl, GQ2⟩ := GQ.invp (has_no (by assumption)) (b_no (by assumption))
          walk_at "mine:go"
          with_reducible rename Fr g₁ L₁ _ _ => F5
          with_reducible rename News g₁ L₁ _ _ => N5
          exact ⟨r.length, by (simp only [List.length_cons]; omega), _, _, _, _, _, _, _, _, _, _, rfl, fr_kst [(Str.ofString "fiter", .ref it), (Str.ofString "token", .str (txt (ta ++ [c])) _), (Str.ofString "self", .ref lx)] F5 (all3 rfl rfl rfl), N5, GQ2, (List.append_assoc ta [c] t2).symm, by omega, by (simp only [List.length_append, List.length_cons, List.length_nil]; omega), rfl⟩
        · -- the end of the token
          obtain ⟨rfl, rfl⟩ := GQ.invs (has_yes (by assumption))
          rw [List.append_nil] at hret
          with_reducible rename News h₀ L _ _ => NE
          exact hret _ _ _ _ _ _ (by omega) (by k_asm) (news_drop2 NE)
    · -- a word that starts with another sign
      rw [List.length_cons] at hl1
      have k1 := has_no (by assumption)
      obtain ⟨tb0, htk, G2⟩ := G1.invw k1 (q_no (by assumption)) (b_no (by assumption))
      obtain ⟨c0, hc0⟩ : ∃ c0, c0 = c := ⟨c, rfl⟩
      subst hc0
      refine for_own ?_
      walk_at "mine:go"
      with_reducible rename Fr g₁ L₁ _ _ => F3
      with_reducible rename News g₁ L₁ _ _ => N3
      have FF := fr_kst [(Str.ofString "fiter", .ref it), (Str.ofString "token", .str (txt [c0]) _), (Str.ofString "self", .ref lx)] F3 (all3 rfl rfl rfl)
      refine ci_iter (N3.get (by k_mem)) ⟨_, _, rfl, owit_ind (fun k s' => ∃ u h tk' x1 tx1 ln1 tl1 tt ta tb, s' = { s with heap := h, toks := tk' } ∧ Fr g₁ L₁ h (kstB u [(Str.ofString "fiter", .ref it), (Str.ofString "token", .str (txt ta) tt), (Str.ofString "self", .ref lx)]) ∧ News g₁ L₁ h ((ll, listOf #[.str (txt x1) tx1] 0) :: (ld, lexDict w ln1 tl1 t1 t2 t3 t4 fs (txt wl) tw pb) :: (it, ciObj q ts) :: (q, methodObj (.ref 59) (.ref lx)) :: rest) ∧ InW wl x1 tb x' ∧ tkn = ta ++ tb ∧ ln1.natAbs + x1.length ≤ ln.natAbs + x.length ∧ ta.length + x1.length ≤ 100000 ∧ x1.length = k) ?stepw _ _ ⟨_, _, _, _, _, _, _, _, _, _, rfl, FF, N3, G2, htk, by omega, by (simp only [List.length_nil, List.length_cons]; omega), rfl⟩⟩
      case stepw =>
        clear G1 G2 hl1 hl2 hl3 hgt htk
        rintro k _ ⟨u, h, tk', x1, tx1, ln1, tl1, tt, ta, tb, rfl, F1, N1, GQ, rfl, hl1, hl5, rfl⟩
        obtain ⟨c, r, rfl⟩ := GQ.cons
        rw [List.length_cons] at hl1 hl5
        have hl2 : r.length + 1 + ln1.natAbs ≤ 100000 := by omega
        refine next_spec rfl (by k_asm) F1 X₁ N1 T₁ rfl (by ktr_room) (by ktr_units) hl2 o1 o2 o3 q1' q2' i1' i2' m1 m2 m3 m4 hread ?_
        intro tc tx2 ln2 tl2 h' kk hl3 F2 N2
        dsimp only [OwitTurn]
        walk_at "mine:go"
        · -- behind a backslash
          obtain rfl := b_yes (by assumption)
          obtain ⟨d, r2, t2, rfl, rfl, GQ2⟩ := GQ.inv92 (has_no (by assumption))
          rw [List.length_cons] at hl1 hl2 hl5
          with_reducible rename Fr g₁ L₁ _ _ => F3
          with_reducible rename News g₁ L₁ _ _ => N3
          refine wpAny_call (read_char_spec (by k_asm) F3 X₁ N3 T₁ rfl (by ktr_room) (by ktr_units) (by rw [List.length_cons]; omega) (by omega) o1 (two o2 i1' q1') (two o3 i2' q2') (.tail _ (.tail _ m1)) (.tail _ (.tail _ m2)) (.tail _ (.tail _ m3)) (.tail _ (.tail _ m4)) (hread.more [(it, ciObj q ts), (q, methodObj (.ref 59) (.ref lx))]) ?_)
          intro t4' tx4 ln4 tl4 h4 k4 hl4 F4 N4
          dsimp only [List.drop, List.take] at N4 ⊢
          walk_at "mine:go"
          with_reducible rename Fr g₁ L₁ _ _ => F5
          with_reducible rename News g₁ L₁ _ _ => N5
          exact ⟨r2.length, by (simp only [List.length_cons]; omega), _, _, _, _, _, _, _, _, _, _, rfl, fr_kst [(Str.ofString "fiter", .ref it), (Str.ofString "token", .str (txt (ta ++ [d])) _), (Str.ofString "self", .ref lx)] F5 (all3 rfl rfl rfl), N5, GQ2, (List.append_assoc ta [d] t2).symm, by omega, by (simp only [List.length_append, List.length_cons, List.length_nil]; omega), rfl⟩
        · -- any other sign
          obtain ⟨t2, rfl, GQ2⟩ := GQ.invp (has_no (by assumption)) (b_no (by assumption))
          walk_at "mine:go"
          with_reducible rename Fr g₁ L₁ _ _ => F5
          with_reducible rename News g₁ L₁ _ _ => N5
          exact ⟨r.length, by (simp only [List.length_cons]; omega), _, _, _, _, _, _, _, _, _, _, rfl, fr_kst [(Str.ofString "fiter", .ref it), (Str.ofString "token", .str (txt (ta ++ [c])) _), (Str.ofString "self", .ref lx)] F5 (all3 rfl rfl rfl), N5, GQ2, (List.append_assoc ta [c] t2).symm, by omega, by (simp only [List.length_append, List.length_cons, List.length_nil]; omega), rfl⟩
        · -- the end of the token
          obtain ⟨rfl, rfl⟩ := GQ.invs (has_yes (by assumption))
          rw [List.append_nil] at hret
          with_reducible rename News h₀ L _ _ => NE
          exact hret _ _ _ _ _ _ (by omega) (by k_asm) (news_drop2 NE)
    · -- a blank
      rw [List.length_cons] at hl1
      with_reducible rename Fr g₁ L₁ _ _ => F5
      with_reducible rename News g₁ L₁ _ _ => N5
      exact ⟨r.length, by (simp only [List.length_cons]; omega), _, _, _, _, _, _, _, _, rfl, fr_kst [(Str.ofString "fiter", .ref it), (Str.ofString "token", .str (txt []) _), (Str.ofString "self", .ref lx)] F5 (all3 rfl rfl rfl), N5, G1.invs (has_yes (by assumption)), by omega, rfl⟩
end Mine
end
local macro_rules | `(tactic| walk_at "mine:none2") => `(tactic| fail "none")
local macro_rules | `(tactic| walk_at "mine:none3") => `(tactic| fail "none")
local macro_rules | `(tactic| walk_at "mine:none4") => `(tactic| fail "none")
local macro_rules | `(tactic| walk_at "mine:none5") => `(tactic| fail "none")
theorem Mine.fresh_LR : True := by
  w_top off
  k_with_none
  trivial
section
open PySem PySem.W PyProof.Rows PySem.Calls
namespace Mine
local macro_rules | `(tactic| k_room) => `(tactic| ktr_room)
local macro_rules | `(tactic| walk_at "setAttr ref") => `(tactic| (k_here; k_dflt (refine' fn_setattr ?F ?X ?N ?U ?n ?_; (case F => k_asm); (case X => k_asm); (case N => k_asm); (case U => k_updF); (case n => kernel_rfl); k_whole); intro d' h' tk' F' N' l1; (try dsimp only at N'); (try k_lt l1); (try k_sweep)))
theorem reord12 {h₀ h : Heap} {L : Addr} {a0 a1 a2 a3 a4 a5 a6 a7 a8 a9 a10 a11 : Addr × Obj} {tl : List (Addr × Obj)} (N : News h₀ L h (a0 :: a1 :: a2 :: a3 :: a4 :: a5 :: a6 :: a7 :: a8 :: a9 :: a10 :: a11 :: tl)) : News h₀ L h (a8 :: a2 :: a0 :: a1 :: a3 :: a4 :: a5 :: a6 :: a7 :: a9 :: a10 :: a11 :: tl) := by
  intro p hp
  refine N p ?_
  simp only [List.mem_cons] at hp ⊢
  rcases hp with h | h | h | h | h | h | h | h | h | h | h | h | h <;> simp only [h, true_or, or_true]
theorem fin_led {h₀ h : Heap} {L : Addr} {a b c d a0 a1 a3 a4 a5 a6 a7 a9 a10 a11 : Addr × Obj} {tl : List (Addr × Obj)} (N : News h₀ L h (a :: b :: c :: d :: a0 :: a1 :: a3 :: a4 :: a5 :: a6 :: a7 :: a9 :: a10 :: a11 :: tl)) : News h₀ L h (a :: b :: a11 :: a7 :: a5 :: tl) := by
  intro p hp
  refine N p ?_
  simp only [List.mem_cons] at hp ⊢
  rcases hp with h | h | h | h | h | h <;> simp only [h, true_or, or_true]
theorem slice_to1 (xl : List Nat) : Txt.slice (txt xl) none (some 1) = txt (xl.take 1) := by
  cases xl with
  | nil => exact (by decide +kernel : Txt.slice (txt []) none (some 1) = txt [])
  | cons c r =>
    have := beq_iff_eq.mp (slice_closes_to (x := txt (c :: r)) (j := 1) ⟨by decide, by show (1 : Int) ≤ ((c :: r).length : Int); rw [List.length_cons]; omega⟩)
    rw [this]
    show Str.mk _ = Str.mk _
    simp
theorem slice_from1 (xl : List Nat) : Txt.slice (txt xl) (some 1) none = txt (xl.drop 1) := by
  cases xl with
  | nil => exact (by decide +kernel : Txt.slice (txt []) (some 1) none = txt [])
  | cons c r =>
    have := beq_iff_eq.mp (slice_closes_from (x := txt (c :: r)) (i := 1) ⟨by decide, by show (1 : Int) ≤ ((c :: r).length : Int); rw [List.length_cons]; omega⟩)
    rw [this]
    show Str.mk _ = Str.mk _
    simp
inductive GTs (ws : List Nat) : List Nat → List (List Nat) → List Nat → Prop
  | nil (x) : GTs ws x [] x
  | cons {x t y ts z} : GT ws x t y → GTs ws y ts z → GTs ws x (t :: ts) z
theorem rest_ind {prog : Program} {w : World} {A : Around} {h₀ : Heap} {L : Addr} {m : Str → Option Value} {env : Env} {elt : Expr} {x : Str} {scope : Scope} {cl : List (Str × Addr)} {s : Shared} {S : List (Addr × Obj) → Prop} {P : Nat → Value → Prop}
    {Fin : List Value → List (Addr × Obj) → Prop} (J : Nat → Nat → List Value → List (Addr × Obj) → Prop) (fin : ∀ i ys news, J 0 i ys news → Fin ys news)
    (step : ∀ k i ys news, J (k + 1) i ys news → ∀ v I oI C oC D m₂ h tk (E' : Value → Shared → Prop), P i v → LCg.NsObj oC m₂ → m₂ x = some v → Fr h₀ L h m → News h₀ L h ((I, oI) :: (C, oC) :: (D, LCg.lst ys) :: news) → LCg.Off3 I C D news → ((@Ne Nat I C) ∧ (@Ne Nat I D) ∧ (@Ne Nat C D)) →
      wpAny (model prog w) A (eval elt (compEnvC scope cl C env)) (LCg.CompEnd h₀ L m { s with heap := h, toks := tk } I oI C oC D (LCg.lst ys) S (fun y news' => J k (i + 1) (ys ++ [y]) news')) E' { s with heap := h, toks := tk }) :
    ∀ k i ys news, J k i ys news → LCg.CompRest prog w A h₀ L m env elt x scope cl s S P Fin k i ys news := by
  intro k
  induction k with
  | zero => intro i ys news h; exact fin i ys news h
  | succ k ih =>
    intro i ys news hJ
    refine LCg.CompRest.succ ?_
    intro v I oI C oC D m₂ h tk E' a1 a2 a3 a4 a5 a6 a7
    refine wpAny_mono (step k i ys news hJ v I oI C oC D m₂ h tk E' a1 a2 a3 a4 a5 a6 a7) (fun y s₂ h₂ => ?_) fun _ _ z => z
    obtain ⟨h', tk', news', e, F', N', O', S', r'⟩ := h₂
    exact ⟨h', tk', news', e, F', N', O', S', ih _ _ _ r'⟩
theorem rs_use {prog : Program} {w : World} {K : Frag} {p : Program} {loose : List Str} {mean : ExcName → Option Value} {mg mb : Str → Option Value} {ll fr : Addr} {rest : List (Addr × Obj)} {h₀ h : Heap} {L : Addr} {a b : Addr × Obj} {P : Prop}
    (_N : News h₀ L h (a :: b :: rest)) (r : ReadSpec prog w K p loose mean mg mb ll fr rest) (k : ∀ rest', rest' = rest → News h₀ L h (a :: b :: rest') → ReadSpec prog w K p loose mean mg mb ll fr rest' → P) : P := k rest rfl _N r
section
variable {h₀ h : Heap} {L : Addr} {x a0 a1 a2 a3 a4 a5 a6 a7 a8 a9 : Addr × Obj} {pre r : List (Addr × Obj)}
theorem pm5 (_N : News h₀ L h (x :: (pre ++ a0 :: a1 :: a2 :: a3 :: a4 :: a5 :: r))) : a5 ∈ (x :: (pre ++ a0 :: a1 :: a2 :: a3 :: a4 :: a5 :: r)) := List.Mem.tail _ (List.mem_append_right pre (.tail _ (.tail _ (.tail _ (.tail _ (.tail _ (.head _)))))))
theorem pm6 (_N : News h₀ L h (x :: (pre ++ a0 :: a1 :: a2 :: a3 :: a4 :: a5 :: a6 :: r))) : a6 ∈ (x :: (pre ++ a0 :: a1 :: a2 :: a3 :: a4 :: a5 :: a6 :: r)) := List.Mem.tail _ (List.mem_append_right pre (.tail _ (.tail _ (.tail _ (.tail _ (.tail _ (.tail _ (.head _))))))))
theorem pm7 (_N : News h₀ L h (x :: (pre ++ a0 :: a1 :: a2 :: a3 :: a4 :: a5 :: a6 :: a7 :: r))) : a7 ∈ (x :: (pre ++ a0 :: a1 :: a2 :: a3 :: a4 :: a5 :: a6 :: a7 :: r)) := List.Mem.tail _ (List.mem_append_right pre (.tail _ (.tail _ (.tail _ (.tail _ (.tail _ (.tail _ (.tail _ (.head _)))))))))
theorem pm8 (_N : News h₀ L h (x :: (pre ++ a0 :: a1 :: a2 :: a3 :: a4 :: a5 :: a6 :: a7 :: a8 :: r))) : a8 ∈ (x :: (pre ++ a0 :: a1 :: a2 :: a3 :: a4 :: a5 :: a6 :: a7 :: a8 :: r)) := List.Mem.tail _ (List.mem_append_right pre (.tail _ (.tail _ (.tail _ (.tail _ (.tail _ (.tail _ (.tail _ (.tail _ (.head _))))))))))
end
theorem ne_all {d x : Nat} : ∀ {l : List (Addr × Obj)}, AllLt d l → @LE.le Nat _ d x → ∀ q ∈ l, q.1 ≠ x
  | [], _, _, _, h => nomatch h
  | p :: r, a, e, q, h => by
    rcases List.mem_cons.mp h with rfl | h
    · exact Nat.ne_of_lt (Nat.lt_of_lt_of_le a.1 e)
    · exact ne_all a.2 e q h
local macro_rules | `(tactic| k_all) => `(tactic| first | assumption | (refine ne_all (by assumption) ?_; omega))
theorem three {rest : List (Addr × Obj)} {a b c : Addr × Obj} {x : Addr} (h : ∀ q ∈ rest, q.1 ≠ x) (ha : @Ne Nat a.1 x) (hb : @Ne Nat b.1 x) (hc : @Ne Nat c.1 x) : ∀ q ∈ a :: b :: c :: rest, q.1 ≠ x := by
  intro q hq
  rcases List.mem_cons.mp hq with rfl | hq
  · exact ha
  rcases List.mem_cons.mp hq with rfl | hq
  · exact hb
  rcases List.mem_cons.mp hq with rfl | hq
  · exact hc
  exact h q hq
local macro_rules | `(tactic| k_mem) => `(tactic| with_reducible assumption)
noncomputable abbrev tabFull (c1 c2 : Addr) : Obj := tabObj (#[] ++ #[rawInt ↑177, rawInt ↑4, Value.ref c1] ++ #[rawInt ↑181, rawInt ↑13, Value.ref c2])
/-- a code object of a given qualified name -/
noncomputable def CodeOb (o : Obj) (q : Str) : Prop := ∃ vs t, o.data = .fields vs ∧ vs[1]? = some (.str q t)
set_option maxRecDepth 100000 in
set_option maxHeartbeats 4000000 in
theorem law_read_first {w : World} {p : Program} {loose : List Str} {mean : ExcName → Option Value} {mg mb : Str → Option Value} {dp un : Nat} {gd : Option (List Code)} {cn : Str} {cs : Scope} {a : Addr} {ccd : Value} {cl : List (Str × Addr)} {outer : List Env} {A₀ : Around} {base h₀ : Heap} {L : Addr} {m : Str → Option Value} {news : List (Addr × Obj)} {s : Shared} {R : Result → Shared → Prop}
  (B : Below A₀ base outer h₀) (F : Fr h₀ L s.heap m) (X : (hd.heap_39 w.params).In h₀) (N : News h₀ L s.heap ((269, tabObj #[]) :: news)) (T : Top p loose mean mg mb h₀) (hk : cs.kind = .function)
  (C9 : CodeHd base 271 269) (hdp : dp + 10 < recursionLimit) (hun : un + 60 < cLine) {x : List Nat} {t : Tok} {wl : List Nat} {u : Tok} {k : Int} {v : Tok} {tks : List (List Nat)} {xend : List Nat} (hx : x.length ≤ 50000) (hkt : tks.length ≤ 1000) (hkk : k = (tks.length : Int))
  (G : GTs wl x tks xend) (o9 : ∀ q ∈ news, q.1 ≠ 269)
  (hret : ∀ tup D ys te h' tk' c1 c2 oc1 oc2, StrsAre ys (tks.map txt) → CodeOb oc1 (Str.ofString "_law_read.<locals>.read") → CodeOb oc2 (Str.ofString "_law_read.<locals>.<lambda>") → Fr h₀ L h' m →
    News h₀ L h' ((tup, ({ cls := .type "tuple", data := .seq #[.ref D, .str (txt xend) te] } : Obj)) :: (D, LCg.lst ys) :: (269, tabFull c1 c2) :: (c1, oc1) :: (c2, oc2) :: news) → R (.ok (.ret (.ref tup))) { s with heap := h', toks := tk' }) :
  codeAny (model PySem.Challenge.rw_tp0038_02.row.prog w) (ktrTop dp un gd cn cs L a ccd cl outer) (.call (.ref 272) ⟨[.str (txt x) t, .str (txt wl) u, .int k v], []⟩) R s := by
  revert X; k_fill; intro X
  walk_at "mine:enter"
  rename_i g₁ L₁ h₁ tk₁ FG₁ F₁ B₁ X₁ T₁ l₁ oc2 oc1 dc2 dc1 N₁
  obtain ⟨l₁, lA⟩ := l₁
  repeat' ((fail_if_success (with_reducible show LCg.CompSrc _ _ _ _ _ _ _ _ _ _ _ _ _ _)); walk_at "mine:step")
  rename_i ll h2 l_ll h3 oL dL tkA fr c1 oc1' vs1 tc1 ct1 dcv1 h4 tkB dc1a dc1b l_c1 l_fr h5 fs c2 oc2' vs2 tc2 ct2 h6 tkC dc2a dc2b l_c2 l_fs h7 sd h8 tkD l_sd lx ld h9 l_ld l_lx gi Li hi Bi Xi Ti tkE hj1 hj2 hj3 pb hj4 l_pb hj5 Fi Ni tk Tc kX hk1 oX dX hk2 Fa Na hk3 tkF t₁ u₁ v₁ IR FF NN KP
  clear Na Fa Ni Fi
  have NR := reord12 NN
  refine rs_use NR (p := p) (loose := loose) (mean := mean) (mg := mg) (mb := mb) (fr := fr) (ll := ll) (prog := PySem.Challenge.rw_tp0038_02.row.prog) (w := w) (K := hd.heap_39 w.params) ?rd ?_
  case rd =>
    clear NR NN FF IR KP B F N T X B₁ FG₁ T₁ hk
    intro dp un gd cn cs a ccd cl outer A₀ base h₀ L m pre s xl tx t R B F X N hne T hk hd hu hx hret
    have M5 := pm5 N
    have M6 := pm6 N
    have M7 := pm7 N
    have M8 := pm8 N
    refine code_nest B F X N T rfl rfl hk M5 (codeRec_news N M6 dc1a dc1b) (by ktr_room) (BindsTo.of_eq rfl) (locs rfl) ?_ rfl rfl rfl (by decide)
    k_whole
    intro g' L' h' FG' F' N' B' X' T'
    (try dsimp only)
    k_steps
    rw [slice_to1]
    with_reducible rename News h₀ L _ _ => NE
    rw [slice_from1] at NE
    exact hret _ _ _ _ (by k_asm) NE
  intro rest0 hr0 NR RD
  have m0 : List.Mem (pb, listOf #[] 0) rest0 := by rw [hr0]; exact .head _
  have m1 : List.Mem (lx, instObj 76 ld) rest0 := by rw [hr0]; exact .tail _ (.head _)
  have mX : List.Mem (L₁ + 1, oX) rest0 := by rw [hr0]; exact .tail _ (.tail _ (.tail _ (.tail _ (.tail _ (.tail _ (.tail _ (.tail _ (.head _))))))))
  have m2 := (by rw [hr0]; exact .tail _ (.tail _ (.tail _ (.head _))) : List.Mem (fs, ({ cls := .type "function", dict := some sd, data := .func _ } : Obj)) rest0)
  have m3 := (by rw [hr0]; exact .tail _ (.tail _ (.head _)) : List.Mem (sd, dictOf [⟨PyData.keyHash w.params (Str.ofString "read"), .str (Str.ofString "read") _, .ref fr⟩] 1) rest0)
  have m4 := (by rw [hr0]; exact .tail _ (.tail _ (.tail _ (.tail _ (.tail _ (.head _))))) : List.Mem (fr, ({ cls := .type "function", data := .func _ } : Obj)) rest0)
  have oLL : ∀ q ∈ rest0, q.1 ≠ ll := by rw [hr0]; k_all
  have oLD : ∀ q ∈ rest0, q.1 ≠ ld := by rw [hr0]; k_all
  have oDL : @Ne Nat ld ll := Nat.ne_of_gt (by omega)
  have mL : List.Mem (L₁ + 1 + 1, oL) rest0 := by rw [hr0]; exact .tail _ (.tail _ (.tail _ (.tail _ (.tail _ (.tail _ (.tail _ (.head _)))))))
  subst hkk
  refine LCg.CompSrc.range (n := tks.length) rfl FF NR IR (small_one (by decide) (by decide) (by omega) (by omega)) (by rw [rangeSize_nat]; omega) (by rw [sizeLine_eq]; omega) ?_
  intro g2
  refine rest_ind (fun k i ys nw => ∃ xr tx ln tl t1 t2 t3 t4 tw dn todo, nw = (ll, listOf #[.str (txt xr) tx] 0) :: (ld, lexDict w ln tl t1 t2 t3 t4 fs (txt wl) tw pb) :: rest0 ∧ tks = dn ++ todo ∧ todo.length = k ∧ StrsAre ys (dn.map txt) ∧ GTs wl xr todo xend ∧ Int.natAbs ln + xr.length ≤ 1 + x.length) ?_ ?_ _ _ _ _ ⟨_, _, _, _, _, _, _, _, _, [], tks, rfl, rfl, rfl, .nil, G, by simp⟩
  · rintro i ys nw ⟨xr, tx, ln, tl, t1, t2, t3, t4, tw, dn, todo, rfl, htk, ht0, hys, hG, hl⟩
    obtain rfl := List.length_eq_zero_iff.mp ht0
    cases hG
    rw [List.append_nil] at htk
    subst htk
    k_steps
    with_reducible rename News h₀ L _ _ => NE
    rw [hr0] at NE
    exact hret _ _ _ _ _ _ c1 c2 oc1' oc2' hys ⟨vs1, tc1, dc1a, dc1b.trans (by kernel_rfl)⟩ ⟨vs2, tc2, dc2a, dc2b.trans (by kernel_rfl)⟩ (by k_asm) (fin_led NE)
  · rintro k i ys nw ⟨xr, tx, ln, tl, t1, t2, t3, t4, tw, dn, todo, rfl, htk, ht0, hys, hG, hl⟩ v I oI C oC D m₂ h tk9 E' hv hC hm₂ F3 N3 off ne
    cases hG with
    | nil => exact absurd ht0 (by simp)
    | @cons _ tk0 y0 todo _ G1 G2 =>
      rw [List.length_cons] at ht0
      have ht1 := Nat.succ.inj ht0
      obtain ⟨t9, rfl⟩ := hv
      repeat' ((fail_if_success (with_reducible show wpAny _ _ (call (Value.ref 66) _ _) _ _ _)); walk_at "mine:step")
      have N4 : News g₁ L₁ h ((ll, listOf #[.str (txt xr) tx] 0) :: (ld, lexDict w ln tl t1 t2 t3 t4 fs (txt wl) tw pb) :: (I, oI) :: (C, oC) :: (D, LCg.lst ys) :: rest0) := by
        intro p hp
        refine N3 p ?_
        simp only [List.mem_cons] at hp ⊢
        rcases hp with h | h | h | h | h | h <;> simp only [h, true_or, or_true]
      refine wpAny_call (get_token_spec (x' := y0) (tkn := tk0) B₁ F3 X₁ N4 T₁ rfl (by ktr_room) (by ktr_units) (by omega) (by omega) oDL (three oLL (Ne.symm off.1.1) (Ne.symm off.1.2.1) (Ne.symm off.1.2.2)) (three oLD (Ne.symm off.2.1.1) (Ne.symm off.2.1.2.1) (Ne.symm off.2.1.2.2)) (.tail _ (.tail _ (.tail _ m0))) (.tail _ (.tail _ (.tail _ m1))) (.tail _ (.tail _ (.tail _ m2))) (.tail _ (.tail _ (.tail _ m3))) (.tail _ (.tail _ (.tail _ m4))) (RD.more [(I, oI), (C, oC), (D, LCg.lst ys)]) G1 ?_)
      intro tt tx2 ln2 tl2 h5 k5 hl5 F5 N5
      repeat' ((fail_if_success (with_reducible show LCg.CompEnd _ _ _ _ _ _ _ _ _ _ _ _ _ _)); walk_at "mine:step")
      refine LCg.CompEnd.intro F5 N5 ((ll, listOf #[.str (txt y0) tx2] 0) :: (ld, lexDict w ln2 tl2 t1 t2 t3 t4 fs (txt wl) tw pb) :: rest0) ?_ off trivial ⟨_, _, _, _, _, _, _, _, _, dn ++ [tk0], todo, rfl, by rw [htk, List.append_assoc]; rfl, ht1, ?_, G2, by omega⟩
      · intro p hp
        simp only [List.mem_cons] at hp ⊢
        rcases hp with h | h | h | h | h | h <;> simp only [h, true_or, or_true]
      · rw [List.map_append]
        exact StrsAre.append' hys (.cons _ _ .nil)
end Mine
end
local macro_rules | `(tactic| walk_at "mine:none6") => `(tactic| fail "none")
theorem Mine.fresh_LR2 : True := by
  w_top off
  k_with_none
  trivial
section
open PySem PySem.W PyProof.Rows PySem.Calls
namespace Mine
local macro_rules | `(tactic| k_room) => `(tactic| ktr_room)
local macro_rules | `(tactic| walk_at "setAttr ref") => `(tactic| (k_here; k_dflt (refine' fn_setattr ?F ?X ?N ?U ?n ?_; (case F => k_asm); (case X => k_asm); (case N => k_asm); (case U => k_updF); (case n => kernel_rfl); k_whole); intro d' h' tk' F' N' l1; (try dsimp only at N'); (try k_lt l1); (try k_sweep)))
local macro_rules | `(tactic| k_all) => `(tactic| first | assumption | (refine ne_all (by assumption) ?_; omega))
local macro_rules | `(tactic| k_mem) => `(tactic| with_reducible assumption)
theorem reord12b {h₀ h : Heap} {L : Addr} {a0 a1 a2 a3 a4 a5 a6 a7 a8 a9 a10 a11 : Addr × Obj} {tl : List (Addr × Obj)} (N : News h₀ L h (a0 :: a1 :: a2 :: a3 :: a4 :: a5 :: a6 :: a7 :: a8 :: a9 :: a10 :: a11 :: tl)) : News h₀ L h (a6 :: a2 :: a0 :: a1 :: a3 :: a4 :: a5 :: a7 :: a8 :: a9 :: a10 :: a11 :: tl) := by
  intro p hp
  refine N p ?_
  simp only [List.mem_cons] at hp ⊢
  rcases hp with h | h | h | h | h | h | h | h | h | h | h | h | h <;> simp only [h, true_or, or_true]
theorem fin_led2 {h₀ h : Heap} {L : Addr} {a b c d a0 a1 a3 a4 a5 a7 a8 a9 a10 a11 : Addr × Obj} {tl : List (Addr × Obj)} (N : News h₀ L h (a :: b :: c :: d :: a0 :: a1 :: a3 :: a4 :: a5 :: a7 :: a8 :: a9 :: a10 :: a11 :: tl)) : News h₀ L h (a :: b :: a9 :: a10 :: a11 :: tl) := by
  intro p hp
  refine N p ?_
  simp only [List.mem_cons] at hp ⊢
  rcases hp with h | h | h | h | h | h <;> simp only [h, true_or, or_true]
theorem pm4 {h₀ h : Heap} {L : Addr} {x a0 a1 a2 a3 a4 : Addr × Obj} {pre r : List (Addr × Obj)} (_N : News h₀ L h (x :: (pre ++ a0 :: a1 :: a2 :: a3 :: a4 :: r))) : a4 ∈ (x :: (pre ++ a0 :: a1 :: a2 :: a3 :: a4 :: r)) := List.Mem.tail _ (List.mem_append_right pre (.tail _ (.tail _ (.tail _ (.tail _ (.head _))))))
set_option maxRecDepth 100000 in
set_option maxHeartbeats 4000000 in
theorem law_read_again {w : World} {p : Program} {loose : List Str} {mean : ExcName → Option Value} {mg mb : Str → Option Value} {dp un : Nat} {gd : Option (List Code)} {cn : Str} {cs : Scope} {a : Addr} {ccd : Value} {cl : List (Str × Addr)} {outer : List Env} {A₀ : Around} {base h₀ : Heap} {L : Addr} {m : Str → Option Value} {news : List (Addr × Obj)} {s : Shared} {c1 c2 : Addr} {oc1' oc2' : Obj} {R : Result → Shared → Prop}
  (B : Below A₀ base outer h₀) (F : Fr h₀ L s.heap m) (X : (hd.heap_39 w.params).In h₀) (N : News h₀ L s.heap ((269, tabFull c1 c2) :: (c1, oc1') :: (c2, oc2') :: news)) (T : Top p loose mean mg mb h₀) (hk : cs.kind = .function)
  (C9 : CodeHd base 271 269) (hdp : dp + 10 < recursionLimit) (hun : un + 60 < cLine) {x : List Nat} {t : Tok} {wl : List Nat} {u : Tok} {k : Int} {v : Tok} {tks : List (List Nat)} {xend : List Nat} (hx : x.length ≤ 50000) (hkt : tks.length ≤ 1000) (hkk : k = (tks.length : Int))
  (G : GTs wl x tks xend) (o9 : ∀ q ∈ news, q.1 ≠ 269) (k1 : CodeOb oc1' (Str.ofString "_law_read.<locals>.read")) (k2 : CodeOb oc2' (Str.ofString "_law_read.<locals>.<lambda>"))
  (hret : ∀ tup D ys te h' tk', StrsAre ys (tks.map txt) → Fr h₀ L h' m →
    News h₀ L h' ((tup, ({ cls := .type "tuple", data := .seq #[.ref D, .str (txt xend) te] } : Obj)) :: (D, LCg.lst ys) :: (269, tabFull c1 c2) :: (c1, oc1') :: (c2, oc2') :: news) → R (.ok (.ret (.ref tup))) { s with heap := h', toks := tk' }) :
  codeAny (model PySem.Challenge.rw_tp0038_02.row.prog w) (ktrTop dp un gd cn cs L a ccd cl outer) (.call (.ref 272) ⟨[.str (txt x) t, .str (txt wl) u, .int k v], []⟩) R s := by
  obtain ⟨vs1, tc1, dc1a, dc1b⟩ := k1
  obtain ⟨vs2, tc2, dc2a, dc2b⟩ := k2
  revert X; k_fill; intro X
  walk_at "mine:enter"
  rename_i g₁ L₁ h₁ tk₁ FG₁ F₁ B₁ X₁ T₁ l₁ oc2 oc1 dc2 dc1 N₁
  obtain ⟨l₁, lA⟩ := l₁
  repeat' ((fail_if_success (with_reducible show LCg.CompSrc _ _ _ _ _ _ _ _ _ _ _ _ _ _)); walk_at "mine:step")
  rename_i ll h2 l_ll h3 oL dL tkA fr ct1 dcv1 h4 tkB l_fr h5 fs ct2 h6 tkC l_fs h7 sd h8 tkD l_sd lx ld h9 l_ld l_lx gi Li hi Bi Xi Ti tkE hj1 hj2 hj3 pb hj4 l_pb hj5 Fi Ni tk Tc kX hk1 oX dX hk2 Fa Na hk3 tkF t₁ u₁ v₁ IR FF NN KP
  clear Na Fa Ni Fi
  have NR := reord12b NN
  refine rs_use NR (p := p) (loose := loose) (mean := mean) (mg := mg) (mb := mb) (fr := fr) (ll := ll) (prog := PySem.Challenge.rw_tp0038_02.row.prog) (w := w) (K := hd.heap_39 w.params) ?rd ?_
  case rd =>
    clear NR NN FF IR KP B F N T X B₁ FG₁ T₁ hk
    intro dp un gd cn cs a ccd cl outer A₀ base h₀ L m pre s xl tx t R B F X N hne T hk hd hu hx hret
    have M5 := pm4 N
    have M6 := pm8 N
    have M7 := pm5 N
    have M8 := pm6 N
    refine code_nest B F X N T rfl rfl hk M5 (codeRec_news (t := tc1) N M6 dc1a ?hv) (by ktr_room) (BindsTo.of_eq rfl) (locs rfl) ?_ rfl rfl rfl (by decide)
    case hv => exact dc1b.trans (by kernel_rfl)
    k_whole
    intro g' L' h' FG' F' N' B' X' T'
    (try dsimp only)
    k_steps
    rw [slice_to1]
    with_reducible rename News h₀ L _ _ => NE
    rw [slice_from1] at NE
    exact hret _ _ _ _ (by k_asm) NE
  intro rest0 hr0 NR RD
  have m0 : List.Mem (pb, listOf #[] 0) rest0 := by rw [hr0]; exact .head _
  have m1 : List.Mem (lx, instObj 76 ld) rest0 := by rw [hr0]; exact .tail _ (.head _)
  have mX : List.Mem (L₁ + 1, oX) rest0 := by rw [hr0]; exact .tail _ (.tail _ (.tail _ (.tail _ (.tail _ (.tail _ (.head _))))))
  have m2 := (by rw [hr0]; exact .tail _ (.tail _ (.tail _ (.head _))) : List.Mem (fs, ({ cls := .type "function", dict := some sd, data := .func _ } : Obj)) rest0)
  have m3 := (by rw [hr0]; exact .tail _ (.tail _ (.head _)) : List.Mem (sd, dictOf [⟨PyData.keyHash w.params (Str.ofString "read"), .str (Str.ofString "read") _, .ref fr⟩] 1) rest0)
  have m4 := (by rw [hr0]; exact .tail _ (.tail _ (.tail _ (.tail _ (.head _)))) : List.Mem (fr, ({ cls := .type "function", data := .func _ } : Obj)) rest0)
  have oLL : ∀ q ∈ rest0, q.1 ≠ ll := by rw [hr0]; k_all
  have oLD : ∀ q ∈ rest0, q.1 ≠ ld := by rw [hr0]; k_all
  have oDL : @Ne Nat ld ll := Nat.ne_of_gt (by omega)
  have mL : List.Mem (L₁ + 1 + 1, oL) rest0 := by rw [hr0]; exact .tail _ (.tail _ (.tail _ (.tail _ (.tail _ (.head _)))))
  subst hkk
  refine LCg.CompSrc.range (n := tks.length) rfl FF NR IR (small_one (by decide) (by decide) (by omega) (by omega)) (by rw [rangeSize_nat]; omega) (by rw [sizeLine_eq]; omega) ?_
  intro g2
  refine rest_ind (fun k i ys nw => ∃ xr tx ln tl t1 t2 t3 t4 tw dn todo, nw = (ll, listOf #[.str (txt xr) tx] 0) :: (ld, lexDict w ln tl t1 t2 t3 t4 fs (txt wl) tw pb) :: rest0 ∧ tks = dn ++ todo ∧ todo.length = k ∧ StrsAre ys (dn.map txt) ∧ GTs wl xr todo xend ∧ Int.natAbs ln + xr.length ≤ 1 + x.length) ?_ ?_ _ _ _ _ ⟨_, _, _, _, _, _, _, _, _, [], tks, rfl, rfl, rfl, .nil, G, by simp⟩
  · rintro i ys nw ⟨xr, tx, ln, tl, t1, t2, t3, t4, tw, dn, todo, rfl, htk, ht0, hys, hG, hl⟩
    obtain rfl := List.length_eq_zero_iff.mp ht0
    cases hG
    rw [List.append_nil] at htk
    subst htk
    k_steps
    with_reducible rename News h₀ L _ _ => NE
    rw [hr0] at NE
    exact hret _ _ _ _ _ _ hys (by k_asm) (fin_led2 NE)
  · rintro k i ys nw ⟨xr, tx, ln, tl, t1, t2, t3, t4, tw, dn, todo, rfl, htk, ht0, hys, hG, hl⟩ v I oI C oC D m₂ h tk9 E' hv hC hm₂ F3 N3 off ne
    cases hG with
    | nil => exact absurd ht0 (by simp)
    | @cons _ tk0 y0 todo _ G1 G2 =>
      rw [List.length_cons] at ht0
      have ht1 := Nat.succ.inj ht0
      obtain ⟨t9, rfl⟩ := hv
      repeat' ((fail_if_success (with_reducible show wpAny _ _ (call (Value.ref 66) _ _) _ _ _)); walk_at "mine:step")
      have N4 : News g₁ L₁ h ((ll, listOf #[.str (txt xr) tx] 0) :: (ld, lexDict w ln tl t1 t2 t3 t4 fs (txt wl) tw pb) :: (I, oI) :: (C, oC) :: (D, LCg.lst ys) :: rest0) := by
        intro p hp
        refine N3 p ?_
        simp only [List.mem_cons] at hp ⊢
        rcases hp with h | h | h | h | h | h <;> simp only [h, true_or, or_true]
      refine wpAny_call (get_token_spec (x' := y0) (tkn := tk0) B₁ F3 X₁ N4 T₁ rfl (by ktr_room) (by ktr_units) (by omega) (by omega) oDL (three oLL (Ne.symm off.1.1) (Ne.symm off.1.2.1) (Ne.symm off.1.2.2)) (three oLD (Ne.symm off.2.1.1) (Ne.symm off.2.1.2.1) (Ne.symm off.2.1.2.2)) (.tail _ (.tail _ (.tail _ m0))) (.tail _ (.tail _ (.tail _ m1))) (.tail _ (.tail _ (.tail _ m2))) (.tail _ (.tail _ (.tail _ m3))) (.tail _ (.tail _ (.tail _ m4))) (RD.more [(I, oI), (C, oC), (D, LCg.lst ys)]) G1 ?_)
      intro tt tx2 ln2 tl2 h5 k5 hl5 F5 N5
      repeat' ((fail_if_success (with_reducible show LCg.CompEnd _ _ _ _ _ _ _ _ _ _ _ _ _ _)); walk_at "mine:step")
      refine LCg.CompEnd.intro F5 N5 ((ll, listOf #[.str (txt y0) tx2] 0) :: (ld, lexDict w ln2 tl2 t1 t2 t3 t4 fs (txt wl) tw pb) :: rest0) ?_ off trivial ⟨_, _, _, _, _, _, _, _, _, dn ++ [tk0], todo, rfl, by rw [htk, List.append_assoc]; rfl, ht1, ?_, G2, by omega⟩
      · intro p hp
        simp only [List.mem_cons] at hp ⊢
        rcases hp with h | h | h | h | h | h <;> simp only [h, true_or, or_true]
      · rw [List.map_append]
        exact StrsAre.append' hys (.cons _ _ .nil)
end Mine
end
local macro_rules | `(tactic| walk_at "mine:none7") => `(tactic| fail "none")
theorem Mine.fresh_PF : True := by
  w_top off
  k_with_none
  trivial
section
open PySem PySem.W PyProof.Rows PySem.Calls
namespace Mine
noncomputable def p257 : List Nat → List Nat
  | [] => []
  | [c] => if c = 34 then [] else [c]
  | c :: d :: r => if c = 34 then (if d = 34 then 34 :: p257 r else []) else c :: p257 (d :: r)
theorem p257_34 (d : Nat) (r : List Nat) (h : d ≠ 34) : p257 (34 :: d :: r) = [] := by rw [p257, if_pos rfl, if_neg h]
theorem p257_3434 (r : List Nat) : p257 (34 :: 34 :: r) = 34 :: p257 r := by rw [p257, if_pos rfl, if_pos rfl]
theorem p257_c (c : Nat) (r : List Nat) (h : c ≠ 34) : p257 (c :: r) = c :: p257 r := by
  cases r with
  | nil => simp [p257, h]
  | cons d r => rw [p257, if_neg h]
theorem slice3 (r : List Nat) : Txt.slice (txt (50 :: 53 :: 55 :: 32 :: 34 :: r)) none (some 3) = Str.ofString "257" := by
  rw [beq_iff_eq.mp (slice_closes_to (x := txt (50 :: 53 :: 55 :: 32 :: 34 :: r)) (j := 3) ⟨by decide, by show (3 : Int) ≤ ((50 :: 53 :: 55 :: 32 :: 34 :: r).length : Int); simp only [List.length_cons]; omega⟩)]
  rw [show Str.ofString "257" = txt [50, 53, 55] by decide +kernel]
  show Str.mk _ = Str.mk _
  simp
theorem slice35 (r : List Nat) : Txt.slice (txt (50 :: 53 :: 55 :: 32 :: 34 :: r)) (some 3) (some 5) = Str.ofString " \"" := by
  rw [beq_iff_eq.mp (slice_closes (x := txt (50 :: 53 :: 55 :: 32 :: 34 :: r)) (i := 3) (j := 5) ⟨by decide, by decide, by show (5 : Int) ≤ ((50 :: 53 :: 55 :: 32 :: 34 :: r).length : Int); simp only [List.length_cons]; omega⟩)]
  rw [show Str.ofString " \"" = txt [32, 34] by decide +kernel]
  show Str.mk _ = Str.mk _
  simp
theorem item_at {xl : List Nat} {i : Int} (h0 : 0 ≤ i) (h1 : i < ((txt xl).length : Int)) : ∃ c, Txt.item (txt xl) i = txt [c] ∧ xl.drop i.toNat = c :: xl.drop (i + 1).toNat := by
  have hl : i.toNat < xl.length := by have : (txt xl).length = xl.length := rfl; omega
  refine ⟨xl[i.toNat], ?_, ?_⟩
  · rw [item_meets ⟨h0, h1⟩]
    show Str.mk _ = Str.mk _
    congr 1
    simp [hl, Array.getD]
  · rw [show (i + 1).toNat = i.toNat + 1 by omega]
    exact List.drop_eq_getElem_cons hl
noncomputable def PInv (xl : List Nat) (i : Int) (d : Str) : Prop := 5 ≤ i ∧ ∃ dl, d = txt dl ∧ p257 (xl.drop 5) = dl ++ p257 (xl.drop i.toNat)
theorem pinv_start (r : List Nat) : ((txt (50 :: 53 :: 55 :: 32 :: 34 :: r)).length : Int) = (txt (50 :: 53 :: 55 :: 32 :: 34 :: r)).length ∧ 5 ≤ (5 : Int) ∧ (5 : Int) ≤ (txt (50 :: 53 :: 55 :: 32 :: 34 :: r)).length ∧ ((Str.ofString "").length : Int) ≤ 5 ∧ PInv (50 :: 53 :: 55 :: 32 :: 34 :: r) 5 (Str.ofString "") := by
  refine ⟨rfl, by decide, ?_, by decide +kernel, by decide, [], by decide +kernel, rfl⟩
  show (5 : Int) ≤ ((50 :: 53 :: 55 :: 32 :: 34 :: r).length : Int); simp only [List.length_cons]; omega
section
variable {xl : List Nat} {i : Int} {d : Str}
theorem pf_end (P : PInv xl i d) (h : ¬ i < ((txt xl).length : Int)) : d = txt (p257 (xl.drop 5)) := by
  obtain ⟨h5, dl, rfl, e⟩ := P
  have hl : xl.length ≤ i.toNat := by have : (txt xl).length = xl.length := rfl; omega
  rw [e, List.drop_eq_nil_of_le hl, p257, List.append_nil]
theorem pf_brk1 (P : PInv xl i d) (h1 : i < ((txt xl).length : Int)) (hq : (Txt.item (txt xl) i == Str.ofString "\"") = true) (h2 : ((txt xl).length : Int) ≤ i + 1) : d = txt (p257 (xl.drop 5)) := by
  obtain ⟨h5, dl, rfl, e⟩ := P
  obtain ⟨c, e1, e2⟩ := item_at (xl := xl) (i := i) (by omega) h1
  rw [e1] at hq
  obtain rfl := q_yes hq
  have hl : xl.length ≤ (i + 1).toNat := by have : (txt xl).length = xl.length := rfl; omega
  rw [e, e2, List.drop_eq_nil_of_le hl, p257, if_pos rfl, List.append_nil]
theorem pf_brk2 (P : PInv xl i d) (h1 : i < ((txt xl).length : Int)) (hq : (Txt.item (txt xl) i == Str.ofString "\"") = true) (h2 : ¬ ((txt xl).length : Int) ≤ i + 1) (hq2 : (Txt.item (txt xl) (i + 1) != Str.ofString "\"") = true) : d = txt (p257 (xl.drop 5)) := by
  obtain ⟨h5, dl, rfl, e⟩ := P
  obtain ⟨c, e1, e2⟩ := item_at (xl := xl) (i := i) (by omega) h1
  obtain ⟨c', e3, e4⟩ := item_at (xl := xl) (i := i + 1) (by omega) (by omega)
  rw [e1] at hq
  obtain rfl := q_yes hq
  rw [e3] at hq2
  rw [e, e2, e4, p257_34 _ _ (q_no (by simpa using hq2)), List.append_nil]
theorem pf_two (P : PInv xl i d) (h1 : i < ((txt xl).length : Int)) (hq : (Txt.item (txt xl) i == Str.ofString "\"") = true) (h2 : ¬ ((txt xl).length : Int) ≤ i + 1) (hq2 : (Txt.item (txt xl) (i + 1) != Str.ofString "\"") = false) : PInv xl (i + 1 + 1) (d ++ Txt.item (txt xl) i) := by
  obtain ⟨h5, dl, rfl, e⟩ := P
  obtain ⟨c, e1, e2⟩ := item_at (xl := xl) (i := i) (by omega) h1
  obtain ⟨c', e3, e4⟩ := item_at (xl := xl) (i := i + 1) (by omega) (by omega)
  rw [e1] at hq
  obtain rfl := q_yes hq
  rw [e3] at hq2
  obtain rfl := q_yes (by simpa using hq2)
  refine ⟨by omega, dl ++ [34], by rw [e1, txt_app], ?_⟩
  rw [e, e2, e4, p257_3434, List.append_assoc]; rfl
theorem pf_one (P : PInv xl i d) (h1 : i < ((txt xl).length : Int)) (hq : (Txt.item (txt xl) i == Str.ofString "\"") = false) : PInv xl (i + 1) (d ++ Txt.item (txt xl) i) := by
  obtain ⟨h5, dl, rfl, e⟩ := P
  obtain ⟨c, e1, e2⟩ := item_at (xl := xl) (i := i) (by omega) h1
  rw [e1] at hq
  refine ⟨by omega, dl ++ [c], by rw [e1, txt_app], ?_⟩
  rw [e, e2, p257_c _ _ (q_no hq), List.append_assoc]; rfl
end
local macro_rules | `(tactic| k_room) => `(tactic| ktr_room)
local macro_rules | `(tactic| k_mem) => `(tactic| with_reducible assumption)
local macro_rules | `(tactic| walk_at "subscriptTail Name Slice str ref") => `(tactic| ((with_reducible rename Fr _ _ _ _ => F'); (with_reducible rename News _ _ _ _ => N'); first
  | ((with_reducible show wpAny _ _ (subscriptTail _ (Expr.Slice none (some _) none _) _ _) _ _ _); (refine slice_strN_ns (hsz := ?hsz) (s := ⟨_, _, _, _, _⟩) F' N' ?_); (case hsz => (rw [sizeLine_eq]; omega)); (intro _ _ _ _ _); (rw [slice3]))
  | ((with_reducible show wpAny _ _ (subscriptTail _ (Expr.Slice (some _) (some _) none _) _ _) _ _ _); (refine slice_strN_ss (hsz := ?hsz) (s := ⟨_, _, _, _, _⟩) F' N' ?_); (case hsz => (rw [sizeLine_eq]; omega)); (intro _ _ _ _ _); (rw [slice35]))))
set_option maxRecDepth 100000 in
set_option maxHeartbeats 4000000 in
theorem parse257_spec {w : World} {p : Program} {loose : List Str} {mean : ExcName → Option Value} {mg mb : Str → Option Value} {dp un : Nat} {gd : Option (List Code)} {cn : Str} {cs : Scope} {a : Addr} {ccd : Value} {cl : List (Str × Addr)} {outer : List Env} {A₀ : Around} {base h₀ : Heap} {L : Addr} {m : Str → Option Value} {news : List (Addr × Obj)} {s : Shared} {R : Result → Shared → Prop}
  (B : Below A₀ base outer h₀) (F : Fr h₀ L s.heap m) (X : (hd.heap_39 w.params).In h₀) (N : News h₀ L s.heap news) (T : Top p loose mean mg mb h₀) (hk : cs.kind = .function)
  (hdp : dp + 1 < recursionLimit) (hun : un + 8 < cLine) {t : Tok} {r : List Nat} (hlen : (txt (50 :: 53 :: 55 :: 32 :: 34 :: r)).length ≤ 100000)
  (hret : ∀ t' h' tk', Fr h₀ L h' m → News h₀ L h' news → R (.ok (.ret (.str (txt (p257 r)) t'))) { s with heap := h', toks := tk' }) :
  codeAny (model PySem.Challenge.rw_tp0038_02.row.prog w) (ktrTop dp un gd cn cs L a ccd cl outer) (.call (.ref 112) ⟨[.str (txt (50 :: 53 :: 55 :: 32 :: 34 :: r)) t], []⟩) R s := by
  revert X; k_fill; intro X
  walk_at "mine:enter"
  rename_i g₁ L₁ h₁ FG₁ F₁ N₁ B₁ X₁ T₁
  repeat' ((fail_if_success (with_reducible show wpAny _ _ (exec (Stmt.While _ _ _ _) _) _ _ _)); walk_at "mine:step")
  have ee : p257 r = p257 ((50 :: 53 :: 55 :: 32 :: 34 :: r).drop 5) := rfl
  rw [ee] at hret
  have ss := pinv_start r
  generalize 50 :: 53 :: 55 :: 32 :: 34 :: r = xl at *
  k_with "state" => exact ss
  k_while_given ["resp", "n"] (fun resp n script i dirname => n = (resp.length : Int) ∧ 5 ≤ i ∧ i ≤ n ∧ (dirname.length : Int) ≤ i ∧ PInv xl i dirname) (fun resp n script i dirname => (n - i).toNat) "i" "dirname"
  repeat' ((fail_if_success (with_reducible show KswEnd _ _ _ _ _ _ _ _ _ _ _ _)); walk_at "mine:step")
  · with_reducible rename PInv _ _ _ => P
    rw [pf_brk1 P (by assumption) (by assumption) (by assumption)]
    exact hret _ _ _ (by k_asm) (by k_asm)
  · with_reducible rename PInv _ _ _ => P
    rw [pf_brk2 P (by assumption) (by assumption) (by assumption) (by assumption)]
    exact hret _ _ _ (by k_asm) (by k_asm)
  · with_reducible rename PInv _ _ _ => P
    with_reducible rename News g₁ L₁ _ _ => nE'
    have P' := pf_two P (by assumption) (by assumption) (by assumption) (by assumption)
    refine ksw_end ⟨_, _, _, _⟩ (by assumption) nE' (by kst_in) (by kst_facts) (by kst_all) (by ksw_same) ⟨rfl, ?_, ?_, ?_, P'⟩ ?_ <;> dsimp only <;> omega
  · with_reducible rename PInv _ _ _ => P
    with_reducible rename News g₁ L₁ _ _ => nE'
    have P' := pf_one P (by assumption) (by assumption)
    refine ksw_end ⟨_, _, _, _⟩ (by assumption) nE' (by kst_in) (by kst_facts) (by kst_all) (by ksw_same) ⟨rfl, ?_, ?_, ?_, P'⟩ ?_ <;> dsimp only <;> omega
  · with_reducible rename PInv _ _ _ => P
    rw [pf_end P (by assumption)]
    exact hret _ _ _ (by k_asm) (by k_asm)
end Mine
end
local macro_rules | `(tactic| walk_at "mine:none8") => `(tactic| fail "none")
local macro_rules | `(tactic| walk_at "mine:none9") => `(tactic| fail "none")
theorem Mine.fresh_TX : True := by
  w_top off
  k_with_none
  trivial
section
open PySem PySem.W PyProof.Rows PySem.Calls
namespace Mine
/-- each sign c gives way to z -/
noncomputable def rep (c : Nat) (z : List Nat) : List Nat → List Nat
  | [] => []
  | k :: r => if k = c then z ++ rep c z r else k :: rep c z r
theorem rep_append (c : Nat) (z : List Nat) : ∀ a b : List Nat, rep c z (a ++ b) = rep c z a ++ rep c z b
  | [], _ => rfl
  | k :: r, b => by
    have ih := rep_append c z r b
    by_cases h : k = c
    · simp only [List.cons_append, rep, if_pos h, ih, List.append_assoc]
    · simp only [List.cons_append, rep, if_neg h, ih]
theorem rep_free (c : Nat) (z : List Nat) : ∀ l : List Nat, c ∉ l → rep c z l = l
  | [], _ => rfl
  | k :: r, h => by
    have h1 : ¬ k = c := fun e => h (e ▸ List.mem_cons_self ..)
    have h2 : c ∉ r := fun m => h (List.mem_cons_of_mem _ m)
    unfold rep
    rw [if_neg h1, rep_free c z r h2]
theorem rep_one (c : Nat) (z : List Nat) : rep c z [c] = z := by simp [rep]
theorem rep_len (c : Nat) (z : List Nat) : ∀ l : List Nat, (rep c z l).length ≤ l.length * (z.length + 1)
  | [] => by simp [rep]
  | k :: r => by
    have ih := rep_len c z r
    unfold rep
    split
    · rw [List.length_append, List.length_cons, Nat.succ_mul]; omega
    · rw [List.length_cons, List.length_cons, Nat.succ_mul]; omega
theorem rep_join (c : Nat) (z : List Nat) : ∀ parts : List Str, (∀ p ∈ parts, c ∉ p.cps.toList) → rep c z (Str.join ⟨#[c]⟩ parts).cps.toList = (Str.join (txt z) parts).cps.toList
  | [], _ => rfl
  | [p], h => rep_free c z _ (h p (List.mem_singleton.mpr rfl))
  | p :: q :: r, h => by
    have ih := rep_join c z (q :: r) fun a ha => h a (List.mem_cons_of_mem _ ha)
    show rep c z (p ++ ⟨#[c]⟩ ++ Str.join ⟨#[c]⟩ (q :: r)).cps.toList = (p ++ txt z ++ Str.join (txt z) (q :: r)).cps.toList
    simp only [Str.cps_append, Array.toList_append]
    rw [rep_append, rep_append, ih, rep_free c z _ (h p (List.mem_cons_self ..))]
    show p.cps.toList ++ rep c z [c] ++ _ = _
    rw [rep_one]
theorem str_ext {a b : Str} (h : a.cps.toList = b.cps.toList) : a = b := by
  obtain ⟨⟨a⟩⟩ := a
  obtain ⟨⟨b⟩⟩ := b
  have : a = b := h
  rw [this]
theorem replace_txt (l z : List Nat) (c : Nat) : Txt.replace (txt l) (txt [c]) (txt z) = txt (rep c z l) := by
  apply str_ext
  show (Txt.replace (txt l) ⟨#[c]⟩ (txt z)).cps.toList = rep c z l
  rw [StrLaws.replace_one, ← rep_join c z _ (StrLaws.split_free (txt l) c), StrLaws.join_split]
/-- the pieces between the signs c -/
noncomputable def parts (c : Nat) : List Nat → List (List Nat)
  | [] => [[]]
  | k :: r => if k = c then [] :: parts c r else match parts c r with
    | p :: ps => (k :: p) :: ps
    | [] => [[k]]
theorem parts_ne (c : Nat) (l : List Nat) : parts c l ≠ [] := by
  cases l with
  | nil => simp [parts]
  | cons k r => unfold parts; split; · simp
                split <;> simp
theorem parts_free (c : Nat) : ∀ p : List Nat, c ∉ p → parts c p = [p]
  | [], _ => rfl
  | k :: r, h => by
    have h1 : ¬ k = c := fun e => h (e ▸ List.mem_cons_self ..)
    have h2 : c ∉ r := fun m => h (List.mem_cons_of_mem _ m)
    unfold parts
    rw [if_neg h1, parts_free c r h2]
theorem parts_cat (c : Nat) : ∀ p l : List Nat, c ∉ p → parts c (p ++ c :: l) = p :: parts c l
  | [], l, _ => by simp [parts]
  | k :: r, l, h => by
    have h1 : ¬ k = c := fun e => h (e ▸ List.mem_cons_self ..)
    have h2 : c ∉ r := fun m => h (List.mem_cons_of_mem _ m)
    have ih := parts_cat c r l h2
    show parts c (k :: (r ++ c :: l)) = _
    rw [parts, if_neg h1, ih]
theorem parts_join (c : Nat) : ∀ ps : List Str, ps ≠ [] → (∀ p ∈ ps, c ∉ p.cps.toList) → (parts c (Str.join ⟨#[c]⟩ ps).cps.toList).map txt = ps
  | [], h, _ => absurd rfl h
  | [p], _, h => by
    show (parts c p.cps.toList).map txt = [p]
    rw [parts_free c _ (h p (List.mem_singleton.mpr rfl))]
    rfl
  | p :: q :: r, _, h => by
    have ih := parts_join c (q :: r) (by simp) fun a ha => h a (List.mem_cons_of_mem _ ha)
    have e : (Str.join ⟨#[c]⟩ (p :: q :: r)).cps.toList = p.cps.toList ++ c :: (Str.join ⟨#[c]⟩ (q :: r)).cps.toList := by
      show (p ++ ⟨#[c]⟩ ++ Str.join ⟨#[c]⟩ (q :: r)).cps.toList = _
      simp only [Str.cps_append, Array.toList_append, List.append_assoc]
      rfl
    rw [e, parts_cat c _ _ (h p (List.mem_cons_self ..)), List.map_cons, ih]
theorem split_txt (l : List Nat) (c : Nat) : Txt.split (txt l) (txt [c]) = (parts c l).map txt := by
  have h := parts_join c (Txt.split (txt l) ⟨#[c]⟩) (fun e => by have := split_pos (txt l) ⟨#[c]⟩; rw [e] at this; exact absurd this (by decide)) (StrLaws.split_free (txt l) c)
  rw [StrLaws.join_split] at h
  exact h.symm
section
variable {prog : Program} {w : World} {A : Around} {E : Value → Shared → Prop} {s : Shared} {Q : Value → Shared → Prop}
theorem replace_call {l z : List Nat} {c : Nat} {t u v : Tok} (hs : 1 ≤ s.toks) (hu : @LE.le Nat _ 1 u) (hv : @LE.le Nat _ 1 v) (huv : @LT.lt Nat _ u v) (hl : l.length ≤ 1000000) (hz : z.length ≤ 8) (hyz : z ≠ [c])
    (h : ∀ t' k, 1 ≤ k → (txt (rep c z l)).length ≤ (txt l).length * (z.length + 1) → Q (.str (txt (rep c z l)) t') { s with toks := k }) :
    wpAny (model prog w) A (call (.builtin "str.replace") [.str (txt l) t, .str (txt [c]) u, .str (txt z) v]) Q E s := by
  refine wpAny_with_toks hs ?_
  refine SC.replaceW (Nat.ne_of_gt hu) (Nat.ne_of_gt hv) (Nat.ne_of_lt huv) (beq_eq_false_iff_ne.mpr fun e => hyz (txt_inj e).symm) (by show l.length ≤ 1048576; omega) (by show z.length ≤ 14; omega) ?_
  intro t' k hk
  rw [replace_txt]
  exact h t' k hk (rep_len c z l)
theorem rep_bs {l : List Nat} {t u v : Tok} (hs : 1 ≤ s.toks) (hu : @LE.le Nat _ 1 u) (hv : @LE.le Nat _ 1 v) (huv : @LT.lt Nat _ u v) (hl : l.length ≤ 1000000) (h : ∀ t' k, 1 ≤ k → (txt (rep 92 [92, 92] l)).length ≤ (txt l).length * 3 → Q (.str (txt (rep 92 [92, 92] l)) t') { s with toks := k }) :
    wpAny (model prog w) A (call (.builtin "str.replace") [.str (txt l) t, .str (Str.ofString "\\") u, .str (Str.ofString "\\\\") v]) Q E s := by
  rw [show Str.ofString "\\" = txt [92] by decide +kernel, show Str.ofString "\\\\" = txt [92, 92] by decide +kernel]
  exact replace_call hs hu hv huv hl (by decide) (by decide) h
theorem rep_qq {l : List Nat} {t u v : Tok} (hs : 1 ≤ s.toks) (hu : @LE.le Nat _ 1 u) (hv : @LE.le Nat _ 1 v) (huv : @LT.lt Nat _ u v) (hl : l.length ≤ 1000000) (h : ∀ t' k, 1 ≤ k → (txt (rep 34 [34, 34] l)).length ≤ (txt l).length * 3 → Q (.str (txt (rep 34 [34, 34] l)) t') { s with toks := k }) :
    wpAny (model prog w) A (call (.builtin "str.replace") [.str (txt l) t, .str (Str.ofString "\"") u, .str (Str.ofString "\"\"") v]) Q E s := by
  rw [show Str.ofString "\"" = txt [34] by decide +kernel, show Str.ofString "\"\"" = txt [34, 34] by decide +kernel]
  exact replace_call hs hu hv huv hl (by decide) (by decide) h
theorem rep_bq {l : List Nat} {t u v : Tok} (hs : 1 ≤ s.toks) (hu : @LE.le Nat _ 1 u) (hv : @LE.le Nat _ 1 v) (huv : @LT.lt Nat _ u v) (hl : l.length ≤ 1000000) (h : ∀ t' k, 1 ≤ k → (txt (rep 34 [92, 34] l)).length ≤ (txt l).length * 3 → Q (.str (txt (rep 34 [92, 34] l)) t') { s with toks := k }) :
    wpAny (model prog w) A (call (.builtin "str.replace") [.str (txt l) t, .str (Str.ofString "\"") u, .str (Str.ofString "\\\"") v]) Q E s := by
  rw [show Str.ofString "\"" = txt [34] by decide +kernel, show Str.ofString "\\\"" = txt [92, 34] by decide +kernel]
  exact replace_call hs hu hv huv hl (by decide) (by decide) h
theorem rep_ud {l : List Nat} {t u v : Tok} (hs : 1 ≤ s.toks) (hu : @LE.le Nat _ 1 u) (hv : @LE.le Nat _ 1 v) (huv : @LT.lt Nat _ u v) (hl : l.length ≤ 1000000) (h : ∀ t' k, 1 ≤ k → (txt (rep 95 [45] l)).length ≤ (txt l).length * 2 → Q (.str (txt (rep 95 [45] l)) t') { s with toks := k }) :
    wpAny (model prog w) A (call (.builtin "str.replace") [.str (txt l) t, .str (Str.ofString "_") u, .str (Str.ofString "-") v]) Q E s := by
  rw [show Str.ofString "_" = txt [95] by decide +kernel, show Str.ofString "-" = txt [45] by decide +kernel]
  exact replace_call hs hu hv huv hl (by decide) (by decide) h
theorem rep_k {t u v : Tok} (hs : 1 ≤ s.toks) (h : ∀ t' k, 1 ≤ k → Q (.str (Str.ofString "k") t') { s with toks := k }) :
    wpAny (model prog w) A (call (.builtin "str.replace") [.str (Str.ofString "k") t, .str (Str.ofString "_") u, .str (Str.ofString "-") v]) Q E s := by
  refine call_gives F.slot_str_replace (typeIs_str _ _ _) F.entry_str_replace (F.args_str_replace_3 _ _ _)
    (gives_str_replace _ _ _ t u v fun hc => absurd hc (by decide +kernel)) ?_
  rw [if_pos (by decide +kernel)]
  exact h t s.toks hs
end
end Mine
end
theorem Mine.fresh_FP : True := by
  w_top off
  k_with_none
  trivial
section
open PySem PySem.W PyProof.Rows PySem.Calls
namespace Mine
local macro_rules | `(tactic| k_room) => `(tactic| ktr_room)
local macro_rules | `(tactic| k_mem) => `(tactic| with_reducible assumption)
local macro_rules | `(tactic| walk_at "call builtin:str.replace") => `(tactic| ((with_reducible show wpAny _ _ (call (Value.builtin "str.replace") [Value.str _ _, Value.str _ _, Value.str _ _]) _ _ _); (first
  | (refine rep_bs (by first | (dsimp only; omega) | (dsimp only at *; omega)) (by first | omega | (dsimp only at *; omega)) (by first | omega | (dsimp only at *; omega)) (by omega) ?hl ?_) | (refine rep_qq (by first | (dsimp only; omega) | (dsimp only at *; omega)) (by first | omega | (dsimp only at *; omega)) (by first | omega | (dsimp only at *; omega)) (by omega) ?hl ?_) | (refine rep_bq (by first | (dsimp only; omega) | (dsimp only at *; omega)) (by first | omega | (dsimp only at *; omega)) (by first | omega | (dsimp only at *; omega)) (by omega) ?hl ?_) | (refine rep_ud (by first | (dsimp only; omega) | (dsimp only at *; omega)) (by first | omega | (dsimp only at *; omega)) (by first | omega | (dsimp only at *; omega)) (by omega) ?hl ?_)); (case hl => (simp only [txt_len] at *; omega)); intro _ _ _ _))
noncomputable def esc (v : List Nat) : List Nat := rep 34 [92, 34] (rep 92 [92, 92] v)
noncomputable def fpOf (pa v : List Nat) : List Nat := if v = [] then pa else pa ++ 61 :: 34 :: (esc v ++ [34])
theorem fp_some {pa v : List Nat} (h : 0 < ((txt v).length : Int)) : Str.empty ++ txt pa ++ Str.ofString "=\"" ++ txt (rep 34 [92, 34] (rep 92 [92, 92] v)) ++ Str.ofString "\"" = txt (fpOf pa v) := by
  rw [show Str.empty = txt [] from rfl, show Str.ofString "=\"" = txt [61, 34] by decide +kernel, show Str.ofString "\"" = txt [34] by decide +kernel, txt_app, txt_app, txt_app, txt_app, fpOf, if_neg]
  · simp [esc]
  · rintro rfl; exact absurd h (by decide)
theorem fp_none {pa v : List Nat} (h : ¬ 0 < ((txt v).length : Int)) : txt pa = txt (fpOf pa v) := by
  have : v = [] := by
    cases v with
    | nil => rfl
    | cons c r => exact absurd (by show (0 : Int) < ((c :: r).length : Int); rw [List.length_cons]; omega) h
  rw [fpOf, if_pos this]
theorem keep_toks {M : Model} {A : Around} {α : Type} {t : Sem α} {Q : α → Shared → Prop} {E : Value → Shared → Prop} {h : Heap} {g d o} {n : Nat} (h1 : 1 ≤ n) (k : ∀ tk, 1 ≤ tk → wpAny M A t Q E ⟨h, g, d, tk, o⟩) : wpAny M A t Q E ⟨h, g, d, n, o⟩ := k n h1
local macro_rules | `(tactic| walk_at "execs cons") => `(tactic| ((refine keep_toks (by first | (dsimp only; omega) | (dsimp only at *; omega)) ?_); (intro tk hk1); (with_reducible refine wpAny_execs_cons ?_); (try dsimp only)))
local macro_rules | `(tactic| walk_at "execs nil") => `(tactic| ((refine keep_toks (by first | (dsimp only; omega) | (dsimp only at *; omega)) ?_); (intro tk hk1); (refine wpAny_execs_nil ?_); (try dsimp only)))
set_option maxRecDepth 100000 in
set_option maxHeartbeats 4000000 in
theorem fp_spec {w : World} {p : Program} {loose : List Str} {mean : ExcName → Option Value} {mg mb : Str → Option Value} {dp un : Nat} {gd : Option (List Code)} {cn : Str} {cs : Scope} {a : Addr} {ccd : Value} {cl : List (Str × Addr)} {outer : List Env} {A₀ : Around} {base h₀ : Heap} {L : Addr} {m : Str → Option Value} {news : List (Addr × Obj)} {s : Shared} {R : Result → Shared → Prop}
  (B : Below A₀ base outer h₀) (F : Fr h₀ L s.heap m) (X : (hd.heap_39 w.params).In h₀) (N : News h₀ L s.heap news) (T : Top p loose mean mg mb h₀) (hk : cs.kind = .function)
  (hdp : dp + 2 < recursionLimit) (hun : un + 20 < cLine) (hs : 1 ≤ s.toks) {t u : Tok} {pa v : List Nat} (hp : (txt pa).length ≤ 100) (hlen : (txt v).length ≤ 1000)
  (hret : ∀ t' h' tk', Fr h₀ L h' m → News h₀ L h' news → R (.ok (.ret (.str (txt (fpOf pa v)) t'))) { s with heap := h', toks := tk' }) :
  codeAny (model PySem.Challenge.rw_tp0038_02.row.prog w) (ktrTop dp un gd cn cs L a ccd cl outer) (.call (.ref 135) ⟨[.str (txt pa) t, .str (txt v) u], []⟩) R s := by
  revert X; k_fill; intro X
  walk_at "mine:enter"
  k_steps
  · rw [fp_some (by assumption)]
    exact hret _ _ _ (by k_asm) (by k_asm)
  · rw [fp_none (v := v) (by assumption)]
    exact hret _ _ _ (by k_asm) (by k_asm)
end Mine
end
local macro_rules | `(tactic| walk_at "mine:none10") => `(tactic| fail "none")
local macro_rules | `(tactic| walk_at "mine:none11") => `(tactic| fail "none")
local macro_rules | `(tactic| walk_at "mine:none12") => `(tactic| fail "none")
local macro_rules | `(tactic| walk_at "mine:none13") => `(tactic| fail "none")
theorem Mine.fresh_SR : True := by
  w_top off
  k_with_none
  trivial
section
open PySem PySem.W PyProof.Rows PySem.Calls PySem.Builtin PySem.Builtin.Re
set_option maxRecDepth 100000
namespace Mine
theorem slot_search : Slot "re.Pattern" "search" "re.Pattern.search" :=
  .of (owner := "re.Pattern") (n := "search") (by rw [typeLookup_type, builtinLookup_eq_fast]; kernel_rfl) (by decide +kernel) (by decide +kernel) (by decide +kernel)
    (by first | exact .inl (by decide +kernel) | exact .inr (by decide +kernel)) (by rw [isSubtype_type]; kernel_rfl)
theorem entry_search : entryFor table "re.Pattern.search" = some Builtin.«re.Pattern.search» := entryFor_of_tree (by kernel_rfl)
theorem type_search : typeOf (.builtin "re.Pattern.search") = pure (.type "method_descriptor") := by show builtinType _ = _; rw [builtinType_eq_fast]; kernel_rfl
theorem args_search (a b : Value) : argsOk "re.Pattern.search" ⟨[a, b], []⟩ := by unfold argsOk; kernel_rfl
theorem plain_pattern : PlainAttrs "re.Pattern" :=
  ⟨⟨"object.__getattribute__", by rw [typeLookup_type, builtinLookup_eq_fast]; kernel_rfl, by decide +kernel⟩, by rw [typeLookup_type, builtinLookup_eq_fast]; kernel_rfl⟩

/-- a sign that the first set of the code does not take -/
noncomputable def NotIn (code : Array Nat) (c : Nat) : Prop := ∀ seen, ∃ seen', Sre.inSet code c code.size 5 true seen = .ok (false, seen')
theorem admitted_none (m : Sre.M) (hc : ∀ s, s < m.lim → NotIn m.code (m.text.getD s 0)) : ∀ (fuel s : Nat) (seen : Sre.Seen), ∃ seen', Sre.M.admitted m fuel s seen = .ok (none, seen') := by
  intro fuel
  induction fuel with
  | zero => intro s seen; exact ⟨_, rfl⟩
  | succ n ih =>
    intro s seen
    unfold Sre.M.admitted
    by_cases h : s ≥ m.lim
    · rw [if_pos h]; exact ⟨_, rfl⟩
    · rw [if_neg h]
      obtain ⟨seen', e⟩ := hc s (by omega) seen
      rw [e]
      exact ih (s + 1) seen'
theorem attempt_none (m : Sre.M) (hi : (match Sre.ops[m.code.getD 0 0]? with | some .INFO => true | _ => false) = true) (h2 : m.code.getD 2 0 = 4) (hc : ∀ s, s < m.lim → NotIn m.code (m.text.getD s 0)) (s : Nat) (first : Bool) :
    (m.attemptFrom s first).outcome = m.outcome ∧ (m.attemptFrom s first).answer = some false ∧ (m.attemptFrom s first).frames = m.frames := by
  have hh : m.hasFirstSet = true := by
    show ((match Sre.ops[m.code.getD 0 0]? with | some .INFO => true | _ => false) && m.code.getD 2 0 == 4) = true
    rw [hi, h2]; rfl
  obtain ⟨seen', e⟩ := admitted_none m hc (m.lim + 1 - s) s m.seen
  unfold Sre.M.attemptFrom
  rw [hh, e]
  exact ⟨rfl, rfl, rfl⟩
theorem search_none {code text : Array Nat} {groups : Nat} (hi : (match Sre.ops[code.getD 0 0]? with | some .INFO => true | _ => false) = true) (h2 : code.getD 2 0 = 4) (hc : ∀ s, s < text.size → NotIn code (text.getD s 0)) :
    ∃ m, Sre.forSearch code text groups 0 text.size false = m ∧ m.outcome = none ∧ m.answer = some false ∧ m.frames = [] := by
  refine ⟨_, rfl, ?_⟩
  unfold Sre.forSearch
  dsimp only
  split
  · exact ⟨rfl, rfl, rfl⟩
  · exact attempt_none _ hi h2 hc 0 true
theorem run_fail (m : Sre.M) (h1 : m.outcome = none) (h2 : m.answer = some false) (h3 : m.frames = []) : (m.runFor 4).outcome = some .failed := by
  unfold Sre.M.runFor
  rw [h1]
  have e : m.step.outcome = some .failed := by
    unfold Sre.M.step
    rw [h1, h2, h3]
    rfl
  simp only [Option.isSome, Bool.false_eq_true, if_false]
  unfold Sre.M.runFor
  rw [e]
  simp only [Option.isSome, if_true]
  exact e
section
variable {prog : Program} {w : World} {A : Around} {E : Value → Shared → Prop} {s : Shared}
theorem drive_fail {m : Sre.M} {Q : Sre.M → Shared → Prop} (h1 : m.outcome = none) (h2 : m.answer = some false) (h3 : m.frames = []) (h : ∀ m', m'.outcome = some .failed → Q m' s) : wpAny (model prog w) A (reDrive (2 ^ 64) m) Q E s := by
  show wpAny (model prog w) A (reDrive (18446744073709551615 + 1) m) Q E s
  unfold reDrive
  dsimp only
  have e := run_fail m h1 h2 h3
  rw [show reTurnSteps = 4 from rfl, e]
  exact wpAny_pure (h _ e)
theorem rules_loop (l : List Nat) (has : Nat → Bool) {Q : PUnit → Shared → Prop} (h : Q ⟨⟩ s) :
    wpAny (model prog w) A (forIn l (⟨⟩ : PUnit) (fun i _ => if has i = true then (do rule (Sre.names.getD i ""); pure (ForInStep.yield ⟨⟩)) else (do pure PUnit.unit; pure (ForInStep.yield ⟨⟩))) : Sem PUnit) Q E s := by
  induction l with
  | nil => exact wpAny_pure h
  | cons i r ih =>
    rw [List.forIn_cons]
    refine wpAny_bind ?_
    cases has i with
    | true => exact wpAny_bind (wpAny_rule (wpAny_pure ih))
    | false => exact wpAny_pure ih
theorem toEnd_fail {m : Sre.M} {Q : Option Sre.M → Shared → Prop} (h1 : m.outcome = none) (h2 : m.answer = some false) (h3 : m.frames = []) (h : Q none s) : wpAny (model prog w) A (reRunToEnd m) Q E s := by
  unfold reRunToEnd
  refine wpAny_bind (drive_fail h1 h2 h3 fun m' e => ?_)
  refine wpAny_bind (rules_loop _ (fun i => m'.seen.has i) ?_)
  rw [e]
  exact wpAny_pure h
theorem named_search (v : Value) : reNamed "re.Pattern.search" "search" ["string", "pos", "endpos"] 1 [v] [] = pure [some v, none, none] := by
  kernel_rfl
theorem search_call {q c : Addr} {fs items : Array Value} {k : Nat} {oq oc : Obj} {code : Array Nat} {l : List Nat} {t : Tok} {Q : Value → Shared → Prop}
    (hq : s.heap.get? q = some oq) (hcl : oq.cls = .type "re.Pattern") (hqd : oq.data = .fields fs) (h5 : fs.getD 5 .none = .ref c) (h6 : reRawNat (fs.getD 6 .none) = 0) (hc : s.heap.get? c = some oc) (hcd : oc.data = .seq items k)
    (hcode : (items.map reRawOf).map (·.toNat) = code) (hi : (match Sre.ops[code.getD 0 0]? with | some .INFO => true | _ => false) = true) (h2 : code.getD 2 0 = 4) (hclean : ∀ x ∈ l, NotIn code x) (hlen : l.length ≤ 1000000) (h : Q .none s) :
    wpAny (model prog w) A (call (.builtin "re.Pattern.search") [.ref q, .str (txt l) t]) Q E s := by
  have hT : s.TypeIs (.ref q) "re.Pattern" := ⟨_, hq, hcl⟩
  refine wpAny_call (codeAny_call_builtin slot_search.plain entry_search (slot_search.check _ _ _ _ _ _ _ _ hT (args_search _ _) ?_))
  unfold Builtin.«re.Pattern.search» reTarget
  refine wpAny_bind ?_
  dsimp only
  rw [named_search]
  refine wpAny_bind (wpAny_pure ?_)
  dsimp only
  refine wpAny_bind (wpAny_pure ?_)
  refine wpAny_bind (wpAny_pure ?_)
  refine wpAny_bind (wpAny_fieldsOf hq hqd ?_)
  refine wpAny_bind (wpAny_pure ?_)
  dsimp only
  rw [h6, if_neg (by decide), if_neg (by decide)]
  refine wpAny_bind ?_
  unfold reNoCollectionInside
  rw [if_neg (by decide)]
  refine wpAny_pure ?_
  refine wpAny_bind ?_
  unfold reRawItems
  rw [h5]
  refine wpAny_bind ?_
  unfold seqItems?
  refine wpAny_bind (wpAny_load hc ?_)
  rw [hcd]
  refine wpAny_pure (wpAny_pure (wpAny_pure ?_))
  dsimp only [Option.getD]
  rw [hcode]
  have e1 : Min.min (Int.toNat 0) (txt l).cps.size = 0 := by simp
  have e2 : Min.min ((2 : Int) ^ 63 - 1).toNat (txt l).cps.size = (txt l).cps.size := by
    have : (txt l).cps.size = l.length := by show l.toArray.size = _; rw [List.size_toArray]
    rw [this]
    have : ((2 : Int) ^ 63 - 1).toNat = 9223372036854775807 := by decide
    omega
  rw [e1, e2]
  obtain ⟨m, em, m1, m2, m3⟩ := search_none (text := (txt l).cps) (groups := reRawNat (fs.getD 2 Value.none)) hi h2 (by
    intro j hj
    refine hclean _ ?_
    have hj' : j < l.length := by have : (txt l).cps.size = l.length := by { show l.toArray.size = _; rw [List.size_toArray] }
                                  omega
    have : (txt l).cps.getD j 0 = l[j] := by simp [Array.getD, hj']
    rw [this]
    exact List.getElem_mem hj')
  rw [em]
  unfold reAnswer
  refine wpAny_bind (toEnd_fail m1 m2 m3 ?_)
  exact wpAny_pure h
theorem search_method {q : Addr} {oq : Obj} {pl : Sem Bool} {Q : Value × List Value → Shared → Prop} (hq : s.heap.get? q = some oq) (hcl : oq.cls = .type "re.Pattern") (hd : oq.dict = none) (h : Q (.builtin "re.Pattern.search", [.ref q]) s) :
    wpAny (model prog w) A (getMethod (.ref q) (Str.ofString "search") pl) Q E s :=
  getMethod_builtin ⟨_, hq, hcl⟩ plain_pattern slot_search type_search (fun a e => by cases e; exact ⟨_, hq, hd⟩) h
end
/-- a pattern of the written part, with its code -/
noncomputable def patIn (K : Frag) (q : Addr) (code : List Nat) : Bool := match K.lookup q with
  | some ⟨.type "re.Pattern", none, .fields fs, _⟩ => reRawNat (fs.getD 6 .none) == 0 && (match fs.getD 5 .none with
    | .ref c => (match K.lookup c with
      | some ⟨_, _, .seq items _, _⟩ => (items.toList.map fun v => (reRawOf v).toNat) == code
      | _ => false)
    | _ => false)
  | _ => false
noncomputable def valueCode : List Nat := [14, 14, 4, 1, 1, 9, 4294966783, 0, 0, 2147483648, 0, 0, 0, 0, 0, 13, 11, 9, 4294966783, 0, 0, 2147483648, 0, 0, 0, 0, 0, 1]
noncomputable def nameCode : List Nat := [14, 10, 4, 1, 1, 22, 0, 31, 16, 127, 0, 13, 7, 22, 0, 31, 16, 127, 0, 1]
theorem charset_no : ∀ c : Fin 256, 32 ≤ c.val → c.val ≠ 127 → (valueCode.toArray.getD (5 + (1 + c.val / 32)) 0).testBit (c.val % 32) = false := by decide +kernel
theorem not_in_value {c : Nat} (h : 32 ≤ c) (h7 : c ≠ 127) : NotIn valueCode.toArray c := by
  intro seen
  have e : ¬ ((decide (c < 256) && (valueCode.toArray.getD (5 + (1 + c / 32)) 0).testBit (c % 32)) = true) := by
    by_cases hb : c < 256
    · rw [charset_no ⟨c, hb⟩ h h7, Bool.and_false]; decide
    · rw [decide_eq_false hb, Bool.false_and]; decide
  refine ⟨(seen.add 9).add 0, ?_⟩
  show Sre.inSet valueCode.toArray c (27 + 1) 5 true seen = _
  unfold Sre.inSet
  show (if (decide (c < 256) && (valueCode.toArray.getD (5 + (1 + c / 32)) 0).testBit (c % 32)) = true then _ else _) = _
  rw [if_neg e]
  show Sre.inSet valueCode.toArray c (26 + 1) 14 true _ = _
  unfold Sre.inSet
  rfl
theorem not_in_name {c : Nat} (h : 32 ≤ c) (h7 : c ≠ 127) : NotIn nameCode.toArray c := by
  intro seen
  have e1 : ¬ ((decide (nameCode.toArray.getD (5 + 1) 0 ≤ c) && decide (c ≤ nameCode.toArray.getD (5 + 2) 0)) = true) := by
    have : nameCode.toArray.getD (5 + 2) 0 = 31 := rfl
    rw [this, decide_eq_false (show ¬ c ≤ 31 by omega), Bool.and_false]; decide
  have e2 : ¬ ((c == nameCode.toArray.getD (8 + 1) 0) = true) := by
    have : nameCode.toArray.getD (8 + 1) 0 = 127 := rfl
    rw [this]; simpa using h7
  refine ⟨((seen.add 22).add 16).add 0, ?_⟩
  show Sre.inSet nameCode.toArray c (19 + 1) 5 true seen = _
  unfold Sre.inSet
  show (if (decide (nameCode.toArray.getD (5 + 1) 0 ≤ c) && decide (c ≤ nameCode.toArray.getD (5 + 2) 0)) = true then _ else _) = _
  rw [if_neg e1]
  show Sre.inSet nameCode.toArray c (18 + 1) 8 true _ = _
  unfold Sre.inSet
  show (if (c == nameCode.toArray.getD (8 + 1) 0) = true then _ else _) = _
  rw [if_neg e2]
  show Sre.inSet nameCode.toArray c (17 + 1) 10 true _ = _
  unfold Sre.inSet
  rfl
section
variable {prog : Program} {w : World} {A : Around} {E : Value → Shared → Prop} {s : Shared}
theorem pat_search {K : Frag} {q : Addr} {code : List Nat} {l : List Nat} {t : Tok} {Q : Value → Shared → Prop} (X : K.In s.heap) (hp : patIn K q code = true)
    (hi : (match Sre.ops[code.toArray.getD 0 0]? with | some .INFO => true | _ => false) = true) (h2 : code.toArray.getD 2 0 = 4) (hclean : ∀ x ∈ l, NotIn code.toArray x) (hlen : l.length ≤ 1000000) (h : Q .none s) :
    wpAny (model prog w) A (call (.builtin "re.Pattern.search") [.ref q, .str (txt l) t]) Q E s := by
  unfold patIn at hp
  split at hp
  · rename_i fs sl e
    rw [Bool.and_eq_true] at hp
    obtain ⟨h6, hp⟩ := hp
    split at hp
    · rename_i c e5
      split at hp
      · rename_i oc od items k sl' e'
        refine search_call (code := code.toArray) (X _ _ e) rfl rfl e5 (beq_iff_eq.mp h6) (X _ _ e') rfl ?_ hi h2 hclean hlen h
        have := beq_iff_eq.mp hp
        apply Array.ext'
        simp only [Array.toList_map, List.map_map]
        rw [← this]
        rfl
      · cases hp
    · cases hp
  · cases hp
theorem pat_method {K : Frag} {q : Addr} {code : List Nat} {pl : Sem Bool} {Q : Value × List Value → Shared → Prop} (X : K.In s.heap) (hp : patIn K q code = true) (h : Q (.builtin "re.Pattern.search", [.ref q]) s) :
    wpAny (model prog w) A (getMethod (.ref q) (Str.ofString "search") pl) Q E s := by
  unfold patIn at hp
  split at hp
  · rename_i fs sl e
    exact search_method (X _ _ e) rfl rfl h
  · cases hp
end
noncomputable def Clean (l : List Nat) : Prop := ∀ x ∈ l, 32 ≤ x ∧ x ≠ 127
section
variable {prog : Program} {w : World} {A : Around} {E : Value → Shared → Prop} {s : Shared} {h₀ : Heap} {L : Addr} {m : Str → Option Value}
theorem name_searchF {K : Frag} {q : Addr} {l : List Nat} {t : Tok} {Q : Value → Shared → Prop} (F : Fr h₀ L s.heap m) (X : K.In h₀) (hp : patIn K q nameCode = true) (hc : Clean l) (hlen : (txt l).length ≤ 1000000) (h : Q .none s) :
    wpAny (model prog w) A (call (.builtin "re.Pattern.search") [.ref q, .str (txt l) t]) Q E s :=
  pat_search (X.keeps F.keep) hp rfl rfl (fun x hx => not_in_name (hc x hx).1 (hc x hx).2) hlen h
theorem value_searchF {K : Frag} {q : Addr} {l : List Nat} {t : Tok} {Q : Value → Shared → Prop} (F : Fr h₀ L s.heap m) (X : K.In h₀) (hp : patIn K q valueCode = true) (hc : Clean l) (hlen : (txt l).length ≤ 1000000) (h : Q .none s) :
    wpAny (model prog w) A (call (.builtin "re.Pattern.search") [.ref q, .str (txt l) t]) Q E s :=
  pat_search (X.keeps F.keep) hp rfl rfl (fun x hx => not_in_value (hc x hx).1 (hc x hx).2) hlen h
theorem name_methodF {K : Frag} {q : Addr} {pl : Sem Bool} {Q : Value × List Value → Shared → Prop} (F : Fr h₀ L s.heap m) (X : K.In h₀) (hp : patIn K q nameCode = true) (h : Q (.builtin "re.Pattern.search", [.ref q]) s) :
    wpAny (model prog w) A (getMethod (.ref q) (Str.ofString "search") pl) Q E s := pat_method (X.keeps F.keep) hp h
theorem value_methodF {K : Frag} {q : Addr} {pl : Sem Bool} {Q : Value × List Value → Shared → Prop} (F : Fr h₀ L s.heap m) (X : K.In h₀) (hp : patIn K q valueCode = true) (h : Q (.builtin "re.Pattern.search", [.ref q]) s) :
    wpAny (model prog w) A (getMethod (.ref q) (Str.ofString "search") pl) Q E s := pat_method (X.keeps F.keep) hp h
end
end Mine
end
theorem Mine.fresh_CV : True := by
  w_top off
  k_with_none
  trivial
section
open PySem PySem.W PyProof.Rows PySem.Calls
namespace Mine
local macro_rules | `(tactic| k_room) => `(tactic| ktr_room)
local macro_rules | `(tactic| k_mem) => `(tactic| with_reducible assumption)
theorem pat122 (w : World) : patIn (hd.heap_39 w.params) 122 nameCode = true := by kernel_rfl
theorem pat127 (w : World) : patIn (hd.heap_39 w.params) 127 valueCode = true := by kernel_rfl
local macro_rules | `(tactic| walk_at "getMethod ref") => `(tactic| (k_here; first
  | k_dflt (refine' name_methodF ?F ?X ?zz ?_; (case F => k_asm); (case X => k_asm); (case zz => exact pat122 _); k_whole)
  | k_dflt (refine' value_methodF ?F ?X ?zz ?_; (case F => k_asm); (case X => k_asm); (case zz => exact pat127 _); k_whole)))
local macro_rules | `(tactic| walk_at "call builtin:re.Pattern.search") => `(tactic| (k_here; first
  | k_dflt (refine' name_searchF ?F ?X ?zz ?zc ?zl ?_; (case F => k_asm); (case X => k_asm); (case zz => exact pat122 _); (case zc => assumption); (case zl => omega); k_whole)
  | k_dflt (refine' value_searchF ?F ?X ?zz ?zc ?zl ?_; (case F => k_asm); (case X => k_asm); (case zz => exact pat127 _); (case zc => assumption); (case zl => omega); k_whole)))
set_option maxRecDepth 100000 in
set_option maxHeartbeats 4000000 in
theorem conv_spec {w : World} {p : Program} {loose : List Str} {mean : ExcName → Option Value} {mg mb : Str → Option Value} {dp un : Nat} {gd : Option (List Code)} {cn : Str} {cs : Scope} {a : Addr} {ccd : Value} {cl : List (Str × Addr)} {outer : List Env} {A₀ : Around} {base h₀ : Heap} {L : Addr} {m : Str → Option Value} {news : List (Addr × Obj)} {s : Shared} {R : Result → Shared → Prop}
  (B : Below A₀ base outer h₀) (F : Fr h₀ L s.heap m) (X : (hd.heap_39 w.params).In h₀) (N : News h₀ L s.heap news) (T : Top p loose mean mg mb h₀) (hk : cs.kind = .function)
  (hdp : dp + 2 < recursionLimit) (hun : un + 20 < cLine) {hx : Addr} {t : Tok} {x : Str} {b : Bool} (hlen : x.length ≤ 1000) (hcl : Clean x.cps.toList)
  (hret : ∀ h' tk', Fr h₀ L h' m → News h₀ L h' news → R (.ok (.ret (.str x t))) { s with heap := h', toks := tk' }) :
  codeAny (model PySem.Challenge.rw_tp0038_02.row.prog w) (ktrTop dp un gd cn cs L a ccd cl outer) (.call (.ref 157) ⟨[.ref hx, .str x t], [(Str.ofString "name", .bool b)]⟩) R s := by
  obtain ⟨v, rfl⟩ : ∃ v, x = txt v := ⟨x.cps.toList, rfl⟩
  change Clean v at hcl
  revert X; k_fill; intro X
  walk_at "mine:enter"
  k_steps
  all_goals exact hret _ _ (by k_asm) (by k_asm)
end Mine
end
local macro_rules | `(tactic| walk_at "mine:none14") => `(tactic| fail "none")
local macro_rules | `(tactic| walk_at "mine:none15") => `(tactic| fail "none")
local macro_rules | `(tactic| walk_at "mine:none16") => `(tactic| fail "none")
theorem Mine.fresh_KW : True := by
  w_top off
  k_with_none
  trivial
section
open PySem PySem.W PyProof.Rows PySem.Calls
set_option maxRecDepth 100000
namespace Mine
section
variable {prog : Program} {w : World} {A A₀ : Around} {s : Shared} {K : Frag} {L : Addr} {h₀ base : Heap} {m mg mb : Str → Option Value} {news : List (Addr × Obj)} {p : Program} {loose : List Str} {mean : ExcName → Option Value}

/-- a bind that makes one dict of one leftover keyword -/
noncomputable abbrev kwTree (key : Str) (val : Value) (binds : Addr → List (Str × Value)) : Sem (List (Str × Value)) :=
  alloc { cls := .type "dict", data := .dict #[] } >>= fun d => forIn [(key, val)] PUnit.unit (fun kv _ => nsSet d kv.1 kv.2 >>= fun _ => pure (ForInStep.yield PUnit.unit)) >>= fun _ => pure (binds d)
theorem kw_binds {key : Str} {val : Value} {binds : Addr → List (Str × Value)} {E : Value → Shared → Prop} {Q : List (Str × Value) → Shared → Prop} (F : Fr h₀ L s.heap m) (N : News h₀ L s.heap news) (hbig : sysModules < h₀.objs.size)
    (h : ∀ d t h1 tk1, (d == sysModules) = false → s.toks ≤ tk1 → Fr h₀ L h1 m → News h₀ L h1 ((d, dictOf [⟨PyData.keyHash w.params key, .str key t, val⟩] 1) :: news) → (∀ q ∈ news, q.1 < d) → Q (binds d) { s with heap := h1, toks := tk1 }) :
    wpAny (model prog w) A (kwTree key val binds) Q E s := by
  have F1 := F.push ({ cls := .type "dict", data := .dict #[] } : Obj)
  have N1 := N.push F ({ cls := .type "dict", data := .dict #[] } : Obj) rfl
  have hne : ∀ q ∈ news, q.1 < s.heap.objs.size := fun q hq => Heap.lt_size (N q hq).1
  have U3 := news_upd (pre := []) (post := news) (d := s.heap.objs.size) (o := dictOf [] 0) (o' := dictOf [⟨PyData.keyHash w.params key, .str key s.toks, val⟩] 1) (f := Obj.putName key (PyData.keyHash w.params key) (.str key s.toks) val) F1 N1 (fun _ h => nomatch h) (fun p hp => Nat.ne_of_lt (hne p hp)) (by rw [putName_dict]; rfl) rfl
  obtain ⟨F3, N3⟩ := U3
  have D := (N1 (s.heap.objs.size, dictOf [] 0) (.head _)).1
  have D' := (N3 (s.heap.objs.size, dictOf [⟨PyData.keyHash w.params key, .str key s.toks, val⟩] 1) (.head _)).1
  dsimp only at D D'
  refine wpAny_bind (wpAny_alloc ?_)
  rw [List.forIn_cons]
  refine wpAny_bind (wpAny_bind (wpAny_bind ?_))
  unfold nsSet
  refine wpAny_bind (wpAny_bind (wpAny_askSetting (wpAny_pure (wpAny_bind (wpAny_mkText (wpAny_bind (wpAny_loadPart D ?_)))))))
  dsimp only
  rw [aRefKeyMayBeTheName_at]
  rw [if_neg (by simp)]
  refine wpAny_updatePart D ?_
  exact wpAny_pure (wpAny_pure (wpAny_pure (h _ _ _ _ (F.notModules hbig) (Nat.le_succ _) F3 N3 hne)))

theorem code_defKw {env : Env} {outer : List Env} {R : Result → Shared → Prop} {name qual : Str} {params : Arguments} {body : List Stmt} {scope : Scope} {dV kV doc pm cdv ct oc : Value} {an od : Option Addr} {osl : Array (Option Value)} {f : Addr} {args : Args} {key : Str} {val : Value} {binds : Addr → List (Str × Value)}
    (B : Below A₀ base outer h₀) (F : Fr h₀ L s.heap m) (X₀ : K.In h₀) (N : News h₀ L s.heap news) (T : Top p loose mean mg mb h₀) (hA : A.frames = some (env :: outer)) (hf : env.frame = some L) (hke : env.scope.kind = .function)
    (ho : K.lookup f = some ⟨oc, od, .func (fnOf name qual params body scope dV kV doc pm an cdv ct), osl⟩) (hcd : codeIn K cdv qual = true) (hroom : A.depth < recursionLimit)
    (hbind : bindArgs (fnOf name qual params body scope dV kV doc pm an cdv ct) args = kwTree key val binds) (hloc : ∀ d, ∀ y ∈ binds d, scope.names.lookup y.1 = some .local)
    (h : ∀ d t tk g L' h₁, (d == sysModules) = false → s.toks ≤ tk → Fr h₀ L g m → Fr g L' h₁ (fun y => (binds d).reverse.lookup y) → News g L' h₁ ((d, dictOf [⟨PyData.keyHash w.params key, .str key t, val⟩] 1) :: news) → Below A base (env :: outer) g → K.In g → Top p loose mean mg mb g → (∀ q ∈ news, q.1 < d) →
      wpAny (model prog w) (A.deeper (envOf qual scope L' f cdv)) (execs body (envOf qual scope L' f cdv))
        (fun fl s' => LeaveK h₀ L m g R (match fl with | .ret v => v | _ => .none) s')
        (fun e s' => wpAny (model prog w) (A.deeper (envOf qual scope L' f cdv)) (leaving (envOf qual scope L' f cdv) e) (fun _ s'' => R (.error e) s'') (fun e' s'' => R (.error e') s'') s')
        { s with heap := h₁, toks := tk })
    (hco : scope.isCoroutine = false) (hgen : scope.isGenerator = false) (hk : scope.kind = .function)
    (hcell : ∀ x ∈ scope.names, x.2 ≠ .cell) : codeAny (model prog w) A (.call (.ref f) args) R s := by
  refine codeAny_call_function (body := body) hroom ((X₀.keeps F.keep) _ _ ho) rfl hco hgen rfl (codeRec_of (X₀.keeps F.keep) hcd) ?_
  rw [hbind]
  refine kw_binds F N (modules_low T.nolimit) fun d t h1 tk1 hm ht F1 N1 l1 => ?_
  obtain ⟨FG, BG, st, lv⟩ := groundX (R := R) (s := { s with heap := h1, toks := tk1 }) B F1 N1 hA hf hke
  refine wpAny_newFunctionEnv hcell (hloc d) (fun h₂ hns₂ hsb₂ => ⟨(T.nolimit.keeps F1.keep).fresh _ hsb₂, codeAny_func ?_⟩) hk
  have hk₂ : ∀ b o, h1.get? b = some o → h₂.get? b = some o := fun b o e => hsb₂.extBut b o (Nat.ne_of_lt (Heap.lt_size e)) (Heap.get?_push_of_some _ e)
  exact wpAny_mono (h d t _ _ h1.objs.size h₂ hm (Nat.le_trans ht (Nat.le_add_right _ _)) FG ⟨hns₂, fun b o e => hk₂ b o (of_hideAll _ e), Nat.le_of_eq (hideAll_size _ _)⟩
    (fun p hp => ⟨hk₂ _ _ (N1 p hp).1, Nat.ne_of_lt (Heap.lt_size (N1 p hp).1), hideAll_none _ (List.mem_map_of_mem hp)⟩) BG (X₀.keeps st) (T.keeps st) l1) (fun fl s' hl => lv _ _ hl) fun _ _ y => y
theorem kw_isDict (prog : Program) (w : World) (key : Str) (t : Tok) (val : Value) : (dictOf [⟨PyData.keyHash w.params key, .str key t, val⟩] 1).IsDictOf (PySem.strKind prog w) [(key, val)] := by
  refine ⟨_, _, ⟨rfl, rfl, rfl⟩, rfl, ?_, ?_, ?_⟩
  · intro e he
    have : e = ⟨PyData.keyHash w.params key, .str key t, val⟩ := by simpa using he
    subst this
    exact ⟨key, strKind_is prog w key t, rfl⟩
  · exact .cons (strKind_is prog w key t) rfl .nil
  · simp
end
end Mine
end
theorem Mine.fresh_AH : True := by
  w_top off
  k_with_none
  trivial
section
open PySem PySem.W PyProof.Rows PySem.Calls
namespace Mine
local macro_rules | `(tactic| k_room) => `(tactic| ktr_room)
local macro_rules | `(tactic| k_all) => `(tactic| first | assumption | (refine ne_all (by assumption) ?_; omega))
local macro_rules | `(tactic| k_mem) => `(tactic| with_reducible assumption)
theorem clean_k : Clean (Str.ofString "k").cps.toList := by
  have : ∀ x ∈ (Str.ofString "k").cps.toList, 32 ≤ x ∧ x ≠ 127 := by decide +kernel
  exact this
theorem clean_Part : Clean (Str.ofString "Part").cps.toList := by
  have : ∀ x ∈ (Str.ofString "Part").cps.toList, 32 ≤ x ∧ x ≠ 127 := by decide +kernel
  exact this
local macro_rules | `(tactic| walk_at "call ref") => `(tactic| first
  | ((with_reducible show wpAny _ _ (call (Value.ref 157) _ _) _ _ _); (refine' wpAny_call (conv_spec ?zB ?zF ?zX ?zN ?zT rfl ?zd ?zu ?zl ?zc ?_); (case zB => k_asm); (case zF => k_asm); (case zX => k_asm); (case zN => k_asm); (case zT => k_asm); (case zd => ktr_room); (case zu => ktr_units); (case zl => first | exact Nat.le_of_ble_eq_true rfl | omega); (case zc => first | exact clean_k | exact clean_Part | with_unfolding_all assumption)); intro h' tk' F' N')
  | ((with_reducible show wpAny _ _ (call (Value.ref 135) _ _) _ _ _); (refine' wpAny_call (fp_spec (pa := [107]) ?zB ?zF ?zX ?zN ?zT rfl ?zd ?zu ?zs ?zp ?zl ?_); (case zB => k_asm); (case zF => k_asm); (case zX => k_asm); (case zN => k_asm); (case zT => k_asm); (case zd => ktr_room); (case zu => ktr_units); (case zs => first | (dsimp only; omega) | (dsimp only at *; omega)); (case zp => exact Nat.le_of_ble_eq_true rfl); (case zl => omega)); intro t' h' tk' F' N'))
local macro_rules | `(tactic| walk_at "call builtin:str.replace") => `(tactic| ((refine rep_k (by first | (dsimp only; omega) | (dsimp only at *; omega)) ?_); (intro t' k hk1)))
theorem subL_tail {p : Addr × Obj} : ∀ {l k : List (Addr × Obj)}, (∀ q ∈ l, q ∈ k) → SubL l k
  | [], _, _ => trivial
  | _ :: _, _, h => ⟨h _ List.mem_cons_self, subL_tail (p := p) fun q hq => h q (List.mem_cons_of_mem _ hq)⟩
theorem unr_one {h₀ h' : Heap} {L : Addr} {rest : (Str → Option Value) → List (Addr × Obj) → Prop} {s₁ : Shared} {tk : Nat} {m' : Str → Option Value} {i : Addr} {o : Obj} {nw : List (Addr × Obj)} (F : Fr h₀ L h' m') (N : News h₀ L h' ((i, o) :: nw))
    (off : OffW [(i, o)] nw) (r : rest m' nw) : UnrEndW h₀ L s₁ [(i, o)] rest { s₁ with heap := h', toks := tk } :=
  UnrEndW.intro F N nw (subL_tail (p := (i, o)) fun q hq => by rcases List.mem_cons.mp hq with rfl | hq; exact List.mem_cons_self; cases hq) (subL_tail (p := (i, o)) fun q hq => List.mem_cons_of_mem _ hq) off r
theorem offW_all {i : Addr} {o : Obj} : ∀ {l : List (Addr × Obj)}, AllLt i l → OffW [(i, o)] l
  | [], _ => trivial
  | _ :: _, h => ⟨⟨.inl (Nat.ne_of_lt h.1), trivial⟩, offW_all h.2⟩
theorem fp_len (v : List Nat) : (txt (fpOf [107] v)).length ≤ (txt v).length * 9 + 4 := by
  show (fpOf [107] v).length ≤ v.length * 9 + 4
  unfold fpOf
  split
  · simp
  · have h1 := rep_len 34 [92, 34] (rep 92 [92, 92] v)
    have h2 := rep_len 92 [92, 92] v
    simp only [List.length_append, List.length_cons, List.length_nil, esc] at h1 h2 ⊢
    omega
theorem join_one {prog : Program} {w : World} {A : Around} {E : Value → Shared → Prop} {s : Shared} {h₀ : Heap} {L : Addr} {news : List (Addr × Obj)} {D : Addr} {x : Str} {y : Str} {t u : Tok} {n : Nat} {Q : Value → Shared → Prop} (N : News h₀ L s.heap news) (hm : (D, listOf (#[].push (.str y t)) n) ∈ news) (hx : x.length ≤ 16) (hy : y.length ≤ 100000)
    (h : ∀ t' k, Q (.str y t') { s with toks := k }) : wpAny (model prog w) A (call (.builtin "str.join") [.str x u, .ref D]) Q E s := by
  refine join_listW (ys := [y]) (News.isList N hm) (.cons _ _ .nil) hx (by simp only [List.map_cons, List.map_nil, List.sum_cons, List.sum_nil, List.length_cons, List.length_nil]; omega) ?_
  exact h
local macro_rules | `(tactic| walk_at "call builtin:str.join") => `(tactic| ((refine' join_one ?zN ?zm ?zx ?zy ?_; (case zN => k_asm); (case zm => k_mem); (case zx => exact Nat.le_of_ble_eq_true rfl); (case zy => (refine Nat.le_trans (fp_len _) ?_; omega))); intro t' k))
theorem ah_fin {h₀ h : Heap} {L hl : Addr} {items : List Value} {v : Value} {a b c : Addr × Obj} {rest : List (Addr × Obj)} (N : News h₀ L h (a :: b :: c :: (hl, listOf (items.toArray.push v) (items.length + 1)) :: rest)) : News h₀ L h ((hl, LCg.lst (items ++ [v])) :: a :: rest) := by
  rw [← LCg.lst_snoc]
  intro p hp
  refine N p ?_
  simp only [List.mem_cons] at hp ⊢
  rcases hp with h | h | h <;> simp only [h, true_or, or_true]
set_option maxRecDepth 100000 in
set_option maxHeartbeats 4000000 in
theorem add_header_spec {w : World} {p : Program} {loose : List Str} {mean : ExcName → Option Value} {mg mb : Str → Option Value} {dp un : Nat} {gd : Option (List Code)} {cn : Str} {cs : Scope} {a : Addr} {ccd : Value} {cl : List (Str × Addr)} {outer : List Env} {A₀ : Around} {base h₀ : Heap} {L : Addr} {m : Str → Option Value} {rest : List (Addr × Obj)} {s : Shared} {R : Result → Shared → Prop}
  {hx hd9 hl : Addr} {items : List Value} {t1 tn tv : Tok} {v : List Nat}
  (B : Below A₀ base outer h₀) (F : Fr h₀ L s.heap m) (X : (hd.heap_39 w.params).In h₀) (N : News h₀ L s.heap ((hl, LCg.lst items) :: rest)) (T : Top p loose mean mg mb h₀) (hk : cs.kind = .function)
  (hdp : dp + 8 < recursionLimit) (hun : un + 40 < cLine) (hs : 1 ≤ s.toks) (hlen : (txt v).length ≤ 100) (hcl : Clean v) (hil : items.length ≤ 100)
  (o1 : ∀ q ∈ rest, q.1 ≠ hl)
  (m1 : List.Mem (hx, instObj 256 hd9) rest) (m2 : List.Mem (hd9, dictOf [⟨PyData.keyHash w.params (Str.ofString "_headers"), .str (Str.ofString "_headers") t1, .ref hl⟩] 1) rest)
  (hret : ∀ tp ta tb h' tk', Fr h₀ L h' m → News h₀ L h' ((hl, LCg.lst (items ++ [.ref tp])) :: (tp, ({ cls := .type "tuple", data := .seq #[.str (Str.ofString "Part") ta, .str (txt (fpOf [107] v)) tb] } : Obj)) :: rest) → (∀ q ∈ rest, q.1 < tp) → R (.ok (.ret .none)) { s with heap := h', toks := tk' }) :
  codeAny (model PySem.Challenge.rw_tp0038_02.row.prog w) (ktrTop dp un gd cn cs L a ccd cl outer) (.call (.ref 253) ⟨[.ref hx, .str (Str.ofString "Part") tn, .none], [(Str.ofString "k", .str (txt v) tv)]⟩) R s := by
  revert X; k_fill; intro X
  refine' code_defKw (key := Str.ofString "k") (val := .str (txt v) tv) (binds := fun d => [(Str.ofString "self", .ref hx), (Str.ofString "_name", .str (Str.ofString "Part") tn), (Str.ofString "_value", .none), (Str.ofString "_params", .ref d)]) B F X N T rfl rfl hk ?k6 ?k7 ?k8 ?k9 ?kB ?_ ?c2 ?c3 ?c4 ?c5
  case k6 => k_is
  case k7 => k_is
  case k8 => ktr_room
  case k9 => rfl
  case kB => exact fun d => locs rfl
  case c2 => exact rfl
  case c3 => exact rfl
  case c4 => exact rfl
  case c5 => decide
  k_whole
  intro d t9 tk9 g' L' h' hd6 ht9 FG' F' N' B' X' T' l9
  (try dsimp only)
  have l9a : @LT.lt Nat _ hl d := l9 _ List.mem_cons_self
  have hs9 : 1 ≤ tk9 := Nat.le_trans hs ht9
  have hd5 := kw_isDict PySem.Challenge.rw_tp0038_02.row.prog w (Str.ofString "k") t9 (.str (txt v) tv)
  have hf5 : PyProof.V.FlatPairs PyData.str [(Str.ofString "k", Value.str (txt v) tv)] [(PyData.str (Str.ofString "k"), PyData.str (txt v))] := .cons (PyProof.V.Flat.str _ _) .nil
  generalize dictOf [⟨PyData.keyHash w.params (Str.ofString "k"), .str (Str.ofString "k") t9, .str (txt v) tv⟩] 1 = od at *
  repeat' ((fail_if_success (with_reducible show wpAny _ _ (exec (Stmt.For _ _ _ _ _) _) _ _ _)); walk_at "mine:step")
  with_reducible rename Fr _ _ _ _ => lF'
  with_reducible rename News _ _ _ _ => lN'
  with_unfolding_all refine' For_turns lF' ?_
  with_unfolding_all refine MethodCall_ ?_
  with_unfolding_all refine ld lF' (by rfl) ?_
  have tab := fun (h5 : Heap) (news5 : List (Addr × Obj)) (N5 : News g' L' h5 news5) (hm : (d, od) ∈ news5) => TabAt.ofNews N5 hm hd6 hd5 hf5
  refine getMethod_tab (knd := PySem.strKind _ _) (enc := PyData.str) PySem.F.slot_dict_items PySem.F.type_dict_items (tab _ _ lN' (by k_mem)) ?_
  refine callWith_method0 ?_
  refine call_items_tab (knd := PySem.strKind _ _) (enc := PyData.str) (tab _ _ lN' (by k_mem)) lF' lN' ?_
  intro h' o' hv' F' N'
  replace N' := kti_tail N'
  with_unfolding_all refine kti_items (knd := PySem.strKind _ _) (enc := PyData.str) (xs := [Itm.pairF (fun t => Value.str (Str.ofString "k") t) (PyData.str (txt v))]) (by rfl) F' N' hv' (tab _ _ N' (by k_mem)) (by k_mem) (fun _ _ h => Value.isStrOf_shape h) (by rfl) ?_
  clear lF' lN'
  intro i' l1
  try k_lt l1
  repeat' ((fail_if_success (with_reducible show UnrEndW _ _ _ _ _ _)); walk_at "mine:step")
  with_reducible rename News g' L' _ _ => N9
  refine unr_one (by assumption) N9 (offW_all l1) ⟨subL_tail (p := (d, od)) fun q hq => (by rcases List.mem_cons.mp hq with rfl | hq; exact List.mem_cons_of_mem _ List.mem_cons_self; cases hq), ItemsRest.zero ?fin⟩
  case fin =>
    intro h5 tk5 F5 N5
    change Fr g' L' h5 _ at F5
    change News g' L' h5 _ at N5
    k_steps
    with_reducible rename News h₀ L _ _ => NE
    rename_i lE _ _ _ _ _ _
    exact hret _ _ _ _ _ (by k_asm) (ah_fin NE) (ktn_ltOf (by rename (_ ∧ _ ∧ _ ∧ AllLt _ _) => lZ; exact lZ.2.2.2))
end Mine
end
local macro_rules | `(tactic| walk_at "mine:none17") => `(tactic| fail "none")
local macro_rules | `(tactic| walk_at "mine:none18") => `(tactic| fail "none")
local macro_rules | `(tactic| walk_at "mine:none19") => `(tactic| fail "none")
theorem Mine.fresh_GA : True := by
  w_top off
  k_with_none
  trivial
section
open PySem PySem.W PyProof.Rows PySem.Calls
namespace Mine
local macro_rules | `(tactic| k_room) => `(tactic| ktr_room)
local macro_rules | `(tactic| k_all) => `(tactic| first | assumption | (refine ne_all (by assumption) ?_; omega))
local macro_rules | `(tactic| k_mem) => `(tactic| with_reducible assumption)
theorem clean_part : Clean (Str.ofString "part").cps.toList := by
  have : ∀ x ∈ (Str.ofString "part").cps.toList, 32 ≤ x ∧ x ≠ 127 := by decide +kernel
  exact this
inductive RowsIn (rest : List (Addr × Obj)) : List Value → List (List Nat) → Prop
  | nil : RowsIn rest [] []
  | cons {tp : Addr} {ta tb : Tok} {r : List Nat} {items rows} (h : List.Mem (tp, ({ cls := .type "tuple", data := .seq #[.str (Str.ofString "Part") ta, .str (txt r) tb] } : Obj)) rest) : RowsIn rest items rows → RowsIn rest (.ref tp :: items) (r :: rows)
theorem RowsIn.at {rest : List (Addr × Obj)} {items : List Value} {rows : List (List Nat)} (h : RowsIn rest items rows) : ∀ (i : Nat) (v : Value), items.toArray[i]? = some v → ∃ tp ta tb r, v = .ref tp ∧ rows[i]? = some r ∧ List.Mem (tp, ({ cls := .type "tuple", data := .seq #[.str (Str.ofString "Part") ta, .str (txt r) tb] } : Obj)) rest := by
  induction h with
  | nil => intro i v e; simp at e
  | @cons tp ta tb r items rows hm _ ih =>
    intro i v e
    cases i with
    | zero => simp at e; exact ⟨tp, ta, tb, r, e.symm, rfl, hm⟩
    | succ i =>
      obtain ⟨tp', ta', tb', r', e1, e2, e3⟩ := ih i v (by simpa using e)
      exact ⟨tp', ta', tb', r', e1, by simpa using e2, e3⟩
theorem RowsIn.len {rest : List (Addr × Obj)} {items : List Value} {rows : List (List Nat)} (h : RowsIn rest items rows) : items.length = rows.length := by
  induction h with
  | nil => rfl
  | cons _ _ ih => rw [List.length_cons, List.length_cons, ih]
theorem ga_fin {h₀ h : Heap} {L : Addr} {a b c : Addr × Obj} {rest : List (Addr × Obj)} (N : News h₀ L h (a :: b :: c :: rest)) : News h₀ L h (a :: c :: rest) := by
  intro p hp
  refine N p ?_
  simp only [List.mem_cons] at hp ⊢
  rcases hp with h | h | h <;> simp only [h, true_or, or_true]
theorem restT_ind {prog : Program} {w : World} {A : Around} {h₀ : Heap} {L : Addr} {m : Str → Option Value} {env : Env} {ct elt : Expr} {x : Str} {scope : Scope} {cl : List (Str × Addr)} {s : Shared} {S : List (Addr × Obj) → Prop} {P : Nat → Value → Prop}
    {Fin : List Value → List (Addr × Obj) → Prop} (J : Nat → Nat → List Value → List (Addr × Obj) → Prop) (fin : ∀ i ys news, J 0 i ys news → Fin ys news)
    (step : ∀ k i ys news, J (k + 1) i ys news → ∀ v I oI C oC D m₂ h tk (E' : Value → Shared → Prop), P i v → LCg.NsObj oC m₂ → m₂ x = some v → Fr h₀ L h m → News h₀ L h ((I, oI) :: (C, oC) :: (D, LCg.lst ys) :: news) → LCg.Off3 I C D news → ((@Ne Nat I C) ∧ (@Ne Nat I D) ∧ (@Ne Nat C D)) →
      wpAny (model prog w) A (isTrue ct (compEnvC scope cl C env) (eval ct (compEnvC scope cl C env))) (fun ok s' => if ok = true then
        wpAny (model prog w) A (eval elt (compEnvC scope cl C env)) (LCg.CompEnd h₀ L m { s with heap := h, toks := tk } I oI C oC D (LCg.lst ys) S (fun y news' => J k (i + 1) (ys ++ [y]) news')) E' s'
        else LCg.CompEnd h₀ L m { s with heap := h, toks := tk } I oI C oC D (LCg.lst ys) S (fun _ news' => J k (i + 1) ys news') Value.none s') E' { s with heap := h, toks := tk }) :
    ∀ k i ys news, J k i ys news → LCt.CompRestT prog w A h₀ L m env ct elt x scope cl s S P Fin k i ys news := by
  intro k
  induction k with
  | zero => intro i ys news h; exact fin i ys news h
  | succ k ih =>
    intro i ys news hJ
    refine LCt.CompRestT.succ ?_
    intro v I oI C oC D m₂ h tk E' a1 a2 a3 a4 a5 a6 a7
    refine wpAny_mono (step k i ys news hJ v I oI C oC D m₂ h tk E' a1 a2 a3 a4 a5 a6 a7) (fun ok s₂ h₂ => ?_) fun _ _ z => z
    cases ok with
    | true =>
      simp only [if_true] at h₂ ⊢
      refine wpAny_mono h₂ (fun y s₃ h₃ => ?_) fun _ _ z => z
      obtain ⟨h', tk', news', e, F', N', O', S', r'⟩ := h₃
      exact ⟨h', tk', news', e, F', N', O', S', ih _ _ _ r'⟩
    | false =>
      simp only [Bool.false_eq_true, if_false] at h₂ ⊢
      obtain ⟨h', tk', news', e, F', N', O', S', r'⟩ := h₂
      exact ⟨h', tk', news', e, F', N', O', S', ih _ _ _ r'⟩
local macro_rules | `(tactic| walk_at "call ref") => `(tactic| ((with_reducible show wpAny _ _ (call (Value.ref 157) _ _) _ _ _); (refine' wpAny_call (conv_spec ?zB ?zF ?zX ?zN ?zT rfl ?zd ?zu ?zl ?zc ?_); (case zB => k_asm); (case zF => k_asm); (case zX => k_asm); (case zN => k_asm); (case zT => k_asm); (case zd => ktr_room); (case zu => ktr_units); (case zl => first | exact Nat.le_of_ble_eq_true rfl | omega); (case zc => exact clean_part)); intro h' tk' F' N'))
set_option maxRecDepth 100000 in
set_option maxHeartbeats 4000000 in
theorem get_all_spec {w : World} {p : Program} {loose : List Str} {mean : ExcName → Option Value} {mg mb : Str → Option Value} {dp un : Nat} {gd : Option (List Code)} {cn : Str} {cs : Scope} {a : Addr} {ccd : Value} {cl : List (Str × Addr)} {outer : List Env} {A₀ : Around} {base h₀ : Heap} {L : Addr} {m : Str → Option Value} {rest : List (Addr × Obj)} {s : Shared} {R : Result → Shared → Prop}
  {hx hd9 hl : Addr} {items : List Value} {rows : List (List Nat)} {t1 tn : Tok}
  (B : Below A₀ base outer h₀) (F : Fr h₀ L s.heap m) (X : (hd.heap_39 w.params).In h₀) (N : News h₀ L s.heap ((hl, LCg.lst items) :: rest)) (T : Top p loose mean mg mb h₀) (hk : cs.kind = .function)
  (hdp : dp + 8 < recursionLimit) (hun : un + 40 < cLine) (hil : items.length ≤ 100) (hr : RowsIn rest items rows)
  (m1 : List.Mem (hx, instObj 256 hd9) rest) (m2 : List.Mem (hd9, dictOf [⟨PyData.keyHash w.params (Str.ofString "_headers"), .str (Str.ofString "_headers") t1, .ref hl⟩] 1) rest)
  (hret : ∀ D ys h' tk', StrsAre ys (rows.map txt) → Fr h₀ L h' m → News h₀ L h' ((D, LCg.lst ys) :: (hl, LCg.lst items) :: rest) → R (.ok (.ret (.ref D))) { s with heap := h', toks := tk' }) :
  codeAny (model PySem.Challenge.rw_tp0038_02.row.prog w) (ktrTop dp un gd cn cs L a ccd cl outer) (.call (.ref 195) ⟨[.ref hx, .str (Str.ofString "pART") tn], []⟩) R s := by
  revert X; k_fill; intro X
  walk_at "mine:enter"
  repeat' ((fail_if_success (with_reducible show wpAny _ _ (eval (Expr.ListComp _ _ _ _) _) _ _ _)); walk_at "mine:step")
  rename_i g₁ L₁ h1 tk1 FG₁ B₁ X₁ T₁ l₁ o1 d1 tA kA h2 tk2 h3 oN F1 N1 dN
  refine LCt.ListComp_T (F₀ := by k_asm) (by with_unfolding_all rfl) (by decide) (by rfl) (by decide) (by rfl) ?_
  repeat' ((fail_if_success (with_reducible show LCt.CompSrcT _ _ _ _ _ _ _ _ _ _ _ _ _ _ _)); walk_at "mine:step")
  refine LCt.CompSrcT.ledger rfl F1 N1 (.tail _ (.head _)) (by rw [sizeLine_eq, List.size_toArray]; omega) ?_
  intro g2
  have hlen := hr.len
  refine restT_ind (fun k i ys nw => nw = (L₁ + 1, oN) :: (hl, LCg.lst items) :: rest ∧ i + k = items.length ∧ StrsAre ys ((rows.take i).map txt)) ?_ ?_ _ _ _ _ ⟨rfl, by rw [List.size_toArray]; omega, .nil⟩
  · rintro i ys nw ⟨rfl, hi, hys⟩
    rw [List.take_of_length_le (by omega)] at hys
    k_steps
    with_reducible rename News h₀ L _ _ => NE
    exact hret _ _ _ _ hys (by k_asm) (ga_fin NE)
  · rintro k i ys nw ⟨rfl, hi, hys⟩ v I oI C oC D m₂ h tk9 E' hv hC hm₂ F3 N3 off ne
    obtain ⟨tp, ta, tb, r, rfl, hrow, hmem⟩ := hr.at i v hv
    repeat' ((fail_if_success (with_reducible show LCg.CompEnd _ _ _ _ _ _ _ _ _ _ _ _ _ _)); walk_at "mine:step")
    refine LCg.CompEnd.intro F3 N3 ((L₁ + 1, oN) :: (hl, LCg.lst items) :: rest) (fun p hp => hp) off (.inr ⟨_, .tail _ (.head _), rfl, _, rfl⟩) ⟨rfl, by omega, ?_⟩
    rw [List.take_add_one, hrow, List.map_append]
    exact StrsAre.append' hys (.cons _ _ .nil)
end Mine
end
local macro_rules | `(tactic| walk_at "mine:none20") => `(tactic| fail "none")
local macro_rules | `(tactic| walk_at "mine:none21") => `(tactic| fail "none")
theorem Mine.fresh_PL : True := by
  w_top off
  k_with_none
  trivial
section
open PySem PySem.W PyProof.Rows PySem.Calls
namespace Mine
/-- a text whose marks are laid twice, then a mark and what is no mark -/
theorem p257_twice (v : List Nat) (c : Nat) (t : List Nat) (hc : c ≠ 34) : p257 (rep 34 [34, 34] v ++ 34 :: c :: t) = v := by
  induction v with
  | nil => exact p257_34 c t hc
  | cons k r ih =>
    by_cases h : k = 34
    · subst h
      rw [rep, if_pos rfl]
      show p257 (34 :: 34 :: (rep 34 [34, 34] r ++ 34 :: c :: t)) = _
      rw [p257_3434, ih]
    · rw [rep, if_neg h]
      show p257 (k :: (rep 34 [34, 34] r ++ 34 :: c :: t)) = _
      rw [p257_c _ _ h, ih]
/-- inside marks: a text without marks whose backslashes are laid twice -/
theorem inq_piece (p : List Nat) (hp : 34 ∉ p) (r : List Nat) : InQ (rep 92 [92, 92] p ++ 34 :: r) p r := by
  induction p with
  | nil => exact .close r
  | cons k p ih =>
    have h1 : 34 ∉ p := fun h => hp (List.mem_cons_of_mem _ h)
    have h2 : k ≠ 34 := fun h => hp (h ▸ List.mem_cons_self)
    by_cases h : k = 92
    · subst h
      rw [rep, if_pos rfl]
      exact .esc _ _ _ _ (ih h1)
    · rw [rep, if_neg h]
      exact .plain _ _ _ _ h2 h (ih h1)
theorem inq_esc (v : List Nat) (r : List Nat) : InQ (esc v ++ 34 :: r) v r := by
  unfold esc
  induction v with
  | nil => exact .close r
  | cons k v ih =>
    by_cases h : k = 92
    · subst h
      rw [rep, if_pos rfl]
      show InQ (rep 34 [92, 34] (92 :: 92 :: rep 92 [92, 92] v) ++ 34 :: r) _ r
      rw [rep, if_neg (by decide), rep, if_neg (by decide)]
      exact .esc _ _ _ _ ih
    · rw [rep, if_neg h]
      by_cases h2 : k = 34
      · subst h2
        rw [rep, if_pos rfl]
        exact .esc _ _ _ _ ih
      · rw [rep, if_neg h2]
        exact .plain _ _ _ _ h2 h ih
/-- the tokens of the text laid twice -/
theorem gts_twice (ws : List Nat) (h34 : 34 ∉ ws) (u : List Nat) (r : List Nat) : GTs ws (34 :: (rep 34 [34, 34] (rep 92 [92, 92] u) ++ 34 :: r)) (parts 34 u) r := by
  have key : ∀ u : List Nat, ∃ p ps, parts 34 u = p :: ps ∧ ∃ y, InQ (rep 34 [34, 34] (rep 92 [92, 92] u) ++ 34 :: r) p y ∧ GTs ws y ps r := by
    intro u
    induction u with
    | nil => exact ⟨[], [], rfl, r, .close r, .nil r⟩
    | cons k u ih =>
      obtain ⟨p, ps, e, y, hq, hg⟩ := ih
      by_cases h : k = 34
      · subst h
        refine ⟨[], p :: ps, by rw [parts, if_pos rfl, e], _, ?_, .cons (.quote _ _ _ h34 hq) hg⟩
        rw [rep, if_neg (by decide), rep, if_pos rfl]
        exact .close _
      · refine ⟨k :: p, ps, by rw [parts, if_neg h, e], y, ?_, hg⟩
        by_cases h2 : k = 92
        · subst h2
          rw [rep, if_pos rfl]
          show InQ (rep 34 [34, 34] (92 :: 92 :: rep 92 [92, 92] u) ++ 34 :: r) _ y
          rw [rep, if_neg (by decide), rep, if_neg (by decide)]
          exact .esc _ _ _ _ hq
        · rw [rep, if_neg h2, rep, if_neg h]
          exact .plain _ _ _ _ h h2 hq
  obtain ⟨p, ps, e, y, hq, hg⟩ := key u
  rw [e]
  exact .cons (.quote _ _ _ h34 hq) hg
/-- one row «k="v"» or «k» and the line's end, read with the end and = for blanks -/
theorem gts_row (v : List Nat) (hv : v ≠ []) (r : List Nat) (ts : List (List Nat)) (z : List Nat) (h : GTs [10, 61] r ts z) : GTs [10, 61] (fpOf [107] v ++ r) ([107] :: v :: ts) z := by
  rw [fpOf, if_neg hv]
  show GTs [10, 61] (107 :: 61 :: 34 :: (esc v ++ [34] ++ r)) _ z
  refine .cons (y := 34 :: (esc v ++ [34] ++ r)) (.word _ _ _ _ (by decide) (by decide) (by decide) (.stop _ _ (by decide))) ?_
  refine .cons (.quote _ _ _ (by decide) ?_) h
  rw [List.append_assoc]
  exact inq_esc v r
theorem gts_bare (r : List Nat) (ts : List (List Nat)) (z : List Nat) (h : GTs [10, 61] r ts z) : GTs [10, 61] (fpOf [107] [] ++ 10 :: r) ([107] :: ts) z :=
  .cons (.word _ _ _ _ (by decide) (by decide) (by decide) (.stop _ _ (by decide))) h
theorem gt_skip {ws : List Nat} {c : Nat} {x : List Nat} {ts : List (List Nat)} {z : List Nat} (hc : c ∈ ws) (hne : ts ≠ []) (h : GTs ws x ts z) : GTs ws (c :: x) ts z := by
  cases h with
  | nil => exact absurd rfl hne
  | cons g gs => exact .cons (.skip _ _ _ _ hc g) gs
noncomputable def sentOf : List (List Nat) → List Nat
  | [] => []
  | p :: ps => fpOf [107] p ++ 10 :: sentOf ps
noncomputable def wordsOf : List (List Nat) → List (List Nat)
  | [] => []
  | p :: ps => (if p = [] then [[107]] else [[107], p]) ++ wordsOf ps
noncomputable def endOf : List (List Nat) → List Nat
  | [] => []
  | [p] => if p = [] then [] else [10]
  | _ :: q :: ps => endOf (q :: ps)
theorem words_ne (p : List Nat) (ps : List (List Nat)) : wordsOf (p :: ps) ≠ [] := by
  unfold wordsOf
  split <;> simp
theorem gts_sent : ∀ ps : List (List Nat), ps ≠ [] → GTs [10, 61] (sentOf ps) (wordsOf ps) (endOf ps)
  | [], h => absurd rfl h
  | [p], _ => by
    by_cases h : p = []
    · subst h; exact gts_bare [] [] [] (.nil _)
    · have e1 : wordsOf [p] = [[107], p] := by unfold wordsOf; rw [if_neg h]; rfl
      have e2 : endOf [p] = [10] := by unfold endOf; rw [if_neg h]
      rw [e1, e2]
      exact gts_row p h [10] [] [10] (.nil _)
  | p :: q :: ps, _ => by
    have ih := gts_sent (q :: ps) (by simp)
    show GTs _ _ _ (endOf (q :: ps))
    by_cases h : p = []
    · subst h; exact gts_bare _ _ _ ih
    · have e1 : wordsOf (p :: q :: ps) = [107] :: p :: wordsOf (q :: ps) := by rw [wordsOf, if_neg h]; rfl
      rw [e1]
      exact gts_row p h _ _ _ (gt_skip (by decide) (words_ne q ps) ih)
theorem p257_free (p : List Nat) (hp : 34 ∉ p) (r : List Nat) : p257 (rep 92 [92, 92] p ++ r) = rep 92 [92, 92] p ++ p257 r := by
  induction p with
  | nil => rfl
  | cons k p ih =>
    have h1 : 34 ∉ p := fun h => hp (List.mem_cons_of_mem _ h)
    have h2 : k ≠ 34 := fun h => hp (h ▸ List.mem_cons_self)
    by_cases h : k = 92
    · subst h
      rw [rep, if_pos rfl]
      show p257 (92 :: 92 :: (rep 92 [92, 92] p ++ r)) = _
      rw [p257_c _ _ (by decide), p257_c _ _ (by decide), ih h1]; rfl
    · rw [rep, if_neg h]
      show p257 (k :: (rep 92 [92, 92] p ++ r)) = _
      rw [p257_c _ _ h2, ih h1]; rfl
theorem esc_free (p : List Nat) (hp : 34 ∉ p) : esc p = rep 92 [92, 92] p := by
  unfold esc
  apply rep_free
  intro h
  induction p with
  | nil => cases h
  | cons k p ih =>
    have h1 : 34 ∉ p := fun h => hp (List.mem_cons_of_mem _ h)
    have h2 : k ≠ 34 := fun h => hp (h ▸ List.mem_cons_self)
    unfold rep at h
    split at h
    · simp at h; exact ih h1 h
    · rcases List.mem_cons.mp h with e | h
      · exact h2 e.symm
      · exact ih h1 h
theorem esc_append (a b : List Nat) : esc (a ++ b) = esc a ++ esc b := by
  unfold esc; rw [rep_append, rep_append]
theorem esc_head (c : Nat) (r : List Nat) : ∃ d t, esc (c :: r) = d :: t ∧ d ≠ 34 := by
  by_cases h : c = 92
  · subst h; exact ⟨92, _, rfl, by decide⟩
  · by_cases h2 : c = 34
    · subst h2; exact ⟨92, _, rfl, by decide⟩
    · refine ⟨c, esc r, ?_, h2⟩
      unfold esc
      rw [rep, if_neg h, rep, if_neg h2]
noncomputable abbrev tailTxt : List Nat := [32, 116, 111, 32, 34, 105, 116, 34]
theorem due_none (u : List Nat) (h : 34 ∉ u) : p257 (esc u ++ 34 :: tailTxt) = rep 92 [92, 92] u := by
  rw [esc_free u h, p257_free u h, p257_34 _ _ (by decide), List.append_nil]
theorem due_last (p : List Nat) (h : 34 ∉ p) : p257 (esc (p ++ [34]) ++ 34 :: tailTxt) = rep 92 [92, 92] p ++ [92, 34, 32, 116, 111, 32] := by
  rw [esc_append, esc_free p h, List.append_assoc, p257_free p h]
  show _ ++ p257 (92 :: 34 :: 34 :: tailTxt) = _
  rw [p257_c _ _ (by decide), p257_3434]
  rfl
theorem due_more (p : List Nat) (h : 34 ∉ p) (c : Nat) (r : List Nat) : p257 (esc (p ++ 34 :: c :: r) ++ 34 :: tailTxt) = rep 92 [92, 92] p ++ [92] := by
  obtain ⟨d, t, e, hd⟩ := esc_head c r
  have e2 : esc (34 :: c :: r) = 92 :: 34 :: d :: t := by
    have : esc (34 :: c :: r) = esc [34] ++ esc (c :: r) := esc_append [34] (c :: r)
    rw [this, e]; rfl
  rw [esc_append, esc_free p h, e2, List.append_assoc, p257_free p h]
  show _ ++ p257 (92 :: 34 :: d :: (t ++ 34 :: tailTxt)) = _
  rw [p257_c _ _ (by decide), p257_34 _ _ hd]
end Mine
end
local macro_rules | `(tactic| walk_at "mine:none22") => `(tactic| fail "none")
theorem Mine.fresh_CT : True := by
  w_top off
  k_with_none
  trivial
section
open PySem PySem.W PyProof.Rows PySem.Calls
namespace Mine
noncomputable abbrev tupOf (l : Addr) (x : Str) (t : Tok) : Obj := { cls := .type "tuple", data := .seq #[.ref l, .str x t] }
theorem eqAt_strs {A : Around} {s : Shared} {xs ys : List Value} {l : List Str} (hx : StrsAre xs l) (hy : StrsAre ys l) : ∀ j (h1 : j < xs.toArray.size) (h2 : j < ys.toArray.size), PySem.SeqAt.EqAt A s xs.toArray[j] ys.toArray[j] true := by
  intro j h1 h2
  have e1 : xs[j]? = some xs.toArray[j] := by simpa using h1
  have e2 : ys[j]? = some ys.toArray[j] := by simpa using h2
  obtain ⟨a, t, ea, la⟩ := hx.item j _ e1
  obtain ⟨b, u, eb, lb⟩ := hy.item j _ e2
  rw [ea, eb]
  rw [la] at lb
  injection lb with lb
  subst lb
  have := PySem.SeqAt.EqAt.str_str (A := A) (s := s) a t a u
  rwa [beq_self_eq_true] at this
section
variable {prog : Program} {w : World} {A : Around} {E : Value → Shared → Prop} {s : Shared} {Q : Value → Shared → Prop} {h₀ : Heap} {L : Addr} {news : List (Addr × Obj)} {a b c d : Addr} {xs ys : List Value} {l : List Str} {x : Str} {t u : Tok} {n m : Nat}
theorem eqAt_lists {A : Around} (N : News h₀ L s.heap news) (hc : (c, listOf xs.toArray n) ∈ news) (hd : (d, listOf ys.toArray m) ∈ news) (hx : StrsAre xs l) (hy : StrsAre ys l) (hu : A.units < cLine) : PySem.SeqAt.EqAt A s (.ref c) (.ref d) true := by
  by_cases e : c = d
  · subst e; exact PySem.SeqAt.EqAt.same _
  · refine PySem.SeqAt.EqAt.of_refs e ?_
    have hz : xs.toArray.size = ys.toArray.size := by simpa using hx.len_eq.trans hy.len_eq.symm
    have h := PySem.SeqAt.RcAt.lists (A := A) (s := s) (e := fun _ => true) (News.isList N hc) (News.isList N hd) hz hu (eqAt_strs hx hy)
    have e2 : (List.range xs.toArray.size).all (fun _ => true) = true := List.all_eq_true.mpr fun _ _ => rfl
    rw [e2] at h
    exact h
theorem eqAt_pair {A : Around} (N : News h₀ L s.heap news) (hc : (c, listOf xs.toArray n) ∈ news) (hd : (d, listOf ys.toArray m) ∈ news) (hx : StrsAre xs l) (hy : StrsAre ys l) (hu : A.units < cLine) :
    ∀ j (h1 : j < #[Value.ref c, .str x t].size) (h2 : j < #[Value.ref d, .str x u].size), PySem.SeqAt.EqAt A s #[Value.ref c, .str x t][j] #[Value.ref d, .str x u][j] true := by
  intro j h1 h2
  match j, h1, h2 with
  | 0, _, _ => exact eqAt_lists N hc hd hx hy hu
  | 1, _, _ =>
    have := PySem.SeqAt.EqAt.str_str (A := A) (s := s) x t x u
    rwa [beq_self_eq_true] at this
theorem in1_units (A : Around) : A.in1.units ≤ A.units + 1 := by
  show A.units + _ ≤ _
  exact Nat.le_refl _
theorem tup_ne (N : News h₀ L s.heap news) (ha : (a, tupOf c x t) ∈ news) (hb : (b, tupOf d x u) ∈ news) (hc : (c, listOf xs.toArray n) ∈ news) (hd : (d, listOf ys.toArray m) ∈ news) (hx : StrsAre xs l) (hy : StrsAre ys l) (hu : A.units + 1 < cLine)
    (h : Q (.bool false) s) : wpAny (model prog w) A (compareOp .NotEq (.ref a) (.ref b)) Q E s := by
  have key := PySem.SeqAt.RcNeAt.tuples (A := A) (s := s) (e := fun _ => true) (l := a) (b := b) (items := #[.ref c, .str x t]) (items2 := #[.ref d, .str x u]) ⟨_, N.get ha, rfl, _, rfl⟩ ⟨_, N.get hb, rfl, _, rfl⟩ (Nat.lt_of_succ_lt hu) (eqAt_pair N hc hd hx hy (Nat.lt_of_le_of_lt (in1_units A) hu))
  have e : (!((List.range (min (#[Value.ref c, .str x t] : Array Value).size (#[Value.ref d, .str x u] : Array Value).size)).all (fun _ => true) && (#[Value.ref c, .str x t] : Array Value).size == (#[Value.ref d, .str x u] : Array Value).size)) = false := by rfl
  rw [e] at key
  exact key prog w E Q h
theorem tup_eq (N : News h₀ L s.heap news) (ha : (a, tupOf c x t) ∈ news) (hb : (b, tupOf d x u) ∈ news) (hc : (c, listOf xs.toArray n) ∈ news) (hd : (d, listOf ys.toArray m) ∈ news) (hx : StrsAre xs l) (hy : StrsAre ys l) (hu : A.units + 1 < cLine)
    (h : Q (.bool true) s) : wpAny (model prog w) A (compareOp .Eq (.ref a) (.ref b)) Q E s := by
  have key := PySem.SeqAt.RcAt.tuples (A := A) (s := s) (e := fun _ => true) (l := a) (b := b) (items := #[.ref c, .str x t]) (items2 := #[.ref d, .str x u]) ⟨_, N.get ha, rfl, _, rfl⟩ ⟨_, N.get hb, rfl, _, rfl⟩ (Nat.lt_of_succ_lt hu) (eqAt_pair N hc hd hx hy (Nat.lt_of_le_of_lt (in1_units A) hu))
  have e : ((List.range (min (#[Value.ref c, .str x t] : Array Value).size (#[Value.ref d, .str x u] : Array Value).size)).all (fun _ => true) && (#[Value.ref c, .str x t] : Array Value).size == (#[Value.ref d, .str x u] : Array Value).size) = true := by rfl
  rw [e] at key
  exact key prog w E Q h
theorem eqAt_strs2 {A : Around} {s : Shared} {xs ys : List Value} {l k : List Str} (hx : StrsAre xs l) (hy : StrsAre ys k) : ∀ j (h1 : j < xs.toArray.size) (h2 : j < ys.toArray.size), PySem.SeqAt.EqAt A s xs.toArray[j] ys.toArray[j] (l[j]? == k[j]?) := by
  intro j h1 h2
  have e1 : xs[j]? = some xs.toArray[j] := by simp
  have e2 : ys[j]? = some ys.toArray[j] := by simp
  obtain ⟨a, t, ea, la⟩ := hx.item j _ e1
  obtain ⟨b, u, eb, lb⟩ := hy.item j _ e2
  rw [ea, eb, la, lb]
  have := PySem.SeqAt.EqAt.str_str (A := A) (s := s) a t b u
  exact this
theorem all_eqs {l k : List Str} (h : l.length = k.length) : (List.range l.length).all (fun j => l[j]? == k[j]?) = decide (l = k) := by
  rw [Bool.eq_iff_iff, List.all_eq_true, decide_eq_true_iff]
  constructor
  · intro hh
    refine List.ext_getElem? fun i => ?_
    by_cases hi : i < l.length
    · exact eq_of_beq (hh i (List.mem_range.mpr hi))
    · rw [List.getElem?_eq_none (by omega), List.getElem?_eq_none (by omega)]
  · rintro rfl _ _
    exact beq_self_eq_true _
theorem list_eq_strs {k : List Str} (N : News h₀ L s.heap news) (hc : (c, listOf xs.toArray n) ∈ news) (hd : (d, listOf ys.toArray m) ∈ news) (hx : StrsAre xs l) (hy : StrsAre ys k) (hu : A.units < cLine)
    (h : Q (.bool (decide (l = k))) s) : wpAny (model prog w) A (compareOp .Eq (.ref c) (.ref d)) Q E s := by
  by_cases hz : l.length = k.length
  · have hz2 : xs.toArray.size = ys.toArray.size := by simpa using hx.len_eq.trans (hz.trans hy.len_eq.symm)
    have key := PySem.SeqAt.RcAt.lists (A := A) (s := s) (e := fun j => l[j]? == k[j]?) (News.isList N hc) (News.isList N hd) hz2 hu (eqAt_strs2 hx hy)
    have hz3 : xs.toArray.size = l.length := by simpa using hx.len_eq
    rw [hz3, all_eqs hz] at key
    exact key prog w E Q h
  · have hz2 : (xs.toArray.size != ys.toArray.size) = true := by
      rw [List.size_toArray, List.size_toArray, hx.len_eq, hy.len_eq]
      exact bne_iff_ne.mpr hz
    have key := PySem.SeqAt.RcAt.lists_lengths (A := A) (s := s) (News.isList N hc) (News.isList N hd) hz2 hu
    rw [decide_eq_false (fun e => hz (by rw [e]))] at h
    exact key prog w E Q h
theorem list_iadd_seq : seqSlot? (.type "list") (dunderI "add") = pure (some (.builtin "list.__iadd__")) := PySem.seqSlot_of PySem.F.slot_list_iadd.lookup (by decide +kernel)
theorem list_iadd_fills : fillsInplaceSlot (.type "list") "add" (Operator.Add == .Add) = pure false := by
  unfold fillsInplaceSlot
  show (typeLookup (.type "list") (dunderI "add") >>= fun fi => pure (fi.isSome && !isSeqSlot fi)) = pure false
  rw [PySem.F.slot_list_iadd.lookup, pure_bind]
  rw [show isSeqSlot (some (Value.builtin "list.__iadd__")) = true by decide +kernel]
  rfl
theorem iadd_list {m : Str → Option Value} {pre post : List (Addr × Obj)} {D b : Addr} {its its2 : Array Value} {n n2 : Nat} (F : Fr h₀ L s.heap m) (N : News h₀ L s.heap (pre ++ (D, listOf its n) :: post)) (hb : (b, listOf its2 n2) ∈ pre ++ (D, listOf its n) :: post) (hne : its2.size ≠ 0)
    (a : ∀ p ∈ pre, p.1 ≠ D) (c : ∀ p ∈ post, p.1 ≠ D) (hz : its.size + its2.size ≤ 1000)
    (h : ∀ h', Fr h₀ L h' m → News h₀ L h' (pre ++ (D, listOf (its ++ its2) (n + 1)) :: post) → Q (.ref D) { s with heap := h' }) : wpAny (model prog w) A (inplaceOp .Add (.ref D) (.ref b)) Q E s := by
  have z := N (D, listOf its n) (List.mem_append.mpr (.inr (.head _)))
  have zb := N _ hb
  have ta : s.TypeIs (.ref D) "list" := ⟨_, z.1, rfl⟩
  have tb : s.TypeIs (.ref b) "list" := ⟨_, zb.1, rfl⟩
  unfold inplaceOp
  refine wpAny_holding ?_
  refine wpAny_bind (wpAny_typeOf ta (wpAny_bind (wpAny_of_eq list_iadd_fills ?_)))
  show wpAny _ A (if false = true then _ else _) Q E s
  rw [if_neg Bool.false_ne_true]
  refine wpAny_bind (wpAny_binaryOp1_none (nm := "add") ta tb noFill_list_add ?_)
  refine wpAny_bind (wpAny_of_eq list_iadd_seq ?_)
  refine wpAny_bind (wpAny_rule ?_)
  refine call_meets PySem.F.slot_list_iadd ta PySem.F.entry_list_iadd (PySem.F.args_list_iadd_2 _ _) (PySem.AutoSeq1.list___iadd___list_list_0 D its n b its2 n2 ?_ (by rw [sizeLine_eq]; omega) (by rw [sizeLine_eq]; omega)) ⟨z.1, zb.1, h _ (F.change (Heap.SameBut.update ..) z.2.1 z.2.2) (kl_turn _ N a c ?_ ?_)⟩
  · intro hh; rw [Bool.and_eq_true] at hh; have := hh.2; simp [Builtin.List.listTooLong, sizeLine] at this; omega
  · rfl
  · rw [Array.size_append]; omega
/-- a list of statements in two parts -/
inductive Cut {α : Type} : List α → List α → List α → Prop
  | here (l : List α) : Cut l [] l
  | step {l a b : List α} (x : α) : Cut l a b → Cut (x :: l) (x :: a) b
noncomputable def Held (P : Prop) : Prop := P
/-- what a stage has to show, with a token at hand -/
noncomputable def HeldT (n : Nat) (P : Prop) : Prop := 1 ≤ n → P
theorem stage {M : Model} {P : Shared → Prop} {l l1 l2 : List Stmt} {env : Env} {Q : Flow → Shared → Prop} (hs : Cut l l1 l2) (hk : 1 ≤ s.toks) (h1 : wpAny M A (execs l1 env) (fun f s' => HeldT s'.toks (f = .next ∧ P s')) E s) (h2 : ∀ s', P s' → wpAny M A (execs l2 env) Q E s') : wpAny M A (execs l env) Q E s := by
  have h3 : wpAny M A (execs l1 env) (fun f s' => f = .next ∧ P s') E s := wpAny_with_toks hk (wpAny_mono h1 (fun _ _ x => x) fun _ _ x _ => x)
  clear h1 hk
  intro Γ p hΓ
  replace h1 := h3 Γ p hΓ
  clear h3
  revert h1
  induction hs generalizing s p with
  | here l =>
    intro h1
    exact h2 s (show _ ∧ _ from h1).2 Γ p hΓ
  | step x hc ih =>
    intro h1
    rw [execs_cons, Sem.wp_bind'] at h1 ⊢
    refine Sem.wp_mono M Γ _ (fun f p' s' h' => ?_) (fun _ _ _ h' => h') _ _ h1
    cases f with
    | next => exact ih h2 p' h'
    | _ => exact absurd (show _ ∧ _ from h').1 (by simp)
end
end Mine
end
theorem Mine.fresh_TOP : True := by
  w_top off
  k_with_none
  trivial
section
open PySem PySem.W PyProof.Rows PySem.Calls
namespace Mine
local macro_rules | `(tactic| k_all) => `(tactic| first | assumption | (refine ne_all (by assumption) ?_; omega))
local macro_rules | `(tactic| k_mem) => `(tactic| with_reducible assumption)
local macro_rules | `(tactic| walk_at "execs cons") => `(tactic| ((refine keep_toks (by first | (dsimp only; omega) | (dsimp only at *; omega)) ?_); (intro tk hk1); (with_reducible refine wpAny_execs_cons ?_); (try dsimp only)))
local macro_rules | `(tactic| walk_at "execs nil") => `(tactic| ((refine keep_toks (by first | (dsimp only; omega) | (dsimp only at *; omega)) ?_); (intro tk hk1); (refine wpAny_execs_nil ?_); (try dsimp only)))
local macro_rules | `(tactic| walk_at "call builtin:str.replace") => `(tactic| ((with_reducible show wpAny _ _ (call (Value.builtin "str.replace") [Value.str _ _, Value.str _ _, Value.str _ _]) _ _ _); (first
  | (refine rep_bs (by first | (dsimp only; omega) | (dsimp only at *; omega)) (by first | omega | (dsimp only at *; omega)) (by first | omega | (dsimp only at *; omega)) (by omega) ?hl ?_) | (refine rep_qq (by first | (dsimp only; omega) | (dsimp only at *; omega)) (by first | omega | (dsimp only at *; omega)) (by first | omega | (dsimp only at *; omega)) (by omega) ?hl ?_) | (refine rep_bq (by first | (dsimp only; omega) | (dsimp only at *; omega)) (by first | omega | (dsimp only at *; omega)) (by first | omega | (dsimp only at *; omega)) (by omega) ?hl ?_) | (refine rep_ud (by first | (dsimp only; omega) | (dsimp only at *; omega)) (by first | omega | (dsimp only at *; omega)) (by first | omega | (dsimp only at *; omega)) (by omega) ?hl ?_)); (case hl => (simp only [txt_len] at *; omega)); intro _ _ _ _))
local macro_rules | `(tactic| walk_at "subscriptTail Name Slice str ref") => `(tactic| ((with_reducible rename Fr _ _ _ _ => F'); (with_reducible rename News _ _ _ _ => N'); first
  | ((with_reducible show wpAny _ _ (subscriptTail _ (Expr.Slice none (some _) none _) _ _) _ _ _); (refine slice_strN_ns (hsz := ?hsz) (s := ⟨_, _, _, _, _⟩) F' N' ?_); (case hsz => (rw [sizeLine_eq]; omega)); (intro _ _ _ _ _); (rw [slice3]))
  | ((with_reducible show wpAny _ _ (subscriptTail _ (Expr.Slice (some _) (some _) none _) _ _) _ _ _); (refine slice_strN_ss (hsz := ?hsz) (s := ⟨_, _, _, _, _⟩) F' N' ?_); (case hsz => (rw [sizeLine_eq]; omega)); (intro _ _ _ _ _); (rw [slice35]))))
local macro_rules | `(tactic| walk_at "mine:to112") => `(tactic| repeat' ((fail_if_success (with_reducible show wpAny _ _ (call (Value.ref 112) _ _) _ _ _)); walk_at "mine:step"))
theorem reply_txt (v : List Nat) : Str.ofString "257 " ++ (Str.ofString "\"" ++ txt v ++ Str.ofString "\"") ++ Str.ofString " to \"it\"" = txt (50 :: 53 :: 55 :: 32 :: 34 :: (v ++ 34 :: tailTxt)) := by
  rw [show Str.ofString "257 " = txt [50, 53, 55, 32] by decide +kernel, show Str.ofString "\"" = txt [34] by decide +kernel, show Str.ofString " to \"it\"" = txt tailTxt by decide +kernel, txt_app, txt_app, txt_app, txt_app]
  simp
theorem all1 {P : Str × Value → Prop} {a : Str × Value} (h1 : P a) : ∀ p ∈ [a], P p := by
  intro p hp
  rcases List.mem_cons.mp hp with rfl | hp
  · exact h1
  cases hp
theorem np14 {h₀ h : Heap} {L : Addr} {a b c d : Addr × Obj} (N : News h₀ L h [a, b, c, d]) : News h₀ L h [a, d] := fun p hp => N p (by
  rcases List.mem_cons.mp hp with h | hp
  · rw [h]; exact .head _
  rcases List.mem_cons.mp hp with h | hp
  · rw [h]; exact .tail _ (.tail _ (.tail _ (.head _)))
  cases hp)
theorem np23 {h₀ h : Heap} {L : Addr} {a b c : Addr × Obj} (N : News h₀ L h [a, b, c]) : News h₀ L h [b, c] := fun p hp => N p (.tail _ hp)
theorem ints_at {vs : List Value} {ns : List Int} (h : IntsAre vs ns) : ∀ (i : Nat) (v : Value), vs.toArray[i]? = some v → ∃ z t, v = .int z t := by
  induction h with
  | nil => intro i v e; simp at e
  | cons n t _ ih =>
    intro i v e
    cases i with
    | zero => simp at e; exact ⟨n, t, e.symm⟩
    | succ i => exact ih i v (by simpa using e)
theorem ints_len {vs : List Value} {ns : List Int} (h : IntsAre vs ns) : vs.length = ns.length := by
  induction h with
  | nil => rfl
  | cons _ _ _ ih => rw [List.length_cons, List.length_cons, ih]
theorem sign6 (z : Int) (h : z.fmod 8 < 6) : ∃ c, Txt.item (Str.ofString "\"\"\\\\ a") (z.fmod 8) = txt [c] ∧ 32 ≤ c ∧ c ≠ 127 := by
  have h0 : 0 ≤ z.fmod 8 := Int.fmod_nonneg_of_pos z (by decide)
  generalize z.fmod 8 = i at h h0
  obtain ⟨n, rfl⟩ := Int.eq_ofNat_of_zero_le h0
  have h6 : n < 6 := by omega
  have : ∀ n : Fin 6, Txt.item (Str.ofString "\"\"\\\\ a") (n.val : Int) = txt [[34, 34, 92, 92, 32, 97].getD n.val 0] ∧ 32 ≤ [34, 34, 92, 92, 32, 97].getD n.val 0 ∧ [34, 34, 92, 92, 32, 97].getD n.val 0 ≠ 127 := by decide +kernel
  exact ⟨_, this ⟨n, h6⟩⟩
theorem sign2 (z : Int) : ∃ c, Txt.item (Str.ofString "=;") ((z.fdiv 8).fmod 2) = txt [c] ∧ 32 ≤ c ∧ c ≠ 127 := by
  have h0 : 0 ≤ (z.fdiv 8).fmod 2 := Int.fmod_nonneg_of_pos _ (by decide)
  have h2 : (z.fdiv 8).fmod 2 < 2 := Int.fmod_lt_of_pos _ (by decide)
  generalize (z.fdiv 8).fmod 2 = i at h2 h0
  obtain ⟨n, rfl⟩ := Int.eq_ofNat_of_zero_le h0
  have h6 : n < 2 := by omega
  have : ∀ n : Fin 2, Txt.item (Str.ofString "=;") (n.val : Int) = txt [[61, 59].getD n.val 0] ∧ 32 ≤ [61, 59].getD n.val 0 ∧ [61, 59].getD n.val 0 ≠ 127 := by decide +kernel
  exact ⟨_, this ⟨n, h6⟩⟩
theorem signw (z : Int) : ∃ c, ({ cps := #[(160 + (z.fdiv 8).fmod 50000).toNat] } : Str) = txt [c] ∧ 32 ≤ c ∧ c ≠ 127 := by
  have h0 : 0 ≤ (z.fdiv 8).fmod 50000 := Int.fmod_nonneg_of_pos _ (by decide)
  exact ⟨_, rfl, by omega, by omega⟩
theorem clean_snoc {l : List Nat} {c : Nat} (h : Clean l) (h1 : 32 ≤ c) (h2 : c ≠ 127) : Clean (l ++ [c]) := by
  intro x hx
  rcases List.mem_append.mp hx with hx | hx
  · exact h x hx
  · rcases List.mem_cons.mp hx with rfl | hx
    · exact ⟨h1, h2⟩
    · cases hx
theorem join_signs : ∀ sg : List Nat, Str.join (txt []) (sg.map fun c => txt [c]) = txt sg
  | [] => rfl
  | [c] => rfl
  | c :: d :: r => by
    have ih := join_signs (d :: r)
    show txt [c] ++ txt [] ++ Str.join (txt []) ((d :: r).map fun c => txt [c]) = _
    rw [ih, txt_app, txt_app]; rfl
theorem sum_signs : ∀ sg : List Nat, ((sg.map fun c => txt [c]).map (·.length)).sum = sg.length
  | [] => rfl
  | c :: r => by
    have ih := sum_signs r
    rw [List.map_cons, List.map_cons, List.sum_cons, ih, List.length_cons]
    show 1 + r.length = r.length + 1
    omega
theorem join_texts {prog : Program} {w : World} {A : Around} {E : Value → Shared → Prop} {s : Shared} {h₀ : Heap} {L : Addr} {news : List (Addr × Obj)} {D : Addr} {ys : List Value} {sg : List Nat} {u : Tok} {Q : Value → Shared → Prop} (N : News h₀ L s.heap news) (hm : (D, LCg.lst ys) ∈ news) (hy : StrsAre ys (sg.map fun c => txt [c])) (hl : sg.length ≤ 1000)
    (h : ∀ t' k, Q (.str (txt sg) t') { s with toks := k }) : wpAny (model prog w) A (call (.builtin "str.join") [.str (Str.ofString "") u, .ref D]) Q E s := by
  have e1 := sum_signs sg
  refine join_listW (News.isList N hm) (by simpa using hy) (by decide +kernel) (by rw [e1, List.length_map]; omega) ?_
  rw [show Str.ofString "" = txt [] by decide +kernel]
  unfold Txt.join
  rw [StrLaws.glued_eq_join, join_signs]
  exact h
noncomputable def AllP {α : Type} (P : α → Prop) : List α → Prop
  | [] => True
  | a :: r => P a ∧ AllP P r
theorem AllP.all {α : Type} {P : α → Prop} : ∀ {l : List α}, AllP P l → ∀ p ∈ l, P p
  | a :: r, h, p, hp => by
    rcases List.mem_cons.mp hp with rfl | hp
    · exact h.1
    · exact AllP.all h.2 p hp
/-- the law's state between two statements: its names and its ledger -/
noncomputable def St (s₁ : Shared) (loc : List (Str × Value)) (led : List (Addr × Obj)) (s' : Shared) : Prop :=
  ∃ (h : Heap) (tk : Nat) (u : Str → Option Value), s' = { s₁ with heap := h, toks := tk } ∧ 1 ≤ tk ∧ Fr (ghostOf s₁.heap [(271, 269)]) s₁.heap.objs.size h (kstB u loc) ∧ News (ghostOf s₁.heap [(271, 269)]) s₁.heap.objs.size h led
theorem St.mk {s₁ : Shared} {h : Heap} {tk : Nat} {m : Str → Option Value} {led led' : List (Addr × Obj)} {loc : List (Str × Value)} (hk : 1 ≤ tk) (F : Fr (ghostOf s₁.heap [(271, 269)]) s₁.heap.objs.size h m) (N : News (ghostOf s₁.heap [(271, 269)]) s₁.heap.objs.size h led) (hl : AllP (fun p : Str × Value => m p.1 = some p.2) loc) (hn : AllP (fun p => List.Mem p led) led') :
    St s₁ loc led' { s₁ with heap := h, toks := tk } := ⟨h, tk, m, rfl, hk, fr_kst loc F hl.all, fun p hp => N p (hn.all p hp)⟩
theorem St.mk0 {s₁ : Shared} {h : Heap} {tk : Nat} {m : Str → Option Value} {led : List (Addr × Obj)} {loc : List (Str × Value)} (hk : 1 ≤ tk) (F : Fr (ghostOf s₁.heap [(271, 269)]) s₁.heap.objs.size h m) (N : News (ghostOf s₁.heap [(271, 269)]) s₁.heap.objs.size h led) (hl : AllP (fun p : Str × Value => m p.1 = some p.2) loc) :
    St s₁ loc led { s₁ with heap := h, toks := tk } := ⟨h, tk, m, rfl, hk, fr_kst loc F hl.all, N⟩
noncomputable abbrev twiceOf (sg : List Nat) : List Nat := 34 :: (rep 34 [34, 34] (rep 92 [92, 92] sg) ++ [34])
theorem twice_txt (v : List Nat) : Str.ofString "\"" ++ txt v ++ Str.ofString "\"" = txt (34 :: (v ++ [34])) := by
  rw [show Str.ofString "\"" = txt [34] by decide +kernel, txt_app, txt_app]
  rfl
theorem reply_txt2 (v : List Nat) : Str.ofString "257 " ++ txt (34 :: (v ++ [34])) ++ Str.ofString " to \"it\"" = txt (50 :: 53 :: 55 :: 32 :: 34 :: (v ++ 34 :: tailTxt)) := by
  rw [show Str.ofString "257 " = txt [50, 53, 55, 32] by decide +kernel, show Str.ofString " to \"it\"" = txt tailTxt by decide +kernel, txt_app, txt_app]
  simp
theorem strVals {l : List (Str × Tok)} {ss : List Str} (h : l.map Prod.fst = ss) : StrsAre (strValues l) ss := by
  subst h
  induction l with
  | nil => exact .nil
  | cons a r ih => exact .cons _ _ ih
/-- what holds from «twice» on -/
noncomputable def SB (s₁ : Shared) (sg : List Nat) (s' : Shared) : Prop :=
  ∃ PL ys n t1 t2 t3 t4, StrsAre ys ((parts 34 sg).map txt) ∧ @LT.lt Nat _ 269 PL ∧
    St s₁ [(Str.ofString "text", .str (txt sg) t1), (Str.ofString "wide", .str (txt (rep 92 [92, 92] sg)) t2), (Str.ofString "pieces", .ref PL), (Str.ofString "tail", .str (Str.ofString " to \"it\"") t3), (Str.ofString "twice", .str (txt (twiceOf sg)) t4)]
      [(PL, listOf ys.toArray n), (269, tabObj #[])] s'
theorem reply_len (sg : List Nat) (h : sg.length ≤ 8) : (txt (50 :: 53 :: 55 :: 32 :: 34 :: (rep 34 [34, 34] (rep 92 [92, 92] sg) ++ 34 :: tailTxt))).length ≤ 100000 := by
  show (50 :: 53 :: 55 :: 32 :: 34 :: (rep 34 [34, 34] (rep 92 [92, 92] sg) ++ 34 :: tailTxt)).length ≤ 100000
  have h1 := rep_len 34 [34, 34] (rep 92 [92, 92] sg)
  have h2 := rep_len 92 [92, 92] sg
  simp only [List.length_append, List.length_cons, List.length_nil] at h1 h2 ⊢
  omega
theorem news_lt {h₀ h : Heap} {L : Addr} {news : List (Addr × Obj)} {a : Addr} {o : Obj} (N : News h₀ L h news) (hm : (a, o) ∈ news) : @LT.lt Nat _ a h.objs.size := by
  exact Heap.lt_size (N.get hm)
theorem twice_len (sg : List Nat) (h : sg.length ≤ 8) : (txt (34 :: (rep 34 [34, 34] (rep 92 [92, 92] sg) ++ [34]))).length ≤ 100 := by
  show (34 :: (rep 34 [34, 34] (rep 92 [92, 92] sg) ++ [34])).length ≤ 100
  have h1 := rep_len 34 [34, 34] (rep 92 [92, 92] sg)
  have h2 := rep_len 92 [92, 92] sg
  simp only [List.length_append, List.length_cons, List.length_nil] at h1 h2 ⊢
  omega
theorem line1 (v : List Nat) : txt (34 :: (v ++ [34])) ++ Str.ofString "\n" = txt (34 :: (v ++ 34 :: [10])) := by
  rw [show Str.ofString "\n" = txt [10] by decide +kernel, txt_app]
  simp
theorem line2 (v : List Nat) : txt v ++ Str.ofString "\n" = txt (v ++ [10]) := by
  rw [show Str.ofString "\n" = txt [10] by decide +kernel, txt_app]
theorem wl4 : Str.ofString "\n\t\r " = txt [10, 9, 13, 32] := by decide +kernel
theorem wl2 : Str.ofString "\n=" = txt [10, 61] := by decide +kernel
theorem parts_len (c : Nat) : ∀ l : List Nat, (parts c l).length ≤ l.length + 1
  | [] => by simp [parts]
  | k :: r => by
    have ih := parts_len c r
    unfold parts
    split
    · simp; omega
    · split
      · rename_i e; rw [e] at ih; simp at ih ⊢; omega
      · simp
/-- what holds from the first reading on -/
noncomputable def SD (s₁ : Shared) (sg : List Nat) (s' : Shared) : Prop :=
  ∃ PL ys n c1 c2 oc1 oc2 t1 t2 t3 t4, StrsAre ys ((parts 34 sg).map txt) ∧ @LT.lt Nat _ 269 PL ∧ CodeOb oc1 (Str.ofString "_law_read.<locals>.read") ∧ CodeOb oc2 (Str.ofString "_law_read.<locals>.<lambda>") ∧
    St s₁ [(Str.ofString "text", .str (txt sg) t1), (Str.ofString "wide", .str (txt (rep 92 [92, 92] sg)) t2), (Str.ofString "pieces", .ref PL), (Str.ofString "tail", .str (Str.ofString " to \"it\"") t3), (Str.ofString "twice", .str (txt (twiceOf sg)) t4)]
      [(269, tabFull c1 c2), (c1, oc1), (c2, oc2), (PL, listOf ys.toArray n)] s'
theorem news_pick {h₀ h : Heap} {L : Addr} {led led' : List (Addr × Obj)} (N : News h₀ L h led) (hn : AllP (fun p => List.Mem p led) led') : News h₀ L h led' := fun p hp => N p (hn.all p hp)
theorem nl1 : Str.ofString "\n" = txt [10] := by decide +kernel
theorem k107 : Str.ofString "k" = txt [107] := by decide +kernel
/-- what holds from «value» on -/
noncomputable def SE (s₁ : Shared) (sg : List Nat) (s' : Shared) : Prop :=
  ∃ PL ys n c1 c2 oc1 oc2 t1 t3 t4, StrsAre ys ((parts 34 sg).map txt) ∧ @LT.lt Nat _ 269 PL ∧ CodeOb oc1 (Str.ofString "_law_read.<locals>.read") ∧ CodeOb oc2 (Str.ofString "_law_read.<locals>.<lambda>") ∧
    St s₁ [(Str.ofString "text", .str (txt sg) t1), (Str.ofString "pieces", .ref PL), (Str.ofString "tail", .str (Str.ofString " to \"it\"") t3), (Str.ofString "value", .str (txt (fpOf [107] sg)) t4)]
      [(269, tabFull c1 c2), (c1, oc1), (c2, oc2), (PL, listOf ys.toArray n)] s'
theorem parts_dec (c : Nat) : ∀ l : List Nat, ∃ p ps, parts c l = p :: ps ∧ c ∉ p ∧ ((ps = [] ∧ l = p) ∨ ∃ r, l = p ++ c :: r ∧ ps = parts c r)
  | [] => ⟨[], [], rfl, List.not_mem_nil, .inl ⟨rfl, rfl⟩⟩
  | k :: r => by
    obtain ⟨p, ps, e, hp, h⟩ := parts_dec c r
    by_cases hk : k = c
    · subst hk
      exact ⟨[], parts k r, by rw [parts, if_pos rfl], List.not_mem_nil, .inr ⟨r, rfl, rfl⟩⟩
    · refine ⟨k :: p, ps, by rw [parts, if_neg hk, e], ?_, ?_⟩
      · intro hm
        rcases List.mem_cons.mp hm with e1 | hm
        · exact hk e1.symm
        · exact hp hm
      · rcases h with ⟨h1, h2⟩ | ⟨r', h1, h2⟩
        · exact .inl ⟨h1, by rw [h2]⟩
        · exact .inr ⟨r', by rw [h1]; rfl, h2⟩
theorem parts_nil {c : Nat} {r : List Nat} (h : parts c r = [[]]) : r = [] := by
  cases r with
  | nil => rfl
  | cons k r =>
    unfold parts at h
    split at h
    · injection h with _ h; exact absurd h (parts_ne c r)
    · split at h
      · injection h with h _; cases h
      · injection h with h _; cases h
/-- what holds once «due» is laid -/
noncomputable def SG (s₁ : Shared) (sg : List Nat) (due : List Nat) (s' : Shared) : Prop :=
  ∃ PL ys n c1 c2 oc1 oc2 t3 t4 t5, StrsAre ys ((parts 34 sg).map txt) ∧ @LT.lt Nat _ 269 PL ∧ CodeOb oc1 (Str.ofString "_law_read.<locals>.read") ∧ CodeOb oc2 (Str.ofString "_law_read.<locals>.<lambda>") ∧
    St s₁ [(Str.ofString "pieces", .ref PL), (Str.ofString "tail", .str (Str.ofString " to \"it\"") t3), (Str.ofString "value", .str (txt (fpOf [107] sg)) t4), (Str.ofString "due", .str (txt due) t5)]
      [(269, tabFull c1 c2), (c1, oc1), (c2, oc2), (PL, listOf ys.toArray n)] s'
theorem due_ends {sg p : List Nat} {ps : List (List Nat)} (h34 : 34 ∉ p) (hc : (ps = [] ∧ sg = p) ∨ ∃ r, sg = p ++ 34 :: r ∧ ps = parts 34 r) :
    (ps = [] ∧ p257 (esc sg ++ 34 :: tailTxt) = rep 92 [92, 92] p) ∨ (ps = [[]] ∧ p257 (esc sg ++ 34 :: tailTxt) = rep 92 [92, 92] p ++ [92, 34, 32, 116, 111, 32]) ∨ (1 ≤ ps.length ∧ ps ≠ [[]] ∧ p257 (esc sg ++ 34 :: tailTxt) = rep 92 [92, 92] p ++ [92]) := by
  rcases hc with ⟨e, rfl⟩ | ⟨r, rfl, e⟩
  · exact .inl ⟨e, due_none _ h34⟩
  · cases r with
    | nil => exact .inr (.inl ⟨e, due_last _ h34⟩)
    | cons c r =>
      refine .inr (.inr ⟨?_, ?_, due_more p h34 c r⟩)
      · rw [e]; exact List.length_pos_iff.mpr (parts_ne _ _)
      · intro h; rw [e] at h; exact absurd (parts_nil h) (by simp)
theorem bs_txt (v : List Nat) : txt v ++ Str.ofString "\\" = txt (v ++ [92]) := by
  rw [show Str.ofString "\\" = txt [92] by decide +kernel, txt_app]
theorem bsto_txt (v : List Nat) : txt v ++ Str.ofString "\\\" to " = txt (v ++ [92, 34, 32, 116, 111, 32]) := by
  rw [show Str.ofString "\\\" to " = txt [92, 34, 32, 116, 111, 32] by decide +kernel, txt_app]
theorem e_txt : Str.ofString "" = txt [] := by decide +kernel
theorem map_txt_ne {ps : List (List Nat)} (h : ps ≠ [[]]) : ps.map txt ≠ [txt []] := by
  intro e
  match ps, h, e with
  | [], _, e => cases e
  | [q], h, e =>
    injection e with e _
    exact h (by rw [txt_inj e])
  | _ :: _ :: _, _, e => injection e with _ e; cases e
theorem slice2 {v : List Nat} (hv : v ≠ []) : Txt.slice (txt (fpOf [107] v)) (some 2) none = txt (34 :: (esc v ++ [34])) := by
  rw [fpOf, if_neg hv]
  show Txt.slice (txt (107 :: 61 :: 34 :: (esc v ++ [34]))) (some 2) none = _
  have := beq_iff_eq.mp (slice_closes_from (x := txt (107 :: 61 :: 34 :: (esc v ++ [34]))) (i := 2) ⟨by decide, by show (2 : Int) ≤ ((107 :: 61 :: 34 :: (esc v ++ [34])).length : Int); simp only [List.length_cons]; omega⟩)
  rw [this]
  show Str.mk _ = Str.mk _
  rw [List.take_of_length_le]
  · rfl
  · simp; omega
theorem esc_len (v : List Nat) : (esc v).length ≤ v.length * 9 := by
  have h1 := rep_len 34 [92, 34] (rep 92 [92, 92] v)
  have h2 := rep_len 92 [92, 92] v
  simp only [List.length_cons, List.length_nil, esc] at h1 h2 ⊢
  omega
theorem due_len {sg : List Nat} (h : sg.length ≤ 8) : (txt (50 :: 53 :: 55 :: 32 :: 34 :: (esc sg ++ 34 :: tailTxt))).length ≤ 100000 := by
  have h1 := esc_len sg
  show (50 :: 53 :: 55 :: 32 :: 34 :: (esc sg ++ 34 :: tailTxt)).length ≤ 100000
  simp only [List.length_append, List.length_cons, List.length_nil]
  omega
theorem items_ind {prog : Program} {w : World} {A : Around} {E : Value → Shared → Prop} {s : Shared} {env : Env} {h₀ : Heap} {target : Expr} {body : List Stmt} {Q : Flow → Shared → Prop} {I : Addr} {keep : List (Addr × Obj)} (J : List Value → (Str → Option Value) → List (Addr × Obj) → Prop)
    (fin : ∀ m news, J [] m news → ∀ h tk, Fr h₀ env.locals h m → News h₀ env.locals h news → Q .next { s with heap := h, toks := tk })
    (step : ∀ v r m news, J (v :: r) m news → ∀ h tk o, o.cls = .type "list_iterator" → Fr h₀ env.locals h m → News h₀ env.locals h ((I, o) :: news) →
      wpAny (model prog w) A (assign target env v) (fun _ s₂ => wpAny (model prog w) A (execs body env) (UnrPostW h₀ env.locals { s with heap := h, toks := tk } [(I, o)] (fun m' n' => SubL keep n' ∧ J r m' n') Q) E s₂) E { s with heap := h, toks := tk }) :
    ∀ vs m news, J vs m news → ItemsRest prog w A E h₀ env target body Q s [(I, "list_iterator")] keep (vs.map .val) m news := by
  intro vs
  induction vs with
  | nil => intro m news hJ; exact ItemsRest.zero (fin m news hJ)
  | cons v r ih =>
    intro m news hJ
    refine ItemsRest.val fun h tk F => AllObj.cons fun o ho => AllObj.nil fun N => ?_
    refine wpAny_mono (step v r m news hJ h tk o ho F N) (fun _ s₂ h₂ => wpAny_mono h₂ (fun f s₃ h₃ => ?_) fun _ _ z => z) fun _ _ z => z
    have key : UnrEndW h₀ env.locals { s with heap := h, toks := tk } [(I, o)] (fun m' n' => SubL keep n' ∧ J r m' n') s₃ → UnrEndW h₀ env.locals { s with heap := h, toks := tk } [(I, o)] (fun m' n' => SubL keep n' ∧ ItemsRest prog w A E h₀ env target body Q s [(I, "list_iterator")] keep (r.map .val) m' n') s₃ := by
      rintro ⟨h', tk', m', n', a1, a2, a3, a4, a5, a6⟩
      exact ⟨h', tk', m', n', a1, a2, a3, a4, a5, ih _ _ a6⟩
    cases f with
    | next => exact key h₃
    | cont => exact key h₃
    | brk => exact h₃
    | ret _ => exact h₃
/-- the ledger behind the table's rows -/
noncomputable abbrev baseOf (W : World) (hx hd9 hl : Addr) (tH : Tok) (c1 c2 : Addr) (oc1 oc2 : Obj) (PL : Addr) (ys : List Value) (n : Nat) : List (Addr × Obj) :=
  [(hx, instObj 256 hd9), (hd9, dictOf [⟨PyData.keyHash W.params (Str.ofString "_headers"), .str (Str.ofString "_headers") tH, .ref hl⟩] 1), (269, tabFull c1 c2), (c1, oc1), (c2, oc2), (PL, listOf ys.toArray n)]
/-- what holds ahead of the loop over the pieces -/
noncomputable def SJ (W : World) (s₁ : Shared) (sg : List Nat) (s' : Shared) : Prop :=
  ∃ PL ys n c1 c2 oc1 oc2 hx hd9 hl WL tH, StrsAre ys ((parts 34 sg).map txt) ∧ CodeOb oc1 (Str.ofString "_law_read.<locals>.read") ∧ CodeOb oc2 (Str.ofString "_law_read.<locals>.<lambda>") ∧
    (∀ q ∈ baseOf W hx hd9 hl tH c1 c2 oc1 oc2 PL ys n, @LT.lt Nat _ q.1 hl) ∧ @LT.lt Nat _ hl WL ∧ @LT.lt Nat _ 269 PL ∧ @LT.lt Nat _ 269 hx ∧ @LT.lt Nat _ 269 hd9 ∧
    St s₁ [(Str.ofString "table", .ref hx), (Str.ofString "words", .ref WL), (Str.ofString "pieces", .ref PL)]
      ((WL, listOf #[] 0) :: (hl, listOf #[] 0) :: baseOf W hx hd9 hl tH c1 c2 oc1 oc2 PL ys n) s'
theorem parts_mem (c : Nat) : ∀ l : List Nat, ∀ q ∈ parts c l, (∀ x ∈ q, x ∈ l) ∧ q.length ≤ l.length
  | [], q, h => by
    rcases List.mem_cons.mp h with rfl | h
    · exact ⟨fun _ hx => hx, Nat.le_refl _⟩
    · cases h
  | k :: r, q, h => by
    have ih := parts_mem c r
    have up : ∀ q ∈ parts c r, (∀ x ∈ q, x ∈ k :: r) ∧ q.length ≤ (k :: r).length := fun q hq => ⟨fun x hx => List.mem_cons_of_mem _ ((ih q hq).1 x hx), Nat.le_succ_of_le (ih q hq).2⟩
    unfold parts at h
    split at h
    · rcases List.mem_cons.mp h with rfl | h
      · exact ⟨(fun _ hx => nomatch hx), Nat.zero_le _⟩
      · exact up q h
    · split at h
      · rename_i p ps e
        rw [e] at ih up
        rcases List.mem_cons.mp h with rfl | h
        · have := ih p List.mem_cons_self
          refine ⟨fun x hx => ?_, Nat.succ_le_succ this.2⟩
          rcases List.mem_cons.mp hx with rfl | hx
          · exact List.mem_cons_self
          · exact List.mem_cons_of_mem _ (this.1 x hx)
        · exact up q (List.mem_cons_of_mem _ h)
      · rcases List.mem_cons.mp h with rfl | h
        · refine ⟨fun x hx => ?_, Nat.succ_le_succ (Nat.zero_le _)⟩
          rcases List.mem_cons.mp hx with rfl | hx
          · exact List.mem_cons_self
          · cases hx
        · cases h
theorem words_snoc (q : List Nat) : ∀ dn : List (List Nat), wordsOf (dn ++ [q]) = wordsOf dn ++ (if q = [] then [[107]] else [[107], q])
  | [] => by simp [wordsOf]
  | p :: dn => by
    have ih := words_snoc q dn
    rw [List.cons_append, wordsOf, ih, wordsOf, List.append_assoc]
theorem RowsIn.mono {r1 r2 : List (Addr × Obj)} {items : List Value} {rows : List (List Nat)} (h : RowsIn r1 items rows) (hs : ∀ p, List.Mem p r1 → List.Mem p r2) : RowsIn r2 items rows := by
  induction h with
  | nil => exact .nil
  | cons hm _ ih => exact .cons (hs _ hm) ih
theorem RowsIn.snoc {r1 : List (Addr × Obj)} {items : List Value} {rows : List (List Nat)} (h : RowsIn r1 items rows) {tp : Addr} {ta tb : Tok} {r : List Nat} (hm : List.Mem (tp, ({ cls := .type "tuple", data := .seq #[.str (Str.ofString "Part") ta, .str (txt r) tb] } : Obj)) r1) : RowsIn r1 (items ++ [.ref tp]) (rows ++ [r]) := by
  induction h with
  | nil => exact .cons hm .nil
  | cons h1 _ ih => exact .cons h1 ih
theorem offW_ne {i : Addr} {o : Obj} : ∀ {l : List (Addr × Obj)}, (∀ q ∈ l, @Ne Nat q.1 i) → OffW [(i, o)] l
  | [], _ => trivial
  | q :: _, h => ⟨⟨.inl (h q List.mem_cons_self), trivial⟩, offW_ne fun q hq => h q (List.mem_cons_of_mem _ hq)⟩
theorem subL_of {k : List (Addr × Obj)} : ∀ {l : List (Addr × Obj)}, (∀ q ∈ l, q ∈ k) → SubL l k
  | [], _ => trivial
  | _ :: _, h => ⟨h _ List.mem_cons_self, subL_of fun q hq => h q (List.mem_cons_of_mem _ hq)⟩
/-- the loop's state: the pieces done and those to do -/
noncomputable def LoopJ (W : World) (sg : List Nat) (PL : Addr) (ys : List Value) (n : Nat) (c1 c2 : Addr) (oc1 oc2 : Obj) (hx hd9 hl WL : Addr) (tH : Tok) (I : Addr) (vs : List Value) (m : Str → Option Value) (news : List (Addr × Obj)) : Prop :=
  ∃ dn todo u wv n2 items tps, parts 34 sg = dn ++ todo ∧ StrsAre vs (todo.map txt) ∧ m = kstB u [(Str.ofString "table", .ref hx), (Str.ofString "words", .ref WL), (Str.ofString "pieces", .ref PL)] ∧
    news = (WL, listOf wv.toArray n2) :: (hl, LCg.lst items) :: (tps ++ baseOf W hx hd9 hl tH c1 c2 oc1 oc2 PL ys n) ∧ RowsIn (tps ++ baseOf W hx hd9 hl tH c1 c2 oc1 oc2 PL ys n) items (dn.map (fpOf [107])) ∧ StrsAre wv ((wordsOf dn).map txt) ∧
    (∀ q ∈ tps, @Ne Nat q.1 hl ∧ @LT.lt Nat _ 269 q.1 ∧ @Ne Nat q.1 WL) ∧ (∀ q ∈ news, @Ne Nat q.1 I)
/-- what holds behind the loop over the pieces -/
noncomputable def SK (W : World) (s₁ : Shared) (sg : List Nat) (s' : Shared) : Prop :=
  ∃ PL ys n c1 c2 oc1 oc2 hx hd9 hl WL tH wv n2 items tps, StrsAre ys ((parts 34 sg).map txt) ∧ CodeOb oc1 (Str.ofString "_law_read.<locals>.read") ∧ CodeOb oc2 (Str.ofString "_law_read.<locals>.<lambda>") ∧
    @LT.lt Nat _ 269 PL ∧ @LT.lt Nat _ 269 hx ∧ @LT.lt Nat _ 269 hd9 ∧ @LT.lt Nat _ 269 hl ∧ @LT.lt Nat _ 269 WL ∧ (∀ q ∈ tps, @LT.lt Nat _ 269 q.1) ∧
    RowsIn (tps ++ baseOf W hx hd9 hl tH c1 c2 oc1 oc2 PL ys n) items ((parts 34 sg).map (fpOf [107])) ∧ StrsAre wv ((wordsOf (parts 34 sg)).map txt) ∧
    St s₁ [(Str.ofString "table", .ref hx), (Str.ofString "words", .ref WL), (Str.ofString "pieces", .ref PL)]
      ((WL, listOf wv.toArray n2) :: (hl, LCg.lst items) :: (tps ++ baseOf W hx hd9 hl tH c1 c2 oc1 oc2 PL ys n)) s'
theorem news_rot {h₀ h : Heap} {L : Addr} {a b c : Addr × Obj} {rest : List (Addr × Obj)} (N : News h₀ L h (a :: b :: c :: rest)) : News h₀ L h (c :: a :: b :: rest) := by
  intro p hp
  refine N p ?_
  simp only [List.mem_cons] at hp ⊢
  rcases hp with h | h | h | h <;> simp only [h, true_or, or_true]
theorem loop_next {W : World} {sg : List Nat} {PL : Addr} {ys : List Value} {n n2 : Nat} {c1 c2 : Addr} {oc1 oc2 : Obj} {hx hd9 hl WL tp : Addr} {tH ta tb : Tok} {I : Addr} {vs wv zv : List Value} {u : Str → Option Value} {dn todo : List (List Nat)} {q : List Nat} {items : List Value} {tps : List (Addr × Obj)}
    (ep : parts 34 sg = dn ++ q :: todo) (hv : StrsAre vs (todo.map txt)) (hrows : RowsIn (tps ++ baseOf W hx hd9 hl tH c1 c2 oc1 oc2 PL ys n) items (dn.map (fpOf [107]))) (hwv : StrsAre wv ((wordsOf dn).map txt))
    (hz : StrsAre zv ((if q = [] then [[107]] else [[107], q]).map txt)) (htps : ∀ p ∈ tps, @Ne Nat p.1 hl ∧ @LT.lt Nat _ 269 p.1 ∧ @Ne Nat p.1 WL) (hWI : @Ne Nat WL I) (hhI : @Ne Nat hl I) (hrI : ∀ p ∈ tps ++ baseOf W hx hd9 hl tH c1 c2 oc1 oc2 PL ys n, @Ne Nat p.1 I)
    (l1 : @LT.lt Nat _ hl tp) (l2 : @LT.lt Nat _ 269 tp) (l3 : @LT.lt Nat _ WL tp) (l4 : @LT.lt Nat _ I tp) :
    LoopJ W sg PL ys n c1 c2 oc1 oc2 hx hd9 hl WL tH I vs (kstB u [(Str.ofString "table", .ref hx), (Str.ofString "words", .ref WL), (Str.ofString "pieces", .ref PL)])
      ((WL, listOf (wv ++ zv).toArray n2) :: (hl, LCg.lst (items ++ [.ref tp])) :: ((tp, ({ cls := .type "tuple", data := .seq #[.str (Str.ofString "Part") ta, .str (txt (fpOf [107] q)) tb] } : Obj)) :: tps ++ baseOf W hx hd9 hl tH c1 c2 oc1 oc2 PL ys n)) := by
  refine ⟨dn ++ [q], todo, u, wv ++ zv, n2, items ++ [.ref tp], (tp, _) :: tps, by rw [ep, List.append_assoc]; rfl, hv, rfl, rfl, ?_, ?_, ?_, ?_⟩
  · rw [List.map_append]
    exact (hrows.mono fun p h => .tail _ h).snoc (.head _)
  · rw [words_snoc, List.map_append]
    exact StrsAre.append' hwv hz
  · intro p hp
    rcases List.mem_cons.mp hp with rfl | hp
    · exact ⟨Nat.ne_of_gt l1, l2, Nat.ne_of_gt l3⟩
    · exact htps p hp
  · intro p hp
    rcases List.mem_cons.mp hp with rfl | hp
    · exact hWI
    rcases List.mem_cons.mp hp with rfl | hp
    · exact hhI
    rcases List.mem_cons.mp hp with rfl | hp
    · exact Nat.ne_of_gt l4
    · exact hrI p hp
theorem loop_led {h₀ h : Heap} {L : Addr} {a b c d e : Addr × Obj} {rest : List (Addr × Obj)} (N : News h₀ L h ([a, b, c, d] ++ e :: rest)) : News h₀ L h (d :: (e :: b :: (c :: rest))) := by
  intro p hp
  refine N p ?_
  simp only [List.mem_cons, List.cons_append, List.nil_append] at hp ⊢
  rcases hp with h | h | h | h | h <;> simp only [h, true_or, or_true]
theorem arr_app (a b : List Value) : a.toArray ++ b.toArray = (a ++ b).toArray := by simp
theorem words_len : ∀ dn : List (List Nat), (wordsOf dn).length ≤ 2 * dn.length
  | [] => by simp [wordsOf]
  | p :: dn => by
    have ih := words_len dn
    unfold wordsOf
    rw [List.length_append, List.length_cons]
    split <;> simp only [List.length_cons, List.length_nil] <;> omega
theorem LoopJ.off {W : World} {sg : List Nat} {PL : Addr} {ys : List Value} {n : Nat} {c1 c2 : Addr} {oc1 oc2 : Obj} {hx hd9 hl WL : Addr} {tH : Tok} {I : Addr} {vs : List Value} {m : Str → Option Value} {news : List (Addr × Obj)} (h : LoopJ W sg PL ys n c1 c2 oc1 oc2 hx hd9 hl WL tH I vs m news) : ∀ q ∈ news, @Ne Nat q.1 I := by
  obtain ⟨_, _, _, _, _, _, _, _, _, _, _, _, _, _, h⟩ := h
  exact h
theorem LoopJ.keep {W : World} {sg : List Nat} {PL : Addr} {ys : List Value} {n : Nat} {c1 c2 : Addr} {oc1 oc2 : Obj} {hx hd9 hl WL : Addr} {tH : Tok} {I : Addr} {vs : List Value} {m : Str → Option Value} {news : List (Addr × Obj)} (h : LoopJ W sg PL ys n c1 c2 oc1 oc2 hx hd9 hl WL tH I vs m news) : SubL [(PL, listOf ys.toArray n)] news := by
  obtain ⟨_, _, _, _, _, _, _, _, _, _, rfl, _⟩ := h
  exact ⟨.tail _ (.tail _ (List.mem_append_right _ (.tail _ (.tail _ (.tail _ (.tail _ (.tail _ (.head _)))))))), trivial⟩
theorem unr_loop {h₀ h' : Heap} {L : Addr} {s₁ : Shared} {tk : Nat} {m' : Str → Option Value} {i : Addr} {o : Obj} {nw : List (Addr × Obj)} {keep : List (Addr × Obj)} {J : (Str → Option Value) → List (Addr × Obj) → Prop} (F : Fr h₀ L h' m') (N : News h₀ L h' ((i, o) :: nw)) (j : J m' nw)
    (off : ∀ q ∈ nw, @Ne Nat q.1 i) (kp : SubL keep nw) : UnrEndW h₀ L s₁ [(i, o)] (fun m' n' => SubL keep n' ∧ J m' n') { s₁ with heap := h', toks := tk } :=
  UnrEndW.intro F N nw (subL_of fun p hp => by rcases List.mem_cons.mp hp with rfl | hp; exact .head _; cases hp) (subL_of fun p hp => .tail _ hp) (offW_ne off) ⟨kp, j⟩
theorem unr_loopJ {h₀ h' : Heap} {L : Addr} {s₁ : Shared} {tk : Nat} {m' : Str → Option Value} {o : Obj} {nw : List (Addr × Obj)} {W : World} {sg : List Nat} {PL : Addr} {ys : List Value} {n : Nat} {c1 c2 : Addr} {oc1 oc2 : Obj} {hx hd9 hl WL : Addr} {tH : Tok} {I : Addr} {vs : List Value}
    (F : Fr h₀ L h' m') (N : News h₀ L h' ((I, o) :: nw)) (j : LoopJ W sg PL ys n c1 c2 oc1 oc2 hx hd9 hl WL tH I vs m' nw) : UnrEndW h₀ L s₁ [(I, o)] (fun m' n' => SubL [(PL, listOf ys.toArray n)] n' ∧ LoopJ W sg PL ys n c1 c2 oc1 oc2 hx hd9 hl WL tH I vs m' n') { s₁ with heap := h', toks := tk } :=
  unr_loop F N j j.off j.keep
theorem q_some {q : List Nat} (h : (txt q != Str.ofString "") = true) : q ≠ [] := by
  intro e
  rw [e, e_txt] at h
  simp at h
theorem q_none {q : List Nat} (h : (txt q != Str.ofString "") = false) : q = [] := by
  rw [e_txt] at h
  exact txt_inj (by simpa using h)
theorem join_txts : ∀ l : List (List Nat), Str.join (txt []) (l.map txt) = txt l.flatten
  | [] => rfl
  | [c] => by simp [Str.join]
  | c :: d :: r => by
    have ih := join_txts (d :: r)
    show txt c ++ txt [] ++ Str.join (txt []) ((d :: r).map txt) = _
    rw [ih, txt_app, txt_app]; simp
theorem sum_txts : ∀ l : List (List Nat), ((l.map txt).map (·.length)).sum = l.flatten.length
  | [] => rfl
  | c :: r => by
    have ih := sum_txts r
    rw [List.map_cons, List.map_cons, List.sum_cons, ih, List.flatten_cons, List.length_append]
    rfl
theorem sent_flat : ∀ ps : List (List Nat), ((ps.map (fpOf [107])).map (· ++ [10])).flatten = sentOf ps
  | [] => rfl
  | p :: ps => by
    have ih := sent_flat ps
    rw [List.map_cons, List.map_cons, List.flatten_cons, ih, sentOf]
    simp
theorem sent_len : ∀ ps : List (List Nat), (∀ p ∈ ps, p.length ≤ 8) → (sentOf ps).length ≤ 77 * ps.length
  | [], _ => by simp [sentOf]
  | p :: ps, h => by
    have ih := sent_len ps fun q hq => h q (List.mem_cons_of_mem _ hq)
    have h1 := fp_len p
    have h2 := h p List.mem_cons_self
    rw [txt_len, txt_len] at h1
    unfold sentOf
    rw [List.length_append, List.length_cons, List.length_cons]
    omega
/-- what holds once «sent» is laid -/
noncomputable def SL (s₁ : Shared) (sg : List Nat) (s' : Shared) : Prop :=
  ∃ PL ys n c1 c2 oc1 oc2 WL wv n2 t5, StrsAre ys ((parts 34 sg).map txt) ∧ CodeOb oc1 (Str.ofString "_law_read.<locals>.read") ∧ CodeOb oc2 (Str.ofString "_law_read.<locals>.<lambda>") ∧
    @LT.lt Nat _ 269 PL ∧ @LT.lt Nat _ 269 WL ∧ StrsAre wv ((wordsOf (parts 34 sg)).map txt) ∧
    St s₁ [(Str.ofString "words", .ref WL), (Str.ofString "pieces", .ref PL), (Str.ofString "sent", .str (txt (sentOf (parts 34 sg))) t5)]
      [(269, tabFull c1 c2), (c1, oc1), (c2, oc2), (PL, listOf ys.toArray n), (WL, listOf wv.toArray n2)] s'
theorem news_sw {h₀ h : Heap} {L : Addr} {a b : Addr × Obj} {rest : List (Addr × Obj)} (N : News h₀ L h (a :: b :: rest)) : News h₀ L h (b :: a :: rest) := by
  intro p hp
  refine N p ?_
  simp only [List.mem_cons] at hp ⊢
  rcases hp with h | h | h <;> simp only [h, true_or, or_true]
theorem join_rows {prog : Program} {w : World} {A : Around} {E : Value → Shared → Prop} {s : Shared} {h₀ : Heap} {L : Addr} {news : List (Addr × Obj)} {D : Addr} {vs : List Value} {l : List (List Nat)} {u : Tok} {Q : Value → Shared → Prop} (N : News h₀ L s.heap news) (hm : (D, LCg.lst vs) ∈ news) (hv : StrsAre vs (l.map txt)) (hl : l.flatten.length + l.length ≤ 1000000)
    (h : ∀ t' k, Q (.str (txt l.flatten) t') { s with toks := k }) : wpAny (model prog w) A (call (.builtin "str.join") [.str (Str.ofString "") u, .ref D]) Q E s := by
  refine join_listW (News.isList N hm) (by simpa using hv) (by decide +kernel) (by rw [sum_txts, List.length_map]; omega) ?_
  rw [e_txt]
  unfold Txt.join
  rw [StrLaws.glued_eq_join, join_txts]
  exact h
theorem row_at {sg : List Nat} {zs : List Value} {i : Nat} {v : Value} (h8 : sg.length ≤ 8) (hz : StrsAre zs (((parts 34 sg).map (fpOf [107])).map txt)) (hv : zs.toArray[i]? = some v) :
    ∃ row t, v = .str (txt row) t ∧ ((parts 34 sg).map (fpOf [107]))[i]? = some row ∧ (txt row).length ≤ 100 := by
  obtain ⟨y, t, rfl, e⟩ := hz.item i v (by simpa using hv)
  rw [List.getElem?_map] at e
  cases hr : ((parts 34 sg).map (fpOf [107]))[i]? with
  | none => rw [hr] at e; cases e
  | some row =>
    rw [hr] at e
    injection e with e
    subst e
    refine ⟨row, t, rfl, rfl, ?_⟩
    obtain ⟨p, hp, rfl⟩ := List.mem_map.mp (List.mem_of_getElem? hr)
    have h1 := fp_len p
    have h2 := (parts_mem 34 sg p hp).2
    rw [txt_len, txt_len] at *
    omega
theorem end_last : ∀ ps : List (List Nat), ps ≠ [] → ∃ q, ps.getD (ps.length - 1) [] = q ∧ endOf ps = if q = [] then [] else [10]
  | [], h => absurd rfl h
  | [p], _ => ⟨p, rfl, rfl⟩
  | p :: q :: r, _ => by
    obtain ⟨z, h1, h2⟩ := end_last (q :: r) (by simp)
    refine ⟨z, ?_, h2⟩
    rw [← h1]
    show (p :: q :: r).getD (r.length + 1) [] = (q :: r).getD r.length []
    rfl
theorem last_txt (ps : List (List Nat)) (h : ps ≠ []) : ∃ q, (ps.map txt).getD ((-1 : Int) + ((ps.map txt).length : Nat)).toNat Str.empty = txt q ∧ endOf ps = if q = [] then [] else [10] := by
  obtain ⟨q, h1, h2⟩ := end_last ps h
  have hl := List.length_pos_iff.mpr h
  refine ⟨q, ?_, h2⟩
  have e : ((-1 : Int) + ((ps.map txt).length : Nat)).toNat = ps.length - 1 := by rw [List.length_map]; omega
  rw [e, ← h1]
  have hi : ps.length - 1 < ps.length := by omega
  simp [List.getD, hi]
set_option maxRecDepth 100000 in
set_option maxHeartbeats 8000000 in
theorem law_holds : PySem.Challenge.rw_tp0038_02.Holds := by
  refine hd ?_
  w_strict (
    k_go0
    all_goals try k_fold
    repeat' ((fail_if_success (with_reducible show wpAny _ _ (exec (Stmt.If _ _ _ _) _) _ _ _)); walk_at "mine:step")
    rename_i W s₀ s₁ mg mb G Y fa ob pm cd doc kV ho hcd hg Xm V T B TE TW scr hs hlay0 hL hr hl2 wa1 wa2 ax vs wa3 hL2 ra w1 r0 hI hr2 hc1 hc2 hD h₁ X1 T1 K1 l0 D1 ws h2 hI1 hC1 hL1 l1 h3 F1 N1 tk1 hk1
    refine wpAny_mono (Q := fun f s' => Held (f = .next ∧ ∃ (D : Addr) (ws : List Value) (n : Nat) (ns : List Int) (h : Heap) (tk : Nat) (u : Str → Option Value), s' = { s₁ with heap := h, toks := tk } ∧ 1 ≤ tk ∧ Fr (ghostOf s₁.heap [(271, 269)]) s₁.heap.objs.size h (kstB u [(Str.ofString "numbers", .ref D)]) ∧
      News (ghostOf s₁.heap [(271, 269)]) s₁.heap.objs.size h [(D, listOf ws.toArray n), (269, tabObj #[])] ∧ IntsAre ws ns ∧ ns.length ≤ 8 ∧ 1 ≤ ns.length ∧ @LT.lt Nat _ 269 D)) ?zga (fun f s' hm => ?rest) (fun _ _ z => z)
    case zga =>
      repeat' ((fail_if_success (with_reducible show Held _)); walk_at "mine:step")
      · with_reducible rename Fr _ _ _ _ => F9
        with_reducible rename News _ _ _ _ => N9
        rename_i tkE hkE
        exact ⟨rfl, _, [_, _, _, _], 0, [0, 3, 0, 5], _, _, _, rfl, hkE, fr_kst [(Str.ofString "numbers", .ref _)] F9 (all1 rfl), np14 N9, .cons _ _ (.cons _ _ (.cons _ _ (.cons _ _ .nil))), by decide, by decide, by omega⟩
      · with_reducible rename Fr _ _ _ _ => F9
        with_reducible rename News _ _ _ _ => N9
        rename_i hne tkE hkE
        exact ⟨rfl, _, _, _, _, _, _, _, rfl, hkE, fr_kst [(Str.ofString "numbers", .ref _)] F9 (all1 rfl), np23 N9, hI1, by rw [hC1]; exact Nat.min_le_left _ _, List.length_pos_iff.mpr (of_decide_eq_false hne), by omega⟩
    case rest =>
    obtain ⟨rfl, D, ws, n, ns, h, tk, u, rfl, hk2, F2, N2, hI2, hn8, hn1, lD⟩ := hm
    dsimp only
    refine stage (.step _ (.step _ (.step _ (.step _ (.step _ (.here _)))))) (by dsimp only; exact hk2) (P := fun s' => ∃ sg, Clean sg ∧ sg.length ≤ 8 ∧ 1 ≤ sg.length ∧ SB s₁ sg s') ?zgb ?zgc
    case zgb =>
      repeat' ((fail_if_success (with_reducible show wpAny _ _ (exec (Stmt.Assign _ _ _) _) _ _ _)); walk_at "mine:step")
      refine wpAny_with_toks (n := 1) (by first | (dsimp only; omega) | (dsimp only at *; omega)) ?_
      repeat' ((fail_if_success (with_reducible show wpAny _ _ (eval (Expr.ListComp _ _ _ _) _) _ _ _)); walk_at "mine:step")
      refine LCg.ListComp_U (F₀ := by k_asm) (by with_unfolding_all rfl) (by decide) (by rfl) (by decide) (by rfl) ?_
      repeat' ((fail_if_success (with_reducible show LCg.CompSrc _ _ _ _ _ _ _ _ _ _ _ _ _ _)); walk_at "mine:step")
      have hwl := ints_len hI2
      refine LCg.CompSrc.ledger rfl F2 N2 (.head _) (by rw [sizeLine_eq, List.size_toArray]; omega) ?_
      intro g2
      refine rest_ind (fun k i ys nw => nw = [(D, listOf ws.toArray n), (269, tabObj #[])] ∧ i + k = ws.length ∧ ∃ sg : List Nat, sg.length = i ∧ Clean sg ∧ StrsAre ys (sg.map fun c => txt [c])) ?_ ?_ _ _ _ _ ⟨rfl, by rw [List.size_toArray]; omega, [], rfl, (fun _ hx => nomatch hx), .nil⟩
      · rintro i ys nw ⟨rfl, hi, sg, hsl, hcl, hys⟩
        repeat' ((fail_if_success (with_reducible show wpAny _ _ (call (Value.builtin "str.join") _ _) _ _ _)); walk_at "mine:step")
        with_reducible rename News _ _ _ _ => N5
        refine join_texts N5 (.head _) hys (by omega) ?_
        intro tt kk
        repeat' ((fail_if_success (with_reducible show wpAny _ _ (call (Value.builtin "str.replace") _ _) _ _ _)); walk_at "mine:step")
        have hsg8 : (txt sg).length ≤ 8 := by show sg.length ≤ 8; omega
        repeat' ((fail_if_success (with_reducible show wpAny _ _ (call (Value.builtin "str.split") _ _) _ _ _)); walk_at "mine:step")
        with_reducible rename News _ _ _ _ => N7
        have lP := news_lt N7 (.tail _ (.tail _ (.head _)))
        repeat' ((fail_if_success (with_reducible show HeldT _ _)); walk_at "mine:step")
        with_reducible rename Fr _ _ _ _ => F6
        with_reducible rename News _ _ _ _ => N6
        intro hk9
        with_reducible rename List.map _ _ = Txt.split _ _ => e9
        rw [twice_txt] at F6
        rw [show Str.ofString "\"" = txt [34] by decide +kernel, split_txt] at e9
        exact ⟨rfl, sg, hcl, by omega, by omega, _, strValues _, 0, _, _, _, _, strVals e9, lP, .mk hk9 F6 N6 ⟨rfl, rfl, rfl, rfl, rfl, trivial⟩ ⟨.head _, .tail _ (.tail _ (.tail _ (.head _))), trivial⟩⟩
      · rintro k i ys nw ⟨rfl, hi, sg, hsl, hcl, hys⟩ v I oI C oC D2 m₂ h tk9 E' hv hC hm₂ F3 N3 off ne
        obtain ⟨z, t, rfl⟩ := ints_at hI2 i v hv
        repeat' ((fail_if_success (with_reducible show LCg.CompEnd _ _ _ _ _ _ _ _ _ _ _ _ _ _)); walk_at "mine:step")
        · obtain ⟨c, ec, c1, c2⟩ := sign6 z (by assumption)
          rw [ec]
          with_reducible rename News (ghostOf s₁.heap [(271, 269)]) _ _ _ => NE
          refine LCg.CompEnd.intro (by k_asm) NE [(D, listOf ws.toArray n), (269, tabObj #[])] (fun p hp => hp) off (.inr ⟨_, .head _, rfl, _, rfl⟩) ⟨rfl, by omega, sg ++ [c], by rw [List.length_append, hsl]; rfl, clean_snoc hcl c1 c2, ?_⟩
          rw [List.map_append]
          exact StrsAre.append' hys (.cons _ _ .nil)
        · obtain ⟨c, ec, c1, c2⟩ := sign2 z
          rw [ec]
          with_reducible rename News (ghostOf s₁.heap [(271, 269)]) _ _ _ => NE
          refine LCg.CompEnd.intro (by k_asm) NE [(D, listOf ws.toArray n), (269, tabObj #[])] (fun p hp => hp) off (.inr ⟨_, .head _, rfl, _, rfl⟩) ⟨rfl, by omega, sg ++ [c], by rw [List.length_append, hsl]; rfl, clean_snoc hcl c1 c2, ?_⟩
          rw [List.map_append]
          exact StrsAre.append' hys (.cons _ _ .nil)
        · obtain ⟨c, ec, c1, c2⟩ := signw z
          rw [ec]
          with_reducible rename News (ghostOf s₁.heap [(271, 269)]) _ _ _ => NE
          refine LCg.CompEnd.intro (by k_asm) NE [(D, listOf ws.toArray n), (269, tabObj #[])] (fun p hp => hp) off (.inr ⟨_, .head _, rfl, _, rfl⟩) ⟨rfl, by omega, sg ++ [c], by rw [List.length_append, hsl]; rfl, clean_snoc hcl c1 c2, ?_⟩
          rw [List.map_append]
          exact StrsAre.append' hys (.cons _ _ .nil)
    case zgc =>
    rintro s' ⟨sg, hcl, hs8, hs1, PL, ys, n', t1, t2, t3, t4, hys, lPL, h, tk, u, rfl, hk1, F, N⟩
    refine stage (.step _ (.here _)) (by exact hk1) (P := fun s' => SB s₁ sg s') ?zgc ?zgd
    case zgc =>
      dsimp only [kstB, twiceOf] at F
      have hl1 : (txt sg).length ≤ 8 := hs8
      have hl4 := twice_len sg hs8
      walk_at "mine:to112"
      rw [reply_txt2]
      with_reducible rename Fr _ _ _ _ => F6
      with_reducible rename News _ _ _ _ => N6
      refine wpAny_call (parse257_spec K1 F6 X1 N6 T1 rfl (by ktr_room) (by ktr_units) ?hl ?_)
      case hl => exact reply_len sg hs8
      intro t7 h7 k7 F7 N7
      rw [p257_twice _ _ _ (by decide)]
      dsimp only
      clear F6 N6
      repeat' ((fail_if_success (with_reducible show wpAny _ _ (execs _ _) _ _ _)); walk_at "mine:step")
      · rename_i hne
        exact absurd hne (by simp)
      repeat' ((fail_if_success (with_reducible show HeldT _ _)); walk_at "mine:step")
      intro hk9
      exact ⟨rfl, PL, ys, n', _, _, _, _, hys, lPL, .mk hk9 F7 N7 ⟨rfl, rfl, rfl, rfl, rfl, trivial⟩ ⟨.head _, .tail _ (.head _), trivial⟩⟩
    case zgd =>
    rintro s' ⟨PL, ys, n', t1, t2, t3, t4, hys, lPL, h, tk, u, rfl, hk1, F, N⟩
    refine stage (.step _ (.here _)) (by exact hk1) (P := fun s' => SD s₁ sg s') ?zgd ?zge
    case zgd =>
      dsimp only [kstB, twiceOf] at F
      have hl1 : (txt sg).length ≤ 8 := hs8
      have hl4 := twice_len sg hs8
      have hpl := parts_len 34 sg
      have hyl : ys.length = (parts 34 sg).length := by rw [hys.len_eq, List.length_map]
      repeat' ((fail_if_success (with_reducible show wpAny _ _ (call (Value.builtin "len") _) _ _ _)); walk_at "mine:step")
      with_reducible rename News _ _ _ _ => N6
      refine call_len_list (News.isList N6 (.head _)) (by rw [List.size_toArray]; omega) ?_

      repeat' ((fail_if_success (with_reducible show wpAny _ _ (call (Value.ref 272) _ _) _ _ _)); walk_at "mine:step")
      with_reducible rename Fr _ _ _ _ => F6
      rw [line1, wl4]
      refine wpAny_call (law_read_first (tks := parts 34 sg) (xend := [10]) K1 F6 X1 (news_pick (led' := (269, tabObj #[]) :: [(PL, listOf ys.toArray n')]) N6 ⟨.tail _ (.head _), .head _, trivial⟩) T1 rfl codeHd (by ktr_room) (by ktr_units) ?hx (by omega) (by rw [List.size_toArray, hyl]) (gts_twice [10, 9, 13, 32] (by decide) sg [10]) ?o9 ?_)
      case hx => simp only [txt_len] at hl4; simp only [List.length_cons, List.length_append, List.length_nil] at hl4 ⊢; omega
      case o9 => exact AllP.all (l := [(PL, listOf ys.toArray n')]) ⟨Nat.ne_of_gt lPL, trivial⟩
      intro tup D zs te h7 k7 c1 c2 oc1 oc2 hzs co1 co2 F7 N7
      dsimp only
      clear F6 N6
      repeat' ((fail_if_success (with_reducible show wpAny _ _ (compareOp _ _ _) _ _ _)); walk_at "mine:step")
      with_reducible rename News _ _ _ _ => N8
      with_reducible rename Fr _ _ _ _ => F8
      rw [nl1] at N8
      refine tup_ne N8 (.tail _ (.head _)) (.head _) (.tail _ (.tail _ (.head _))) (.tail _ (.tail _ (.tail _ (.tail _ (.tail _ (.tail _ (.head _))))))) hzs hys (by ke_room) ?_
      repeat' ((fail_if_success (with_reducible show HeldT _ _)); walk_at "mine:step")
      intro hk9
      exact ⟨rfl, PL, ys, n', _, _, _, _, _, _, _, _, hys, lPL, co1, co2, .mk hk9 F8 N8 ⟨rfl, rfl, rfl, rfl, rfl, trivial⟩ ⟨.tail _ (.tail _ (.tail _ (.head _))), .tail _ (.tail _ (.tail _ (.tail _ (.head _)))), .tail _ (.tail _ (.tail _ (.tail _ (.tail _ (.head _))))), .tail _ (.tail _ (.tail _ (.tail _ (.tail _ (.tail _ (.head _)))))), trivial⟩⟩
    case zge =>
    rintro s' ⟨PL, ys, n', c1, c2, oc1, oc2, t1, t2, t3, t4, hys, lPL, co1, co2, h, tk, u, rfl, hk1, F, N⟩
    refine stage (.step _ (.here _)) (by exact hk1) (P := fun s' => SE s₁ sg s') ?zge ?zgf
    case zge =>
      dsimp only [kstB, twiceOf] at F
      have hl1 : (txt sg).length ≤ 8 := hs8
      repeat' ((fail_if_success (with_reducible show wpAny _ _ (call (Value.ref 135) _ _) _ _ _)); walk_at "mine:step")
      with_reducible rename Fr _ _ _ _ => F6
      with_reducible rename News _ _ _ _ => N6
      rw [k107]
      refine wpAny_call (fp_spec K1 F6 X1 N6 T1 rfl (by ktr_room) (by ktr_units) (by dsimp only; omega) (by decide) (by omega) ?_)
      intro t7 h7 k7 F7 N7
      dsimp only
      clear F6 N6
      repeat' ((fail_if_success (with_reducible show HeldT _ _)); walk_at "mine:step")
      with_reducible rename Fr _ _ _ _ => F8
      with_reducible rename News _ _ _ _ => N8
      intro hk9
      exact ⟨rfl, PL, ys, n', _, _, _, _, _, _, _, hys, lPL, co1, co2, .mk hk9 F8 N8 ⟨rfl, rfl, rfl, rfl, trivial⟩ ⟨.head _, .tail _ (.head _), .tail _ (.tail _ (.head _)), .tail _ (.tail _ (.tail _ (.head _))), trivial⟩⟩
    case zgf =>
    rintro s' ⟨PL, ys, n', c1, c2, oc1, oc2, t1, t3, t4, hys, lPL, co1, co2, h, tk, u, rfl, hk1, F, N⟩
    refine stage (.step _ (.here _)) (by exact hk1) (P := fun s' => SE s₁ sg s') ?zgf ?zgg
    case zgf =>
      dsimp only [kstB] at F
      have hl1 : (txt sg).length ≤ 8 := hs8
      have hl4 := fp_len sg
      repeat' ((fail_if_success (with_reducible show wpAny _ _ (call (Value.ref 272) _ _) _ _ _)); walk_at "mine:step")
      with_reducible rename Fr _ _ _ _ => F6
      with_reducible rename News _ _ _ _ => N6
      rw [line2, wl2]
      refine wpAny_call (law_read_again (tks := [[107], sg]) (xend := [10]) K1 F6 X1 N6 T1 rfl codeHd (by ktr_room) (by ktr_units) ?hx (by simp) rfl (gts_row sg (List.ne_nil_of_length_pos hs1) [10] [] [10] (.nil _)) ?o9 co1 co2 ?_)
      case hx => simp only [txt_len] at hl4 hl1; simp only [List.length_append, List.length_cons, List.length_nil]; omega
      case o9 => exact AllP.all (l := [(PL, listOf ys.toArray n')]) ⟨Nat.ne_of_gt lPL, trivial⟩
      intro tup D zs te h7 k7 hzs F7 N7
      dsimp only
      clear F6 N6
      repeat' ((fail_if_success (with_reducible show wpAny _ _ (compareOp _ _ _) _ _ _)); walk_at "mine:step")
      with_reducible rename News _ _ _ _ => N8
      with_reducible rename Fr _ _ _ _ => F8
      rw [nl1, k107] at N8
      refine tup_ne N8 (.tail _ (.tail _ (.head _))) (.head _) (.tail _ (.tail _ (.tail _ (.head _)))) (.tail _ (.head _)) hzs (ys := [_, _]) (.cons _ _ (.cons _ _ .nil)) (by ke_room) ?_
      repeat' ((fail_if_success (with_reducible show HeldT _ _)); walk_at "mine:step")
      intro hk9
      exact ⟨rfl, PL, ys, n', _, _, _, _, _, _, _, hys, lPL, co1, co2, .mk hk9 F8 N8 ⟨rfl, rfl, rfl, rfl, trivial⟩ ⟨.tail _ (.tail _ (.tail _ (.tail _ (.head _)))), .tail _ (.tail _ (.tail _ (.tail _ (.tail _ (.head _))))), .tail _ (.tail _ (.tail _ (.tail _ (.tail _ (.tail _ (.head _)))))), .tail _ (.tail _ (.tail _ (.tail _ (.tail _ (.tail _ (.tail _ (.head _))))))), trivial⟩⟩
    case zgg =>
    rintro s' ⟨PL, ys, n', c1, c2, oc1, oc2, t1, t3, t4, hys, lPL, co1, co2, h, tk, u, rfl, hk1, F, N⟩
    obtain ⟨p, ps, hp, h34, hcase⟩ := parts_dec 34 sg
    refine stage (.step _ (.here _)) (by exact hk1) (P := fun s' => SG s₁ sg (rep 92 [92, 92] p) s') ?zgg ?zgh
    case zgg =>
      dsimp only [kstB] at F
      have hl1 : p.length ≤ 8 := by rcases hcase with ⟨_, e⟩ | ⟨r, e, _⟩ <;> rw [e] at hs8 <;> (try rw [List.length_append] at hs8) <;> omega
      have hys2 := hys
      rw [hp, List.map_cons] at hys2
      repeat' ((fail_if_success (with_reducible show wpAny _ _ (subscriptTail _ _ _ _) _ _ _)); walk_at "mine:step")
      refine item_strsA (News.isList N (.tail _ (.tail _ (.tail _ (.head _))))) hys2 (by decide) (by simp only [List.length_cons]; omega) (by decide) ?_
      intro t7
      dsimp only [Int.toNat, List.getD_cons_zero]
      repeat' ((fail_if_success (with_reducible show HeldT _ _)); walk_at "mine:step")
      intro hk9
      with_reducible rename Fr _ _ _ _ => F8
      with_reducible rename News _ _ _ _ => N8
      exact ⟨rfl, PL, ys, n', _, _, _, _, _, _, _, hys, lPL, co1, co2, .mk hk9 F8 N8 ⟨rfl, rfl, rfl, rfl, trivial⟩ ⟨.head _, .tail _ (.head _), .tail _ (.tail _ (.head _)), .tail _ (.tail _ (.tail _ (.head _))), trivial⟩⟩
    case zgh =>
    rintro s' ⟨PL, ys, n', c1, c2, oc1, oc2, t3, t4, t5, hys, lPL, co1, co2, h, tk, u, rfl, hk1, F, N⟩
    have hdue := due_ends h34 hcase
    refine stage (.step _ (.here _)) (by exact hk1) (P := fun s' => SG s₁ sg (p257 (esc sg ++ 34 :: tailTxt)) s') ?zgh ?zgi
    case zgh =>
      dsimp only [kstB] at F
      have hl1 : p.length ≤ 8 := by rcases hcase with ⟨_, e⟩ | ⟨r, e, _⟩ <;> rw [e] at hs8 <;> (try rw [List.length_append] at hs8) <;> omega
      have hl2 : (txt (rep 92 [92, 92] p)).length ≤ 24 := by
        have := rep_len 92 [92, 92] p
        rw [txt_len]; simp only [List.length_cons, List.length_nil] at this; omega
      have hpl := parts_len 34 sg
      have hyl : ys.length = ps.length + 1 := by rw [hys.len_eq, List.length_map, hp]; rfl
      rw [hp, List.length_cons] at hpl
      have hys2 := hys
      rw [hp, List.map_cons] at hys2
      have hys3 : StrsAre (ys.drop 1) (ps.map txt) := hys2.drop' 1
      repeat' ((fail_if_success (with_reducible show wpAny _ _ (subscriptTail _ _ _ _) _ _ _)); walk_at "mine:step")
      with_reducible rename Fr _ _ _ _ => F6
      with_reducible rename News _ _ _ _ => N6
      refine kmk_slice_lit F6 N6 (News.isList N6 (.tail _ (.tail _ (.tail _ (.head _))))) (.int 1 _) .none (zs := ys.drop 1) (by rw [show ((1 : Int)) = ((1 : Nat) : Int) from rfl, slicePick_from']) ?_ (by with_unfolding_all rfl) (by intro _; with_unfolding_all rfl) (by rw [sizeLine_eq, List.size_toArray]; omega)
      intro D h7 F7 N7 l7
      clear F6 N6
      repeat' ((fail_if_success (with_reducible show wpAny _ _ (compareOp _ _ _) _ _ _)); walk_at "mine:step")
      with_reducible rename News _ _ _ _ => N8
      rw [e_txt] at N8
      refine list_eq_strs (ys := [_]) N8 (.tail _ (.head _)) (.head _) hys3 (.cons _ _ .nil) (by ke_room) ?_
      rcases hdue with ⟨e, hd⟩ | ⟨e, hd⟩ | ⟨e1, e2, hd⟩
      · subst e
        rw [decide_eq_false (by simp)]
        repeat' ((fail_if_success (with_reducible show wpAny _ _ (call (Value.builtin "len") _) _ _ _)); walk_at "mine:step")
        with_reducible rename News _ _ _ _ => N9
        refine call_len_list (News.isList N9 (.tail _ (.tail _ (.tail _ (.tail _ (.tail _ (.head _))))))) (by rw [List.size_toArray]; omega) ?_
        rw [show ys.toArray.size = 1 by rw [List.size_toArray, hyl]; rfl]
        repeat' ((fail_if_success (with_reducible show HeldT _ _)); walk_at "mine:step")
        intro hk9
        with_reducible rename Fr _ _ _ _ => F8
        with_reducible rename News _ _ _ _ => NE
        skip
        refine ⟨rfl, ?_⟩
        rw [hd]
        exact ⟨PL, ys, n', _, _, _, _, _, _, _, hys, lPL, co1, co2, .mk hk9 F8 NE ⟨rfl, rfl, rfl, rfl, trivial⟩ ⟨.tail _ (.tail _ (.head _)), .tail _ (.tail _ (.tail _ (.head _))), .tail _ (.tail _ (.tail _ (.tail _ (.head _)))), .tail _ (.tail _ (.tail _ (.tail _ (.tail _ (.head _))))), trivial⟩⟩
      · subst e
        rw [decide_eq_true (by simp)]
        repeat' ((fail_if_success (with_reducible show HeldT _ _)); walk_at "mine:step")
        intro hk9
        with_reducible rename Fr _ _ _ _ => F8
        with_reducible rename News _ _ _ _ => NE
        rw [bsto_txt] at F8
        refine ⟨rfl, ?_⟩
        rw [hd]
        exact ⟨PL, ys, n', _, _, _, _, _, _, _, hys, lPL, co1, co2, .mk hk9 F8 NE ⟨rfl, rfl, rfl, rfl, trivial⟩ ⟨.tail _ (.tail _ (.head _)), .tail _ (.tail _ (.tail _ (.head _))), .tail _ (.tail _ (.tail _ (.tail _ (.head _)))), .tail _ (.tail _ (.tail _ (.tail _ (.tail _ (.head _))))), trivial⟩⟩
      · rw [decide_eq_false (map_txt_ne e2)]
        repeat' ((fail_if_success (with_reducible show wpAny _ _ (call (Value.builtin "len") _) _ _ _)); walk_at "mine:step")
        with_reducible rename News _ _ _ _ => N9
        refine call_len_list (News.isList N9 (.tail _ (.tail _ (.tail _ (.tail _ (.tail _ (.head _))))))) (by rw [List.size_toArray]; omega) ?_
        rw [show ys.toArray.size = ps.length + 1 by rw [List.size_toArray, hyl]]
        repeat' ((fail_if_success (with_reducible show HeldT _ _)); walk_at "mine:step")
        intro hk9
        with_reducible rename Fr _ _ _ _ => F8
        with_reducible rename News _ _ _ _ => NE
        rw [bs_txt] at F8
        refine ⟨rfl, ?_⟩
        rw [hd]
        exact ⟨PL, ys, n', _, _, _, _, _, _, _, hys, lPL, co1, co2, .mk hk9 F8 NE ⟨rfl, rfl, rfl, rfl, trivial⟩ ⟨.tail _ (.tail _ (.head _)), .tail _ (.tail _ (.tail _ (.head _))), .tail _ (.tail _ (.tail _ (.tail _ (.head _)))), .tail _ (.tail _ (.tail _ (.tail _ (.tail _ (.head _))))), trivial⟩⟩
    case zgi =>
    rintro s' ⟨PL, ys, n', c1, c2, oc1, oc2, t3, t4, t5, hys, lPL, co1, co2, h, tk, u, rfl, hk1, F, N⟩
    refine stage (.step _ (.here _)) (by exact hk1) (P := fun s' => SG s₁ sg (p257 (esc sg ++ 34 :: tailTxt)) s') ?zgi ?zgj
    case zgi =>
      dsimp only [kstB] at F
      have hl2 := esc_len sg
      have hl4 : (txt (fpOf [107] sg)).length ≤ 100 := by have := fp_len sg; rw [txt_len] at this ⊢; rw [txt_len] at this; omega
      have hl5 : (txt (34 :: (esc sg ++ [34]))).length ≤ 100 := by rw [txt_len]; simp only [List.length_append, List.length_cons, List.length_nil]; omega
      repeat' ((fail_if_success (with_reducible show wpAny _ _ (subscriptTail _ _ _ _) _ _ _)); walk_at "mine:step")
      walk_at "mine:step"
      rw [slice2 (List.ne_nil_of_length_pos hs1)]
      walk_at "mine:to112"
      rw [reply_txt2]
      with_reducible rename Fr _ _ _ _ => F6
      with_reducible rename News _ _ _ _ => N6
      refine wpAny_call (parse257_spec K1 F6 X1 N6 T1 rfl (by ktr_room) (by ktr_units) (due_len hs8) ?_)
      intro t7 h7 k7 F7 N7
      dsimp only
      clear F6 N6
      repeat' ((fail_if_success (with_reducible show wpAny _ _ (execs _ _) _ _ _)); walk_at "mine:step")
      · rename_i hne
        exact absurd hne (by simp)
      repeat' ((fail_if_success (with_reducible show HeldT _ _)); walk_at "mine:step")
      intro hk9
      exact ⟨rfl, PL, ys, n', _, _, _, _, _, _, _, hys, lPL, co1, co2, .mk hk9 F7 N7 ⟨rfl, rfl, rfl, rfl, trivial⟩ ⟨.head _, .tail _ (.head _), .tail _ (.tail _ (.head _)), .tail _ (.tail _ (.tail _ (.head _))), trivial⟩⟩
    case zgj =>
    rintro s' ⟨PL, ys, n', c1, c2, oc1, oc2, t3, t4, t5, hys, lPL, co1, co2, h, tk, u, rfl, hk1, F, N⟩
    refine stage (.step _ (.step _ (.here _))) (by exact hk1) (P := fun s' => SJ W s₁ sg s') ?zgj ?zgk
    case zgj =>
      dsimp only [kstB] at F
      repeat' ((fail_if_success (with_reducible show HeldT _ _)); walk_at "mine:step")
      intro hk9
      with_reducible rename Fr (ghostOf s₁.heap [(271, 269)]) _ _ _ => F8
      with_reducible rename News (ghostOf s₁.heap [(271, 269)]) _ _ _ => N8
      rename _ ∧ _ ∧ _ ∧ _ ∧ _ ∧ _ ∧ @LT.lt _ _ PL _ => ld
      rename _ ∧ _ ∧ _ ∧ _ ∧ _ ∧ @LT.lt _ _ PL _ => lc
      rename _ ∧ _ ∧ _ ∧ @LT.lt _ _ PL _ => lb
      rename @LT.lt _ _ _ _ => la
      exact ⟨rfl, PL, ys, n', c1, c2, oc1, oc2, _, _, _, _, _, hys, co1, co2, AllP.all ⟨lc.1, lc.2.1, lc.2.2.1, lc.2.2.2.1, lc.2.2.2.2.1, lc.2.2.2.2.2, trivial⟩, ld.1, lPL, Nat.lt_trans lb.1 la, lb.1, .mk0 hk9 F8 N8 ⟨rfl, rfl, rfl, trivial⟩⟩
    case zgk =>
    rintro s' ⟨PL, ys, n', c1, c2, oc1, oc2, hx, hd9, hl, WL, tH, hys, co1, co2, off, lW, lPL, lx, ld, h, tk, u, rfl, hk1, F, N⟩
    refine stage (.step _ (.here _)) (by exact hk1) (P := fun s' => SK W s₁ sg s') ?zgk ?zgl
    case zgk =>
      have hl1 : sg.length ≤ 8 := hs8
      dsimp only [kstB] at F
      have hpl := parts_len 34 sg
      repeat' ((fail_if_success (with_reducible show wpAny _ _ (exec (Stmt.For _ _ _ _ _) _) _ _ _)); walk_at "mine:step")
      with_unfolding_all refine' For_turns F ?_
      repeat' ((fail_if_success (with_reducible show wpAny _ _ (pyIter _) _ _ _)); walk_at "mine:step")
      try dsimp only
      with_unfolding_all refine iter_listTurns rfl F N (.tail _ (.tail _ (.tail _ (.tail _ (.tail _ (.tail _ (.tail _ (.head _)))))))) rfl rfl ?_
      intro I lI
      refine items_ind (LoopJ W sg PL ys n' c1 c2 oc1 oc2 hx hd9 hl WL tH I) ?fin ?step _ _ _ ⟨[], parts 34 sg, u, [], 0, [], [], rfl, hys, rfl, rfl, .nil, .nil, (fun _ h => nomatch h), fun q hq => Nat.ne_of_lt (lI q hq)⟩
      case fin =>
        rintro m news ⟨dn, todo, u2, wv, n2, items, tps, ep, hv, rfl, rfl, hrows, hwv, htps, hI⟩ h9 tk9 F9 N9
        change Fr (ghostOf s₁.heap [(271, 269)]) s₁.heap.objs.size h9 _ at F9
        change News (ghostOf s₁.heap [(271, 269)]) s₁.heap.objs.size h9 _ at N9
        obtain rfl : todo = [] := by
          cases todo with
          | nil => rfl
          | cons _ _ => cases hv
        rw [List.append_nil] at ep
        dsimp only [kstB] at F9
        have lhl : @LT.lt Nat _ 269 hl := off (269, tabFull c1 c2) (.tail _ (.tail _ (.head _)))
        clear F N
        repeat' ((fail_if_success (with_reducible show HeldT _ _)); walk_at "mine:step")
        intro hk9
        exact ⟨rfl, PL, ys, n', c1, c2, oc1, oc2, hx, hd9, hl, WL, tH, wv, n2, items, tps, hys, co1, co2, lPL, lx, ld, lhl, Nat.lt_trans lhl lW, fun p hp => (htps p hp).2.1, by rw [ep]; exact hrows, by rw [ep]; exact hwv, .mk0 hk9 F9 N9 ⟨rfl, rfl, rfl, trivial⟩⟩
      case step =>
        rintro v r m news ⟨dn, todo, u2, wv, n2, items, tps, ep, hv, rfl, rfl, hrows, hwv, htps, hI⟩ h9 tk9 o9 ho9 F9 N9
        change Fr (ghostOf s₁.heap [(271, 269)]) s₁.heap.objs.size h9 _ at F9
        change News (ghostOf s₁.heap [(271, 269)]) s₁.heap.objs.size h9 _ at N9
        obtain ⟨q, todo, tq, rfl, rfl, hv2⟩ : ∃ q todo' tq, todo = q :: todo' ∧ v = .str (txt q) tq ∧ StrsAre r (todo'.map txt) := by
          cases todo with
          | nil => cases hv
          | cons q todo' => cases hv with
            | cons _ t hv => exact ⟨q, todo', t, rfl, rfl, hv⟩
        dsimp only [kstB] at F9
        clear F N
        have m1 : List.Mem (hx, instObj 256 hd9) (tps ++ baseOf W hx hd9 hl tH c1 c2 oc1 oc2 PL ys n') := List.mem_append_right _ (.head _)
        have m2 : List.Mem (hd9, dictOf [⟨PyData.keyHash W.params (Str.ofString "_headers"), .str (Str.ofString "_headers") tH, .ref hl⟩] 1) (tps ++ baseOf W hx hd9 hl tH c1 c2 oc1 oc2 PL ys n') := List.mem_append_right _ (.tail _ (.head _))
        have o1 : ∀ q ∈ tps ++ baseOf W hx hd9 hl tH c1 c2 oc1 oc2 PL ys n', @Ne Nat q.1 hl := by
          intro q hq
          rcases List.mem_append.mp hq with hq | hq
          · exact (htps q hq).1
          · exact Nat.ne_of_lt (off q hq)
        generalize hR : tps ++ baseOf W hx hd9 hl tH c1 c2 oc1 oc2 PL ys n' = rest at N9 hrows m1 m2 o1 hI
        have M1 : (hx, instObj 256 hd9) ∈ (I, o9) :: (WL, listOf wv.toArray n2) :: (hl, LCg.lst items) :: rest := .tail _ (.tail _ (.tail _ m1))
        have M2 : (hd9, dictOf [⟨PyData.keyHash W.params (Str.ofString "_headers"), .str (Str.ofString "_headers") tH, .ref hl⟩] 1) ∈ (I, o9) :: (WL, listOf wv.toArray n2) :: (hl, LCg.lst items) :: rest := .tail _ (.tail _ (.tail _ m2))
        have hq := parts_mem 34 sg q (by rw [ep]; simp)
        have hq8 : (txt q).length ≤ 8 := Nat.le_trans hq.2 hl1
        repeat' ((fail_if_success (with_reducible show wpAny _ _ (call (Value.ref 253) _ _) _ _ _)); walk_at "mine:step")
        with_reducible rename Fr (ghostOf s₁.heap [(271, 269)]) _ _ _ => F6
        with_reducible rename News (ghostOf s₁.heap [(271, 269)]) _ _ _ => N6
        change wpAny _ _ (call (Value.ref 253) [Value.ref hx, Value.str (Str.ofString "Part") _, Value.none] [(Str.ofString "k", .str (txt q) tq)]) _ _ _
        have hil : items.length ≤ 100 := by
          have e1 := hrows.len
          rw [List.length_map] at e1
          rw [ep, List.length_append] at hpl
          omega
        refine wpAny_call (add_header_spec K1 F6 X1 (news_rot N6) T1 rfl (by ktr_room) (by ktr_units) (by dsimp only; omega) (by omega) (fun x hx => hcl x (hq.1 x hx)) hil (two o1 (Ne.symm (hI (hl, LCg.lst items) (.tail _ (.head _)))) (Nat.ne_of_gt lW)) (.tail _ (.tail _ m1)) (.tail _ (.tail _ m2)) ?_)
        intro tp ta tb h7 k7 F7 N7 l7
        dsimp only
        clear F6 N6 M1 M2
        have oW : ∀ p ∈ rest, p.1 ≠ WL := by
          subst hR
          intro p hp
          rcases List.mem_append.mp hp with hp | hp
          · exact (htps p hp).2.2
          · exact Nat.ne_of_lt (Nat.lt_trans (off p hp) lW)
        repeat' ((fail_if_success (with_reducible show wpAny _ _ (inplaceOp _ _ _) _ _ _)); walk_at "mine:step")
        · with_reducible rename Fr (ghostOf s₁.heap [(271, 269)]) _ _ _ => F6
          with_reducible rename News (ghostOf s₁.heap [(271, 269)]) _ _ _ => N6
          rename _ ∧ _ ∧ _ ∧ _ ∧ AllLt _ _ => lE
          rename (_ != _) = _ => hne
          rw [k107] at N6
          refine iadd_list (pre := [_, _, _, _]) (its := wv.toArray) (its2 := List.toArray [_, _]) F6 N6 (.head _) (by simp) (AllP.all ⟨Nat.ne_of_gt lE.2.2.2.1, Nat.ne_of_lt lW, Nat.ne_of_gt (l7 _ (.tail _ (.head _))), Ne.symm (hI (WL, listOf wv.toArray n2) (.head _)), trivial⟩) oW ?_ ?_
          · rw [List.size_toArray, List.size_toArray, hwv.len_eq, List.length_map]
            have := words_len dn
            rw [ep, List.length_append] at hpl
            simp only [List.length_cons, List.length_nil]
            omega
          intro h8 F8 N8
          rw [arr_app] at N8
          repeat' ((fail_if_success (with_reducible show UnrEndW _ _ _ _ _ _)); walk_at "mine:step")
          with_reducible rename Fr (ghostOf s₁.heap [(271, 269)]) _ _ _ => F9
          with_reducible rename News (ghostOf s₁.heap [(271, 269)]) _ _ _ => N9
          subst hR
          exact unr_loopJ (fr_kst [(Str.ofString "table", .ref hx), (Str.ofString "words", .ref WL), (Str.ofString "pieces", .ref PL)] F9 (AllP.all ⟨rfl, rfl, rfl, trivial⟩)) (loop_led N9)
            (loop_next ep hv2 hrows hwv (by rw [if_neg (q_some hne)]; exact .cons _ _ (.cons _ _ .nil)) htps (hI (WL, listOf wv.toArray n2) (.head _)) (hI (hl, LCg.lst items) (.tail _ (.head _))) (fun p hp => hI p (.tail _ (.tail _ hp))) (Nat.lt_trans lW (l7 _ (.tail _ (.head _)))) (Nat.lt_trans lPL (l7 (PL, listOf ys.toArray n') (.tail _ (.tail _ (List.mem_append_right _ (.tail _ (.tail _ (.tail _ (.tail _ (.tail _ (.head _)))))))))) ) (l7 _ (.tail _ (.head _))) (l7 _ (.head _)))
        · with_reducible rename Fr (ghostOf s₁.heap [(271, 269)]) _ _ _ => F6
          with_reducible rename News (ghostOf s₁.heap [(271, 269)]) _ _ _ => N6
          rename _ ∧ _ ∧ _ ∧ _ ∧ AllLt _ _ => lE
          rename (_ != _) = _ => hne
          rw [k107] at N6
          refine iadd_list (pre := [_, _, _, _]) (its := wv.toArray) (its2 := List.toArray [_]) F6 N6 (.head _) (by simp) (AllP.all ⟨Nat.ne_of_gt lE.2.2.2.1, Nat.ne_of_lt lW, Nat.ne_of_gt (l7 _ (.tail _ (.head _))), Ne.symm (hI (WL, listOf wv.toArray n2) (.head _)), trivial⟩) oW ?_ ?_
          · rw [List.size_toArray, List.size_toArray, hwv.len_eq, List.length_map]
            have := words_len dn
            rw [ep, List.length_append] at hpl
            simp only [List.length_cons, List.length_nil]
            omega
          intro h8 F8 N8
          rw [arr_app] at N8
          repeat' ((fail_if_success (with_reducible show UnrEndW _ _ _ _ _ _)); walk_at "mine:step")
          with_reducible rename Fr (ghostOf s₁.heap [(271, 269)]) _ _ _ => F9
          with_reducible rename News (ghostOf s₁.heap [(271, 269)]) _ _ _ => N9
          subst hR
          exact unr_loopJ (fr_kst [(Str.ofString "table", .ref hx), (Str.ofString "words", .ref WL), (Str.ofString "pieces", .ref PL)] F9 (AllP.all ⟨rfl, rfl, rfl, trivial⟩)) (loop_led N9)
            (loop_next ep hv2 hrows hwv (by rw [if_pos (q_none hne)]; exact .cons _ _ .nil) htps (hI (WL, listOf wv.toArray n2) (.head _)) (hI (hl, LCg.lst items) (.tail _ (.head _))) (fun p hp => hI p (.tail _ (.tail _ hp))) (Nat.lt_trans lW (l7 _ (.tail _ (.head _)))) (Nat.lt_trans lPL (l7 (PL, listOf ys.toArray n') (.tail _ (.tail _ (List.mem_append_right _ (.tail _ (.tail _ (.tail _ (.tail _ (.tail _ (.head _)))))))))) ) (l7 _ (.tail _ (.head _))) (l7 _ (.head _)))
    case zgl =>
    rintro s' ⟨PL, ys, n', c1, c2, oc1, oc2, hx, hd9, hl, WL, tH, wv, n2, items, tps, hys, co1, co2, lPL, lx, ld, lhl, lW, ltps, hrows, hwv, h, tk, u, rfl, hk1, F, N⟩
    refine stage (.step _ (.here _)) (by exact hk1) (P := fun s' => SL s₁ sg s') ?zgl ?zgm
    case zgl =>
      have hl1 : sg.length ≤ 8 := hs8
      have hpl := parts_len 34 sg
      dsimp only [kstB] at F
      have m1 : List.Mem (hx, instObj 256 hd9) (tps ++ baseOf W hx hd9 hl tH c1 c2 oc1 oc2 PL ys n') := List.mem_append_right _ (.head _)
      have m2 : List.Mem (hd9, dictOf [⟨PyData.keyHash W.params (Str.ofString "_headers"), .str (Str.ofString "_headers") tH, .ref hl⟩] 1) (tps ++ baseOf W hx hd9 hl tH c1 c2 oc1 oc2 PL ys n') := List.mem_append_right _ (.tail _ (.head _))
      have m3 : List.Mem (269, tabFull c1 c2) (tps ++ baseOf W hx hd9 hl tH c1 c2 oc1 oc2 PL ys n') := List.mem_append_right _ (.tail _ (.tail _ (.head _)))
      have m4 : List.Mem (c1, oc1) (tps ++ baseOf W hx hd9 hl tH c1 c2 oc1 oc2 PL ys n') := List.mem_append_right _ (.tail _ (.tail _ (.tail _ (.head _))))
      have m5 : List.Mem (c2, oc2) (tps ++ baseOf W hx hd9 hl tH c1 c2 oc1 oc2 PL ys n') := List.mem_append_right _ (.tail _ (.tail _ (.tail _ (.tail _ (.head _)))))
      have m6 : List.Mem (PL, listOf ys.toArray n') (tps ++ baseOf W hx hd9 hl tH c1 c2 oc1 oc2 PL ys n') := List.mem_append_right _ (.tail _ (.tail _ (.tail _ (.tail _ (.tail _ (.head _))))))
      generalize hR : tps ++ baseOf W hx hd9 hl tH c1 c2 oc1 oc2 PL ys n' = rest at N hrows m1 m2 m3 m4 m5 m6
      have M1 : (hx, instObj 256 hd9) ∈ (WL, listOf wv.toArray n2) :: (hl, LCg.lst items) :: rest := .tail _ (.tail _ m1)
      have M2 : (hd9, dictOf [⟨PyData.keyHash W.params (Str.ofString "_headers"), .str (Str.ofString "_headers") tH, .ref hl⟩] 1) ∈ (WL, listOf wv.toArray n2) :: (hl, LCg.lst items) :: rest := .tail _ (.tail _ m2)
      have hil : items.length = (parts 34 sg).length := by rw [hrows.len, List.length_map]
      repeat' ((fail_if_success (with_reducible show wpAny _ _ (eval (Expr.ListComp _ _ _ _) _) _ _ _)); walk_at "mine:step")
      refine LCg.ListComp_U (F₀ := by k_asm) (by with_unfolding_all rfl) (by decide) (by rfl) (by decide) (by rfl) ?_
      repeat' ((fail_if_success (with_reducible show wpAny _ _ (call (Value.ref 195) _ _) _ _ _)); walk_at "mine:step")
      with_reducible rename Fr (ghostOf s₁.heap [(271, 269)]) _ _ _ => F6
      with_reducible rename News (ghostOf s₁.heap [(271, 269)]) _ _ _ => N6
      refine wpAny_call (get_all_spec K1 F6 X1 (news_sw N6) T1 rfl (by ktr_room) (by ktr_units) (by omega) (hrows.mono fun p h => .tail _ h) (.tail _ m1) (.tail _ m2) ?_)
      intro D zs h7 k7 hzs F7 N7
      dsimp only
      clear F6 N6 M1 M2
      repeat' ((fail_if_success (with_reducible show LCg.CompSrc _ _ _ _ _ _ _ _ _ _ _ _ _ _)); walk_at "mine:step")
      have hzl : zs.length = (parts 34 sg).length := by rw [hzs.len_eq, List.length_map, List.length_map]
      refine LCg.CompSrc.ledger rfl F7 N7 (.head _) (by rw [sizeLine_eq, List.size_toArray]; omega) ?_
      intro g2
      refine rest_ind (fun k i vs nw => nw = (D, LCg.lst zs) :: (hl, LCg.lst items) :: (WL, listOf wv.toArray n2) :: rest ∧ i + k = zs.length ∧ StrsAre vs (((((parts 34 sg).map (fpOf [107])).take i).map (· ++ [10])).map txt)) ?_ ?_ _ _ _ _ ⟨rfl, by rw [List.size_toArray]; omega, .nil⟩
      · rintro i vs nw ⟨rfl, hi, hvs⟩
        rw [List.take_of_length_le (by rw [List.length_map]; omega)] at hvs
        repeat' ((fail_if_success (with_reducible show wpAny _ _ (call (Value.builtin "str.join") _ _) _ _ _)); walk_at "mine:step")
        with_reducible rename News (ghostOf s₁.heap [(271, 269)]) _ _ _ => N8
        have hsl := sent_len (parts 34 sg) fun p hp => Nat.le_trans (parts_mem 34 sg p hp).2 hl1
        refine join_rows N8 (.head _) hvs (by rw [sent_flat, List.length_map, List.length_map]; omega) ?_
        intro t8 k8
        rw [sent_flat]
        repeat' ((fail_if_success (with_reducible show HeldT _ _)); walk_at "mine:step")
        intro hk9
        with_reducible rename Fr (ghostOf s₁.heap [(271, 269)]) _ _ _ => FE
        with_reducible rename News (ghostOf s₁.heap [(271, 269)]) _ _ _ => NE
        exact ⟨rfl, PL, ys, n', c1, c2, oc1, oc2, WL, wv, n2, _, hys, co1, co2, lPL, lW, hwv, .mk hk9 FE NE ⟨rfl, rfl, rfl, trivial⟩ ⟨.tail _ (.tail _ (.tail _ (.tail _ m3))), .tail _ (.tail _ (.tail _ (.tail _ m4))), .tail _ (.tail _ (.tail _ (.tail _ m5))), .tail _ (.tail _ (.tail _ (.tail _ m6))), .tail _ (.tail _ (.tail _ (.head _))), trivial⟩⟩
      · rintro k i vs nw ⟨rfl, hi, hvs⟩ v I oI C oC D2 m₂ h tk9 E' hv hC hm₂ F3 N3 off ne
        obtain ⟨row, tr, rfl, hrow, hrl⟩ := row_at hs8 hzs hv
        repeat' ((fail_if_success (with_reducible show LCg.CompEnd _ _ _ _ _ _ _ _ _ _ _ _ _ _)); walk_at "mine:step")
        rw [line2]
        refine LCg.CompEnd.intro F3 N3 ((D, LCg.lst zs) :: (hl, LCg.lst items) :: (WL, listOf wv.toArray n2) :: rest) (fun p hp => hp) off (.inr ⟨_, .head _, rfl, _, rfl⟩) ⟨rfl, by omega, ?_⟩
        rw [List.take_add_one, hrow, List.map_append, List.map_append]
        exact StrsAre.append' hvs (.cons _ _ .nil)
    case zgm =>
    rintro s' ⟨PL, ys, n', c1, c2, oc1, oc2, WL, wv, n2, t5, hys, co1, co2, lPL, lW, hwv, h, tk, u, rfl, hk1, F, N⟩

    have hl1 : sg.length ≤ 8 := hs8
    have hpl := parts_len 34 sg
    have hwl := words_len (parts 34 sg)
    have hwvl : wv.length = (wordsOf (parts 34 sg)).length := by rw [hwv.len_eq, List.length_map]
    dsimp only [kstB] at F
    repeat' ((fail_if_success (with_reducible show wpAny _ _ (call (Value.builtin "len") _) _ _ _)); walk_at "mine:step")
    with_reducible rename News (ghostOf s₁.heap [(271, 269)]) _ _ _ => N6
    refine call_len_list (News.isList N6 (.tail _ (.tail _ (.tail _ (.tail _ (.head _)))))) (by rw [List.size_toArray]; omega) ?_
    repeat' ((fail_if_success (with_reducible show wpAny _ _ (call (Value.ref 272) _ _) _ _ _)); walk_at "mine:step")
    with_reducible rename Fr (ghostOf s₁.heap [(271, 269)]) _ _ _ => F6
    rw [wl2]
    have hsl := sent_len (parts 34 sg) fun p hp => Nat.le_trans (parts_mem 34 sg p hp).2 hl1
    refine wpAny_call (law_read_again (tks := wordsOf (parts 34 sg)) (xend := endOf (parts 34 sg)) K1 F6 X1 N6 T1 rfl codeHd (by ktr_room) (by ktr_units) (by omega) (by omega) (by rw [List.size_toArray, hwvl]) (gts_sent (parts 34 sg) (parts_ne 34 sg)) ?o9 co1 co2 ?_)
    case o9 => exact AllP.all (l := [(PL, listOf ys.toArray n'), (WL, listOf wv.toArray n2)]) ⟨Nat.ne_of_gt lPL, Nat.ne_of_gt lW, trivial⟩
    intro tup D zs te h7 k7 hzs F7 N7
    dsimp only
    clear F6 N6
    repeat' ((fail_if_success (with_reducible show wpAny _ _ (subscriptTail _ _ _ _) _ _ _)); walk_at "mine:step")
    obtain ⟨lp, elp, een⟩ := last_txt (parts 34 sg) (parts_ne 34 sg)
    have hpn := List.length_pos_iff.mpr (parts_ne 34 sg)
    refine item_strs_neg (News.isList N7 (.tail _ (.tail _ (.tail _ (.tail _ (.tail _ (.head _))))))) hys (by decide) (by rw [List.length_map]; omega) (by decide) ?_
    intro tl
    rw [elp]
    rw [een] at N7
    iterate 4 (walk_at "mine:step")
    all_goals (repeat' ((fail_if_success (with_reducible show wpAny _ _ (compareOp _ _ _) _ _ _)); walk_at "mine:step"))
    · with_reducible rename (_ != _) = _ => hne
      with_reducible rename News (ghostOf s₁.heap [(271, 269)]) _ _ _ => N8
      rw [if_neg (q_some hne), nl1] at N8
      refine tup_eq N8 (.tail _ (.head _)) (.head _) (.tail _ (.tail _ (.head _))) (.tail _ (.tail _ (.tail _ (.tail _ (.tail _ (.tail _ (.tail _ (.head _)))))))) hzs hwv (by ke_room) ?_
      with_reducible rename Fr (ghostOf s₁.heap [(271, 269)]) _ _ _ => F8
      refine ⟨?_, ?_⟩
      · kc_close
      · exact ⟨GrownAt.of N8 (.tail _ (.tail _ (.tail _ (.head _)))), trivial⟩
    · with_reducible rename (_ != _) = _ => hne
      with_reducible rename News (ghostOf s₁.heap [(271, 269)]) _ _ _ => N8
      rw [if_pos (q_none hne), e_txt] at N8
      refine tup_eq N8 (.tail _ (.head _)) (.head _) (.tail _ (.tail _ (.head _))) (.tail _ (.tail _ (.tail _ (.tail _ (.tail _ (.tail _ (.tail _ (.head _)))))))) hzs hwv (by ke_room) ?_
      with_reducible rename Fr (ghostOf s₁.heap [(271, 269)]) _ _ _ => F8
      refine ⟨?_, ?_⟩
      · kc_close
      · exact ⟨GrownAt.of N8 (.tail _ (.tail _ (.tail _ (.head _)))), trivial⟩)
end Mine
end
set_option maxRecDepth 100000 in
set_option maxHeartbeats 8000000 in
theorem PySem.Challenge.cw_tp0038_02_holds : PySem.Challenge.rw_tp0038_02.Holds := by
  exact Mine.law_holds
