import PyProof.Rows.All
import Wide.All
import OpenK.AllK
import Wide.FinOn
import PySem.Challenge.RW_tp0038_01
set_option Elab.async false
set_option compiler.extract_closed false
section
open PySem PySem.W PyProof.Rows
set_option maxRecDepth 100000
set_option maxHeartbeats 0
noncomputable def Mine.view1 : Program := view PySem.Challenge.rw_tp0038_01.row.prog [0,1,3,4,5,7,9,10,11,13,15,16,17,18,19,20,21]
local macro_rules | `(tactic| o_head $H) => `(tactic| (
  refine holds_open (q := Mine.view1) (loose := [Str.ofString "tspecials", Str.ofString "_name_disallowed_re", Str.ofString "_value_disallowed_re", Str.ofString "_formatparam"]) (Xt := fun s => xlAt Mine.view1 [] s && recOk (RowW.records PySem.Challenge.rw_tp0038_01.row.toRowW) s) (XP := XL Mine.view1 []) (Yf := Hook.obs $H) (Ya := Hook.val $H) (YP := Hook.says $H) (N := 4156) ?hl (Hook.of $H) (Hook.keeps $H) (fun s e => xl_of s (Bool.and_eq_true_iff.mp e).1) XL.keeps (by rfl) (by rfl) (by rfl) (fun s e => recFacts_of (Bool.and_eq_true_iff.mp e).2) (by rfl) (by first | assumption | decide +kernel) (by decide +kernel) ⟨rfl, rfl, rfl, rfl, rfl, by decide +kernel⟩ ?hw ?hc
  case hl => (intro w; unfold openEnds fencedOpening topFrom; (first | rw [PySem.W.Fast.te14364793385576792824, PySem.W.Fast.te10274390034422433532, PySem.W.Fast.te14289696077712309145, PySem.W.Fast.te1435165496053646825, PySem.W.Fast.te14082659384304107361, PySem.W.Fast.te4187177175401517315, PySem.W.Fast.te5923862056798008813] | skip); kernel_rfl)))
namespace Mine
open_top hd for PySem.Challenge.rw_tp0038_01
end Mine
end
open PySem PySem.W PyProof.Rows PySem.Calls Mine
local macro_rules | `(tactic| walk_at "mine:enter") => `(tactic| k_dflt first
  | (refine code_def (by k_asm) (by k_asm) (by k_asm) (by k_asm) (by k_asm) rfl rfl (by first | exact rfl | assumption) (by k_is) (by k_is) (by ktr_room) (by first | exact BindsTo.of_eq rfl | exact binds_K (by k_in) rfl (by k_is) rfl rfl rfl) (by exact locs rfl) ?_ (by exact rfl) (by exact rfl) (by exact rfl) (by decide); intro g' L' h' FG' F' N' B' X' T'; (try dsimp only); (try k_lift B'); (try k_fold))
  | (refine code_defC (by k_asm) (by k_asm) (by k_asm) (by k_asm) (by k_asm) rfl rfl (by first | exact rfl | assumption) (by k_is) (by k_is) (by ktr_room) (by first | exact BindsTo.of_eq rfl | exact binds_K (by k_in) rfl (by k_is) rfl rfl rfl) (by exact rfl) (by decide +kernel) ?_ (by exact rfl) (by exact rfl) (by exact rfl); intro g' L' h' tk' cells' FG' F' N' Y' B' X' T' l1; (try k_lt l1); k_cells Y'; (try simp only [List.cons_append, List.nil_append] at N'); (try dsimp only); (try k_lift B'); (try k_fold)))
local macro_rules | `(tactic| walk_at "mine:step") => `(tactic| first | (k_unfold; (try dsimp only)) | (k_end; wrow_close) | walk1 | (dsimp only; walk1) | (leave1; walk_say "STEP leave1"; try dsimp only) | fail "no step")
section
open PySem PySem.W PyProof.Rows PySem.Calls PySem.Builtin.ObjectAttr
set_option maxRecDepth 100000
namespace Mine
section
variable {prog : Program} {w : World} {A : Around} {E : Value → Shared → Prop} {s : Shared} {K : Frag} {h₀ : Heap} {L f : Addr} {m : Str → Option Value} {news : List (Addr × Obj)} {g : Obj → List (Addr × Obj)}

theorem refuse_fn (self : Value) : refuseLoop self "__setattr__" [.type "function", .type "object"] = pure () := by
  kernel_rfl

theorem fn_setattr {fd : FuncData} {name : Str} {v : Value} {Q : Unit → Shared → Prop} (F : Fr h₀ L s.heap m) (X₀ : K.In h₀) (N : News h₀ L s.heap news)
    (U : UpdF f { cls := .type "function", data := .func fd } news g) (hn : fastLookup "function" name = some none)
    (h : ∀ dx h' tk, Fr h₀ L h' m → News h₀ L h' ((dx, dictOf [⟨PyData.keyHash w.params name, .str name (s.toks + 1), v⟩] 1) :: g { cls := .type "function", dict := some dx, data := .func fd }) →
      (∀ q ∈ news, q.1 < dx) → Q () { s with heap := h', toks := tk }) :
    wpAny (model prog w) A (setAttr (.ref f) name v) Q E s := by
  obtain ⟨pre, post, rfl, hg, h1, h2⟩ := U.split
  have hf := (N (f, _) (List.mem_append_right _ (.head _))).1
  have X : K.In s.heap := X₀.keeps F.keep
  have T1 : Looks (model prog w) s.heap (typeOf (.ref f)) (.type "function") := (Looks.ld (part := none) hf).andThen .now
  have hs : findIn K (.type "function") "__setattr__" = some (some (.builtin "object.__setattr__")) := by kernel_rfl
  have SF := PySem.F.store_object
  have sub : Looks (model prog w) s.heap (isInstance (.ref f) (.type "object")) true := T1.andThen (looks_subIn X (t := .type "function") (by kernel_rfl))
  have hm : Looks (model prog w) s.heap (mroOf (.type "function")) [.type "function", .type "object"] := Looks.of_pure (by kernel_rfl)
  have main : codeAny (model prog w) A (.call (.builtin "object.__setattr__") ⟨[.ref f, .str name s.toks, v], []⟩) (fun r s' => match r with | .ok (.ret _) => Q () s' | .ok _ => False | .error e => E e s') { s with toks := s.toks + 1 } := by
    refine codeAny_call_builtin SF.slot.plain SF.entry (@check_slot (model prog w) _ _ { s with toks := s.toks + 1 } "object.__setattr__" "object" "__setattr__" (.ref f) [.str name s.toks, v] [] _ SF.kind SF.split sub (SF.args (.ref f) (.str name s.toks) v) ?_)
    rw [osa_eq, refuse_eq]
    refine wpAny_bind (wpAny_bind (T1.at (wpAny_bind (hm.at ?_))))
    rw [refuse_fn]
    refine wpAny_pure (wpAny_bind (T1.at (wpAny_bind ((looks_findIn X (t := .type "function") (name := name) (r := none) hn).at (wpAny_bind (wpAny_pure ?_))))))
    dsimp only
    unfold storeInOwnDict
    refine wpAny_bind (wpAny_pure ?_)
    rw [if_neg (by decide)]
    refine wpAny_bind (wpAny_bind (wpAny_loadPart hf ?_))
    dsimp only
    show wpAny _ _ (alloc { cls := .type "dict", data := .dict #[] } >>= _) _ _ _
    refine wpAny_bind (wpAny_alloc ?_)
    have hf' := Heap.get?_push_of_some ({ cls := .type "dict", data := .dict #[] } : Obj) hf
    refine wpAny_bind (wpAny_update hf' ?_)
    show wpAny _ _ (dictMade _ _ _) _ _ _
    show wpAny _ _ (pure (some s.heap.objs.size)) _ _ _
    refine wpAny_pure ?_
    show wpAny _ _ (storeInDict s.heap.objs.size (.str name s.toks) name v) _ _ _
    have F1 := F.push ({ cls := .type "dict", data := .dict #[] } : Obj)
    have N1 := N.push F ({ cls := .type "dict", data := .dict #[] } : Obj) rfl
    have hne : ∀ q ∈ pre ++ (f, ({ cls := .type "function", data := .func fd } : Obj)) :: post, q.1 < s.heap.objs.size := fun q hq => Heap.lt_size (N q hq).1
    have U2 := news_upd (pre := (s.heap.objs.size, ({ cls := .type "dict", data := .dict #[] } : Obj)) :: pre) (post := post) (d := f) (o' := ({ cls := .type "function", dict := some s.heap.objs.size, data := .func fd } : Obj)) (f := fun o => { o with dict := some s.heap.objs.size }) F1 N1 (fun p hp => by
      rcases List.mem_cons.mp hp with rfl | hp
      · exact Nat.ne_of_gt (hne (f, _) (List.mem_append_right _ (.head _)))
      · exact h1 p hp) h2 rfl rfl
    obtain ⟨F2, N2⟩ := U2
    have U3 := news_upd (pre := []) (post := pre ++ (f, ({ cls := .type "function", dict := some s.heap.objs.size, data := .func fd } : Obj)) :: post) (d := s.heap.objs.size) (o := dictOf [] 0) (o' := dictOf [⟨PyData.keyHash w.params name, .str name (s.toks + 1), v⟩] 1) (f := Obj.putName name (PyData.keyHash w.params name) (.str name (s.toks + 1)) v) F2 N2 (fun _ h => nomatch h) (fun p hp => by
      rcases List.mem_append.mp hp with hp | hp
      · exact Nat.ne_of_lt (hne p (List.mem_append_left _ hp))
      · rcases List.mem_cons.mp hp with rfl | hp
        · exact Nat.ne_of_lt (hne (f, { cls := .type "function", data := .func fd }) (List.mem_append_right _ (.head _)))
        · exact Nat.ne_of_lt (hne p (List.mem_append_right _ (.tail _ hp)))) (by rw [putName_dict]; rfl) rfl
    obtain ⟨F3, N3⟩ := U3
    have D := (N2 (s.heap.objs.size, dictOf [] 0) (.head _)).1
    have D' := (N3 (s.heap.objs.size, _) (.head _)).1
    refine wpAny_bind (wpAny_pure (wpAny_bind ?_))
    unfold nsSet
    refine wpAny_bind (wpAny_bind (wpAny_askSetting (wpAny_pure (wpAny_bind (wpAny_mkText (wpAny_bind (wpAny_loadPart D ?_)))))))
    dsimp only
    rw [aRefKeyMayBeTheName_at]
    rw [if_neg (by simp)]
    refine wpAny_updatePart D ?_
    refine wpAny_bind (wpAny_lookBehind D' (pastItsLine_dict (by simp)) ?_)
    exact wpAny_pure (h _ _ _ F3 (by rw [hg]; exact N3) hne)
  refine wpAny_bind (wpAny_mkText (wpAny_bind (wpAny_bind (wpAny_bind (T1 _ _ _ _ (fun _ _ e => e) (looks_findIn X hs _ _ _ _ (fun _ _ e => e) (wpAny_holding ?_)))))))
  rw [PySem.F.store_object.slot.bind]
  refine wpAny_bind (wpAny_pure (wpAny_bind (wpAny_call (codeAny_mono main fun r s' z => ?_))))
  rcases r with e | (v | _ | _ | _) <;> first | exact z | exact wpAny_pure (wpAny_pure z)

theorem slot_function_ga : Slot "function" "__getattribute__" "object.__getattribute__" :=
  .of (owner := "object") (n := "__getattribute__") (by rw [typeLookup_type, builtinLookup_eq_fast]; kernel_rfl) (by decide +kernel) (by decide +kernel) (by decide +kernel)
    (by first | exact .inl (by decide +kernel) | exact .inr (by decide +kernel)) (by rw [isSubtype_type]; kernel_rfl)
theorem fn_no_hook : typeLookup (.type "function") "__getattr__" = pure none := by rw [typeLookup_type, builtinLookup_eq_fast]; kernel_rfl

theorem fn_getattr {fd : FuncData} {dx : Addr} {es : List DictEntry} {n : Nat} {name : Str} {v : Value} {ex : Bool} {Q : Value → Shared → Prop}
    (hf : s.heap.get? f = some { cls := .type "function", dict := some dx, data := .func fd }) (hd : s.heap.get? dx = some (dictOf es n)) (hl : getL name es = some (some v))
    (hn : typeLookup (.type "function") name = pure none) (hv : handedIn v = true) (h : Q v { s with toks := s.toks + 1 }) :
    wpAny (model prog w) A (getAttr (.ref f) name ex) Q E s := by
  obtain ⟨hp, g, d, tk, os⟩ := s
  have hT : ∀ tk', (⟨hp, g, d, tk', os⟩ : Shared).TypeIs (.ref f) "function" := fun _ => ⟨_, hf, rfl⟩
  have f3 := slot_function_ga.lookup
  have f4 := slot_function_ga.bind (.ref f)
  have hT1 := hT (tk + 1)
  have hgo : handedOut v = pure v := handedOut_of hv
  have hlk : nsLook name (dictOf es n) = pure (some v) := nsLook_of (by rw [lookIn_dict]; exact hl)
  unfold getAttr getAttrBy getAttrByItsOwn
  repeat (any_goals (first | assumption | wp_step))
  have hoh : onTheHeap (Value.builtin "object.__getattribute__") = false := rfl
  rw [hoh, Bool.and_false, if_neg Bool.false_ne_true]
  unfold boundAndCalled
  repeat (any_goals (first | assumption | wp_step))
  refine codeAny_call_builtin slot_function_ga.plain F.entry_object_getattribute (slot_function_ga.check _ _ _ _ _ _ _ _ hT1 (F.args_object_getattribute_2 _ _) ?_)
  repeat (any_goals (first | assumption | wp_step))

theorem fn_getmethod {fd : FuncData} {dx : Addr} {es : List DictEntry} {n : Nat} {name : Str} {v : Value} {pl : Sem Bool} {Q : Value × List Value → Shared → Prop}
    (hf : s.heap.get? f = some { cls := .type "function", dict := some dx, data := .func fd }) (hd : s.heap.get? dx = some (dictOf es n)) (hl : getL name es = some (some v))
    (hn : typeLookup (.type "function") name = pure none) (hv : handedIn v = true) (h : Q (v, []) { s with toks := s.toks + 1 }) :
    wpAny (model prog w) A (getMethod (.ref f) name pl) Q E s := by
  have T1 : Looks (model prog w) s.heap (typeOf (.ref f)) (.type "function") := (Looks.ld (part := none) hf).andThen .now
  have S1 : Looks (model prog w) s.heap (specialOf (.ref f) "__getattribute__") (some (.builtin "object.__getattribute__")) := T1.andThen (Looks.of_pure slot_function_ga.lookup)
  have S2 : Looks (model prog w) s.heap (specialOf (.ref f) "__getattr__") none := T1.andThen (Looks.of_pure fn_no_hook)
  have S3 : Looks (model prog w) s.heap (specialOf (.ref f) name) none := T1.andThen (Looks.of_pure hn)
  have hcan := PySem.F.canon_object_ga
  unfold getMethod
  refine wpAny_bind (S1.here ?_)
  dsimp only
  rw [hcan, if_neg Bool.false_ne_true]
  refine wpAny_bind (S2.here (wpAny_bind (S3.here ?_)))
  exact wpAny_bind (fn_getattr hf hd hl hn hv (wpAny_pure h))
end
end Mine
end
theorem Mine.fresh1 : True := by
  w_top off
  k_with_none
  first | (walk1; fail) | trivial
section
open PySem PySem.W PyProof.Rows PySem.Calls
set_option maxRecDepth 100000
namespace Mine
theorem slot_ci_next : Slot "callable_iterator" "__next__" "callable_iterator.__next__" :=
  .of (owner := "callable_iterator") (n := "__next__") (by rw [typeLookup_type, builtinLookup_eq_fast]; kernel_rfl) (by decide +kernel) (by decide +kernel) (by decide +kernel)
    (by first | exact .inl (by decide +kernel) | exact .inr (by decide +kernel)) (by rw [isSubtype_type]; kernel_rfl)
theorem entry_ci_next : entryFor table "callable_iterator.__next__" = some Builtin.«callable_iterator.__next__» := entryFor_of_tree (by kernel_rfl)
theorem args_ci_next (a : Value) : argsOk "callable_iterator.__next__" ⟨[a], []⟩ := by unfold argsOk; kernel_rfl
theorem slot_ci_iter : Slot "callable_iterator" "__iter__" "callable_iterator.__iter__" :=
  .of (owner := "callable_iterator") (n := "__iter__") (by rw [typeLookup_type, builtinLookup_eq_fast]; kernel_rfl) (by decide +kernel) (by decide +kernel) (by decide +kernel)
    (by first | exact .inl (by decide +kernel) | exact .inr (by decide +kernel)) (by rw [isSubtype_type]; kernel_rfl)
theorem args_ci_iter (a : Value) : argsOk "callable_iterator.__iter__" ⟨[a], []⟩ := by unfold argsOk; kernel_rfl
noncomputable abbrev ciObj (q : Addr) (ts : Tok) : Obj := { cls := .type "callable_iterator", data := .fields #[.ref q, .str (Str.ofString "") ts, .bool false] }
section
variable {prog : Program} {w : World} {A : Around} {E : Value → Shared → Prop} {s : Shared}
theorem wpAny_borrowed {f : Value} {pos : List Value} {Q : Value → Shared → Prop} (h : wpAny (model prog w) A (call f pos) Q E s) : wpAny (model prog w) A (callBorrowed f pos) Q E s := fun Γ p hΓ => by
  have h1 := h Γ p hΓ
  rw [Sem.wp_cmd_call] at h1
  unfold callBorrowed
  rw [Sem.wp_call]
  refine wpCode_mono (fun r s' hr => ?_) h1
  rcases r with e | (v | _ | _ | _) <;> first | exact hr | exact hr.elim
theorem ci_next {it q f : Addr} {self : Value} {ts : Tok} {fd : FuncData} {cf : Value} {df : Option Addr} {sf : Array (Option Value)} {Q : Option Value → Shared → Prop}
    (hi : s.heap.get? it = some (ciObj q ts)) (hq : s.heap.get? q = some (methodObj (.ref f) self)) (hf : s.heap.get? f = some ⟨cf, df, .func fd, sf⟩)
    (h : codeAny (model prog w) A.in1 (.call (.ref f) ⟨[self], []⟩) (fun r s' => ∃ x t, r = .ok (.ret (.str x t)) ∧ s'.heap.get? it = some (ciObj q ts) ∧ x ≠ Str.ofString "" ∧ Q (some (.str x t)) s') s) :
    wpAny (model prog w) A (pyNext (.ref it)) Q E s := by
  have T1 : Looks (model prog w) s.heap (typeOf (.ref it)) (.type "callable_iterator") := (Looks.ld (part := none) hi).andThen .now
  have S1 : Looks (model prog w) s.heap (typeLookup (.type "callable_iterator") "__next__") (some (.builtin "callable_iterator.__next__")) := Looks.of_pure slot_ci_next.lookup
  have hT : s.TypeIs (.ref it) "callable_iterator" := ⟨_, hi, rfl⟩
  have main : wpAny (model prog w) A (call (.builtin "callable_iterator.__next__") [.ref it]) (fun v s' => Q (some v) s') (fun _ _ => False) s := by
    refine wpAny_call (codeAny_call_builtin slot_ci_next.plain entry_ci_next (slot_ci_next.check _ _ _ _ _ _ _ _ hT (args_ci_next _) ?_))
    unfold Builtin.«callable_iterator.__next__»
    have f2 : Looks (model prog w) s.heap (field (.ref it) 2) (.bool false) := looks_field hi 2 rfl
    have f0 : Looks (model prog w) s.heap (field (.ref it) 0) (.ref q) := looks_field hi 0 rfl
    refine wpAny_bind (wpAny_pure (wpAny_bind (f2.here ?_)))
    rw [if_neg (by decide)]
    refine wpAny_bind (f0.here (wpAny_bind (wpAny_attempt ?_)))
    unfold callOutOfASlot
    have fb : Looks (model prog w) s.heap (borrowsExactly (.ref q)) true := by
      unfold borrowsExactly
      exact (Looks.ld (part := none) hq).andThen ((Looks.ld (part := none) hf).andThen .now)
    refine wpAny_bind (fb.here ?_)
    rw [if_pos rfl]
    refine wpAny_borrowed (wpAny_call (method_call hq (codeAny_mono h fun r s' hr => ?_)))
    obtain ⟨x, t, rfl, hi', hx, hQ⟩ := hr
    have f2' : Looks (model prog w) s'.heap (field (.ref it) 2) (.bool false) := looks_field hi' 2 rfl
    have f1' : Looks (model prog w) s'.heap (field (.ref it) 1) (.str (Str.ofString "") ts) := looks_field hi' 1 rfl
    dsimp only
    refine wpAny_bind (f2'.here ?_)
    rw [if_neg (by decide)]
    refine wpAny_bind (f1'.here (wpAny_bind (wpAny_holding (wpAny_eqBool_str ?_))))
    rw [decide_eq_false (fun e => hx e.symm)]
    exact wpAny_pure hQ
  unfold pyNext
  refine wpAny_bind (wpAny_attempt (wpAny_bind (wpAny_bind (T1.here (S1.here (wpAny_holding ?_))))))
  rw [slot_ci_next.bind]
  refine wpAny_bind (wpAny_pure (wpAny_bind (wpAny_mono main (fun v s' hq => ?_) fun _ _ z => z.elim)))
  exact wpAny_pure (wpAny_pure hq)
theorem entry_ci_iter : entryFor table "callable_iterator.__iter__" = some Builtin.«dict_keyiterator.__iter__» :=
  entryFor_alias (id' := "dict_keyiterator.__iter__") (by kernel_rfl) rfl (by decide +kernel) (by kernel_rfl)
theorem ci_iter {it q : Addr} {ts : Tok} {Q : Value → Shared → Prop} (hi : s.heap.get? it = some (ciObj q ts)) (h : Q (.ref it) s) : wpAny (model prog w) A (pyIter (.ref it)) Q E s := by
  have T1 : Looks (model prog w) s.heap (typeOf (.ref it)) (.type "callable_iterator") := (Looks.ld (part := none) hi).andThen .now
  have S1 : Looks (model prog w) s.heap (typeLookup (.type "callable_iterator") "__iter__") (some (.builtin "callable_iterator.__iter__")) := Looks.of_pure slot_ci_iter.lookup
  have S2 : Looks (model prog w) s.heap (typeLookup (.type "callable_iterator") "__next__") (some (.builtin "callable_iterator.__next__")) := Looks.of_pure slot_ci_next.lookup
  have hT : s.TypeIs (.ref it) "callable_iterator" := ⟨_, hi, rfl⟩
  have one : ∀ refuse : Sem Value, wpAny (model prog w) A (callSpecialIfBoundUnlessNone? (.ref it) "__iter__" refuse) (fun r s' => r = some (.ref it) ∧ s' = s) E s := by
    intro refuse
    simp only [callSpecialIfBoundUnlessNone?, bindSpecialIfBound?]
    refine wpAny_holding (wpAny_bind (wpAny_bind (wpAny_bind (T1.here (S1.here ?_)))))
    refine wpAny_bind (wpAny_askSetting (wpAny_ite ?_))
    have fin2 : wpAny (model prog w) A (call (.builtin "callable_iterator.__iter__") [.ref it] >>= fun v => pure (some v)) (fun r s' => r = some (.ref it) ∧ s' = s) E s := by
      refine wpAny_bind (wpAny_call (codeAny_call_builtin slot_ci_iter.plain entry_ci_iter (slot_ci_iter.check _ _ _ _ _ _ _ _ hT (args_ci_iter _) ?_)))
      exact wpAny_pure (wpAny_pure ⟨rfl, rfl⟩)
    have hb := slot_ci_iter.bind (.ref it)
    split
    · rw [hb]
      exact wpAny_bind (wpAny_pure (wpAny_pure fin2))
    · rw [hb]
      exact wpAny_tryCatch (wpAny_bind (wpAny_pure (wpAny_pure fin2)))
  unfold pyIter
  refine wpAny_bind (wpAny_bind (T1.here (S1.here ?_)))
  show wpAny (model prog w) A (callSpecialIfBoundUnlessNone? (.ref it) "__iter__" _ >>= _) Q E s
  refine wpAny_bind (wpAny_mono (one _) (fun r s' hr => ?_) fun _ _ z => z)
  obtain ⟨rfl, rfl⟩ := hr
  exact wpAny_bind (wpAny_bind (T1.here (S2.here (wpAny_pure h))))
end
section
variable {prog : Program} {w : World} {A : Around} {E : Value → Shared → Prop} {s : Shared} {h₀ : Heap} {L : Addr} {m : Str → Option Value} {news : List (Addr × Obj)}
theorem method_call_look : typeLookup (.type "method") "__call__" = pure (some (.builtin "method.__call__")) := by rw [typeLookup_type, builtinLookup_eq_fast]; kernel_rfl
theorem iter2_call {q f : Addr} {self : Value} {ts : Tok} {Q : Value → Shared → Prop} (F : Fr h₀ L s.heap m) (N : News h₀ L s.heap news) (hq : (q, methodObj (.ref f) self) ∈ news)
    (h : ∀ it h', Fr h₀ L h' m → News h₀ L h' ((it, ciObj q ts) :: news) → (∀ p ∈ news, p.1 < it) → Q (.ref it) { s with heap := h' }) :
    wpAny (model prog w) A (call (.builtin "iter") [.ref q, .str (Str.ofString "") ts]) Q E s := by
  have hq' := (N _ hq).1
  have T1 : Looks (model prog w) s.heap (typeOf (.ref q)) (.type "method") := (Looks.ld (part := none) hq').andThen .now
  have S1 : Looks (model prog w) s.heap (specialOf (.ref q) "__call__") (some (.builtin "method.__call__")) := T1.andThen (Looks.of_pure method_call_look)
  have hargs : argsOk "iter" ⟨[.ref q, .str (Str.ofString "") ts], []⟩ := by unfold argsOk; kernel_rfl
  refine Calls.call_function_entry (by decide +kernel) (by decide +kernel) (entryFor_of_tree (b := Builtin.«iter») (by kernel_rfl)) hargs ?_
  unfold Builtin.«iter»
  refine wpAny_bind (wpAny_pure ?_)
  refine wpAny_bind (S1.here ?_)
  rw [if_neg (by decide)]
  refine wpAny_bind (wpAny_rule (wpAny_bind ?_))
  refine wpAny_newObj_type ?_ (by size_fits)
  exact wpAny_pure ⟨_, rfl, h _ _ (F.push _) (N.push F _ rfl) (fun p hp => Heap.lt_size (N p hp).1)⟩
end
end Mine
end
theorem Mine.fresh2 : True := by
  w_top off
  k_with_none
  first | (walk1; fail) | trivial
section
open PySem PySem.W PyProof.Rows PySem.Calls
set_option maxRecDepth 100000
namespace Mine
section
variable {prog : Program} {w : World} {A : Around} {E : Value → Shared → Prop} {s : Shared}
theorem ci_end {it q f : Addr} {self : Value} {ts : Tok} {fd : FuncData} {cf : Value} {df : Option Addr} {sf : Array (Option Value)} {Q : Option Value → Shared → Prop} (hh : A.handled = none)
    (hi : s.heap.get? it = some (ciObj q ts)) (hq : s.heap.get? q = some (methodObj (.ref f) self)) (hf : s.heap.get? f = some ⟨cf, df, .func fd, sf⟩)
    (h : codeAny (model prog w) A.in1 (.call (.ref f) ⟨[self], []⟩) (fun r s' => ∃ t, r = .ok (.ret (.str (Str.ofString "") t)) ∧ s'.heap.get? it = some (ciObj q ts) ∧ s'.heap.get? q = some (methodObj (.ref f) self) ∧ s'.heap.get? f = some ⟨cf, df, .func fd, sf⟩ ∧
      ∀ h', Heap.ExtBut it s'.heap h' → Q none { s' with heap := h' }) s) :
    wpAny (model prog w) A (pyNext (.ref it)) Q E s := by
  have T1 : Looks (model prog w) s.heap (typeOf (.ref it)) (.type "callable_iterator") := (Looks.ld (part := none) hi).andThen .now
  have S1 : Looks (model prog w) s.heap (typeLookup (.type "callable_iterator") "__next__") (some (.builtin "callable_iterator.__next__")) := Looks.of_pure slot_ci_next.lookup
  have hT : s.TypeIs (.ref it) "callable_iterator" := ⟨_, hi, rfl⟩
  have main : wpAny (model prog w) A (call (.builtin "callable_iterator.__next__") [.ref it]) (fun _ _ => False) (fun e s' => ∃ a o, e = .ref a ∧ s'.heap.get? a = some o ∧ o.cls = .type "StopIteration" ∧ Q none s') s := by
    refine wpAny_call (codeAny_call_builtin slot_ci_next.plain entry_ci_next (slot_ci_next.check _ _ _ _ _ _ _ _ hT (args_ci_next _) ?_))
    unfold Builtin.«callable_iterator.__next__»
    have f2 : Looks (model prog w) s.heap (field (.ref it) 2) (.bool false) := looks_field hi 2 rfl
    have f0 : Looks (model prog w) s.heap (field (.ref it) 0) (.ref q) := looks_field hi 0 rfl
    refine wpAny_bind (wpAny_pure (wpAny_bind (f2.here ?_)))
    rw [if_neg (by decide)]
    refine wpAny_bind (f0.here (wpAny_bind (wpAny_attempt ?_)))
    unfold callOutOfASlot
    have fb : Looks (model prog w) s.heap (borrowsExactly (.ref q)) true := by
      unfold borrowsExactly
      exact (Looks.ld (part := none) hq).andThen ((Looks.ld (part := none) hf).andThen .now)
    refine wpAny_bind (fb.here ?_)
    rw [if_pos rfl]
    refine wpAny_borrowed (wpAny_call (method_call hq (codeAny_mono h fun r s' hr => ?_)))
    obtain ⟨t, rfl, hi', hq', hf', hQ⟩ := hr
    have f2' : Looks (model prog w) s'.heap (field (.ref it) 2) (.bool false) := looks_field hi' 2 rfl
    have f1' : Looks (model prog w) s'.heap (field (.ref it) 1) (.str (Str.ofString "") ts) := looks_field hi' 1 rfl
    have f0' : Looks (model prog w) s'.heap (field (.ref it) 0) (.ref q) := looks_field hi' 0 rfl
    have fb' : Looks (model prog w) s'.heap (borrowsExactly (.ref q)) true := by
      unfold borrowsExactly
      exact (Looks.ld (part := none) hq').andThen ((Looks.ld (part := none) hf').andThen .now)
    dsimp only
    refine wpAny_bind (f2'.here ?_)
    rw [if_neg (by decide)]
    refine wpAny_bind (f1'.here (wpAny_bind (wpAny_holding (wpAny_eqBool_str ?_))))
    rw [decide_eq_true rfl]
    rw [if_neg (show ¬ ((!true) = true) by decide)]
    refine wpAny_bind (wpAny_rule ?_)
    refine wpAny_bind ?_
    show wpAny _ _ (field (.ref it) 0 >>= _) _ _ _
    refine wpAny_bind (f0'.here ?_)
    refine wpAny_bind ?_
    show wpAny _ _ (slotLetsGo _ _ _) _ _ _
    unfold slotLetsGo
    dsimp only
    refine wpAny_bind (fb'.here ?_)
    rw [if_pos rfl]
    refine wpAny_pure ?_
    refine wpAny_bind (wpAny_setField hi' rfl (by simp) ?_)
    refine wpAny_bind (wpAny_setField (Heap.get?_update_self _ hi' rfl) rfl (by simp) ?_)
    refine wpAny_setField (Heap.get?_update_self _ (Heap.get?_update_self _ hi' rfl) rfl) rfl (by simp) ?_
    show wpAny _ _ (newExc (.type "StopIteration") [] >>= _) _ _ _
    refine wpAny_bind ?_
    simp only [newExc, newTuple]
    refine wpAny_bind (wpAny_newObj_type ?_ (by size_fits))
    refine wpAny_bind (m := firstArgMember _ _) (wpAny_of_eq (a := Value.none) (by first | rfl | (simp only [firstArgMember]; rfl)) ?_)
    refine wpAny_newObj_type ?_ (by size_fits)
    simp only [raiseNew]
    refine wpAny_bind (wpAny_handled ?_)
    rw [show A.in1.in1.handled = none from hh]
    refine wpAny_bind (wpAny_pure (wpAny_throw ?_))
    exact ⟨_, _, rfl, Heap.get?_push_size _ rfl, rfl, hQ _ (((((Heap.SameBut.update ..).trans (Heap.SameBut.update ..)).trans (Heap.SameBut.update ..)).extBut.push _).push _)⟩
  unfold pyNext
  refine wpAny_bind (wpAny_attempt (wpAny_bind (wpAny_bind (T1.here (S1.here (wpAny_holding ?_))))))
  rw [slot_ci_next.bind]
  refine wpAny_bind (wpAny_pure (wpAny_bind (wpAny_mono main (fun v s' hq => hq.elim) fun e s' he => ?_)))
  obtain ⟨a, o, rfl, ho, hc, hQ⟩ := he
  dsimp only
  refine wpAny_bind (wpAny_isInstance (T := "StopIteration") (b := true) ⟨_, ho, hc⟩ isSubtype_stop ?_)
  exact wpAny_pure hQ
end
end Mine
end
theorem Mine.fresh3 : True := by
  w_top off
  k_with_none
  first | (walk1; fail) | trivial
local macro_rules | `(tactic| k_room) => `(tactic| ktr_room)
local macro_rules | `(tactic| k_mem) => `(tactic| with_reducible assumption)
local macro_rules | `(tactic| k_all) => `(tactic| assumption)
section
open PySem PySem.W PyProof.Rows PySem.Calls
namespace Mine
local macro_rules | `(tactic| walk_at "getMethod ref") => `(tactic| (k_here; k_dflt (refine' fn_getmethod ?a ?b ?c ?d ?e ?_; (case a => exact (News.get (by k_asm) (by k_mem))); (case b => exact (News.get (by k_asm) (by k_mem))); (case c => exact rfl); (case d => (rw [typeLookup_type, builtinLookup_eq_fast]; kernel_rfl)); (case e => exact rfl); k_whole; (try dsimp only))))
local macro_rules | `(tactic| walk_at "callWith ref") => `(tactic| (k_here; k_dflt (refine' callWith_F ?k1 ?_; (case k1 => exact FnAt.of (by k_asm) (by k_mem)); k_whole)))
noncomputable abbrev lexDict (w : World) (ln : Int) (tl t1 t2 t3 t4 : Tok) (fs : Addr) (ws : Str) (tw : Tok) (pb : Addr) : Obj :=
  dictOf [⟨PyData.keyHash w.params (Str.ofString "lineno"), .str (Str.ofString "lineno") t1, .int ln tl⟩, ⟨PyData.keyHash w.params (Str.ofString "instream"), .str (Str.ofString "instream") t2, .ref fs⟩,
    ⟨PyData.keyHash w.params (Str.ofString "whitespace"), .str (Str.ofString "whitespace") t3, .str ws tw⟩, ⟨PyData.keyHash w.params (Str.ofString "pushback"), .str (Str.ofString "pushback") t4, .ref pb⟩] 4
noncomputable abbrev txt (l : List Nat) : Str := ⟨l.toArray⟩
/-- what the reading function does -/
noncomputable def ReadSpec (prog : Program) (w : World) (K : Frag) (p : Program) (loose : List Str) (mean : ExcName → Option Value) (mg mb : Str → Option Value) (ll fr : Addr) (rest : List (Addr × Obj)) : Prop :=
  ∀ (dp un : Nat) (gd : Option (List Code)) (cn : Str) (cs : Scope) (a : Addr) (ccd : Value) (cl : List (Str × Addr)) (outer : List Env) (A₀ : Around) (base h₀ : Heap) (L : Addr) (m : Str → Option Value) (pre : List (Addr × Obj)) (s : Shared) (x : List Nat) (tx t : Tok) (R : Result → Shared → Prop),
    Below A₀ base outer h₀ → Fr h₀ L s.heap m → K.In h₀ → News h₀ L s.heap ((ll, listOf #[.str (txt x) tx] 0) :: (pre ++ rest)) → (∀ q ∈ pre ++ rest, q.1 ≠ ll) → Top p loose mean mg mb h₀ → cs.kind = .function → dp + 2 < recursionLimit → un + 8 < cLine → x.length ≤ 100000 →
    (∀ t' tx' h' tk', Fr h₀ L h' m → News h₀ L h' ((ll, listOf #[.str (txt (x.drop 1)) tx'] 0) :: (pre ++ rest)) → R (.ok (.ret (.str (txt (x.take 1)) t'))) { s with heap := h', toks := tk' }) →
    codeAny (model prog w) (ktrTop dp un gd cn cs L a ccd cl outer) (.call (.ref fr) ⟨[.int 1 t], []⟩) R s

set_option maxRecDepth 100000 in
set_option maxHeartbeats 4000000 in
theorem read_char_spec {w : World} {p : Program} {loose : List Str} {mean : ExcName → Option Value} {mg mb : Str → Option Value} {dp un : Nat} {gd : Option (List Code)} {cn : Str} {cs : Scope} {a : Addr} {ccd : Value} {cl : List (Str × Addr)} {outer : List Env} {A₀ : Around} {base h₀ : Heap} {L : Addr} {m : Str → Option Value} {s : Shared} {R : Result → Shared → Prop}
  {ll fr ld lx fs sd pb : Addr} {rest : List (Addr × Obj)} {fd fdr : FuncData} {ln : Int} {tl t1 t2 t3 t4 tw t5 : Tok} {ws : Str} {x : List Nat} {tx : Tok}
  (B : Below A₀ base outer h₀) (F : Fr h₀ L s.heap m) (X : (hd.heap_39 w.params).In h₀) (N : News h₀ L s.heap ((ll, listOf #[.str (txt x) tx] 0) :: (ld, lexDict w ln tl t1 t2 t3 t4 fs ws tw pb) :: rest)) (T : Top p loose mean mg mb h₀) (hk : cs.kind = .function)
  (hdp : dp + 4 < recursionLimit) (hun : un + 20 < cLine) (hxl : x.length ≤ 100000) (hln : ln.natAbs ≤ 100000)
  (o1 : @Ne Nat ld ll) (o2 : ∀ q ∈ rest, q.1 ≠ ll) (o3 : ∀ q ∈ rest, q.1 ≠ ld)
  (m1 : List.Mem (lx, instObj 256 ld) rest) (m2 : List.Mem (fs, ({ cls := .type "function", dict := some sd, data := .func fd } : Obj)) rest) (m3 : List.Mem (sd, dictOf [⟨PyData.keyHash w.params (Str.ofString "read"), .str (Str.ofString "read") t5, .ref fr⟩] 1) rest)
  (m4 : List.Mem (fr, ({ cls := .type "function", data := .func fdr } : Obj)) rest)
  (hread : ReadSpec PySem.Challenge.rw_tp0038_01.row.prog w (hd.heap_39 w.params) p loose mean mg mb ll fr rest)
  (hret : ∀ t' tx' ln' tl' h' tk', ln'.natAbs ≤ ln.natAbs + 1 → Fr h₀ L h' m → News h₀ L h' ((ll, listOf #[.str (txt (x.drop 1)) tx'] 0) :: (ld, lexDict w ln' tl' t1 t2 t3 t4 fs ws tw pb) :: rest) → R (.ok (.ret (.str (txt (x.take 1)) t'))) { s with heap := h', toks := tk' }) :
  codeAny (model PySem.Challenge.rw_tp0038_01.row.prog w) (ktrTop dp un gd cn cs L a ccd cl outer) (.call (.ref 239) ⟨[.ref lx], []⟩) R s := by
  revert X; k_fill; intro X
  walk_at "mine:enter"
  repeat' ((fail_if_success (with_reducible show wpAny _ _ (call (Value.ref fr) _ _) _ _ _)); walk_at "mine:step")
  refine wpAny_call (hread _ _ _ _ _ _ _ _ _ _ _ _ _ _ [(ld, lexDict w ln tl t1 t2 t3 t4 fs ws tw pb)] _ _ _ _ _ (by k_asm) (by k_asm) (by k_asm) (by k_asm) ?_ (by k_asm) rfl (by ktr_room) (by ktr_units) hxl ?_)
  · intro q hq
    rcases List.mem_cons.mp hq with rfl | hq
    · exact o1
    · exact o2 q hq
  intro t' tx' h' tk' F' N'
  dsimp only [List.cons_append, List.nil_append] at N' ⊢
  k_steps
  all_goals (refine' hret _ _ _ _ _ _ ?a ?b ?c; (case b => k_asm); (case c => k_asm); (case a => omega))
end Mine
end
theorem Mine.fresh4 : True := by
  w_top off
  k_with_none
  first | (walk1; fail) | trivial
section
local macro_rules | `(tactic| walk_at "call builtin:iter") => `(tactic| (k_here; k_dflt (refine' iter2_call ?F ?N ?q ?_; (case F => k_asm); (case N => k_asm); (case q => k_mem); k_whole); intro it' h' F' N' l1; (try k_sweep)))
local macro_rules | `(tactic| walk_at "mine:go") => `(tactic| repeat' ((fail_if_success (with_reducible show wpAny _ _ (exec (Stmt.For _ _ _ _ _) _) _ _ _)); (fail_if_success (with_reducible show wpAny _ _ (call (Value.ref 239) _ _) _ _ _)); walk_at "mine:step"))
local macro_rules | `(tactic| walk_at "truthy ref") => `(tactic| (k_here; (with_reducible show wpAny _ _ (truthy (Value.ref _)) _ _ _); k_dflt (refine' wpAny_truthy_list ?l ?f ?_; (case l => exact News.isList (by k_asm) (by k_mem)); (case f => exact Int.lt_of_not_ge (by decide)); k_whole)))
section
open PySem PySem.W PyProof.Rows PySem.Calls
namespace Mine

/-- the sign-by-sign laws of a token -/
inductive InQ : List Nat → List Nat → List Nat → Prop
  | close (r) : InQ (34 :: r) [] r
  | esc (c r t r') : InQ r t r' → InQ (92 :: c :: r) (c :: t) r'
  | plain (c r t r') : c ≠ 34 → c ≠ 92 → InQ r t r' → InQ (c :: r) (c :: t) r'
inductive InW (ws : List Nat) : List Nat → List Nat → List Nat → Prop
  | stop (c r) : c ∈ ws → InW ws (c :: r) [] r
  | esc (c r t r') : 92 ∉ ws → InW ws r t r' → InW ws (92 :: c :: r) (c :: t) r'
  | plain (c r t r') : c ∉ ws → c ≠ 92 → InW ws r t r' → InW ws (c :: r) (c :: t) r'
inductive GT (ws : List Nat) : List Nat → List Nat → List Nat → Prop
  | skip (c r t r') : c ∈ ws → GT ws r t r' → GT ws (c :: r) t r'
  | quote (r t r') : 34 ∉ ws → InQ r t r' → GT ws (34 :: r) t r'
  | esc (c r t r') : 92 ∉ ws → InW ws r t r' → GT ws (92 :: c :: r) (c :: t) r'
  | word (c r t r') : c ∉ ws → c ≠ 34 → c ≠ 92 → InW ws r t r' → GT ws (c :: r) (c :: t) r'

theorem ReadSpec.more {prog : Program} {w : World} {K : Frag} {p : Program} {loose : List Str} {mean : ExcName → Option Value} {mg mb : Str → Option Value} {ll fr : Addr} {rest : List (Addr × Obj)} (h : ReadSpec prog w K p loose mean mg mb ll fr rest) (xs : List (Addr × Obj)) :
    ReadSpec prog w K p loose mean mg mb ll fr (xs ++ rest) := by
  intro dp un gd cn cs a ccd cl outer A₀ base h₀ L m pre s x tx t R B F X N hne T hk hd hu hx hret
  have e : pre ++ (xs ++ rest) = (pre ++ xs) ++ rest := (List.append_assoc ..).symm
  rw [e] at N hne
  refine h dp un gd cn cs a ccd cl outer A₀ base h₀ L m (pre ++ xs) s x tx t R B F X N hne T hk hd hu hx ?_
  rw [← e]
  exact hret

section
variable {prog : Program} {w : World} {A : Around} {E : Value → Shared → Prop} {s : Shared} {env : Env}
theorem for_own {v : Str} {px pos : Pos} {iter : Expr} {body : List Stmt} {Q : Flow → Shared → Prop}
    (h : wpAny (model prog w) A (eval iter env) (fun xv s₁ => wpAny (model prog w) A (pyIter xv) (fun it s₂ => ∃ I n, it = .ref I ∧ OwitRest prog w A E env v body Q I n s₂) E s₁) E s)
    (hs : ∀ x, foldedSetIterable iter env x = pure x := by intro _; rfl) (hE : PassesOwn (model prog w) A env E := by passes_own) :
    wpAny (model prog w) A (exec (.For (.Name v px) iter body [] pos) env) Q E s := by
  refine wpAny_For (wpAny_mono h (fun xv s₁ h₁ => wpAny_mono h₁ (fun it s₂ h₂ => ?_) fun _ _ z => z) fun _ _ z => z) hs
  obtain ⟨I, n, rfl, h₂⟩ := h₂
  refine codeAny_forLoop (R := fun r s' => match r with | .ok f => Q f s' | .error e => cameBackBy (model prog w) A env E e s') (fun k s' => OwitRest prog w A E env v body Q I k s') ?_ n h₂
  intro k s' hk
  cases k with
  | zero => exact hk.elim
  | succ k =>
    refine wpAny_passesOwn hE (wpAny_mono (hk : wpAny (model prog w) A (pyNext (.ref I)) _ E s') (fun r s₁ hr => ?_) fun _ _ z => z)
    cases r with
    | none => exact wpAny_execs_nil hr
    | some y =>
      refine wpAny_passesOwn hE (wpAny_assign_Name (wpAny_mono hr (fun _ s₂ h₂ => ?_) fun _ _ z => z))
      refine wpAny_passesOwn hE (wpAny_mono h₂ (fun f s₃ h₃ => ?_) fun _ _ z => z)
      cases f with
      | next => exact ⟨k, Nat.lt_succ_self k, h₃⟩
      | cont => exact ⟨k, Nat.lt_succ_self k, h₃⟩
      | brk => exact h₃
      | ret _ => exact h₃
theorem owit_less {v : Str} {body : List Stmt} {Q : Flow → Shared → Prop} {I : Addr} : ∀ {n k : Nat} {s : Shared}, OwitRest prog w A E env v body Q I n s → n ≤ k → OwitRest prog w A E env v body Q I k s := by
  intro n
  induction n with
  | zero => intro k s h _; exact h.elim
  | succ n ih =>
    intro k s h hk
    obtain ⟨k, rfl⟩ : ∃ j, k = j + 1 := ⟨k - 1, by omega⟩
    show wpAny (model prog w) A (pyNext (.ref I)) (OwitTurn prog w A E env v body Q (OwitRest prog w A E env v body Q I k)) E s
    refine wpAny_mono (h : wpAny (model prog w) A (pyNext (.ref I)) (OwitTurn prog w A E env v body Q (OwitRest prog w A E env v body Q I n)) E s) (fun r s₁ hr => ?_) fun _ _ z => z
    cases r with
    | none => exact hr
    | some y =>
      refine wpAny_mono (hr : wpAny _ _ _ _ _ _) (fun _ s₂ h₂ => wpAny_mono h₂ (fun f s₃ h₃ => ?_) fun _ _ z => z) fun _ _ z => z
      cases f with
      | next => exact ih h₃ (by omega)
      | cont => exact ih h₃ (by omega)
      | brk => exact h₃
      | ret _ => exact h₃
noncomputable def Back (J : Nat → Shared → Prop) (k : Nat) (s' : Shared) : Prop := ∃ k', k' < k ∧ J k' s'
theorem owit_ind {v : Str} {body : List Stmt} {Q : Flow → Shared → Prop} {I : Addr} (J : Nat → Shared → Prop)
    (step : ∀ k s, J k s → wpAny (model prog w) A (pyNext (.ref I)) (OwitTurn prog w A E env v body Q (fun s' => Back J k s')) E s) : ∀ k s, J k s → OwitRest prog w A E env v body Q I (k + 1) s := by
  intro k
  induction k using Nat.strongRecOn with
  | ind k ih =>
    intro s hJ
    show wpAny (model prog w) A (pyNext (.ref I)) (OwitTurn prog w A E env v body Q (OwitRest prog w A E env v body Q I k)) E s
    refine wpAny_mono (step k s hJ) (fun r s₁ hr => ?_) fun _ _ z => z
    cases r with
    | none => exact hr
    | some y =>
      refine wpAny_mono (hr : wpAny _ _ _ _ _ _) (fun _ s₂ h₂ => wpAny_mono h₂ (fun f s₃ h₃ => ?_) fun _ _ z => z) fun _ _ z => z
      cases f with
      | next => obtain ⟨k', hk', hJ'⟩ := h₃; exact owit_less (ih k' hk' _ hJ') (by omega)
      | cont => obtain ⟨k', hk', hJ'⟩ := h₃; exact owit_less (ih k' hk' _ hJ') (by omega)
      | brk => exact h₃
      | ret _ => exact h₃
end

theorem two {rest : List (Addr × Obj)} {a b : Addr × Obj} {x : Addr} (h : ∀ q ∈ rest, q.1 ≠ x) (ha : @Ne Nat a.1 x) (hb : @Ne Nat b.1 x) : ∀ q ∈ a :: b :: rest, q.1 ≠ x := by
  intro q hq
  rcases List.mem_cons.mp hq with rfl | hq
  · exact ha
  rcases List.mem_cons.mp hq with rfl | hq
  · exact hb
  exact h q hq
theorem GT.cons {ws x t x' : List Nat} (h : GT ws x t x') : ∃ c r, x = c :: r := by cases h <;> exact ⟨_, _, rfl⟩
theorem InQ.cons {x t x' : List Nat} (h : InQ x t x') : ∃ c r, x = c :: r := by cases h <;> exact ⟨_, _, rfl⟩
theorem InW.cons {ws x t x' : List Nat} (h : InW ws x t x') : ∃ c r, x = c :: r := by cases h <;> exact ⟨_, _, rfl⟩
theorem txt_one (c : Nat) : txt [c] ≠ Str.ofString "" := by intro h; cases h
theorem InQ.inv34 {r t r' : List Nat} (h : InQ (34 :: r) t r') : t = [] ∧ r' = r := by
  cases h with
  | close => exact ⟨rfl, rfl⟩
  | plain _ _ _ _ h _ => exact absurd rfl h
theorem InQ.inv92 {r t r' : List Nat} (h : InQ (92 :: r) t r') : ∃ d r2 t2, r = d :: r2 ∧ t = d :: t2 ∧ InQ r2 t2 r' := by
  cases h with
  | esc c r t _ h => exact ⟨_, _, _, rfl, rfl, h⟩
  | plain _ _ _ _ _ h => exact absurd rfl h
theorem InQ.invp {c : Nat} {r t r' : List Nat} (h : InQ (c :: r) t r') (h1 : c ≠ 34) (h2 : c ≠ 92) : ∃ t2, t = c :: t2 ∧ InQ r t2 r' := by
  cases h with
  | close => exact absurd rfl h1
  | esc => exact absurd rfl h2
  | plain _ _ t _ _ _ h => exact ⟨_, rfl, h⟩
theorem InW.invs {ws : List Nat} {c : Nat} {r t r' : List Nat} (h : InW ws (c :: r) t r') (h1 : c ∈ ws) : t = [] ∧ r' = r := by
  cases h with
  | stop => exact ⟨rfl, rfl⟩
  | esc _ _ _ _ h => exact absurd h1 h
  | plain _ _ _ _ h => exact absurd h1 h
theorem InW.inv92 {ws : List Nat} {r t r' : List Nat} (h : InW ws (92 :: r) t r') (h1 : 92 ∉ ws) : ∃ d r2 t2, r = d :: r2 ∧ t = d :: t2 ∧ InW ws r2 t2 r' := by
  cases h with
  | stop _ _ h => exact absurd h h1
  | esc c r t _ _ h => exact ⟨_, _, _, rfl, rfl, h⟩
  | plain _ _ _ _ _ h => exact absurd rfl h
theorem InW.invp {ws : List Nat} {c : Nat} {r t r' : List Nat} (h : InW ws (c :: r) t r') (h1 : c ∉ ws) (h2 : c ≠ 92) : ∃ t2, t = c :: t2 ∧ InW ws r t2 r' := by
  cases h with
  | stop _ _ h => exact absurd h h1
  | esc => exact absurd rfl h2
  | plain _ _ t _ _ _ h => exact ⟨_, rfl, h⟩
theorem GT.invs {ws : List Nat} {c : Nat} {r t r' : List Nat} (h : GT ws (c :: r) t r') (h1 : c ∈ ws) : GT ws r t r' := by
  cases h with
  | skip _ _ _ _ _ h => exact h
  | quote _ _ _ h => exact absurd h1 h
  | esc _ _ _ _ h => exact absurd h1 h
  | word _ _ _ _ h => exact absurd h1 h
theorem GT.inv34 {ws : List Nat} {r t r' : List Nat} (h : GT ws (34 :: r) t r') (h1 : 34 ∉ ws) : InQ r t r' := by
  cases h with
  | skip _ _ _ _ h => exact absurd h h1
  | quote _ _ _ _ h => exact h
  | word _ _ _ _ _ h => exact absurd rfl h
theorem GT.inv92 {ws : List Nat} {r t r' : List Nat} (h : GT ws (92 :: r) t r') (h1 : 92 ∉ ws) : ∃ d r2 t2, r = d :: r2 ∧ t = d :: t2 ∧ InW ws r2 t2 r' := by
  cases h with
  | skip _ _ _ _ h => exact absurd h h1
  | esc c r t _ _ h => exact ⟨_, _, _, rfl, rfl, h⟩
  | word _ _ _ _ _ _ h => exact absurd rfl h
theorem GT.invw {ws : List Nat} {c : Nat} {r t r' : List Nat} (h : GT ws (c :: r) t r') (h1 : c ∉ ws) (h2 : c ≠ 34) (h3 : c ≠ 92) : ∃ t2, t = c :: t2 ∧ InW ws r t2 r' := by
  cases h with
  | skip _ _ _ _ h => exact absurd h h1
  | quote => exact absurd rfl h2
  | esc => exact absurd rfl h3
  | word _ _ t _ _ _ _ h => exact ⟨_, rfl, h⟩
theorem has_no {wl : List Nat} {c : Nat} (h : (Builtin.Str.occurrences (txt wl) (txt [c]) 0 (txt wl).length 1).isEmpty = true) : c ∉ wl := by
  have e := empty_one (txt wl) c
  rw [show (⟨#[c]⟩ : Str) = txt [c] from rfl, h] at e
  have := e.symm
  simpa using this
theorem has_yes {wl : List Nat} {c : Nat} (h : (Builtin.Str.occurrences (txt wl) (txt [c]) 0 (txt wl).length 1).isEmpty = false) : c ∈ wl := by
  have e := empty_one (txt wl) c
  rw [show (⟨#[c]⟩ : Str) = txt [c] from rfl, h] at e
  have := e.symm
  simpa using this
theorem txt_inj {a b : List Nat} (h : txt a = txt b) : a = b := by
  have := congrArg (fun x : Str => x.cps.toList) h
  simpa using this
theorem q_yes {c : Nat} (h : (txt [c] == Str.ofString "\"") = true) : c = 34 := by
  have := txt_inj ((beq_iff_eq.mp h).trans (show Str.ofString "\"" = txt [34] by decide +kernel)); simpa using this
theorem q_no {c : Nat} (h : (txt [c] == Str.ofString "\"") = false) : c ≠ 34 := by
  rintro rfl; exact absurd h (by decide +kernel)
theorem b_yes {c : Nat} (h : (txt [c] == Str.ofString "\\") = true) : c = 92 := by
  have := txt_inj ((beq_iff_eq.mp h).trans (show Str.ofString "\\" = txt [92] by decide +kernel)); simpa using this
theorem b_no {c : Nat} (h : (txt [c] == Str.ofString "\\") = false) : c ≠ 92 := by
  rintro rfl; exact absurd h (by decide +kernel)
theorem txt_app (a b : List Nat) : txt a ++ txt b = txt (a ++ b) := by
  show Str.mk _ = Str.mk _
  simp [List.append_toArray]
theorem txt_len (a : List Nat) : (txt a).length = a.length := rfl
theorem iadd_txt {prog : Program} {w : World} {A : Around} {E : Value → Shared → Prop} {s : Shared} {a b : List Nat} {t u : Tok} {Q : Value → Shared → Prop} (hl : a.length + b.length ≤ 300000) (h : ∀ t' tk, Q (.str (txt (a ++ b)) t') { s with toks := tk }) :
    wpAny (model prog w) A (inplaceOp .Add (.str (txt a) t) (.str (txt b) u)) Q E s := by
  refine iadd_str (fun t' tk => ?_) (by show a.length + b.length ≤ sizeLine; rw [sizeLine_eq]; omega)
  rw [txt_app]; exact h t' tk

theorem news_drop2 {h₀ h : Heap} {L : Addr} {a b c d : Addr × Obj} {rest : List (Addr × Obj)} (N : News h₀ L h (a :: b :: c :: d :: rest)) : News h₀ L h (a :: b :: rest) := by
  intro p hp
  refine N p ?_
  simp only [List.mem_cons] at hp ⊢
  rcases hp with h | h | h <;> simp only [h, true_or, or_true]
theorem fn_in_get {K : Frag} {h : Heap} {f : Addr} (X : K.In h) (hf : fnIn K f = true) : ∃ cf df fd sf, h.get? f = some ⟨cf, df, .func fd, sf⟩ := by
  unfold fnIn at hf
  split at hf
  · rename_i e
    exact ⟨_, _, _, _, X _ _ e⟩
  · cases hf
theorem fr_kst {h₀ h : Heap} {L : Addr} {m₁ : Str → Option Value} (ps : List (Str × Value)) (F : Fr h₀ L h m₁) (e : ∀ p ∈ ps, m₁ p.1 = some p.2) : Fr h₀ L h (kstB m₁ ps) := by
  have : kstB m₁ ps = m₁ := funext fun z => kstB_eq e fun _ => rfl
  rw [this]; exact F
theorem all3 {P : Str × Value → Prop} {a b c : Str × Value} (h1 : P a) (h2 : P b) (h3 : P c) : ∀ p ∈ [a, b, c], P p := by
  intro p hp
  rcases List.mem_cons.mp hp with rfl | hp
  · exact h1
  rcases List.mem_cons.mp hp with rfl | hp
  · exact h2
  rcases List.mem_cons.mp hp with rfl | hp
  · exact h3
  cases hp

local macro_rules | `(tactic| walk_at "inplaceOp Add str str") => `(tactic| (k_here; (with_reducible show wpAny _ _ (inplaceOp Operator.Add (Value.str _ _) (Value.str _ _)) _ _ _); k_dflt (refine' iadd_txt ?l ?_; (case l => (simp only [List.length_append, List.length_cons, List.length_nil]; omega)); k_whole); intro t' tk))
set_option maxRecDepth 100000 in
set_option maxHeartbeats 4000000 in
theorem next_spec {w : World} {p : Program} {loose : List Str} {mean : ExcName → Option Value} {mg mb : Str → Option Value} {A : Around} {A₀ : Around} {base h₀ : Heap} {L : Addr} {m : Str → Option Value} {s : Shared} {Q : Option Value → Shared → Prop} {E : Value → Shared → Prop}
  {dp un : Nat} {gd : Option (List Code)} {cn : Str} {cs : Scope} {a : Addr} {ccd : Value} {cl : List (Str × Addr)} {outer : List Env}
  {ll fr ld lx fs sd pb it q : Addr} {rest : List (Addr × Obj)} {fd fdr : FuncData} {ln : Int} {tl t1 t2 t3 t4 tw t5 ts : Tok} {ws : Str} {c : Nat} {r : List Nat} {tx : Tok}
  (hA : A.in1 = ktrTop dp un gd cn cs L a ccd cl outer)
  (B : Below A₀ base outer h₀) (F : Fr h₀ L s.heap m) (X : (hd.heap_39 w.params).In h₀) (N : News h₀ L s.heap ((ll, listOf #[.str (txt (c :: r)) tx] 0) :: (ld, lexDict w ln tl t1 t2 t3 t4 fs ws tw pb) :: (it, ciObj q ts) :: (q, methodObj (.ref 239) (.ref lx)) :: rest)) (T : Top p loose mean mg mb h₀) (hk : cs.kind = .function)
  (hdp : dp + 4 < recursionLimit) (hun : un + 20 < cLine) (hln : r.length + 1 + ln.natAbs ≤ 100000)
  (o1 : @Ne Nat ld ll) (o2 : ∀ q ∈ rest, q.1 ≠ ll) (o3 : ∀ q ∈ rest, q.1 ≠ ld) (q1 : @Ne Nat q ll) (q2 : @Ne Nat q ld) (i1 : @Ne Nat it ll) (i2 : @Ne Nat it ld)
  (m1 : List.Mem (lx, instObj 256 ld) rest) (m2 : List.Mem (fs, ({ cls := .type "function", dict := some sd, data := .func fd } : Obj)) rest) (m3 : List.Mem (sd, dictOf [⟨PyData.keyHash w.params (Str.ofString "read"), .str (Str.ofString "read") t5, .ref fr⟩] 1) rest)
  (m4 : List.Mem (fr, ({ cls := .type "function", data := .func fdr } : Obj)) rest)
  (hread : ReadSpec PySem.Challenge.rw_tp0038_01.row.prog w (hd.heap_39 w.params) p loose mean mg mb ll fr rest)
  (hret : ∀ tc tx2 ln2 tl2 h' kk, ln2.natAbs ≤ ln.natAbs + 1 → Fr h₀ L h' m → News h₀ L h' ((ll, listOf #[.str (txt r) tx2] 0) :: (ld, lexDict w ln2 tl2 t1 t2 t3 t4 fs ws tw pb) :: (it, ciObj q ts) :: (q, methodObj (.ref 239) (.ref lx)) :: rest) → Q (some (.str (txt [c]) tc)) { s with heap := h', toks := kk }) :
  wpAny (model PySem.Challenge.rw_tp0038_01.row.prog w) A (pyNext (.ref it)) Q E s := by
  revert X; k_fill; intro X
  obtain ⟨cf, df, fd59, sf, hf⟩ := fn_in_get X (f := 239) (by k_is)
  have RR := hread.more [(it, ciObj q ts), (q, methodObj (.ref 239) (.ref lx))]
  dsimp only [List.cons_append, List.nil_append] at RR
  refine ci_next (N.get (by k_mem)) (N.get (by k_mem)) (F.keep _ _ hf) ?_
  rw [hA]
  refine read_char_spec B F X N T hk hdp hun (by rw [List.length_cons]; omega) (by omega) o1 (two o2 i1 q1) (two o3 i2 q2) (.tail _ (.tail _ m1)) (.tail _ (.tail _ m2)) (.tail _ (.tail _ m3)) (.tail _ (.tail _ m4)) RR ?_
  intro tc tx2 ln2 tl2 h' kk hl3 F2 N2
  exact ⟨_, _, rfl, N2.get (by k_mem), txt_one c, hret _ _ _ _ _ _ hl3 F2 N2⟩

/-- between two turns of get_token's loops -/
inductive GJ (w : World) (s : Shared) (g₁ : Heap) (L₁ it q ll ld lx fs pb : Addr) (t1 t2 t3 t4 tw ts : Tok) (wl : List Nat) (rest : List (Addr × Obj)) (bd : Nat) (P : List Nat → List Nat → Prop) (k : Nat) (s' : Shared) : Prop
  | intro (u : Str → Option Value) (h : Heap) (tk' : Nat) (x1 : List Nat) (tx1 : Tok) (ln1 : Int) (tl1 tt : Tok) (ta : List Nat) (z0 : s' = { s with heap := h, toks := tk' }) (z1 : Fr g₁ L₁ h (kstB u [(Str.ofString "fiter", .ref it), (Str.ofString "token", .str (txt ta) tt), (Str.ofString "self", .ref lx)])) (z2 : News g₁ L₁ h ((ll, listOf #[.str (txt x1) tx1] 0) :: (ld, lexDict w ln1 tl1 t1 t2 t3 t4 fs (txt wl) tw pb) :: (it, ciObj q ts) :: (q, methodObj (.ref 239) (.ref lx)) :: rest)) (z3 : P ta x1) (z4 : ln1.natAbs + x1.length ≤ bd) (z5 : ta.length + x1.length ≤ 100000) (z6 : x1.length = k) : GJ w s g₁ L₁ it q ll ld lx fs pb t1 t2 t3 t4 tw ts wl rest bd P k s'
set_option maxRecDepth 100000 in
set_option maxHeartbeats 4000000 in
theorem get_token_spec {w : World} {p : Program} {loose : List Str} {mean : ExcName → Option Value} {mg mb : Str → Option Value} {dp un : Nat} {gd : Option (List Code)} {cn : Str} {cs : Scope} {a : Addr} {ccd : Value} {cl : List (Str × Addr)} {outer : List Env} {A₀ : Around} {base h₀ : Heap} {L : Addr} {m : Str → Option Value} {s : Shared} {R : Result → Shared → Prop}
  {ll fr ld lx fs sd pb : Addr} {rest : List (Addr × Obj)} {fd fdr : FuncData} {ln : Int} {tl t1 t2 t3 t4 tw t5 : Tok} {wl x tkn x' : List Nat} {tx : Tok}
  (B : Below A₀ base outer h₀) (F : Fr h₀ L s.heap m) (X : (hd.heap_39 w.params).In h₀) (N : News h₀ L s.heap ((ll, listOf #[.str (txt x) tx] 0) :: (ld, lexDict w ln tl t1 t2 t3 t4 fs (txt wl) tw pb) :: rest)) (T : Top p loose mean mg mb h₀) (hk : cs.kind = .function)
  (hdp : dp + 6 < recursionLimit) (hun : un + 40 < cLine) (hxl : x.length ≤ 100000) (hln : ln.natAbs + x.length ≤ 100000)
  (o1 : @Ne Nat ld ll) (o2 : ∀ q ∈ rest, q.1 ≠ ll) (o3 : ∀ q ∈ rest, q.1 ≠ ld)
  (m0 : List.Mem (pb, listOf #[] 0) rest)
  (m1 : List.Mem (lx, instObj 256 ld) rest) (m2 : List.Mem (fs, ({ cls := .type "function", dict := some sd, data := .func fd } : Obj)) rest) (m3 : List.Mem (sd, dictOf [⟨PyData.keyHash w.params (Str.ofString "read"), .str (Str.ofString "read") t5, .ref fr⟩] 1) rest)
  (m4 : List.Mem (fr, ({ cls := .type "function", data := .func fdr } : Obj)) rest)
  (hread : ReadSpec PySem.Challenge.rw_tp0038_01.row.prog w (hd.heap_39 w.params) p loose mean mg mb ll fr rest)
  (hgt : GT wl x tkn x')
  (hret : ∀ t' tx' ln' tl' h' kk, ln'.natAbs + x'.length ≤ ln.natAbs + x.length → Fr h₀ L h' m → News h₀ L h' ((ll, listOf #[.str (txt x') tx'] 0) :: (ld, lexDict w ln' tl' t1 t2 t3 t4 fs (txt wl) tw pb) :: rest) → R (.ok (.ret (.str (txt tkn) t'))) { s with heap := h', toks := kk }) :
  codeAny (model PySem.Challenge.rw_tp0038_01.row.prog w) (ktrTop dp un gd cn cs L a ccd cl outer) (.call (.ref 246) ⟨[.ref lx], []⟩) R s := by
  revert X; k_fill; intro X
  walk_at "mine:enter"
  rename_i g₁ L₁ hh₁ FG₁ F₁ N₁ B₁ X₁ T₁
  repeat' ((fail_if_success (with_reducible show wpAny _ _ (exec (Stmt.For _ _ _ _ _) _) _ _ _)); walk_at "mine:step")
  refine for_own ?_
  walk_at "mine:go"
  with_reducible rename Fr g₁ L₁ _ _ => F1
  with_reducible rename News g₁ L₁ _ _ => N1
  rename_i _ q h1 l0 it h2 l1 h3
  have FF := fr_kst [(Str.ofString "fiter", .ref it), (Str.ofString "token", .str (txt []) _), (Str.ofString "self", .ref lx)] F1 (all3 rfl rfl rfl)
  obtain ⟨ts, N1⟩ : ∃ ts, News g₁ L₁ h3 ((it, ciObj q ts) :: (q, methodObj (.ref 239) (.ref lx)) :: (ll, listOf #[.str (txt x) tx] 0) :: (ld, lexDict w ln tl t1 t2 t3 t4 fs (txt wl) tw pb) :: rest) := ⟨_, N1⟩
  obtain ⟨q1, q2, q3⟩ := l0
  have NN : News g₁ L₁ h3 ((ll, listOf #[.str (txt x) tx] 0) :: (ld, lexDict w ln tl t1 t2 t3 t4 fs (txt wl) tw pb) :: (it, ciObj q ts) :: (q, methodObj (.ref 239) (.ref lx)) :: rest) := by
    intro p hp
    refine N1 p ?_
    simp only [List.mem_cons] at hp ⊢
    rcases hp with h | h | h | h | h <;> simp only [h, true_or, or_true]
  clear F1 N1
  have i0 := l1 _ (List.Mem.head _)
  have q1' : @Ne Nat q ll := fun e => absurd q1 (by rw [e]; exact Nat.lt_irrefl _)
  have q2' : @Ne Nat q ld := fun e => absurd q2 (by rw [e]; exact Nat.lt_irrefl _)
  have i1' : @Ne Nat it ll := fun e => absurd (l1 _ (List.Mem.tail _ (List.Mem.head _))) (by rw [e]; exact Nat.lt_irrefl _)
  have i2' : @Ne Nat it ld := fun e => absurd (l1 _ (List.Mem.tail _ (List.Mem.tail _ (List.Mem.head _)))) (by rw [e]; exact Nat.lt_irrefl _)
  refine ci_iter (NN.get (by k_mem)) ⟨_, _, rfl, owit_ind (GJ w s g₁ L₁ it q ll ld lx fs pb t1 t2 t3 t4 tw ts wl rest (ln.natAbs + x.length) fun ta x1 => ta = [] ∧ GT wl x1 tkn x') ?step _ _ ⟨_, _, _, _, _, _, _, _, _, rfl, FF, NN, ⟨rfl, hgt⟩, Nat.le_refl _, (by rw [List.length_nil, Nat.zero_add]; exact hxl), rfl⟩⟩
  case step =>
    rintro k _ ⟨u, h, tk', x1, tx1, ln1, tl1, tt, _, rfl, F1, N1, ⟨rfl, G1⟩, hl1, _, rfl⟩
    obtain ⟨c, r, rfl⟩ := G1.cons
    have hl2 : r.length + 1 + ln1.natAbs ≤ 100000 := by rw [List.length_cons] at hl1; omega
    refine next_spec rfl (by k_asm) F1 X₁ N1 T₁ rfl (by ktr_room) (by ktr_units) hl2 o1 o2 o3 q1' q2' i1' i2' m1 m2 m3 m4 hread ?_
    intro tc tx2 ln2 tl2 h' kk hl3 F2 N2
    dsimp only [OwitTurn]
    walk_at "mine:step"
    k_fold
    walk_at "mine:go"
    · -- the quoted token
      rw [List.length_cons] at hl1
      have k1 := has_no (by assumption)
      obtain rfl := q_yes (by assumption)
      have G2 := G1.inv34 k1
      refine for_own ?_
      walk_at "mine:go"
      with_reducible rename Fr g₁ L₁ _ _ => F3
      with_reducible rename News g₁ L₁ _ _ => N3
      have FF := fr_kst [(Str.ofString "fiter", .ref it), (Str.ofString "token", .str (txt []) _), (Str.ofString "self", .ref lx)] F3 (all3 rfl rfl rfl)
      refine ci_iter (N3.get (by k_mem)) ⟨_, _, rfl, owit_ind (GJ w s g₁ L₁ it q ll ld lx fs pb t1 t2 t3 t4 tw ts wl rest (ln.natAbs + x.length) fun ta x1 => ∃ tb, InQ x1 tb x' ∧ tkn = ta ++ tb) ?stepq _ _ ⟨_, _, _, _, _, _, _, _, _, rfl, FF, N3, ⟨_, G2, rfl⟩, by omega, by (simp only [List.length_nil, List.length_cons]; omega), rfl⟩⟩
      case stepq =>
        clear G1 G2 hl1 hl2 hl3 hgt
        rintro k _ ⟨u, h, tk', x1, tx1, ln1, tl1, tt, ta, rfl, F1, N1, ⟨tb, GQ, rfl⟩, hl1, hl5, rfl⟩
        obtain ⟨c, r, rfl⟩ := GQ.cons
        rw [List.length_cons] at hl1 hl5
        have hl2 : r.length + 1 + ln1.natAbs ≤ 100000 := by omega
        refine next_spec rfl (by k_asm) F1 X₁ N1 T₁ rfl (by ktr_room) (by ktr_units) hl2 o1 o2 o3 q1' q2' i1' i2' m1 m2 m3 m4 hread ?_
        intro tc tx2 ln2 tl2 h' kk hl3 F2 N2
        dsimp only [OwitTurn]
        walk_at "mine:step"
        k_fold
        walk_at "mine:go"
        · -- the end of the token
          obtain rfl := q_yes (by assumption)
          obtain ⟨rfl, rfl⟩ := GQ.inv34
          rw [List.append_nil] at hret
          with_reducible rename News h₀ L _ _ => NE
          exact hret _ _ _ _ _ _ (by omega) (by k_asm) (news_drop2 NE)
        · -- behind a backslash
          obtain rfl := b_yes (by assumption)
          obtain ⟨d, r2, t2, rfl, rfl, GQ2⟩ := GQ.inv92
          rw [List.length_cons] at hl1 hl2 hl5
          with_reducible rename Fr g₁ L₁ _ _ => F3
          with_reducible rename News g₁ L₁ _ _ => N3
          refine wpAny_call (read_char_spec (by k_asm) F3 X₁ N3 T₁ rfl (by ktr_room) (by ktr_units) (by rw [List.length_cons]; omega) (by omega) o1 (two o2 i1' q1') (two o3 i2' q2') (.tail _ (.tail _ m1)) (.tail _ (.tail _ m2)) (.tail _ (.tail _ m3)) (.tail _ (.tail _ m4)) (hread.more [(it, ciObj q ts), (q, methodObj (.ref 239) (.ref lx))]) ?_)
          intro t4' tx4 ln4 tl4 h4 k4 hl4 F4 N4
          dsimp only [List.drop, List.take] at N4 ⊢
          walk_at "mine:go"
          with_reducible rename Fr g₁ L₁ _ _ => F5
          with_reducible rename News g₁ L₁ _ _ => N5
          exact ⟨r2.length, by (simp only [List.length_cons]; omega), _, _, _, _, _, _, _, _, _, rfl, fr_kst [(Str.ofString "fiter", .ref it), (Str.ofString "token", .str (txt (ta ++ [d])) _), (Str.ofString "self", .ref lx)] F5 (all3 rfl rfl rfl), N5, ⟨_, GQ2, (List.append_assoc ta [d] t2).symm⟩, by omega, by (simp only [List.length_append, List.length_cons, List.length_nil]; omega), rfl⟩
        · -- any other sign
          obtain ⟨t2, rfl, GQ2⟩ := GQ.invp (q_no (by assumption)) (b_no (by assumption))
          walk_at "mine:go"
          with_reducible rename Fr g₁ L₁ _ _ => F5
          with_reducible rename News g₁ L₁ _ _ => N5
          exact ⟨r.length, by (simp only [List.length_cons]; omega), _, _, _, _, _, _, _, _, _, rfl, fr_kst [(Str.ofString "fiter", .ref it), (Str.ofString "token", .str (txt (ta ++ [c])) _), (Str.ofString "self", .ref lx)] F5 (all3 rfl rfl rfl), N5, ⟨_, GQ2, (List.append_assoc ta [c] t2).symm⟩, by omega, by (simp only [List.length_append, List.length_cons, List.length_nil]; omega), rfl⟩
    · -- a word that starts with a backslash
      have k1 := has_no (by assumption)
      obtain rfl := b_yes (by assumption)
      obtain ⟨c0, r2, tb0, rfl, htk, G2⟩ := G1.inv92 k1
      simp only [List.length_cons] at hl1 hl2
      with_reducible rename Fr g₁ L₁ _ _ => F3
      with_reducible rename News g₁ L₁ _ _ => N3
      refine wpAny_call (read_char_spec (by k_asm) F3 X₁ N3 T₁ rfl (by ktr_room) (by ktr_units) (by rw [List.length_cons]; omega) (by omega) o1 (two o2 i1' q1') (two o3 i2' q2') (.tail _ (.tail _ m1)) (.tail _ (.tail _ m2)) (.tail _ (.tail _ m3)) (.tail _ (.tail _ m4)) (hread.more [(it, ciObj q ts), (q, methodObj (.ref 239) (.ref lx))]) ?_)
      intro t4' tx4 ln4 tl4 h4 k4 hl4 F4 N4
      dsimp only [List.drop, List.take] at N4 ⊢
      walk_at "mine:go"
      refine for_own ?_
      walk_at "mine:go"
      with_reducible rename Fr g₁ L₁ _ _ => F3
      with_reducible rename News g₁ L₁ _ _ => N3
      have FF := fr_kst [(Str.ofString "fiter", .ref it), (Str.ofString "token", .str (txt [c0]) _), (Str.ofString "self", .ref lx)] F3 (all3 rfl rfl rfl)
      refine ci_iter (N3.get (by k_mem)) ⟨_, _, rfl, owit_ind (GJ w s g₁ L₁ it q ll ld lx fs pb t1 t2 t3 t4 tw ts wl rest (ln.natAbs + x.length) fun ta x1 => ∃ tb, InW wl x1 tb x' ∧ tkn = ta ++ tb) ?stepv _ _ ⟨_, _, _, _, _, _, _, _, _, rfl, FF, N3, ⟨_, G2, htk⟩, by omega, by (simp only [List.length_nil, List.length_cons]; omega), rfl⟩⟩
      case stepv =>
        clear G1 G2 hl1 hl2 hl3 hgt htk
        rintro k _ ⟨u, h, tk', x1, tx1, ln1, tl1, tt, ta, rfl, F1, N1, ⟨tb, GQ, rfl⟩, hl1, hl5, rfl⟩
        obtain ⟨c, r, rfl⟩ := GQ.cons
        rw [List.length_cons] at hl1 hl5
        have hl2 : r.length + 1 + ln1.natAbs ≤ 100000 := by omega
        refine next_spec rfl (by k_asm) F1 X₁ N1 T₁ rfl (by ktr_room) (by ktr_units) hl2 o1 o2 o3 q1' q2' i1' i2' m1 m2 m3 m4 hread ?_
        intro tc tx2 ln2 tl2 h' kk hl3 F2 N2
        dsimp only [OwitTurn]
        walk_at "mine:step"
        k_fold
        walk_at "mine:go"
        · -- behind a backslash
          obtain rfl := b_yes (by assumption)
          obtain ⟨d, r2, t2, rfl, rfl, GQ2⟩ := GQ.inv92 (has_no (by assumption))
          rw [List.length_cons] at hl1 hl2 hl5
          with_reducible rename Fr g₁ L₁ _ _ => F3
          with_reducible rename News g₁ L₁ _ _ => N3
          refine wpAny_call (read_char_spec (by k_asm) F3 X₁ N3 T₁ rfl (by ktr_room) (by ktr_units) (by rw [List.length_cons]; omega) (by omega) o1 (two o2 i1' q1') (two o3 i2' q2') (.tail _ (.tail _ m1)) (.tail _ (.tail _ m2)) (.tail _ (.tail _ m3)) (.tail _ (.tail _ m4)) (hread.more [(it, ciObj q ts), (q, methodObj (.ref 239) (.ref lx))]) ?_)
          intro t4' tx4 ln4 tl4 h4 k4 hl4 F4 N4
          dsimp only [List.drop, List.take] at N4 ⊢
          walk_at "mine:go"
          with_reducible rename Fr g₁ L₁ _ _ => F5
          with_reducible rename News g₁ L₁ _ _ => N5
          exact ⟨r2.length, by (simp only [List.length_cons]; omega), _, _, _, _, _, _, _, _, _, rfl, fr_kst [(Str.ofString "fiter", .ref it), (Str.ofString "token", .str (txt (ta ++ [d])) _), (Str.ofString "self", .ref lx)] F5 (all3 rfl rfl rfl), N5, ⟨_, GQ2, (List.append_assoc ta [d] t2).symm⟩, by omega, by (simp only [List.length_append, List.length_cons, List.length_nil]; omega), rfl⟩
        · -- any other sign
          obtain ⟨t2, rfl, GQ2⟩ := GQ.invp (has_no (by assumption)) (b_no (by assumption))
          walk_at "mine:go"
          with_reducible rename Fr g₁ L₁ _ _ => F5
          with_reducible rename News g₁ L₁ _ _ => N5
          exact ⟨r.length, by (simp only [List.length_cons]; omega), _, _, _, _, _, _, _, _, _, rfl, fr_kst [(Str.ofString "fiter", .ref it), (Str.ofString "token", .str (txt (ta ++ [c])) _), (Str.ofString "self", .ref lx)] F5 (all3 rfl rfl rfl), N5, ⟨_, GQ2, (List.append_assoc ta [c] t2).symm⟩, by omega, by (simp only [List.length_append, List.length_cons, List.length_nil]; omega), rfl⟩
        · -- the end of the token
          obtain ⟨rfl, rfl⟩ := GQ.invs (has_yes (by assumption))
          rw [List.append_nil] at hret
          with_reducible rename News h₀ L _ _ => NE
          exact hret _ _ _ _ _ _ (by omega) (by k_asm) (news_drop2 NE)
    · -- a word that starts with another sign
      rw [List.length_cons] at hl1
      have k1 := has_no (by assumption)
      obtain ⟨tb0, htk, G2⟩ := G1.invw k1 (q_no (by assumption)) (b_no (by assumption))
      obtain ⟨c0, hc0⟩ : ∃ c0, c0 = c := ⟨c, rfl⟩
      subst hc0
      refine for_own ?_
      walk_at "mine:go"
      with_reducible rename Fr g₁ L₁ _ _ => F3
      with_reducible rename News g₁ L₁ _ _ => N3
      have FF := fr_kst [(Str.ofString "fiter", .ref it), (Str.ofString "token", .str (txt [c0]) _), (Str.ofString "self", .ref lx)] F3 (all3 rfl rfl rfl)
      refine ci_iter (N3.get (by k_mem)) ⟨_, _, rfl, owit_ind (GJ w s g₁ L₁ it q ll ld lx fs pb t1 t2 t3 t4 tw ts wl rest (ln.natAbs + x.length) fun ta x1 => ∃ tb, InW wl x1 tb x' ∧ tkn = ta ++ tb) ?stepw _ _ ⟨_, _, _, _, _, _, _, _, _, rfl, FF, N3, ⟨_, G2, htk⟩, by omega, by (simp only [List.length_nil, List.length_cons]; omega), rfl⟩⟩
      case stepw =>
        clear G1 G2 hl1 hl2 hl3 hgt htk
        rintro k _ ⟨u, h, tk', x1, tx1, ln1, tl1, tt, ta, rfl, F1, N1, ⟨tb, GQ, rfl⟩, hl1, hl5, rfl⟩
        obtain ⟨c, r, rfl⟩ := GQ.cons
        rw [List.length_cons] at hl1 hl5
        have hl2 : r.length + 1 + ln1.natAbs ≤ 100000 := by omega
        refine next_spec rfl (by k_asm) F1 X₁ N1 T₁ rfl (by ktr_room) (by ktr_units) hl2 o1 o2 o3 q1' q2' i1' i2' m1 m2 m3 m4 hread ?_
        intro tc tx2 ln2 tl2 h' kk hl3 F2 N2
        dsimp only [OwitTurn]
        walk_at "mine:step"
        k_fold
        walk_at "mine:go"
        · -- behind a backslash
          obtain rfl := b_yes (by assumption)
          obtain ⟨d, r2, t2, rfl, rfl, GQ2⟩ := GQ.inv92 (has_no (by assumption))
          rw [List.length_cons] at hl1 hl2 hl5
          with_reducible rename Fr g₁ L₁ _ _ => F3
          with_reducible rename News g₁ L₁ _ _ => N3
          refine wpAny_call (read_char_spec (by k_asm) F3 X₁ N3 T₁ rfl (by ktr_room) (by ktr_units) (by rw [List.length_cons]; omega) (by omega) o1 (two o2 i1' q1') (two o3 i2' q2') (.tail _ (.tail _ m1)) (.tail _ (.tail _ m2)) (.tail _ (.tail _ m3)) (.tail _ (.tail _ m4)) (hread.more [(it, ciObj q ts), (q, methodObj (.ref 239) (.ref lx))]) ?_)
          intro t4' tx4 ln4 tl4 h4 k4 hl4 F4 N4
          dsimp only [List.drop, List.take] at N4 ⊢
          walk_at "mine:go"
          with_reducible rename Fr g₁ L₁ _ _ => F5
          with_reducible rename News g₁ L₁ _ _ => N5
          exact ⟨r2.length, by (simp only [List.length_cons]; omega), _, _, _, _, _, _, _, _, _, rfl, fr_kst [(Str.ofString "fiter", .ref it), (Str.ofString "token", .str (txt (ta ++ [d])) _), (Str.ofString "self", .ref lx)] F5 (all3 rfl rfl rfl), N5, ⟨_, GQ2, (List.append_assoc ta [d] t2).symm⟩, by omega, by (simp only [List.length_append, List.length_cons, List.length_nil]; omega), rfl⟩
        · -- any other sign
          obtain ⟨t2, rfl, GQ2⟩ := GQ.invp (has_no (by assumption)) (b_no (by assumption))
          walk_at "mine:go"
          with_reducible rename Fr g₁ L₁ _ _ => F5
          with_reducible rename News g₁ L₁ _ _ => N5
          exact ⟨r.length, by (simp only [List.length_cons]; omega), _, _, _, _, _, _, _, _, _, rfl, fr_kst [(Str.ofString "fiter", .ref it), (Str.ofString "token", .str (txt (ta ++ [c])) _), (Str.ofString "self", .ref lx)] F5 (all3 rfl rfl rfl), N5, ⟨_, GQ2, (List.append_assoc ta [c] t2).symm⟩, by omega, by (simp only [List.length_append, List.length_cons, List.length_nil]; omega), rfl⟩
        · -- the end of the token
          obtain ⟨rfl, rfl⟩ := GQ.invs (has_yes (by assumption))
          rw [List.append_nil] at hret
          with_reducible rename News h₀ L _ _ => NE
          exact hret _ _ _ _ _ _ (by omega) (by k_asm) (news_drop2 NE)
    · -- a blank
      rw [List.length_cons] at hl1
      with_reducible rename Fr g₁ L₁ _ _ => F5
      with_reducible rename News g₁ L₁ _ _ => N5
      exact ⟨r.length, by (simp only [List.length_cons]; omega), _, _, _, _, _, _, _, _, _, rfl, fr_kst [(Str.ofString "fiter", .ref it), (Str.ofString "token", .str (txt []) _), (Str.ofString "self", .ref lx)] F5 (all3 rfl rfl rfl), N5, ⟨rfl, G1.invs (has_yes (by assumption))⟩, by omega, (by rw [List.length_nil]; omega), rfl⟩
end Mine
end
theorem Mine.fresh5 : True := by
  w_top off
  k_with_none
  first | (walk1; fail) | trivial
section
open PySem PySem.W PyProof.Rows PySem.Calls
set_option maxRecDepth 100000
namespace Mine
theorem slice_to1 (xl : List Nat) : Txt.slice (txt xl) none (some 1) = txt (xl.take 1) := by
  cases xl with
  | nil => exact (by decide +kernel : Txt.slice (txt []) none (some 1) = txt [])
  | cons c r =>
    have := beq_iff_eq.mp (slice_closes_to (x := txt (c :: r)) (j := 1) ⟨by decide, by show (1 : Int) ≤ ((c :: r).length : Int); rw [List.length_cons]; omega⟩)
    rw [this]
    show Str.mk _ = Str.mk _
    simp
theorem slice_from1 (xl : List Nat) : Txt.slice (txt xl) (some 1) none = txt (xl.drop 1) := by
  cases xl with
  | nil => exact (by decide +kernel : Txt.slice (txt []) (some 1) none = txt [])
  | cons c r =>
    have := beq_iff_eq.mp (slice_closes_from (x := txt (c :: r)) (i := 1) ⟨by decide, by show (1 : Int) ≤ ((c :: r).length : Int); rw [List.length_cons]; omega⟩)
    rw [this]
    show Str.mk _ = Str.mk _
    simp
inductive GTs (ws : List Nat) : List Nat → List (List Nat) → List Nat → Prop
  | nil (x) : GTs ws x [] x
  | cons {x t y ts z} : GT ws x t y → GTs ws y ts z → GTs ws x (t :: ts) z
theorem rest_ind {prog : Program} {w : World} {A : Around} {h₀ : Heap} {L : Addr} {m : Str → Option Value} {env : Env} {elt : Expr} {x : Str} {scope : Scope} {cl : List (Str × Addr)} {s : Shared} {S : List (Addr × Obj) → Prop} {P : Nat → Value → Prop}
    {Fin : List Value → List (Addr × Obj) → Prop} (J : Nat → Nat → List Value → List (Addr × Obj) → Prop) (fin : ∀ i ys news, J 0 i ys news → Fin ys news)
    (step : ∀ k i ys news, J (k + 1) i ys news → ∀ v I oI C oC D m₂ h tk (E' : Value → Shared → Prop), P i v → LCg.NsObj oC m₂ → m₂ x = some v → Fr h₀ L h m → News h₀ L h ((I, oI) :: (C, oC) :: (D, LCg.lst ys) :: news) → LCg.Off3 I C D news → ((@Ne Nat I C) ∧ (@Ne Nat I D) ∧ (@Ne Nat C D)) →
      wpAny (model prog w) A (eval elt (compEnvC scope cl C env)) (LCg.CompEnd h₀ L m { s with heap := h, toks := tk } I oI C oC D (LCg.lst ys) S (fun y news' => J k (i + 1) (ys ++ [y]) news')) E' { s with heap := h, toks := tk }) :
    ∀ k i ys news, J k i ys news → LCg.CompRest prog w A h₀ L m env elt x scope cl s S P Fin k i ys news := by
  intro k
  induction k with
  | zero => intro i ys news h; exact fin i ys news h
  | succ k ih =>
    intro i ys news hJ
    refine LCg.CompRest.succ ?_
    intro v I oI C oC D m₂ h tk E' a1 a2 a3 a4 a5 a6 a7
    refine wpAny_mono (step k i ys news hJ v I oI C oC D m₂ h tk E' a1 a2 a3 a4 a5 a6 a7) (fun y s₂ h₂ => ?_) fun _ _ z => z
    obtain ⟨h', tk', news', e, F', N', O', S', r'⟩ := h₂
    exact ⟨h', tk', news', e, F', N', O', S', ih _ _ _ r'⟩
theorem rs_use {prog : Program} {w : World} {K : Frag} {p : Program} {loose : List Str} {mean : ExcName → Option Value} {mg mb : Str → Option Value} {ll fr : Addr} {rest : List (Addr × Obj)} {h₀ h : Heap} {L : Addr} {a b : Addr × Obj} {P : Prop}
    (_N : News h₀ L h (a :: b :: rest)) (r : ReadSpec prog w K p loose mean mg mb ll fr rest) (k : ∀ rest', rest' = rest → News h₀ L h (a :: b :: rest') → ReadSpec prog w K p loose mean mg mb ll fr rest' → P) : P := k rest rfl _N r
section
variable {h₀ h : Heap} {L : Addr} {x a0 a1 a2 a3 a4 a5 a6 a7 a8 a9 : Addr × Obj} {pre r : List (Addr × Obj)}
theorem pm5 (_N : News h₀ L h (x :: (pre ++ a0 :: a1 :: a2 :: a3 :: a4 :: a5 :: r))) : a5 ∈ (x :: (pre ++ a0 :: a1 :: a2 :: a3 :: a4 :: a5 :: r)) := List.Mem.tail _ (List.mem_append_right pre (.tail _ (.tail _ (.tail _ (.tail _ (.tail _ (.head _)))))))
theorem pm6 (_N : News h₀ L h (x :: (pre ++ a0 :: a1 :: a2 :: a3 :: a4 :: a5 :: a6 :: r))) : a6 ∈ (x :: (pre ++ a0 :: a1 :: a2 :: a3 :: a4 :: a5 :: a6 :: r)) := List.Mem.tail _ (List.mem_append_right pre (.tail _ (.tail _ (.tail _ (.tail _ (.tail _ (.tail _ (.head _))))))))
theorem pm7 (_N : News h₀ L h (x :: (pre ++ a0 :: a1 :: a2 :: a3 :: a4 :: a5 :: a6 :: a7 :: r))) : a7 ∈ (x :: (pre ++ a0 :: a1 :: a2 :: a3 :: a4 :: a5 :: a6 :: a7 :: r)) := List.Mem.tail _ (List.mem_append_right pre (.tail _ (.tail _ (.tail _ (.tail _ (.tail _ (.tail _ (.tail _ (.head _)))))))))
theorem pm8 (_N : News h₀ L h (x :: (pre ++ a0 :: a1 :: a2 :: a3 :: a4 :: a5 :: a6 :: a7 :: a8 :: r))) : a8 ∈ (x :: (pre ++ a0 :: a1 :: a2 :: a3 :: a4 :: a5 :: a6 :: a7 :: a8 :: r)) := List.Mem.tail _ (List.mem_append_right pre (.tail _ (.tail _ (.tail _ (.tail _ (.tail _ (.tail _ (.tail _ (.tail _ (.head _))))))))))
end
theorem ne_all {d x : Nat} : ∀ {l : List (Addr × Obj)}, AllLt d l → @LE.le Nat _ d x → ∀ q ∈ l, q.1 ≠ x
  | [], _, _, _, h => nomatch h
  | p :: r, a, e, q, h => by
    rcases List.mem_cons.mp h with rfl | h
    · exact Nat.ne_of_lt (Nat.lt_of_lt_of_le a.1 e)
    · exact ne_all a.2 e q h
theorem three {rest : List (Addr × Obj)} {a b c : Addr × Obj} {x : Addr} (h : ∀ q ∈ rest, q.1 ≠ x) (ha : @Ne Nat a.1 x) (hb : @Ne Nat b.1 x) (hc : @Ne Nat c.1 x) : ∀ q ∈ a :: b :: c :: rest, q.1 ≠ x := by
  intro q hq
  rcases List.mem_cons.mp hq with rfl | hq
  · exact ha
  rcases List.mem_cons.mp hq with rfl | hq
  · exact hb
  rcases List.mem_cons.mp hq with rfl | hq
  · exact hc
  exact h q hq
noncomputable abbrev tabFull (c1 c2 : Addr) : Obj := tabObj (#[] ++ #[rawInt ↑177, rawInt ↑4, Value.ref c1] ++ #[rawInt ↑181, rawInt ↑13, Value.ref c2])
/-- a code object of a given qualified name -/
noncomputable def CodeOb (o : Obj) (q : Str) : Prop := ∃ vs t, o.data = .fields vs ∧ vs[1]? = some (.str q t)
end Mine
end
theorem Mine.fresh6 : True := by
  w_top off
  k_with_none
  first | (walk1; fail) | trivial
section
open PySem PySem.W PyProof.Rows PySem.Calls
set_option maxRecDepth 100000
namespace Mine
noncomputable def AllP {α : Type} (P : α → Prop) : List α → Prop
  | [] => True
  | a :: r => P a ∧ AllP P r
theorem AllP.all {α : Type} {P : α → Prop} : ∀ {l : List α}, AllP P l → ∀ p ∈ l, P p
  | a :: r, h, p, hp => by
    rcases List.mem_cons.mp hp with rfl | hp
    · exact h.1
    · exact AllP.all h.2 p hp
theorem items_ind {prog : Program} {w : World} {A : Around} {E : Value → Shared → Prop} {s : Shared} {env : Env} {h₀ : Heap} {target : Expr} {body : List Stmt} {Q : Flow → Shared → Prop} {I : Addr} {keep : List (Addr × Obj)} (J : List Value → (Str → Option Value) → List (Addr × Obj) → Prop)
    (fin : ∀ m news, J [] m news → ∀ h tk, Fr h₀ env.locals h m → News h₀ env.locals h news → Q .next { s with heap := h, toks := tk })
    (step : ∀ v r m news, J (v :: r) m news → ∀ h tk o, o.cls = .type "list_iterator" → Fr h₀ env.locals h m → News h₀ env.locals h ((I, o) :: news) →
      wpAny (model prog w) A (assign target env v) (fun _ s₂ => wpAny (model prog w) A (execs body env) (UnrPostW h₀ env.locals { s with heap := h, toks := tk } [(I, o)] (fun m' n' => SubL keep n' ∧ J r m' n') Q) E s₂) E { s with heap := h, toks := tk }) :
    ∀ vs m news, J vs m news → ItemsRest prog w A E h₀ env target body Q s [(I, "list_iterator")] keep (vs.map .val) m news := by
  intro vs
  induction vs with
  | nil => intro m news hJ; exact ItemsRest.zero (fin m news hJ)
  | cons v r ih =>
    intro m news hJ
    refine ItemsRest.val fun h tk F => AllObj.cons fun o ho => AllObj.nil fun N => ?_
    refine wpAny_mono (step v r m news hJ h tk o ho F N) (fun _ s₂ h₂ => wpAny_mono h₂ (fun f s₃ h₃ => ?_) fun _ _ z => z) fun _ _ z => z
    have key : UnrEndW h₀ env.locals { s with heap := h, toks := tk } [(I, o)] (fun m' n' => SubL keep n' ∧ J r m' n') s₃ → UnrEndW h₀ env.locals { s with heap := h, toks := tk } [(I, o)] (fun m' n' => SubL keep n' ∧ ItemsRest prog w A E h₀ env target body Q s [(I, "list_iterator")] keep (r.map .val) m' n') s₃ := by
      rintro ⟨h', tk', m', n', a1, a2, a3, a4, a5, a6⟩
      exact ⟨h', tk', m', n', a1, a2, a3, a4, a5, ih _ _ a6⟩
    cases f with
    | next => exact key h₃
    | cont => exact key h₃
    | brk => exact h₃
    | ret _ => exact h₃
theorem offW_ne {i : Addr} {o : Obj} : ∀ {l : List (Addr × Obj)}, (∀ q ∈ l, @Ne Nat q.1 i) → OffW [(i, o)] l
  | [], _ => trivial
  | q :: _, h => ⟨⟨.inl (h q List.mem_cons_self), trivial⟩, offW_ne fun q hq => h q (List.mem_cons_of_mem _ hq)⟩
theorem subL_of {k : List (Addr × Obj)} : ∀ {l : List (Addr × Obj)}, (∀ q ∈ l, q ∈ k) → SubL l k
  | [], _ => trivial
  | _ :: _, h => ⟨h _ List.mem_cons_self, subL_of fun q hq => h q (List.mem_cons_of_mem _ hq)⟩
theorem unr_loop {h₀ h' : Heap} {L : Addr} {s₁ : Shared} {tk : Nat} {m' : Str → Option Value} {i : Addr} {o : Obj} {nw : List (Addr × Obj)} {keep : List (Addr × Obj)} {J : (Str → Option Value) → List (Addr × Obj) → Prop} (F : Fr h₀ L h' m') (N : News h₀ L h' ((i, o) :: nw)) (j : J m' nw)
    (off : ∀ q ∈ nw, @Ne Nat q.1 i) (kp : SubL keep nw) : UnrEndW h₀ L s₁ [(i, o)] (fun m' n' => SubL keep n' ∧ J m' n') { s₁ with heap := h', toks := tk } :=
  UnrEndW.intro F N nw (subL_of fun p hp => by rcases List.mem_cons.mp hp with rfl | hp; exact .head _; cases hp) (subL_of fun p hp => .tail _ hp) (offW_ne off) ⟨kp, j⟩
theorem news_sw {h₀ h : Heap} {L : Addr} {a b : Addr × Obj} {rest : List (Addr × Obj)} (N : News h₀ L h (a :: b :: rest)) : News h₀ L h (b :: a :: rest) := by
  intro p hp
  refine N p ?_
  simp only [List.mem_cons] at hp ⊢
  rcases hp with h | h | h <;> simp only [h, true_or, or_true]
theorem news_rot {h₀ h : Heap} {L : Addr} {a b c : Addr × Obj} {rest : List (Addr × Obj)} (N : News h₀ L h (a :: b :: c :: rest)) : News h₀ L h (c :: a :: b :: rest) := by
  intro p hp
  refine N p ?_
  simp only [List.mem_cons] at hp ⊢
  rcases hp with h | h | h | h <;> simp only [h, true_or, or_true]
theorem news_lt {h₀ h : Heap} {L : Addr} {news : List (Addr × Obj)} {a : Addr} {o : Obj} (N : News h₀ L h news) (hm : (a, o) ∈ news) : @LT.lt Nat _ a h.objs.size := by
  exact Heap.lt_size (N.get hm)
theorem news_pick {h₀ h : Heap} {L : Addr} {led led' : List (Addr × Obj)} (N : News h₀ L h led) (hn : AllP (fun p => List.Mem p led) led') : News h₀ L h led' := fun p hp => N p (hn.all p hp)
theorem restT_ind {prog : Program} {w : World} {A : Around} {h₀ : Heap} {L : Addr} {m : Str → Option Value} {env : Env} {ct elt : Expr} {x : Str} {scope : Scope} {cl : List (Str × Addr)} {s : Shared} {S : List (Addr × Obj) → Prop} {P : Nat → Value → Prop}
    {Fin : List Value → List (Addr × Obj) → Prop} (J : Nat → Nat → List Value → List (Addr × Obj) → Prop) (fin : ∀ i ys news, J 0 i ys news → Fin ys news)
    (step : ∀ k i ys news, J (k + 1) i ys news → ∀ v I oI C oC D m₂ h tk (E' : Value → Shared → Prop), P i v → LCg.NsObj oC m₂ → m₂ x = some v → Fr h₀ L h m → News h₀ L h ((I, oI) :: (C, oC) :: (D, LCg.lst ys) :: news) → LCg.Off3 I C D news → ((@Ne Nat I C) ∧ (@Ne Nat I D) ∧ (@Ne Nat C D)) →
      wpAny (model prog w) A (isTrue ct (compEnvC scope cl C env) (eval ct (compEnvC scope cl C env))) (fun ok s' => if ok = true then
        wpAny (model prog w) A (eval elt (compEnvC scope cl C env)) (LCg.CompEnd h₀ L m { s with heap := h, toks := tk } I oI C oC D (LCg.lst ys) S (fun y news' => J k (i + 1) (ys ++ [y]) news')) E' s'
        else LCg.CompEnd h₀ L m { s with heap := h, toks := tk } I oI C oC D (LCg.lst ys) S (fun _ news' => J k (i + 1) ys news') Value.none s') E' { s with heap := h, toks := tk }) :
    ∀ k i ys news, J k i ys news → LCt.CompRestT prog w A h₀ L m env ct elt x scope cl s S P Fin k i ys news := by
  intro k
  induction k with
  | zero => intro i ys news h; exact fin i ys news h
  | succ k ih =>
    intro i ys news hJ
    refine LCt.CompRestT.succ ?_
    intro v I oI C oC D m₂ h tk E' a1 a2 a3 a4 a5 a6 a7
    refine wpAny_mono (step k i ys news hJ v I oI C oC D m₂ h tk E' a1 a2 a3 a4 a5 a6 a7) (fun ok s₂ h₂ => ?_) fun _ _ z => z
    cases ok with
    | true =>
      simp only [if_true] at h₂ ⊢
      refine wpAny_mono h₂ (fun y s₃ h₃ => ?_) fun _ _ z => z
      obtain ⟨h', tk', news', e, F', N', O', S', r'⟩ := h₃
      exact ⟨h', tk', news', e, F', N', O', S', ih _ _ _ r'⟩
    | false =>
      simp only [Bool.false_eq_true, if_false] at h₂ ⊢
      obtain ⟨h', tk', news', e, F', N', O', S', r'⟩ := h₂
      exact ⟨h', tk', news', e, F', N', O', S', ih _ _ _ r'⟩
end Mine
end
theorem Mine.fresh7 : True := by
  w_top off
  k_with_none
  first | (walk1; fail) | trivial
section
open PySem PySem.W PyProof.Rows PySem.Calls
set_option maxRecDepth 100000
namespace Mine
section
variable {prog : Program} {w : World} {A : Around} {E : Value → Shared → Prop} {s : Shared} {env : Env} {h₀ : Heap} {body : List Stmt} {Q : Flow → Shared → Prop} {v : Str} {px : Pos}
theorem iter_rangeT {r : Addr} {a₀ b₀ : Int} {t₀ u₀ v₀ : Tok} {n : Nat} {m₀ : Str → Option Value} {news : List (Addr × Obj)}
    (hh : A.handled = none) (hr : IsRange s.heap r a₀ b₀ 1 t₀ u₀ v₀) (hsmall : Builtin.Range.small a₀ b₀ 1 = true) (hn : Builtin.Range.rangeSize a₀ b₀ 1 = (n : Int)) (F : Fr h₀ env.locals s.heap m₀) (N : News h₀ env.locals s.heap news)
    (rest₀ : ∀ I : Addr, (∀ p ∈ news, p.1 < I) → ItemsRest prog w A E h₀ env (.Name v px) body Q s [(I, "range_iterator")] [] ((List.range n).map fun i : Nat => Itm.tok fun t => .int (a₀ + (i : Int)) t) m₀ news) :
    wpAny (model prog w) A (pyIter (.ref r)) (fun it s₂ => TurnsAt prog w A h₀ env (.Name v px) body Q E it s₂) E s := by
  refine wpAny_pyIter_range hr hsmall ?_
  refine ktu_core (tk0 := s.toks) (keep := []) (KTurns.ofWalks (LCg.range_walks (I := s.heap.objs.size) hh a₀ n).bound fun i v s Q E st q => wpAny_pure q) (by simp) (fun i v h hp => ?_) (fun i h st => ?_) (fun b hb => ?_) (fun b hb => by simpa using hb) (fun b hb => ?_) ?_ (fun p hp hI => ?_) ?_ (F.push _) (fun p hp => ⟨Heap.get?_push_of_some _ (N p hp).1, (N p hp).2⟩) trivial (rest₀ _ fun p hp => Heap.lt_size (N p hp).1)
  · obtain ⟨hi, t, rfl⟩ := hp
    exact ⟨Itm.tok fun t => .int (a₀ + (i : Int)) t, by rw [List.getElem?_map, List.getElem?_range hi]; rfl, ⟨t, rfl⟩⟩
  · exact ⟨[(s.heap.objs.size, _)], ⟨⟨rfl, rfl⟩, trivial⟩, fun p hp => by rw [List.mem_singleton.mp hp]; exact st⟩
  · have hb' : b = s.heap.objs.size := by simpa using hb
    rw [hb']
    exact ⟨List.mem_cons_self .., next_is_new F⟩
  · have hb' : b = s.heap.objs.size := by simpa using hb
    exact .inl (by simp [hb'])
  · intro hI
    exact absurd F.ns.lt ((List.mem_singleton.mp hI) ▸ Nat.lt_irrefl _)
  · exact absurd (Heap.lt_size (N p hp).1) ((List.mem_singleton.mp hI) ▸ Nat.lt_irrefl _)
  · show IsRangeIter _ _ _ _ _
    rw [hn]
    simpa using Heap.get?_push_size _ rfl
theorem toks_ind {α : Type} (f : α → Tok → Value) {I : Addr} {T : String} {keep : List (Addr × Obj)} (J : List α → (Str → Option Value) → List (Addr × Obj) → Prop)
    (fin : ∀ m news, J [] m news → ∀ h tk, Fr h₀ env.locals h m → News h₀ env.locals h news → Q .next { s with heap := h, toks := tk })
    (step : ∀ a r m news, J (a :: r) m news → ∀ t h tk o, o.cls = .type T → Fr h₀ env.locals h m → News h₀ env.locals h ((I, o) :: news) →
      wpAny (model prog w) A (assign (.Name v px) env (f a t)) (fun _ s₂ => wpAny (model prog w) A (execs body env) (UnrPostW h₀ env.locals { s with heap := h, toks := tk } [(I, o)] (fun m' n' => SubL keep n' ∧ J r m' n') Q) E s₂) E { s with heap := h, toks := tk }) :
    ∀ l m news, J l m news → ItemsRest prog w A E h₀ env (.Name v px) body Q s [(I, T)] keep (l.map fun a => Itm.tok (f a)) m news := by
  intro l
  induction l with
  | nil => intro m news hJ; exact ItemsRest.zero (fin m news hJ)
  | cons a r ih =>
    intro m news hJ
    refine ItemsRest.tok fun t h tk F => AllObj.cons fun o ho => AllObj.nil fun N => ?_
    refine wpAny_mono (step a r m news hJ t h tk o ho F N) (fun _ s₂ h₂ => wpAny_mono h₂ (fun fl s₃ h₃ => ?_) fun _ _ z => z) fun _ _ z => z
    have key : UnrEndW h₀ env.locals { s with heap := h, toks := tk } [(I, o)] (fun m' n' => SubL keep n' ∧ J r m' n') s₃ → UnrEndW h₀ env.locals { s with heap := h, toks := tk } [(I, o)] (fun m' n' => SubL keep n' ∧ ItemsRest prog w A E h₀ env (.Name v px) body Q s [(I, T)] keep (r.map fun a => Itm.tok (f a)) m' n') s₃ := by
      rintro ⟨h', tk', m', n', a1, a2, a3, a4, a5, a6⟩
      exact ⟨h', tk', m', n', a1, a2, a3, a4, a5, ih _ _ a6⟩
    cases fl with
    | next => exact key h₃
    | cont => exact key h₃
    | brk => exact h₃
    | ret _ => exact h₃
end
end Mine
end
theorem Mine.fresh8 : True := by
  w_top off
  k_with_none
  first | (walk1; fail) | trivial
section
open PySem PySem.W PyProof.Rows PySem.Calls
set_option maxRecDepth 100000
namespace Mine
/-- the end of a turn, with a token at hand -/
noncomputable def PostK (h₀ : Heap) (L : Addr) (s : Shared) (I : Addr) (o : Obj) (J : (Str → Option Value) → List (Addr × Obj) → Prop) (Q : Flow → Shared → Prop) (f : Flow) (s₃ : Shared) : Prop := match f with
  | .next | .cont => ∃ h' tk' m' nw', s₃ = { s with heap := h', toks := tk' } ∧ 1 ≤ tk' ∧ Fr h₀ L h' m' ∧ News h₀ L h' ((I, o) :: nw') ∧ J m' nw'
  | .brk => Q .next s₃
  | .ret v => Q (.ret v) s₃
section
variable {prog : Program} {w : World} {A : Around} {E : Value → Shared → Prop} {s : Shared} {env : Env} {h₀ : Heap} {L : Addr} {body : List Stmt} {Q : Flow → Shared → Prop} {v0 : Str}
theorem fr_but {h h' : Heap} {m : Str → Option Value} {I : Addr} (F : Fr h₀ L h m) (hIL : L ≠ I) (hI0 : h₀.get? I = none) (hk : ∀ b o, b ∉ [I] → h.get? b = some o → h'.get? b = some o) : Fr h₀ L h' m :=
  ⟨F.ns.extBut (fun b o hb e => hk b o (by simpa using hb) e) hIL, fun b o e => hk b o (by intro hb; rw [List.mem_singleton.mp hb, hI0] at e; cases e) (F.keep b o e), F.above⟩
theorem loopK {I : Addr} {fp : List Addr} {n : Nat} {P : Nat → Value → Nat → Prop} {St : Nat → Heap → Prop}
    (frame : ∀ i h h', St i h → (∀ b ∈ fp, ∀ o, h.get? b = some o → h'.get? b = some o) → St i h')
    (item : ∀ i (s : Shared) (Q : Option Value → Shared → Prop) (E : Value → Shared → Prop), i < n → St i s.heap → 1 ≤ s.toks →
      (∀ v h' tk, P i v tk → 1 ≤ tk → St (i + 1) h' → (∀ b o, b ∉ [I] → s.heap.get? b = some o → h'.get? b = some o) → Q (some v) { s with heap := h', toks := tk }) → wpAny (model prog w) A (pyNext (.ref I)) Q E s)
    (done : ∀ (s : Shared) (Q : Option Value → Shared → Prop) (E : Value → Shared → Prop), St n s.heap →
      (∀ h' tk, (∀ b o, b ∉ [I] → s.heap.get? b = some o → h'.get? b = some o) → Q none { s with heap := h', toks := tk }) → wpAny (model prog w) A (pyNext (.ref I)) Q E s)
    (hIL : L ≠ I) (hI0 : h₀.get? I = none)
    (J : Nat → (Str → Option Value) → List (Addr × Obj) → Prop) (obj : ∀ i h, St i h → ∃ o, h.get? I = some o) (fpk : ∀ b ∈ fp, b = I ∨ ∃ lo, ∀ i m nw, J i m nw → (b, lo) ∈ nw)
    (off : ∀ i m nw, J i m nw → ∀ q ∈ nw, q.1 ≠ I)
    (fin : ∀ m nw, J n m nw → ∀ h tk, 1 ≤ tk → Fr h₀ L h m → News h₀ L h nw → Q .next { s with heap := h, toks := tk })
    (step : ∀ i m nw v o, i < n → J i m nw → ∀ h tk, P i v tk → 1 ≤ tk → Fr h₀ L h m → News h₀ L h ((I, o) :: nw) → wpAny (model prog w) A (storeName env v0 v) (fun _ s₂ => wpAny (model prog w) A (execs body env) (PostK h₀ L s I o (J (i + 1)) Q) E s₂) E { s with heap := h, toks := tk }) :
    ∀ h tk m nw, 1 ≤ tk → Fr h₀ L h m → News h₀ L h nw → St 0 h → J 0 m nw → OwitRest prog w A E env v0 body Q I (n + 1) { s with heap := h, toks := tk } := by
  intro h tk m nw hk F N hst hJ
  refine owit_ind (fun k s' => ∃ i h tk m nw, s' = { s with heap := h, toks := tk } ∧ 1 ≤ tk ∧ Fr h₀ L h m ∧ News h₀ L h nw ∧ St i h ∧ J i m nw ∧ i ≤ n ∧ k = n - i) ?_ n _ ⟨0, h, tk, m, nw, rfl, hk, F, N, hst, hJ, Nat.zero_le _, rfl⟩
  rintro k _ ⟨i, h, tk, m, nw, rfl, hk, F, N, hst, hJ, hi, rfl⟩
  by_cases hin : i < n
  · refine item i _ _ _ hin hst hk fun v h' tk' hP hk' hst' hkeep => ?_
    obtain ⟨o, ho⟩ := obj _ _ hst'
    have F' := fr_but F hIL hI0 hkeep
    have N' : News h₀ L h' ((I, o) :: nw) := fun p hp => by
      rcases List.mem_cons.mp hp with rfl | hp
      · exact ⟨ho, Ne.symm hIL, hI0⟩
      · exact ⟨hkeep _ _ (by simpa using off _ _ _ hJ p hp) (N p hp).1, (N p hp).2⟩
    show wpAny _ _ _ _ _ _
    refine wpAny_mono (step i m nw v o hin hJ h' tk' hP hk' F' N') (fun _ s₂ h₂ => wpAny_mono h₂ (fun f s₃ h₃ => ?_) fun _ _ z => z) fun _ _ z => z
    have key : (∃ h' tk' m' nw', s₃ = { s with heap := h', toks := tk' } ∧ 1 ≤ tk' ∧ Fr h₀ L h' m' ∧ News h₀ L h' ((I, o) :: nw') ∧ J (i + 1) m' nw') → Back (fun k s' => ∃ i h tk m nw, s' = { s with heap := h, toks := tk } ∧ 1 ≤ tk ∧ Fr h₀ L h m ∧ News h₀ L h nw ∧ St i h ∧ J i m nw ∧ i ≤ n ∧ k = n - i) (n - i) s₃ := by
      rintro ⟨h2, tk2, m2, nw2, e, hk2, F2, N2, J2⟩
      refine ⟨n - (i + 1), by omega, i + 1, h2, tk2, m2, nw2, e, hk2, F2, fun p hp => N2 p (.tail _ hp), frame _ _ _ hst' fun b hb ob hob => ?_, J2, hin, rfl⟩
      rcases fpk b hb with rfl | ⟨lo, hlo⟩
      · rw [ho] at hob; cases hob
        exact (N2 _ (.head _)).1
      · have e1 := (N' _ (.tail _ (hlo _ _ _ hJ))).1
        have e2 := (N2 _ (.tail _ (hlo _ _ _ J2))).1
        rw [e1] at hob; cases hob
        exact e2
    cases f with
    | next => exact key h₃
    | cont => exact key h₃
    | brk => exact h₃
    | ret _ => exact h₃
  · obtain rfl : i = n := by omega
    refine wpAny_with_toks (n := 1) (by exact hk) ?_
    refine done _ _ _ hst fun h' tk' hkeep hk' => ?_
    exact fin m nw hJ h' tk' hk' (fr_but F hIL hI0 hkeep) fun p hp => ⟨hkeep _ _ (by simpa using off _ _ _ hJ p hp) (N p hp).1, (N p hp).2⟩
theorem iter_listK {ax : Addr} {vs : List Value} {n : Nat} {m₀ : Str → Option Value} {news : List (Addr × Obj)} (hk : 1 ≤ s.toks) (hh : A.handled = none) (F : Fr h₀ L s.heap m₀) (N : News h₀ L s.heap news) (hm : (ax, listOf vs.toArray n) ∈ news)
    (J : Addr → Nat → (Str → Option Value) → List (Addr × Obj) → Prop) (h0 : ∀ I, (∀ p ∈ news, p.1 < I) → J I 0 m₀ news) (keep : ∀ I i m nw, J I i m nw → (ax, listOf vs.toArray n) ∈ nw) (off : ∀ I i m nw, J I i m nw → ∀ q ∈ nw, q.1 ≠ I)
    (fin : ∀ I m nw, J I vs.length m nw → ∀ h tk, 1 ≤ tk → Fr h₀ L h m → News h₀ L h nw → Q .next { s with heap := h, toks := tk })
    (step : ∀ I i m nw v o, vs[i]? = some v → J I i m nw → ∀ h tk, 1 ≤ tk → Fr h₀ L h m → News h₀ L h ((I, o) :: nw) → wpAny (model prog w) A (storeName env v0 v) (fun _ s₂ => wpAny (model prog w) A (execs body env) (PostK h₀ L s I o (J I (i + 1)) Q) E s₂) E { s with heap := h, toks := tk }) :
    wpAny (model prog w) A (pyIter (.ref ax)) (fun it s₂ => ∃ I n, it = .ref I ∧ OwitRest prog w A E env v0 body Q I n s₂) E s := by
  have hax := N _ hm
  have hl : s.heap.IsList ax vs.toArray := ⟨_, hax.1, rfl, n, rfl⟩
  have hlt : ax < s.heap.objs.size := Heap.lt_size hax.1
  have hne : ax ≠ s.heap.objs.size := Nat.ne_of_lt hlt
  refine wpAny_pyIter_list hl ⟨_, _, rfl, loopK (s := s) (P := fun i v _ => vs.toArray[i]? = some v) (Walks.list (prog := prog) (w := w) (A := A) hh s.heap.objs.size ax hne vs.toArray).frame (fun i s' Q' E' hi st hk' hQ => wpAny_with_toks (n := 1) hk' ((Walks.list hh s.heap.objs.size ax hne vs.toArray).item i s' _ _ hi st fun v h' tk hP st' hkp hk2 => hQ v h' tk hP hk2 st' hkp)) (Walks.list hh s.heap.objs.size ax hne vs.toArray).done (Nat.ne_of_lt F.ns.lt) (next_is_new F) (J _) (fun i h st => ?_) (fun b hb => ?_) (off _) (by rw [List.size_toArray]; exact fin _) (fun i m nw v o _ hJ h tk hP => step _ i m nw v o (by simpa using hP) hJ h tk) _ s.toks m₀ news hk (F.push _) (fun p hp => ⟨Heap.get?_push_of_some _ (N p hp).1, (N p hp).2⟩) ⟨⟨_, Heap.get?_push_size _ rfl, rfl, rfl⟩, hl.at fun o e => Heap.get?_push_of_some _ e⟩ (h0 _ fun p hp => Heap.lt_size (N p hp).1)⟩
  · obtain ⟨o, ho, _⟩ := st.1
    exact ⟨o, ho⟩
  · rcases List.mem_cons.mp hb with rfl | hb
    · exact .inl rfl
    · rw [List.mem_singleton.mp hb]
      exact .inr ⟨_, keep _⟩
theorem iter_strK {x : Str} {t : Tok} {m₀ : Str → Option Value} {news : List (Addr × Obj)} (hall : x.cps.all (· < 128) = true) (hk : 1 ≤ s.toks) (hh : A.handled = none) (F : Fr h₀ L s.heap m₀) (N : News h₀ L s.heap news)
    (J : Addr → Nat → (Str → Option Value) → List (Addr × Obj) → Prop) (h0 : ∀ I, (∀ p ∈ news, p.1 < I) → J I 0 m₀ news) (off : ∀ I i m nw, J I i m nw → ∀ q ∈ nw, q.1 ≠ I)
    (fin : ∀ I m nw, J I x.cps.size m nw → ∀ h tk, 1 ≤ tk → Fr h₀ L h m → News h₀ L h nw → Q .next { s with heap := h, toks := tk })
    (step : ∀ I i m nw c (u : Nat) o, x.cps[i]? = some c → J I i m nw → ∀ h tk, 1 ≤ u → u < tk → 1 ≤ tk → Fr h₀ L h m → News h₀ L h ((I, o) :: nw) → wpAny (model prog w) A (storeName env v0 (.str ⟨#[c]⟩ u)) (fun _ s₂ => wpAny (model prog w) A (execs body env) (PostK h₀ L s I o (J I (i + 1)) Q) E s₂) E { s with heap := h, toks := tk }) :
    wpAny (model prog w) A (pyIter (.str x t)) (fun it s₂ => ∃ I n, it = .ref I ∧ OwitRest prog w A E env v0 body Q I n s₂) E s := by
  refine wpAny_pyIter_ascii hall ⟨_, _, rfl, loopK (s := s) (P := fun i v tk => ∃ c, ∃ u : Nat, x.cps[i]? = some c ∧ v = .str ⟨#[c]⟩ u ∧ 1 ≤ u ∧ u < tk) (Walks.strAscii (prog := prog) (w := w) (A := A) hh s.heap.objs.size x t).frame (fun i s' Q' E' hi st hk' hQ => wpAny_pyNext_ascii_item st (c := x.cps[i]) (by simp [hi]) fun h' hit' hs' =>
    hQ _ h' (s'.toks + 1) ⟨_, _, by simp [hi], rfl, hk', Nat.lt_succ_self _⟩ (by omega) hit' fun b o hb e => hs'.extBut b o (fun h => hb (by simp [h])) e) (Walks.strAscii hh s.heap.objs.size x t).done (Nat.ne_of_lt F.ns.lt) (next_is_new F) (J _) (fun i h st => ?_) (fun b hb => .inl (by simpa using hb)) (off _) (fin _) (fun i m nw v o _ hJ h tk hP => ?_) _ s.toks m₀ news hk (F.push _) (fun p hp => ⟨Heap.get?_push_of_some _ (N p hp).1, (N p hp).2⟩) ⟨_, Heap.get?_push_size _ rfl, rfl, rfl⟩ (h0 _ fun p hp => Heap.lt_size (N p hp).1)⟩
  · obtain ⟨o, ho, _⟩ := st
    exact ⟨o, ho⟩
  · obtain ⟨c, u, hc, rfl, hu, hut⟩ := hP
    exact step _ i m nw c u o hc hJ h tk hu hut
theorem append_led {m : Str → Option Value} {pre post : List (Addr × Obj)} {D : Addr} {its : Array Value} {n : Nat} {x : Value} {Q : Value → Shared → Prop} (F : Fr h₀ L s.heap m) (N : News h₀ L s.heap (pre ++ (D, listOf its n) :: post)) (a : ∀ p ∈ pre, p.1 ≠ D) (c : ∀ p ∈ post, p.1 ≠ D) (hz : its.size ≤ 1000000)
    (h : ∀ h', Fr h₀ L h' m → News h₀ L h' (pre ++ (D, listOf (its.push x) (n + 1)) :: post) → Q .none { s with heap := h' }) : wpAny (model prog w) A (call (.builtin "list.append") [.ref D, x]) Q E s := by
  have z := N (D, listOf its n) (List.mem_append.mpr (.inr (.head _)))
  refine call_meets PySem.F.slot_list_append ⟨_, z.1, rfl⟩ PySem.F.entry_list_append (PySem.F.args_list_append_2 _ _) (PySem.list_append D its n x (by rw [sizeLine_eq]; omega)) ⟨z.1, h _ (F.change (Heap.SameBut.update ..) z.2.1 z.2.2) (kl_turn _ N a c rfl ?_)⟩
  rw [Array.size_push]; omega
end
end Mine
end
theorem Mine.fresh9 : True := by
  w_top off
  k_with_none
  first | (walk1; fail) | trivial
section
open PySem PySem.W PyProof.Rows PySem.Calls
set_option maxRecDepth 100000
namespace Mine
section
variable {w : World} {p : Program} {loose : List Str} {mean : ExcName → Option Value} {mg mb : Str → Option Value} {A : Around} {A₀ : Around} {base h₀ : Heap} {L : Addr} {m : Str → Option Value} {s : Shared}
  {dp un : Nat} {gd : Option (List Code)} {cn : Str} {cs : Scope} {a : Addr} {ccd : Value} {cl : List (Str × Addr)} {outer : List Env}
  {ll fr ld lx fs sd pb it q : Addr} {rest : List (Addr × Obj)} {fd fdr : FuncData} {ln : Int} {tl t1 t2 t3 t4 tw t5 ts : Tok} {ws : Str} {tx : Tok}
theorem next_end {Q : Option Value → Shared → Prop} {E : Value → Shared → Prop}
  (hA : A.in1 = ktrTop dp un gd cn cs L a ccd cl outer) (hh : A.handled = none)
  (B : Below A₀ base outer h₀) (F : Fr h₀ L s.heap m) (X : (hd.heap_39 w.params).In h₀) (N : News h₀ L s.heap ((ll, listOf #[.str (txt []) tx] 0) :: (ld, lexDict w ln tl t1 t2 t3 t4 fs ws tw pb) :: (it, ciObj q ts) :: (q, methodObj (.ref 239) (.ref lx)) :: rest)) (T : Top p loose mean mg mb h₀) (hk : cs.kind = .function)
  (hdp : dp + 4 < recursionLimit) (hun : un + 20 < cLine) (hln : ln.natAbs ≤ 100000)
  (o1 : @Ne Nat ld ll) (o2 : ∀ q ∈ rest, q.1 ≠ ll) (o3 : ∀ q ∈ rest, q.1 ≠ ld) (q1 : @Ne Nat q ll) (q2 : @Ne Nat q ld) (i1 : @Ne Nat it ll) (i2 : @Ne Nat it ld) (oI : ∀ q ∈ rest, @Ne Nat q.1 it)
  (m1 : List.Mem (lx, instObj 256 ld) rest) (m2 : List.Mem (fs, ({ cls := .type "function", dict := some sd, data := .func fd } : Obj)) rest) (m3 : List.Mem (sd, dictOf [⟨PyData.keyHash w.params (Str.ofString "read"), .str (Str.ofString "read") t5, .ref fr⟩] 1) rest)
  (m4 : List.Mem (fr, ({ cls := .type "function", data := .func fdr } : Obj)) rest)
  (hread : ReadSpec PySem.Challenge.rw_tp0038_01.row.prog w (hd.heap_39 w.params) p loose mean mg mb ll fr rest)
  (hret : ∀ h' kk, Fr h₀ L h' m → News h₀ L h' rest → Q none { s with heap := h', toks := kk }) :
  wpAny (model PySem.Challenge.rw_tp0038_01.row.prog w) A (pyNext (.ref it)) Q E s := by
  revert X; k_fill; intro X
  obtain ⟨cf, df, fd59, sf, hf⟩ := fn_in_get X (f := 239) (by k_is)
  have RR := hread.more [(it, ciObj q ts), (q, methodObj (.ref 239) (.ref lx))]
  dsimp only [List.cons_append, List.nil_append] at RR
  refine ci_end hh (N.get (by k_mem)) (N.get (by k_mem)) (F.keep _ _ hf) ?_
  rw [hA]
  refine read_char_spec B F X N T hk hdp hun (by simp) (by omega) o1 (two o2 i1 q1) (two o3 i2 q2) (.tail _ (.tail _ m1)) (.tail _ (.tail _ m2)) (.tail _ (.tail _ m3)) (.tail _ (.tail _ m4)) RR ?_
  intro tc tx2 ln2 tl2 h' kk hl3 F2 N2
  have nI := N2 (it, ciObj q ts) (.tail _ (.tail _ (.head _)))
  refine ⟨_, by rw [show Str.ofString "" = txt [] by decide +kernel]; rfl, nI.1, N2.get (by k_mem), F2.keep _ _ hf, ?_⟩
  intro h9 hE
  refine hret _ _ (fr_but F2 (Ne.symm nI.2.1) nI.2.2 (fun b o hb hbo => hE b o (by simpa using hb) hbo)) ?_
  intro r hr
  have nr := N2 r (.tail _ (.tail _ (.tail _ (.tail _ hr))))
  exact ⟨hE _ _ (oI r hr) nr.1, nr.2⟩
set_option maxHeartbeats 4000000 in
theorem get_end_spec {R : Result → Shared → Prop} {x : List Nat}
  (B : Below A₀ base outer h₀) (F : Fr h₀ L s.heap m) (X : (hd.heap_39 w.params).In h₀) (N : News h₀ L s.heap ((ll, listOf #[.str (txt x) tx] 0) :: (ld, lexDict w ln tl t1 t2 t3 t4 fs (txt [10, 61]) tw pb) :: rest)) (T : Top p loose mean mg mb h₀) (hk : cs.kind = .function)
  (hdp : dp + 6 < recursionLimit) (hun : un + 40 < cLine) (hln : ln.natAbs ≤ 90000) (hx : x = [] ∨ x = [10])
  (o1 : @Ne Nat ld ll) (o2 : ∀ q ∈ rest, q.1 ≠ ll) (o3 : ∀ q ∈ rest, q.1 ≠ ld)
  (m0 : List.Mem (pb, listOf #[] 0) rest)
  (m1 : List.Mem (lx, instObj 256 ld) rest) (m2 : List.Mem (fs, ({ cls := .type "function", dict := some sd, data := .func fd } : Obj)) rest) (m3 : List.Mem (sd, dictOf [⟨PyData.keyHash w.params (Str.ofString "read"), .str (Str.ofString "read") t5, .ref fr⟩] 1) rest)
  (m4 : List.Mem (fr, ({ cls := .type "function", data := .func fdr } : Obj)) rest)
  (hread : ReadSpec PySem.Challenge.rw_tp0038_01.row.prog w (hd.heap_39 w.params) p loose mean mg mb ll fr rest)
  (hret : ∀ t' h' kk, Fr h₀ L h' m → News h₀ L h' rest → R (.ok (.ret (.str (Str.ofString "") t'))) { s with heap := h', toks := kk }) :
  codeAny (model PySem.Challenge.rw_tp0038_01.row.prog w) (ktrTop dp un gd cn cs L a ccd cl outer) (.call (.ref 246) ⟨[.ref lx], []⟩) R s := by
  revert X; k_fill; intro X
  walk_at "mine:enter"
  rename_i g₁ L₁ hh₁ FG₁ F₁ N₁ B₁ X₁ T₁
  repeat' ((fail_if_success (with_reducible show wpAny _ _ (exec (Stmt.For _ _ _ _ _) _) _ _ _)); walk_at "mine:step")
  refine for_own ?_
  walk_at "mine:go"
  with_reducible rename Fr g₁ L₁ _ _ => F1
  with_reducible rename News g₁ L₁ _ _ => N1
  rename_i _ q h1 l0 it h2 l1 h3
  have FF := fr_kst [(Str.ofString "fiter", .ref it), (Str.ofString "token", .str (Str.ofString "") _), (Str.ofString "self", .ref lx)] F1 (all3 rfl rfl rfl)
  obtain ⟨ts, N1⟩ : ∃ ts, News g₁ L₁ h3 ((it, ciObj q ts) :: (q, methodObj (.ref 239) (.ref lx)) :: (ll, listOf #[.str (txt x) tx] 0) :: (ld, lexDict w ln tl t1 t2 t3 t4 fs (txt [10, 61]) tw pb) :: rest) := ⟨_, N1⟩
  obtain ⟨q1, q2, q3⟩ := l0
  have NN : News g₁ L₁ h3 ((ll, listOf #[.str (txt x) tx] 0) :: (ld, lexDict w ln tl t1 t2 t3 t4 fs (txt [10, 61]) tw pb) :: (it, ciObj q ts) :: (q, methodObj (.ref 239) (.ref lx)) :: rest) := by
    intro p hp
    refine N1 p ?_
    simp only [List.mem_cons] at hp ⊢
    rcases hp with h | h | h | h | h <;> simp only [h, true_or, or_true]
  clear F1 N1
  have i0 := l1 _ (List.Mem.head _)
  have q1' : @Ne Nat q ll := fun e => absurd q1 (by rw [e]; exact Nat.lt_irrefl _)
  have q2' : @Ne Nat q ld := fun e => absurd q2 (by rw [e]; exact Nat.lt_irrefl _)
  have i1' : @Ne Nat it ll := fun e => absurd (l1 _ (List.Mem.tail _ (List.Mem.head _))) (by rw [e]; exact Nat.lt_irrefl _)
  have i2' : @Ne Nat it ld := fun e => absurd (l1 _ (List.Mem.tail _ (List.Mem.tail _ (List.Mem.head _)))) (by rw [e]; exact Nat.lt_irrefl _)
  have oI : ∀ p ∈ rest, @Ne Nat p.1 it := fun p hp => Nat.ne_of_lt (l1 p (.tail _ (.tail _ (.tail _ hp))))
  refine ci_iter (NN.get (by k_mem)) ⟨_, _, rfl, owit_ind (fun k s' => ∃ u h tk' x1 tx1 ln1 tl1 tt, s' = { s with heap := h, toks := tk' } ∧ Fr g₁ L₁ h (kstB u [(Str.ofString "fiter", .ref it), (Str.ofString "token", .str (Str.ofString "") tt), (Str.ofString "self", .ref lx)]) ∧ News g₁ L₁ h ((ll, listOf #[.str (txt x1) tx1] 0) :: (ld, lexDict w ln1 tl1 t1 t2 t3 t4 fs (txt [10, 61]) tw pb) :: (it, ciObj q ts) :: (q, methodObj (.ref 239) (.ref lx)) :: rest) ∧ (x1 = [] ∨ x1 = [10]) ∧ ln1.natAbs + x1.length ≤ 90001 ∧ x1.length = k) ?step _ _ ⟨_, _, _, _, _, _, _, _, rfl, FF, NN, hx, ?ini, rfl⟩⟩
  case ini => rcases hx with rfl | rfl <;> simp <;> omega
  case step =>
    rintro k _ ⟨u, h, tk', x1, tx1, ln1, tl1, tt, rfl, F1, N1, G1, hl1, rfl⟩
    rcases G1 with rfl | rfl
    · refine next_end rfl rfl (by k_asm) F1 X₁ N1 T₁ rfl (by ktr_room) (by ktr_units) (by simp at hl1; omega) o1 o2 o3 q1' q2' i1' i2' oI m1 m2 m3 m4 hread ?_
      intro h9 k9 F9 N9
      dsimp only [OwitTurn]
      walk_at "mine:go"
      with_reducible rename News h₀ L _ _ => NE
      exact hret _ _ _ (by k_asm) NE
    · have hl2 : 0 + 1 + ln1.natAbs ≤ 100000 := by simp at hl1; omega
      refine next_spec rfl (by k_asm) F1 X₁ N1 T₁ rfl (by ktr_room) (by ktr_units) hl2 o1 o2 o3 q1' q2' i1' i2' m1 m2 m3 m4 hread ?_
      intro tc tx2 ln2 tl2 h' kk hl3 F2 N2
      dsimp only [OwitTurn]
      walk_at "mine:go"
      · exact absurd (has_no (by assumption)) (by decide)
      · with_reducible rename Fr g₁ L₁ _ _ => F5
        with_reducible rename News g₁ L₁ _ _ => N5
        exact ⟨0, by decide, _, _, _, _, _, _, _, _, rfl, fr_kst [(Str.ofString "fiter", .ref it), (Str.ofString "token", .str (Str.ofString "") _), (Str.ofString "self", .ref lx)] F5 (all3 rfl rfl rfl), N5, .inl rfl, by simp at hl1 ⊢; omega, rfl⟩
end
end Mine
end
theorem Mine.fresh10 : True := by
  w_top off
  k_with_none
  first | (walk1; fail) | trivial
end
theorem Mine.fresh11 : True := by
  w_top off
  k_with_none
  first | (walk1; fail) | trivial
local macro_rules | `(tactic| k_all) => `(tactic| first | assumption | (refine ne_all (by assumption) ?_; omega))
section
open PySem PySem.W PyProof.Rows PySem.Calls
namespace Mine
noncomputable def p257 : List Nat → List Nat
  | [] => []
  | [c] => if c = 34 then [] else [c]
  | c :: d :: r => if c = 34 then (if d = 34 then 34 :: p257 r else []) else c :: p257 (d :: r)
theorem p257_34 (d : Nat) (r : List Nat) (h : d ≠ 34) : p257 (34 :: d :: r) = [] := by rw [p257, if_pos rfl, if_neg h]
theorem p257_3434 (r : List Nat) : p257 (34 :: 34 :: r) = 34 :: p257 r := by rw [p257, if_pos rfl, if_pos rfl]
theorem p257_c (c : Nat) (r : List Nat) (h : c ≠ 34) : p257 (c :: r) = c :: p257 r := by
  cases r with
  | nil => simp [p257, h]
  | cons d r => rw [p257, if_neg h]
theorem slice3 (r : List Nat) : Txt.slice (txt (50 :: 53 :: 55 :: 32 :: 34 :: r)) none (some 3) = Str.ofString "257" := by
  rw [beq_iff_eq.mp (slice_closes_to (x := txt (50 :: 53 :: 55 :: 32 :: 34 :: r)) (j := 3) ⟨by decide, by show (3 : Int) ≤ ((50 :: 53 :: 55 :: 32 :: 34 :: r).length : Int); simp only [List.length_cons]; omega⟩)]
  rw [show Str.ofString "257" = txt [50, 53, 55] by decide +kernel]
  show Str.mk _ = Str.mk _
  simp
theorem slice35 (r : List Nat) : Txt.slice (txt (50 :: 53 :: 55 :: 32 :: 34 :: r)) (some 3) (some 5) = Str.ofString " \"" := by
  rw [beq_iff_eq.mp (slice_closes (x := txt (50 :: 53 :: 55 :: 32 :: 34 :: r)) (i := 3) (j := 5) ⟨by decide, by decide, by show (5 : Int) ≤ ((50 :: 53 :: 55 :: 32 :: 34 :: r).length : Int); simp only [List.length_cons]; omega⟩)]
  rw [show Str.ofString " \"" = txt [32, 34] by decide +kernel]
  show Str.mk _ = Str.mk _
  simp
theorem item_at {xl : List Nat} {i : Int} (h0 : 0 ≤ i) (h1 : i < ((txt xl).length : Int)) : ∃ c, Txt.item (txt xl) i = txt [c] ∧ xl.drop i.toNat = c :: xl.drop (i + 1).toNat := by
  have hl : i.toNat < xl.length := by have : (txt xl).length = xl.length := rfl; omega
  refine ⟨xl[i.toNat], ?_, ?_⟩
  · rw [item_meets ⟨h0, h1⟩]
    show Str.mk _ = Str.mk _
    congr 1
    simp [hl, Array.getD]
  · rw [show (i + 1).toNat = i.toNat + 1 by omega]
    exact List.drop_eq_getElem_cons hl
noncomputable def PInv (xl : List Nat) (i : Int) (d : Str) : Prop := 5 ≤ i ∧ ∃ dl, d = txt dl ∧ p257 (xl.drop 5) = dl ++ p257 (xl.drop i.toNat)
theorem pinv_start (r : List Nat) : ((txt (50 :: 53 :: 55 :: 32 :: 34 :: r)).length : Int) = (txt (50 :: 53 :: 55 :: 32 :: 34 :: r)).length ∧ 5 ≤ (5 : Int) ∧ (5 : Int) ≤ (txt (50 :: 53 :: 55 :: 32 :: 34 :: r)).length ∧ ((Str.ofString "").length : Int) ≤ 5 ∧ PInv (50 :: 53 :: 55 :: 32 :: 34 :: r) 5 (Str.ofString "") := by
  refine ⟨rfl, by decide, ?_, by decide +kernel, by decide, [], by decide +kernel, rfl⟩
  show (5 : Int) ≤ ((50 :: 53 :: 55 :: 32 :: 34 :: r).length : Int); simp only [List.length_cons]; omega
section
variable {xl : List Nat} {i : Int} {d : Str}
theorem pf_end (P : PInv xl i d) (h : ¬ i < ((txt xl).length : Int)) : d = txt (p257 (xl.drop 5)) := by
  obtain ⟨h5, dl, rfl, e⟩ := P
  have hl : xl.length ≤ i.toNat := by have : (txt xl).length = xl.length := rfl; omega
  rw [e, List.drop_eq_nil_of_le hl, p257, List.append_nil]
theorem pf_brk1 (P : PInv xl i d) (h1 : i < ((txt xl).length : Int)) (hq : (Txt.item (txt xl) i == Str.ofString "\"") = true) (h2 : ((txt xl).length : Int) ≤ i + 1) : d = txt (p257 (xl.drop 5)) := by
  obtain ⟨h5, dl, rfl, e⟩ := P
  obtain ⟨c, e1, e2⟩ := item_at (xl := xl) (i := i) (by omega) h1
  rw [e1] at hq
  obtain rfl := q_yes hq
  have hl : xl.length ≤ (i + 1).toNat := by have : (txt xl).length = xl.length := rfl; omega
  rw [e, e2, List.drop_eq_nil_of_le hl, p257, if_pos rfl, List.append_nil]
theorem pf_brk2 (P : PInv xl i d) (h1 : i < ((txt xl).length : Int)) (hq : (Txt.item (txt xl) i == Str.ofString "\"") = true) (h2 : ¬ ((txt xl).length : Int) ≤ i + 1) (hq2 : (Txt.item (txt xl) (i + 1) != Str.ofString "\"") = true) : d = txt (p257 (xl.drop 5)) := by
  obtain ⟨h5, dl, rfl, e⟩ := P
  obtain ⟨c, e1, e2⟩ := item_at (xl := xl) (i := i) (by omega) h1
  obtain ⟨c', e3, e4⟩ := item_at (xl := xl) (i := i + 1) (by omega) (by omega)
  rw [e1] at hq
  obtain rfl := q_yes hq
  rw [e3] at hq2
  rw [e, e2, e4, p257_34 _ _ (q_no (by simpa using hq2)), List.append_nil]
theorem pf_two (P : PInv xl i d) (h1 : i < ((txt xl).length : Int)) (hq : (Txt.item (txt xl) i == Str.ofString "\"") = true) (h2 : ¬ ((txt xl).length : Int) ≤ i + 1) (hq2 : (Txt.item (txt xl) (i + 1) != Str.ofString "\"") = false) : PInv xl (i + 1 + 1) (d ++ Txt.item (txt xl) i) := by
  obtain ⟨h5, dl, rfl, e⟩ := P
  obtain ⟨c, e1, e2⟩ := item_at (xl := xl) (i := i) (by omega) h1
  obtain ⟨c', e3, e4⟩ := item_at (xl := xl) (i := i + 1) (by omega) (by omega)
  rw [e1] at hq
  obtain rfl := q_yes hq
  rw [e3] at hq2
  obtain rfl := q_yes (by simpa using hq2)
  refine ⟨by omega, dl ++ [34], by rw [e1, txt_app], ?_⟩
  rw [e, e2, e4, p257_3434, List.append_assoc]; rfl
theorem pf_one (P : PInv xl i d) (h1 : i < ((txt xl).length : Int)) (hq : (Txt.item (txt xl) i == Str.ofString "\"") = false) : PInv xl (i + 1) (d ++ Txt.item (txt xl) i) := by
  obtain ⟨h5, dl, rfl, e⟩ := P
  obtain ⟨c, e1, e2⟩ := item_at (xl := xl) (i := i) (by omega) h1
  rw [e1] at hq
  refine ⟨by omega, dl ++ [c], by rw [e1, txt_app], ?_⟩
  rw [e, e2, p257_c _ _ (q_no hq), List.append_assoc]; rfl
end
local macro_rules | `(tactic| walk_at "subscriptTail Name Slice str ref") => `(tactic| ((with_reducible rename Fr _ _ _ _ => F'); (with_reducible rename News _ _ _ _ => N'); first
  | ((with_reducible show wpAny _ _ (subscriptTail _ (Expr.Slice none (some _) none _) _ _) _ _ _); (refine slice_strN_ns (hsz := ?hsz) (s := ⟨_, _, _, _, _⟩) F' N' ?_); (case hsz => (rw [sizeLine_eq]; omega)); (intro _ _ _ _ _); (rw [slice3]))
  | ((with_reducible show wpAny _ _ (subscriptTail _ (Expr.Slice (some _) (some _) none _) _ _) _ _ _); (refine slice_strN_ss (hsz := ?hsz) (s := ⟨_, _, _, _, _⟩) F' N' ?_); (case hsz => (rw [sizeLine_eq]; omega)); (intro _ _ _ _ _); (rw [slice35]))))
set_option maxRecDepth 100000 in
set_option maxHeartbeats 4000000 in
theorem parse257_spec {w : World} {p : Program} {loose : List Str} {mean : ExcName → Option Value} {mg mb : Str → Option Value} {dp un : Nat} {gd : Option (List Code)} {cn : Str} {cs : Scope} {a : Addr} {ccd : Value} {cl : List (Str × Addr)} {outer : List Env} {A₀ : Around} {base h₀ : Heap} {L : Addr} {m : Str → Option Value} {news : List (Addr × Obj)} {s : Shared} {R : Result → Shared → Prop}
  (B : Below A₀ base outer h₀) (F : Fr h₀ L s.heap m) (X : (hd.heap_39 w.params).In h₀) (N : News h₀ L s.heap news) (T : Top p loose mean mg mb h₀) (hk : cs.kind = .function)
  (hdp : dp + 1 < recursionLimit) (hun : un + 8 < cLine) {t : Tok} {r : List Nat} (hlen : (txt (50 :: 53 :: 55 :: 32 :: 34 :: r)).length ≤ 100000)
  (hret : ∀ t' h' tk', Fr h₀ L h' m → News h₀ L h' news → R (.ok (.ret (.str (txt (p257 r)) t'))) { s with heap := h', toks := tk' }) :
  codeAny (model PySem.Challenge.rw_tp0038_01.row.prog w) (ktrTop dp un gd cn cs L a ccd cl outer) (.call (.ref 218) ⟨[.str (txt (50 :: 53 :: 55 :: 32 :: 34 :: r)) t], []⟩) R s := by
  revert X; k_fill; intro X
  walk_at "mine:enter"
  rename_i g₁ L₁ h₁ FG₁ F₁ N₁ B₁ X₁ T₁
  repeat' ((fail_if_success (with_reducible show wpAny _ _ (exec (Stmt.While _ _ _ _) _) _ _ _)); walk_at "mine:step")
  have ee : p257 r = p257 ((50 :: 53 :: 55 :: 32 :: 34 :: r).drop 5) := rfl
  rw [ee] at hret
  have ss := pinv_start r
  generalize 50 :: 53 :: 55 :: 32 :: 34 :: r = xl at *
  k_with "state" => exact ss
  k_while_given ["resp", "n"] (fun resp n script i dirname => n = (resp.length : Int) ∧ 5 ≤ i ∧ i ≤ n ∧ (dirname.length : Int) ≤ i ∧ PInv xl i dirname) (fun resp n script i dirname => (n - i).toNat) "i" "dirname"
  repeat' ((fail_if_success (with_reducible show KswEnd _ _ _ _ _ _ _ _ _ _ _ _)); walk_at "mine:step")
  · with_reducible rename PInv _ _ _ => P
    rw [pf_brk1 P (by assumption) (by assumption) (by assumption)]
    exact hret _ _ _ (by k_asm) (by k_asm)
  · with_reducible rename PInv _ _ _ => P
    rw [pf_brk2 P (by assumption) (by assumption) (by assumption) (by assumption)]
    exact hret _ _ _ (by k_asm) (by k_asm)
  · with_reducible rename PInv _ _ _ => P
    with_reducible rename News g₁ L₁ _ _ => nE'
    have P' := pf_two P (by assumption) (by assumption) (by assumption) (by assumption)
    refine ksw_end ⟨_, _, _, _⟩ (by assumption) nE' (by kst_in) (by kst_facts) (by kst_all) (by ksw_same) ⟨rfl, ?_, ?_, ?_, P'⟩ ?_ <;> dsimp only <;> omega
  · with_reducible rename PInv _ _ _ => P
    with_reducible rename News g₁ L₁ _ _ => nE'
    have P' := pf_one P (by assumption) (by assumption)
    refine ksw_end ⟨_, _, _, _⟩ (by assumption) nE' (by kst_in) (by kst_facts) (by kst_all) (by ksw_same) ⟨rfl, ?_, ?_, ?_, P'⟩ ?_ <;> dsimp only <;> omega
  · with_reducible rename PInv _ _ _ => P
    rw [pf_end P (by assumption)]
    exact hret _ _ _ (by k_asm) (by k_asm)
end Mine
end
theorem Mine.fresh12 : True := by
  w_top off
  k_with_none
  first | (walk1; fail) | trivial
section
open PySem PySem.W PyProof.Rows PySem.Calls
namespace Mine
/-- each sign c gives way to z -/
noncomputable def rep (c : Nat) (z : List Nat) : List Nat → List Nat
  | [] => []
  | k :: r => if k = c then z ++ rep c z r else k :: rep c z r
theorem rep_append (c : Nat) (z : List Nat) : ∀ a b : List Nat, rep c z (a ++ b) = rep c z a ++ rep c z b
  | [], _ => rfl
  | k :: r, b => by
    have ih := rep_append c z r b
    by_cases h : k = c
    · simp only [List.cons_append, rep, if_pos h, ih, List.append_assoc]
    · simp only [List.cons_append, rep, if_neg h, ih]
theorem rep_free (c : Nat) (z : List Nat) : ∀ l : List Nat, c ∉ l → rep c z l = l
  | [], _ => rfl
  | k :: r, h => by
    have h1 : ¬ k = c := fun e => h (e ▸ List.mem_cons_self ..)
    have h2 : c ∉ r := fun m => h (List.mem_cons_of_mem _ m)
    unfold rep
    rw [if_neg h1, rep_free c z r h2]
theorem rep_one (c : Nat) (z : List Nat) : rep c z [c] = z := by simp [rep]
theorem rep_len (c : Nat) (z : List Nat) : ∀ l : List Nat, (rep c z l).length ≤ l.length * (z.length + 1)
  | [] => by simp [rep]
  | k :: r => by
    have ih := rep_len c z r
    unfold rep
    split
    · rw [List.length_append, List.length_cons, Nat.succ_mul]; omega
    · rw [List.length_cons, List.length_cons, Nat.succ_mul]; omega
theorem rep_join (c : Nat) (z : List Nat) : ∀ parts : List Str, (∀ p ∈ parts, c ∉ p.cps.toList) → rep c z (Str.join ⟨#[c]⟩ parts).cps.toList = (Str.join (txt z) parts).cps.toList
  | [], _ => rfl
  | [p], h => rep_free c z _ (h p (List.mem_singleton.mpr rfl))
  | p :: q :: r, h => by
    have ih := rep_join c z (q :: r) fun a ha => h a (List.mem_cons_of_mem _ ha)
    show rep c z (p ++ ⟨#[c]⟩ ++ Str.join ⟨#[c]⟩ (q :: r)).cps.toList = (p ++ txt z ++ Str.join (txt z) (q :: r)).cps.toList
    simp only [Str.cps_append, Array.toList_append]
    rw [rep_append, rep_append, ih, rep_free c z _ (h p (List.mem_cons_self ..))]
    show p.cps.toList ++ rep c z [c] ++ _ = _
    rw [rep_one]
theorem str_ext {a b : Str} (h : a.cps.toList = b.cps.toList) : a = b := by
  obtain ⟨⟨a⟩⟩ := a
  obtain ⟨⟨b⟩⟩ := b
  have : a = b := h
  rw [this]
theorem replace_txt (l z : List Nat) (c : Nat) : Txt.replace (txt l) (txt [c]) (txt z) = txt (rep c z l) := by
  apply str_ext
  show (Txt.replace (txt l) ⟨#[c]⟩ (txt z)).cps.toList = rep c z l
  rw [StrLaws.replace_one, ← rep_join c z _ (StrLaws.split_free (txt l) c), StrLaws.join_split]
section
variable {prog : Program} {w : World} {A : Around} {E : Value → Shared → Prop} {s : Shared} {Q : Value → Shared → Prop}
theorem replace_call {l z : List Nat} {c : Nat} {t u v : Tok} (hs : 1 ≤ s.toks) (hu : @LE.le Nat _ 1 u) (hv : @LE.le Nat _ 1 v) (huv : @LT.lt Nat _ u v) (hl : l.length ≤ 1000000) (hz : z.length ≤ 8) (hyz : z ≠ [c])
    (h : ∀ t' k, 1 ≤ k → (txt (rep c z l)).length ≤ (txt l).length * (z.length + 1) → Q (.str (txt (rep c z l)) t') { s with toks := k }) :
    wpAny (model prog w) A (call (.builtin "str.replace") [.str (txt l) t, .str (txt [c]) u, .str (txt z) v]) Q E s := by
  refine wpAny_with_toks hs ?_
  refine SC.replaceW (Nat.ne_of_gt hu) (Nat.ne_of_gt hv) (Nat.ne_of_lt huv) (beq_eq_false_iff_ne.mpr fun e => hyz (txt_inj e).symm) (by show l.length ≤ 1048576; omega) (by show z.length ≤ 14; omega) ?_
  intro t' k hk
  rw [replace_txt]
  exact h t' k hk (rep_len c z l)
theorem rep_bs {l : List Nat} {t u v : Tok} (hs : 1 ≤ s.toks) (hu : @LE.le Nat _ 1 u) (hv : @LE.le Nat _ 1 v) (huv : @LT.lt Nat _ u v) (hl : l.length ≤ 1000000) (h : ∀ t' k, 1 ≤ k → (txt (rep 92 [92, 92] l)).length ≤ (txt l).length * 3 → Q (.str (txt (rep 92 [92, 92] l)) t') { s with toks := k }) :
    wpAny (model prog w) A (call (.builtin "str.replace") [.str (txt l) t, .str (Str.ofString "\\") u, .str (Str.ofString "\\\\") v]) Q E s := by
  rw [show Str.ofString "\\" = txt [92] by decide +kernel, show Str.ofString "\\\\" = txt [92, 92] by decide +kernel]
  exact replace_call hs hu hv huv hl (by decide) (by decide) h
theorem rep_qq {l : List Nat} {t u v : Tok} (hs : 1 ≤ s.toks) (hu : @LE.le Nat _ 1 u) (hv : @LE.le Nat _ 1 v) (huv : @LT.lt Nat _ u v) (hl : l.length ≤ 1000000) (h : ∀ t' k, 1 ≤ k → (txt (rep 34 [34, 34] l)).length ≤ (txt l).length * 3 → Q (.str (txt (rep 34 [34, 34] l)) t') { s with toks := k }) :
    wpAny (model prog w) A (call (.builtin "str.replace") [.str (txt l) t, .str (Str.ofString "\"") u, .str (Str.ofString "\"\"") v]) Q E s := by
  rw [show Str.ofString "\"" = txt [34] by decide +kernel, show Str.ofString "\"\"" = txt [34, 34] by decide +kernel]
  exact replace_call hs hu hv huv hl (by decide) (by decide) h
theorem rep_bq {l : List Nat} {t u v : Tok} (hs : 1 ≤ s.toks) (hu : @LE.le Nat _ 1 u) (hv : @LE.le Nat _ 1 v) (huv : @LT.lt Nat _ u v) (hl : l.length ≤ 1000000) (h : ∀ t' k, 1 ≤ k → (txt (rep 34 [92, 34] l)).length ≤ (txt l).length * 3 → Q (.str (txt (rep 34 [92, 34] l)) t') { s with toks := k }) :
    wpAny (model prog w) A (call (.builtin "str.replace") [.str (txt l) t, .str (Str.ofString "\"") u, .str (Str.ofString "\\\"") v]) Q E s := by
  rw [show Str.ofString "\"" = txt [34] by decide +kernel, show Str.ofString "\\\"" = txt [92, 34] by decide +kernel]
  exact replace_call hs hu hv huv hl (by decide) (by decide) h
end
end Mine
end
theorem Mine.fresh13 : True := by
  w_top off
  k_with_none
  first | (walk1; fail) | trivial
section
open PySem PySem.W PyProof.Rows PySem.Calls
namespace Mine
local macro_rules | `(tactic| walk_at "call builtin:str.replace") => `(tactic| ((with_reducible show wpAny _ _ (call (Value.builtin "str.replace") [Value.str _ _, Value.str _ _, Value.str _ _]) _ _ _); (first
  | (refine rep_bs (by first | (dsimp only; omega) | (dsimp only at *; omega)) (by first | omega | (dsimp only at *; omega)) (by first | omega | (dsimp only at *; omega)) (by omega) ?hl ?_) | (refine rep_qq (by first | (dsimp only; omega) | (dsimp only at *; omega)) (by first | omega | (dsimp only at *; omega)) (by first | omega | (dsimp only at *; omega)) (by omega) ?hl ?_) | (refine rep_bq (by first | (dsimp only; omega) | (dsimp only at *; omega)) (by first | omega | (dsimp only at *; omega)) (by first | omega | (dsimp only at *; omega)) (by omega) ?hl ?_) | (refine rep_ud (by first | (dsimp only; omega) | (dsimp only at *; omega)) (by first | omega | (dsimp only at *; omega)) (by first | omega | (dsimp only at *; omega)) (by omega) ?hl ?_)); (case hl => (simp only [txt_len] at *; omega)); intro _ _ _ _))
noncomputable def esc (v : List Nat) : List Nat := rep 34 [92, 34] (rep 92 [92, 92] v)
noncomputable def fpOf (pa v : List Nat) : List Nat := if v = [] then pa else pa ++ 61 :: 34 :: (esc v ++ [34])
theorem fp_some {pa v : List Nat} (h : 0 < ((txt v).length : Int)) : Str.empty ++ txt pa ++ Str.ofString "=\"" ++ txt (rep 34 [92, 34] (rep 92 [92, 92] v)) ++ Str.ofString "\"" = txt (fpOf pa v) := by
  rw [show Str.empty = txt [] from rfl, show Str.ofString "=\"" = txt [61, 34] by decide +kernel, show Str.ofString "\"" = txt [34] by decide +kernel, txt_app, txt_app, txt_app, txt_app, fpOf, if_neg]
  · simp [esc]
  · rintro rfl; exact absurd h (by decide)
theorem fp_none {pa v : List Nat} (h : ¬ 0 < ((txt v).length : Int)) : txt pa = txt (fpOf pa v) := by
  have : v = [] := by
    cases v with
    | nil => rfl
    | cons c r => exact absurd (by show (0 : Int) < ((c :: r).length : Int); rw [List.length_cons]; omega) h
  rw [fpOf, if_pos this]
theorem keep_toks {M : Model} {A : Around} {α : Type} {t : Sem α} {Q : α → Shared → Prop} {E : Value → Shared → Prop} {h : Heap} {g d o} {n : Nat} (h1 : 1 ≤ n) (k : ∀ tk, 1 ≤ tk → wpAny M A t Q E ⟨h, g, d, tk, o⟩) : wpAny M A t Q E ⟨h, g, d, n, o⟩ := k n h1
local macro_rules | `(tactic| walk_at "execs cons") => `(tactic| ((refine keep_toks (by first | (dsimp only; omega) | (dsimp only at *; omega)) ?_); (intro tk hk1); (with_reducible refine wpAny_execs_cons ?_); (try dsimp only)))
local macro_rules | `(tactic| walk_at "execs nil") => `(tactic| ((refine keep_toks (by first | (dsimp only; omega) | (dsimp only at *; omega)) ?_); (intro tk hk1); (refine wpAny_execs_nil ?_); (try dsimp only)))
set_option maxRecDepth 100000 in
set_option maxHeartbeats 4000000 in
theorem fp_spec {w : World} {p : Program} {loose : List Str} {mean : ExcName → Option Value} {mg mb : Str → Option Value} {dp un : Nat} {gd : Option (List Code)} {cn : Str} {cs : Scope} {a : Addr} {ccd : Value} {cl : List (Str × Addr)} {outer : List Env} {A₀ : Around} {base h₀ : Heap} {L : Addr} {m : Str → Option Value} {news : List (Addr × Obj)} {s : Shared} {R : Result → Shared → Prop}
  (B : Below A₀ base outer h₀) (F : Fr h₀ L s.heap m) (X : (hd.heap_39 w.params).In h₀) (N : News h₀ L s.heap news) (T : Top p loose mean mg mb h₀) (hk : cs.kind = .function)
  (hdp : dp + 2 < recursionLimit) (hun : un + 20 < cLine) (hs : 1 ≤ s.toks) {t u : Tok} {pa v : List Nat} (hp : (txt pa).length ≤ 100) (hlen : (txt v).length ≤ 1000)
  (hret : ∀ t' h' tk', Fr h₀ L h' m → News h₀ L h' news → R (.ok (.ret (.str (txt (fpOf pa v)) t'))) { s with heap := h', toks := tk' }) :
  codeAny (model PySem.Challenge.rw_tp0038_01.row.prog w) (ktrTop dp un gd cn cs L a ccd cl outer) (.call (.ref 61) ⟨[.str (txt pa) t, .str (txt v) u], []⟩) R s := by
  revert X; k_fill; intro X
  walk_at "mine:enter"
  k_steps
  · rw [fp_some (by assumption)]
    exact hret _ _ _ (by k_asm) (by k_asm)
  · rw [fp_none (v := v) (by assumption)]
    exact hret _ _ _ (by k_asm) (by k_asm)
end Mine
end
theorem Mine.fresh14 : True := by
  w_top off
  k_with_none
  first | (walk1; fail) | trivial
section
open PySem PySem.W PyProof.Rows PySem.Calls PySem.Builtin PySem.Builtin.Re
set_option maxRecDepth 100000
namespace Mine
theorem slot_search : Slot "re.Pattern" "search" "re.Pattern.search" :=
  .of (owner := "re.Pattern") (n := "search") (by rw [typeLookup_type, builtinLookup_eq_fast]; kernel_rfl) (by decide +kernel) (by decide +kernel) (by decide +kernel)
    (by first | exact .inl (by decide +kernel) | exact .inr (by decide +kernel)) (by rw [isSubtype_type]; kernel_rfl)
theorem entry_search : entryFor table "re.Pattern.search" = some Builtin.«re.Pattern.search» := entryFor_of_tree (by kernel_rfl)
theorem type_search : typeOf (.builtin "re.Pattern.search") = pure (.type "method_descriptor") := by show builtinType _ = _; rw [builtinType_eq_fast]; kernel_rfl
theorem args_search (a b : Value) : argsOk "re.Pattern.search" ⟨[a, b], []⟩ := by unfold argsOk; kernel_rfl
theorem plain_pattern : PlainAttrs "re.Pattern" :=
  ⟨⟨"object.__getattribute__", by rw [typeLookup_type, builtinLookup_eq_fast]; kernel_rfl, by decide +kernel⟩, by rw [typeLookup_type, builtinLookup_eq_fast]; kernel_rfl⟩

/-- a sign that the first set of the code does not take -/
noncomputable def NotIn (code : Array Nat) (c : Nat) : Prop := ∀ seen, ∃ seen', Sre.inSet code c code.size 5 true seen = .ok (false, seen')
theorem admitted_none (m : Sre.M) (hc : ∀ s, s < m.lim → NotIn m.code (m.text.getD s 0)) : ∀ (fuel s : Nat) (seen : Sre.Seen), ∃ seen', Sre.M.admitted m fuel s seen = .ok (none, seen') := by
  intro fuel
  induction fuel with
  | zero => intro s seen; exact ⟨_, rfl⟩
  | succ n ih =>
    intro s seen
    unfold Sre.M.admitted
    by_cases h : s ≥ m.lim
    · rw [if_pos h]; exact ⟨_, rfl⟩
    · rw [if_neg h]
      obtain ⟨seen', e⟩ := hc s (by omega) seen
      rw [e]
      exact ih (s + 1) seen'
theorem attempt_none (m : Sre.M) (hi : (match Sre.ops[m.code.getD 0 0]? with | some .INFO => true | _ => false) = true) (h2 : m.code.getD 2 0 = 4) (hc : ∀ s, s < m.lim → NotIn m.code (m.text.getD s 0)) (s : Nat) (first : Bool) :
    (m.attemptFrom s first).outcome = m.outcome ∧ (m.attemptFrom s first).answer = some false ∧ (m.attemptFrom s first).frames = m.frames := by
  have hh : m.hasFirstSet = true := by
    show ((match Sre.ops[m.code.getD 0 0]? with | some .INFO => true | _ => false) && m.code.getD 2 0 == 4) = true
    rw [hi, h2]; rfl
  obtain ⟨seen', e⟩ := admitted_none m hc (m.lim + 1 - s) s m.seen
  unfold Sre.M.attemptFrom
  rw [hh, e]
  exact ⟨rfl, rfl, rfl⟩
theorem search_none {code text : Array Nat} {groups : Nat} (hi : (match Sre.ops[code.getD 0 0]? with | some .INFO => true | _ => false) = true) (h2 : code.getD 2 0 = 4) (hc : ∀ s, s < text.size → NotIn code (text.getD s 0)) :
    ∃ m, Sre.forSearch code text groups 0 text.size false = m ∧ m.outcome = none ∧ m.answer = some false ∧ m.frames = [] := by
  refine ⟨_, rfl, ?_⟩
  unfold Sre.forSearch
  dsimp only
  split
  · exact ⟨rfl, rfl, rfl⟩
  · exact attempt_none _ hi h2 hc 0 true
theorem run_fail (m : Sre.M) (h1 : m.outcome = none) (h2 : m.answer = some false) (h3 : m.frames = []) : (m.runFor 4).outcome = some .failed := by
  unfold Sre.M.runFor
  rw [h1]
  have e : m.step.outcome = some .failed := by
    unfold Sre.M.step
    rw [h1, h2, h3]
    rfl
  simp only [Option.isSome, Bool.false_eq_true, if_false]
  unfold Sre.M.runFor
  rw [e]
  simp only [Option.isSome, if_true]
  exact e
section
variable {prog : Program} {w : World} {A : Around} {E : Value → Shared → Prop} {s : Shared}
theorem drive_fail {m : Sre.M} {Q : Sre.M → Shared → Prop} (h1 : m.outcome = none) (h2 : m.answer = some false) (h3 : m.frames = []) (h : ∀ m', m'.outcome = some .failed → Q m' s) : wpAny (model prog w) A (reDrive (2 ^ 64) m) Q E s := by
  show wpAny (model prog w) A (reDrive (18446744073709551615 + 1) m) Q E s
  unfold reDrive
  dsimp only
  have e := run_fail m h1 h2 h3
  rw [show reTurnSteps = 4 from rfl, e]
  exact wpAny_pure (h _ e)
theorem rules_loop (l : List Nat) (has : Nat → Bool) {Q : PUnit → Shared → Prop} (h : Q ⟨⟩ s) :
    wpAny (model prog w) A (forIn l (⟨⟩ : PUnit) (fun i _ => if has i = true then (do rule (Sre.names.getD i ""); pure (ForInStep.yield ⟨⟩)) else (do pure PUnit.unit; pure (ForInStep.yield ⟨⟩))) : Sem PUnit) Q E s := by
  induction l with
  | nil => exact wpAny_pure h
  | cons i r ih =>
    rw [List.forIn_cons]
    refine wpAny_bind ?_
    cases has i with
    | true => exact wpAny_bind (wpAny_rule (wpAny_pure ih))
    | false => exact wpAny_pure ih
theorem toEnd_fail {m : Sre.M} {Q : Option Sre.M → Shared → Prop} (h1 : m.outcome = none) (h2 : m.answer = some false) (h3 : m.frames = []) (h : Q none s) : wpAny (model prog w) A (reRunToEnd m) Q E s := by
  unfold reRunToEnd
  refine wpAny_bind (drive_fail h1 h2 h3 fun m' e => ?_)
  refine wpAny_bind (rules_loop _ (fun i => m'.seen.has i) ?_)
  rw [e]
  exact wpAny_pure h
theorem named_search (v : Value) : reNamed "re.Pattern.search" "search" ["string", "pos", "endpos"] 1 [v] [] = pure [some v, none, none] := by
  kernel_rfl
theorem search_call {q c : Addr} {fs items : Array Value} {k : Nat} {oq oc : Obj} {code : Array Nat} {l : List Nat} {t : Tok} {Q : Value → Shared → Prop}
    (hq : s.heap.get? q = some oq) (hcl : oq.cls = .type "re.Pattern") (hqd : oq.data = .fields fs) (h5 : fs.getD 5 .none = .ref c) (h6 : reRawNat (fs.getD 6 .none) = 0) (hc : s.heap.get? c = some oc) (hcd : oc.data = .seq items k)
    (hcode : (items.map reRawOf).map (·.toNat) = code) (hi : (match Sre.ops[code.getD 0 0]? with | some .INFO => true | _ => false) = true) (h2 : code.getD 2 0 = 4) (hclean : ∀ x ∈ l, NotIn code x) (hlen : l.length ≤ 1000000) (h : Q .none s) :
    wpAny (model prog w) A (call (.builtin "re.Pattern.search") [.ref q, .str (txt l) t]) Q E s := by
  have hT : s.TypeIs (.ref q) "re.Pattern" := ⟨_, hq, hcl⟩
  refine wpAny_call (codeAny_call_builtin slot_search.plain entry_search (slot_search.check _ _ _ _ _ _ _ _ hT (args_search _ _) ?_))
  unfold Builtin.«re.Pattern.search» reTarget
  refine wpAny_bind ?_
  dsimp only
  rw [named_search]
  refine wpAny_bind (wpAny_pure ?_)
  dsimp only
  refine wpAny_bind (wpAny_pure ?_)
  refine wpAny_bind (wpAny_pure ?_)
  refine wpAny_bind (wpAny_fieldsOf hq hqd ?_)
  refine wpAny_bind (wpAny_pure ?_)
  dsimp only
  rw [h6, if_neg (by decide), if_neg (by decide)]
  refine wpAny_bind ?_
  unfold reNoCollectionInside
  rw [if_neg (by decide)]
  refine wpAny_pure ?_
  refine wpAny_bind ?_
  unfold reRawItems
  rw [h5]
  refine wpAny_bind ?_
  unfold seqItems?
  refine wpAny_bind (wpAny_load hc ?_)
  rw [hcd]
  refine wpAny_pure (wpAny_pure (wpAny_pure ?_))
  dsimp only [Option.getD]
  rw [hcode]
  have e1 : Min.min (Int.toNat 0) (txt l).cps.size = 0 := by simp
  have e2 : Min.min ((2 : Int) ^ 63 - 1).toNat (txt l).cps.size = (txt l).cps.size := by
    have : (txt l).cps.size = l.length := by show l.toArray.size = _; rw [List.size_toArray]
    rw [this]
    have : ((2 : Int) ^ 63 - 1).toNat = 9223372036854775807 := by decide
    omega
  rw [e1, e2]
  obtain ⟨m, em, m1, m2, m3⟩ := search_none (text := (txt l).cps) (groups := reRawNat (fs.getD 2 Value.none)) hi h2 (by
    intro j hj
    refine hclean _ ?_
    have hj' : j < l.length := by have : (txt l).cps.size = l.length := by { show l.toArray.size = _; rw [List.size_toArray] }
                                  omega
    have : (txt l).cps.getD j 0 = l[j] := by simp [Array.getD, hj']
    rw [this]
    exact List.getElem_mem hj')
  rw [em]
  unfold reAnswer
  refine wpAny_bind (toEnd_fail m1 m2 m3 ?_)
  exact wpAny_pure h
theorem search_method {q : Addr} {oq : Obj} {pl : Sem Bool} {Q : Value × List Value → Shared → Prop} (hq : s.heap.get? q = some oq) (hcl : oq.cls = .type "re.Pattern") (hd : oq.dict = none) (h : Q (.builtin "re.Pattern.search", [.ref q]) s) :
    wpAny (model prog w) A (getMethod (.ref q) (Str.ofString "search") pl) Q E s :=
  getMethod_builtin ⟨_, hq, hcl⟩ plain_pattern slot_search type_search (fun a e => by cases e; exact ⟨_, hq, hd⟩) h
end
/-- a pattern of the written part, with its code -/
noncomputable def patIn (K : Frag) (q : Addr) (code : List Nat) : Bool := match K.lookup q with
  | some ⟨.type "re.Pattern", none, .fields fs, _⟩ => reRawNat (fs.getD 6 .none) == 0 && (match fs.getD 5 .none with
    | .ref c => (match K.lookup c with
      | some ⟨_, _, .seq items _, _⟩ => (items.toList.map fun v => (reRawOf v).toNat) == code
      | _ => false)
    | _ => false)
  | _ => false
noncomputable def valueCode : List Nat := [14, 14, 4, 1, 1, 9, 4294966783, 0, 0, 2147483648, 0, 0, 0, 0, 0, 13, 11, 9, 4294966783, 0, 0, 2147483648, 0, 0, 0, 0, 0, 1]
noncomputable def nameCode : List Nat := [14, 10, 4, 1, 1, 22, 0, 31, 16, 127, 0, 13, 7, 22, 0, 31, 16, 127, 0, 1]
theorem charset_no : ∀ c : Fin 256, 32 ≤ c.val → c.val ≠ 127 → (valueCode.toArray.getD (5 + (1 + c.val / 32)) 0).testBit (c.val % 32) = false := by decide +kernel
theorem not_in_value {c : Nat} (h : 32 ≤ c) (h7 : c ≠ 127) : NotIn valueCode.toArray c := by
  intro seen
  have e : ¬ ((decide (c < 256) && (valueCode.toArray.getD (5 + (1 + c / 32)) 0).testBit (c % 32)) = true) := by
    by_cases hb : c < 256
    · rw [charset_no ⟨c, hb⟩ h h7, Bool.and_false]; decide
    · rw [decide_eq_false hb, Bool.false_and]; decide
  refine ⟨(seen.add 9).add 0, ?_⟩
  show Sre.inSet valueCode.toArray c (27 + 1) 5 true seen = _
  unfold Sre.inSet
  show (if (decide (c < 256) && (valueCode.toArray.getD (5 + (1 + c / 32)) 0).testBit (c % 32)) = true then _ else _) = _
  rw [if_neg e]
  show Sre.inSet valueCode.toArray c (26 + 1) 14 true _ = _
  unfold Sre.inSet
  rfl
theorem not_in_name {c : Nat} (h : 32 ≤ c) (h7 : c ≠ 127) : NotIn nameCode.toArray c := by
  intro seen
  have e1 : ¬ ((decide (nameCode.toArray.getD (5 + 1) 0 ≤ c) && decide (c ≤ nameCode.toArray.getD (5 + 2) 0)) = true) := by
    have : nameCode.toArray.getD (5 + 2) 0 = 31 := rfl
    rw [this, decide_eq_false (show ¬ c ≤ 31 by omega), Bool.and_false]; decide
  have e2 : ¬ ((c == nameCode.toArray.getD (8 + 1) 0) = true) := by
    have : nameCode.toArray.getD (8 + 1) 0 = 127 := rfl
    rw [this]; simpa using h7
  refine ⟨((seen.add 22).add 16).add 0, ?_⟩
  show Sre.inSet nameCode.toArray c (19 + 1) 5 true seen = _
  unfold Sre.inSet
  show (if (decide (nameCode.toArray.getD (5 + 1) 0 ≤ c) && decide (c ≤ nameCode.toArray.getD (5 + 2) 0)) = true then _ else _) = _
  rw [if_neg e1]
  show Sre.inSet nameCode.toArray c (18 + 1) 8 true _ = _
  unfold Sre.inSet
  show (if (c == nameCode.toArray.getD (8 + 1) 0) = true then _ else _) = _
  rw [if_neg e2]
  show Sre.inSet nameCode.toArray c (17 + 1) 10 true _ = _
  unfold Sre.inSet
  rfl
section
variable {prog : Program} {w : World} {A : Around} {E : Value → Shared → Prop} {s : Shared}
theorem pat_search {K : Frag} {q : Addr} {code : List Nat} {l : List Nat} {t : Tok} {Q : Value → Shared → Prop} (X : K.In s.heap) (hp : patIn K q code = true)
    (hi : (match Sre.ops[code.toArray.getD 0 0]? with | some .INFO => true | _ => false) = true) (h2 : code.toArray.getD 2 0 = 4) (hclean : ∀ x ∈ l, NotIn code.toArray x) (hlen : l.length ≤ 1000000) (h : Q .none s) :
    wpAny (model prog w) A (call (.builtin "re.Pattern.search") [.ref q, .str (txt l) t]) Q E s := by
  unfold patIn at hp
  split at hp
  · rename_i fs sl e
    rw [Bool.and_eq_true] at hp
    obtain ⟨h6, hp⟩ := hp
    split at hp
    · rename_i c e5
      split at hp
      · rename_i oc od items k sl' e'
        refine search_call (code := code.toArray) (X _ _ e) rfl rfl e5 (beq_iff_eq.mp h6) (X _ _ e') rfl ?_ hi h2 hclean hlen h
        have := beq_iff_eq.mp hp
        apply Array.ext'
        simp only [Array.toList_map, List.map_map]
        rw [← this]
        rfl
      · cases hp
    · cases hp
  · cases hp
theorem pat_method {K : Frag} {q : Addr} {code : List Nat} {pl : Sem Bool} {Q : Value × List Value → Shared → Prop} (X : K.In s.heap) (hp : patIn K q code = true) (h : Q (.builtin "re.Pattern.search", [.ref q]) s) :
    wpAny (model prog w) A (getMethod (.ref q) (Str.ofString "search") pl) Q E s := by
  unfold patIn at hp
  split at hp
  · rename_i fs sl e
    exact search_method (X _ _ e) rfl rfl h
  · cases hp
end
noncomputable def Clean (l : List Nat) : Prop := ∀ x ∈ l, 32 ≤ x ∧ x ≠ 127
section
variable {prog : Program} {w : World} {A : Around} {E : Value → Shared → Prop} {s : Shared} {h₀ : Heap} {L : Addr} {m : Str → Option Value}
theorem name_searchF {K : Frag} {q : Addr} {l : List Nat} {t : Tok} {Q : Value → Shared → Prop} (F : Fr h₀ L s.heap m) (X : K.In h₀) (hp : patIn K q nameCode = true) (hc : Clean l) (hlen : (txt l).length ≤ 1000000) (h : Q .none s) :
    wpAny (model prog w) A (call (.builtin "re.Pattern.search") [.ref q, .str (txt l) t]) Q E s :=
  pat_search (X.keeps F.keep) hp rfl rfl (fun x hx => not_in_name (hc x hx).1 (hc x hx).2) hlen h
theorem value_searchF {K : Frag} {q : Addr} {l : List Nat} {t : Tok} {Q : Value → Shared → Prop} (F : Fr h₀ L s.heap m) (X : K.In h₀) (hp : patIn K q valueCode = true) (hc : Clean l) (hlen : (txt l).length ≤ 1000000) (h : Q .none s) :
    wpAny (model prog w) A (call (.builtin "re.Pattern.search") [.ref q, .str (txt l) t]) Q E s :=
  pat_search (X.keeps F.keep) hp rfl rfl (fun x hx => not_in_value (hc x hx).1 (hc x hx).2) hlen h
theorem name_methodF {K : Frag} {q : Addr} {pl : Sem Bool} {Q : Value × List Value → Shared → Prop} (F : Fr h₀ L s.heap m) (X : K.In h₀) (hp : patIn K q nameCode = true) (h : Q (.builtin "re.Pattern.search", [.ref q]) s) :
    wpAny (model prog w) A (getMethod (.ref q) (Str.ofString "search") pl) Q E s := pat_method (X.keeps F.keep) hp h
theorem value_methodF {K : Frag} {q : Addr} {pl : Sem Bool} {Q : Value × List Value → Shared → Prop} (F : Fr h₀ L s.heap m) (X : K.In h₀) (hp : patIn K q valueCode = true) (h : Q (.builtin "re.Pattern.search", [.ref q]) s) :
    wpAny (model prog w) A (getMethod (.ref q) (Str.ofString "search") pl) Q E s := pat_method (X.keeps F.keep) hp h
end
end Mine
end
theorem Mine.fresh15 : True := by
  w_top off
  k_with_none
  first | (walk1; fail) | trivial
section
open PySem PySem.W PyProof.Rows PySem.Calls
namespace Mine
theorem pat48 (w : World) : patIn (hd.heap_39 w.params) 48 nameCode = true := by kernel_rfl
theorem pat53 (w : World) : patIn (hd.heap_39 w.params) 53 valueCode = true := by kernel_rfl
local macro_rules | `(tactic| walk_at "getMethod ref") => `(tactic| (k_here; first
  | k_dflt (refine' name_methodF ?F ?X ?zz ?_; (case F => k_asm); (case X => k_asm); (case zz => exact pat48 _); k_whole)
  | k_dflt (refine' value_methodF ?F ?X ?zz ?_; (case F => k_asm); (case X => k_asm); (case zz => exact pat53 _); k_whole)))
local macro_rules | `(tactic| walk_at "call builtin:re.Pattern.search") => `(tactic| (k_here; first
  | k_dflt (refine' name_searchF ?F ?X ?zz ?zc ?zl ?_; (case F => k_asm); (case X => k_asm); (case zz => exact pat48 _); (case zc => assumption); (case zl => omega); k_whole)
  | k_dflt (refine' value_searchF ?F ?X ?zz ?zc ?zl ?_; (case F => k_asm); (case X => k_asm); (case zz => exact pat53 _); (case zc => assumption); (case zl => omega); k_whole)))
set_option maxRecDepth 100000 in
set_option maxHeartbeats 4000000 in
theorem conv_spec {w : World} {p : Program} {loose : List Str} {mean : ExcName → Option Value} {mg mb : Str → Option Value} {dp un : Nat} {gd : Option (List Code)} {cn : Str} {cs : Scope} {a : Addr} {ccd : Value} {cl : List (Str × Addr)} {outer : List Env} {A₀ : Around} {base h₀ : Heap} {L : Addr} {m : Str → Option Value} {news : List (Addr × Obj)} {s : Shared} {R : Result → Shared → Prop}
  (B : Below A₀ base outer h₀) (F : Fr h₀ L s.heap m) (X : (hd.heap_39 w.params).In h₀) (N : News h₀ L s.heap news) (T : Top p loose mean mg mb h₀) (hk : cs.kind = .function)
  (hdp : dp + 2 < recursionLimit) (hun : un + 20 < cLine) {hx : Addr} {t : Tok} {x : Str} {b : Bool} (hlen : x.length ≤ 1000) (hcl : Clean x.cps.toList)
  (hret : ∀ h' tk', Fr h₀ L h' m → News h₀ L h' news → R (.ok (.ret (.str x t))) { s with heap := h', toks := tk' }) :
  codeAny (model PySem.Challenge.rw_tp0038_01.row.prog w) (ktrTop dp un gd cn cs L a ccd cl outer) (.call (.ref 83) ⟨[.ref hx, .str x t], [(Str.ofString "name", .bool b)]⟩) R s := by
  obtain ⟨v, rfl⟩ : ∃ v, x = txt v := ⟨x.cps.toList, rfl⟩
  change Clean v at hcl
  revert X; k_fill; intro X
  walk_at "mine:enter"
  k_steps
  all_goals exact hret _ _ (by k_asm) (by k_asm)
end Mine
end
theorem Mine.fresh16 : True := by
  w_top off
  k_with_none
  first | (walk1; fail) | trivial
section
open PySem PySem.W PyProof.Rows PySem.Calls
namespace Mine
/-- a text whose marks are laid twice, then a mark and what is no mark -/
theorem p257_twice (v : List Nat) (c : Nat) (t : List Nat) (hc : c ≠ 34) : p257 (rep 34 [34, 34] v ++ 34 :: c :: t) = v := by
  induction v with
  | nil => exact p257_34 c t hc
  | cons k r ih =>
    by_cases h : k = 34
    · subst h
      rw [rep, if_pos rfl]
      show p257 (34 :: 34 :: (rep 34 [34, 34] r ++ 34 :: c :: t)) = _
      rw [p257_3434, ih]
    · rw [rep, if_neg h]
      show p257 (k :: (rep 34 [34, 34] r ++ 34 :: c :: t)) = _
      rw [p257_c _ _ h, ih]
theorem inq_esc (v : List Nat) (r : List Nat) : InQ (esc v ++ 34 :: r) v r := by
  unfold esc
  induction v with
  | nil => exact .close r
  | cons k v ih =>
    by_cases h : k = 92
    · subst h
      rw [rep, if_pos rfl]
      show InQ (rep 34 [92, 34] (92 :: 92 :: rep 92 [92, 92] v) ++ 34 :: r) _ r
      rw [rep, if_neg (by decide), rep, if_neg (by decide)]
      exact .esc _ _ _ _ ih
    · rw [rep, if_neg h]
      by_cases h2 : k = 34
      · subst h2
        rw [rep, if_pos rfl]
        exact .esc _ _ _ _ ih
      · rw [rep, if_neg h2]
        exact .plain _ _ _ _ h2 h ih
theorem gt_skip {ws : List Nat} {c : Nat} {x : List Nat} {ts : List (List Nat)} {z : List Nat} (hc : c ∈ ws) (hne : ts ≠ []) (h : GTs ws x ts z) : GTs ws (c :: x) ts z := by
  cases h with
  | nil => exact absurd rfl hne
  | cons g gs => exact .cons (.skip _ _ _ _ hc g) gs
noncomputable abbrev tailTxt : List Nat := [32, 116, 111, 32, 34, 105, 116, 34]
end Mine
end
theorem Mine.fresh17 : True := by
  w_top off
  k_with_none
  first | (walk1; fail) | trivial
section
open PySem PySem.W PyProof.Rows PySem.Calls
namespace Mine
noncomputable abbrev tupOf (l : Addr) (x : Str) (t : Tok) : Obj := { cls := .type "tuple", data := .seq #[.ref l, .str x t] }
theorem eqAt_strs {A : Around} {s : Shared} {xs ys : List Value} {l : List Str} (hx : StrsAre xs l) (hy : StrsAre ys l) : ∀ j (h1 : j < xs.toArray.size) (h2 : j < ys.toArray.size), PySem.SeqAt.EqAt A s xs.toArray[j] ys.toArray[j] true := by
  intro j h1 h2
  have e1 : xs[j]? = some xs.toArray[j] := by simpa using h1
  have e2 : ys[j]? = some ys.toArray[j] := by simpa using h2
  obtain ⟨a, t, ea, la⟩ := hx.item j _ e1
  obtain ⟨b, u, eb, lb⟩ := hy.item j _ e2
  rw [ea, eb]
  rw [la] at lb
  injection lb with lb
  subst lb
  have := PySem.SeqAt.EqAt.str_str (A := A) (s := s) a t a u
  rwa [beq_self_eq_true] at this
section
variable {prog : Program} {w : World} {A : Around} {E : Value → Shared → Prop} {s : Shared} {Q : Value → Shared → Prop} {h₀ : Heap} {L : Addr} {news : List (Addr × Obj)} {a b c d : Addr} {xs ys : List Value} {l : List Str} {x : Str} {t u : Tok} {n m : Nat}
theorem eqAt_lists {A : Around} (N : News h₀ L s.heap news) (hc : (c, listOf xs.toArray n) ∈ news) (hd : (d, listOf ys.toArray m) ∈ news) (hx : StrsAre xs l) (hy : StrsAre ys l) (hu : A.units < cLine) : PySem.SeqAt.EqAt A s (.ref c) (.ref d) true := by
  by_cases e : c = d
  · subst e; exact PySem.SeqAt.EqAt.same _
  · refine PySem.SeqAt.EqAt.of_refs e ?_
    have hz : xs.toArray.size = ys.toArray.size := by simpa using hx.len_eq.trans hy.len_eq.symm
    have h := PySem.SeqAt.RcAt.lists (A := A) (s := s) (e := fun _ => true) (News.isList N hc) (News.isList N hd) hz hu (eqAt_strs hx hy)
    have e2 : (List.range xs.toArray.size).all (fun _ => true) = true := List.all_eq_true.mpr fun _ _ => rfl
    rw [e2] at h
    exact h
theorem in1_units (A : Around) : A.in1.units ≤ A.units + 1 := by
  show A.units + _ ≤ _
  exact Nat.le_refl _
/-- a list of statements in two parts -/
inductive Cut {α : Type} : List α → List α → List α → Prop
  | here (l : List α) : Cut l [] l
  | step {l a b : List α} (x : α) : Cut l a b → Cut (x :: l) (x :: a) b
noncomputable def Held (P : Prop) : Prop := P
/-- what a stage has to show, with a token at hand -/
noncomputable def HeldT (n : Nat) (P : Prop) : Prop := 1 ≤ n → P
theorem stage {M : Model} {P : Shared → Prop} {l l1 l2 : List Stmt} {env : Env} {Q : Flow → Shared → Prop} (hs : Cut l l1 l2) (hk : 1 ≤ s.toks) (h1 : wpAny M A (execs l1 env) (fun f s' => HeldT s'.toks (f = .next ∧ P s')) E s) (h2 : ∀ s', P s' → wpAny M A (execs l2 env) Q E s') : wpAny M A (execs l env) Q E s := by
  have h3 : wpAny M A (execs l1 env) (fun f s' => f = .next ∧ P s') E s := wpAny_with_toks hk (wpAny_mono h1 (fun _ _ x => x) fun _ _ x _ => x)
  clear h1 hk
  intro Γ p hΓ
  replace h1 := h3 Γ p hΓ
  clear h3
  revert h1
  induction hs generalizing s p with
  | here l =>
    intro h1
    exact h2 s (show _ ∧ _ from h1).2 Γ p hΓ
  | step x hc ih =>
    intro h1
    rw [execs_cons, Sem.wp_bind'] at h1 ⊢
    refine Sem.wp_mono M Γ _ (fun f p' s' h' => ?_) (fun _ _ _ h' => h') _ _ h1
    cases f with
    | next => exact ih h2 p' h'
    | _ => exact absurd (show _ ∧ _ from h').1 (by simp)
end
end Mine
end
theorem Mine.fresh18 : True := by
  w_top off
  k_with_none
  first | (walk1; fail) | trivial
section
open PySem PySem.W PyProof.Rows PySem.Calls
set_option maxRecDepth 100000
namespace Mine
/-- the five names, small and great -/
noncomputable def nm (i : Fin 5) (u : Bool) : List Nat := match i, u with
  | 0, false => [97] | 0, true => [65]
  | 1, false => [98, 34] | 1, true => [66, 34]
  | 2, false => [99, 92] | 2, true => [67, 92]
  | 3, false => [100, 32, 61] | 3, true => [68, 32, 61]
  | 4, false => [101, 59] | 4, true => [69, 59]
noncomputable abbrev homeTxt : List Nat := [32, 105, 115, 32, 104, 111, 109, 101]
/-- the reply that names a home -/
noncomputable def rpl (j : Fin 5) : List Nat := 50 :: 53 :: 55 :: 32 :: 34 :: (rep 34 [34, 34] (nm j false) ++ 34 :: homeTxt)
theorem low_nm (i : Fin 5) (u : Bool) : Txt.lower (txt (nm i u)) = txt (nm i false) := by revert i u; decide +kernel
theorem low_ok (i : Fin 5) (u : Bool) : PySem.Builtin.Str.tooLong (Txt.lower (txt (nm i u))).length = false := by revert i u; decide +kernel
theorem up_nm (i : Fin 5) (u : Bool) : Txt.upper (txt (nm i u)) = txt (nm i true) := by revert i u; decide +kernel
theorem up_ok (i : Fin 5) (u : Bool) : PySem.Builtin.Str.tooLong (Txt.upper (txt (nm i u))).length = false := by revert i u; decide +kernel
theorem nm_len (i : Fin 5) (u : Bool) : (txt (nm i u)).length ≤ 3 := by revert i u; decide +kernel
theorem rpl_len (j : Fin 5) : (txt (rpl j)).length ≤ 20 := by revert j; decide +kernel
theorem nm_clean (i : Fin 5) (u : Bool) : Clean (nm i u) := by
  have : ∀ i u, ∀ x ∈ nm i u, 32 ≤ x ∧ x ≠ 127 := by decide +kernel
  exact this i u
theorem rpl_clean (j : Fin 5) : Clean (rpl j) := by
  have : ∀ j, ∀ x ∈ rpl j, 32 ≤ x ∧ x ≠ 127 := by decide +kernel
  exact this j
theorem nm_inj {i j : Fin 5} {u v : Bool} (h : nm i u = nm j v) : i = j ∧ u = v := by
  have : ∀ i j u v, nm i u = nm j v → i = j ∧ u = v := by decide +kernel
  exact this i j u v h
theorem nm_ne (i : Fin 5) (u : Bool) : nm i u ≠ [] := by revert i u; decide +kernel
theorem rpl_inj {i j : Fin 5} (h : rpl i = rpl j) : i = j := by
  have : ∀ i j, rpl i = rpl j → i = j := by decide +kernel
  exact this i j h
theorem nm_beq (i j : Fin 5) : (txt (nm i false) == txt (nm j false)) = decide (i = j) := by
  by_cases h : i = j
  · subst h; simp
  · rw [decide_eq_false h]
    exact beq_eq_false_iff_ne.mpr fun e => h (nm_inj (txt_inj e)).1
theorem nm_bne (i j : Fin 5) : (txt (nm i false) != txt (nm j false)) = decide (i ≠ j) := by
  rw [bne, nm_beq]; by_cases h : i = j <;> simp [h]
theorem rpl_bne (i j : Fin 5) : (txt (rpl i) != txt (rpl j)) = decide (i ≠ j) := by
  by_cases h : i = j
  · subst h; simp
  · rw [decide_eq_true h]
    exact bne_iff_ne.mpr fun e => h (rpl_inj (txt_inj e))
theorem p257_rpl (j : Fin 5) : p257 (rep 34 [34, 34] (nm j false) ++ 34 :: homeTxt) = nm j false := p257_twice _ _ _ (by decide)
/-- a row of a table: the name's place, its case, the file's home -/
noncomputable abbrev Row := Fin 5 × Bool × Fin 5
noncomputable abbrev rowObj (r : Row) (ta tb : Tok) : Obj := { cls := .type "tuple", data := .seq #[.str (txt (nm r.1 r.2.1)) ta, .str (txt (rpl r.2.2)) tb] }
inductive TabIn (led : List (Addr × Obj)) : List Value → List Row → Prop
  | nil : TabIn led [] []
  | cons {tp : Addr} {ta tb : Tok} {r : Row} {items rows} (h : List.Mem (tp, rowObj r ta tb) led) : TabIn led items rows → TabIn led (.ref tp :: items) (r :: rows)
theorem TabIn.mono {r1 r2 : List (Addr × Obj)} {items : List Value} {rows : List Row} (h : TabIn r1 items rows) (hs : ∀ p, List.Mem p r1 → List.Mem p r2) : TabIn r2 items rows := by
  induction h with
  | nil => exact .nil
  | cons hm _ ih => exact .cons (hs _ hm) ih
theorem TabIn.snoc {r1 : List (Addr × Obj)} {items : List Value} {rows : List Row} (h : TabIn r1 items rows) {tp : Addr} {ta tb : Tok} {r : Row} (hm : List.Mem (tp, rowObj r ta tb) r1) : TabIn r1 (items ++ [.ref tp]) (rows ++ [r]) := by
  induction h with
  | nil => exact .cons hm .nil
  | cons h1 _ ih => exact .cons h1 ih
theorem TabIn.len {rest : List (Addr × Obj)} {items : List Value} {rows : List Row} (h : TabIn rest items rows) : items.length = rows.length := by
  induction h with
  | nil => rfl
  | cons _ _ ih => rw [List.length_cons, List.length_cons, ih]
theorem TabIn.at {rest : List (Addr × Obj)} {items : List Value} {rows : List Row} (h : TabIn rest items rows) : ∀ (i : Nat) (v : Value), items.toArray[i]? = some v → ∃ tp ta tb r, v = .ref tp ∧ rows[i]? = some r ∧ List.Mem (tp, rowObj r ta tb) rest := by
  induction h with
  | nil => intro i v e; simp at e
  | @cons tp ta tb r items rows hm _ ih =>
    intro i v e
    cases i with
    | zero => simp at e; exact ⟨tp, ta, tb, r, e.symm, rfl, hm⟩
    | succ i =>
      obtain ⟨tp', ta', tb', r', e1, e2, e3⟩ := ih i v (by simpa using e)
      exact ⟨tp', ta', tb', r', e1, by simpa using e2, e3⟩
/-- the home that a table gives for a name -/
noncomputable def look (i : Fin 5) : List Row → Option (Fin 5)
  | [] => none
  | r :: rows => if r.1 = i then some r.2.2 else look i rows
/-- a table without the rows of a name -/
noncomputable def drop1 (i : Fin 5) (rows : List Row) : List Row := rows.filter fun r => decide (r.1 ≠ i)
end Mine
end
theorem Mine.fresh19 : True := by
  w_top off
  k_with_none
  first | (walk1; fail) | trivial
local macro_rules | `(tactic| walk_at "call builtin:str.lower") => `(tactic| (refine KXw.lower (low_nm _ _) (low_ok _ _) ?_; intro _ _))
local macro_rules | `(tactic| walk_at "call ref") => `(tactic| (refine wpAny_call (conv_spec (by k_asm) (by k_asm) (by k_asm) (by k_asm) (by k_asm) rfl (by ktr_room) (by ktr_units) (by first | exact Nat.le_trans (nm_len _ _) (by decide) | exact Nat.le_trans (rpl_len _) (by decide)) (by first | exact nm_clean _ _ | exact rpl_clean _) ?_); intro h' tk' F' N'))
local macro_rules | `(tactic| walk_at "call builtin:str.upper") => `(tactic| (refine KXw.upper (up_nm _ _) (up_ok _ _) ?_; intro _ _))
section
open PySem PySem.W PyProof.Rows PySem.Calls
set_option maxRecDepth 100000
namespace Mine
/-- all orders of the five letters -/
noncomputable def insAll (x : Nat) : List Nat → List (List Nat)
  | [] => [[x]]
  | y :: r => (x :: y :: r) :: (insAll x r).map (y :: ·)
noncomputable def permsOf : List Nat → List (List Nat)
  | [] => [[]]
  | x :: r => ((permsOf r).map (insAll x)).flatten
noncomputable def orders : List (List Nat) := permsOf [97, 98, 99, 100, 101]
noncomputable def goalSt : List Nat := [97, 98, 99, 100, 101]
/-- the file of home c goes to the free place -/
noncomputable def swp (st : List Nat) (c : Nat) : List Nat := rep 45 [c] (rep c [101] (rep 101 [45] st))
noncomputable def placeOf (x : Nat) : List Nat → Nat
  | [] => 0
  | y :: r => if y = x then 0 else placeOf x r + 1
/-- the file to move: the free place's own, or the first one away -/
noncomputable def pick (st : List Nat) : Nat := if placeOf 101 st = 4 then ([97, 98, 99, 100].find? fun c => st.getD (c - 97) 0 != c).getD 0 else 97 + placeOf 101 st
noncomputable def phiN : Nat → List Nat → Nat
  | 0, _ => 0
  | n + 1, st => if st = goalSt then 0 else 1 + phiN n (swp st (pick st))
noncomputable def phi (st : List Nat) : Nat := phiN 8 st
theorem orders_facts : ∀ st ∈ orders, st.length = 5 ∧ phi st ≤ 6 ∧ (phi st = 0 → st = goalSt) ∧ (∀ c ∈ [97, 98, 99, 100], swp st c ∈ orders ∧ phi st ≤ phi (swp st c) + 1) ∧ (phi st = 0 ∨ ∃ c ∈ [97, 98, 99, 100], phi (swp st c) + 1 = phi st) := by decide +kernel
theorem phi_goal : phi goalSt = 0 := by decide +kernel
/-- a move that the plan makes is a move ahead -/
theorem plan_facts : ∀ st ∈ orders, ∀ c ∈ [97, 98, 99, 100], (if placeOf 101 st = 4 then st.getD (c - 97) 0 ≠ c else c = 97 + placeOf 101 st) → phi (swp st c) + 1 = phi st := by decide +kernel
end Mine
end
theorem Mine.fresh20 : True := by
  w_top off
  k_with_none
  first | (walk1; fail) | trivial
section
open PySem PySem.W PyProof.Rows PySem.Calls
set_option maxRecDepth 100000
namespace Mine
noncomputable abbrev abcd : List Nat := [97, 98, 99, 100]
/-- the search ahead of a round -/
structure Inv (st : List Nat) (r : Nat) (c : List (Str × Int)) (fs : List (List Nat)) : Prop where
  front : ∀ x ∈ fs, x ∈ orders ∧ kdpHas c (txt x) = true
  keys : ∀ k, kdpHas c (txt k) = true → k ∈ orders ∧ phi st ≤ phi k + r
  best : ∃ x ∈ fs, phi x + r = phi st
  fl : fs.length ≤ 4 ^ r
  cl : c.length ≤ 2 * 4 ^ r
  rl : r ≤ 6
/-- the search within a round; D: the orders looked at -/
structure LInv (st : List Nat) (r n0 : Nat) (D : List (List Nat)) (c : List (Str × Int)) (bs : List (List Nat)) : Prop where
  keys : ∀ k, kdpHas c (txt k) = true → k ∈ orders ∧ (phi st ≤ phi k + r ∨ k ∈ bs)
  new : ∀ x ∈ bs, x ∈ orders ∧ kdpHas c (txt x) = true ∧ phi st ≤ phi x + (r + 1)
  seen : ∀ y ∈ D, kdpHas c (txt y) = true
  bl : bs.length ≤ D.length
  cl : c.length ≤ n0 + D.length
theorem LInv.start {st : List Nat} {r : Nat} {c : List (Str × Int)} {fs : List (List Nat)} (h : Inv st r c fs) : LInv st r c.length [] c [] :=
  ⟨fun k hk => ⟨(h.keys k hk).1, .inl (h.keys k hk).2⟩, (fun _ h => nomatch h), (fun _ h => nomatch h), Nat.le_refl _, by simp⟩
theorem nbr_facts {x : List Nat} (hx : x ∈ orders) {a : Nat} (ha : a ∈ abcd) : swp x a ∈ orders ∧ phi x ≤ phi (swp x a) + 1 := (orders_facts x hx).2.2.2.1 a ha
theorem LInv.add {st : List Nat} {r n0 : Nat} {D bs : List (List Nat)} {c : List (Str × Int)} (h : LInv st r n0 D c bs) {x : List Nat} (hx : x ∈ orders) (hp : phi st ≤ phi x + r) {a : Nat} (ha : a ∈ abcd) (e : Int) :
    LInv st r n0 (D ++ [swp x a]) (kdpPut c (txt (swp x a)) e) (bs ++ [swp x a]) := by
  obtain ⟨f1, f2⟩ := nbr_facts hx ha
  refine ⟨fun k hk => ?_, fun y hy => ?_, fun y hy => ?_, ?_, ?_⟩
  · rw [kdpHas_put, Bool.or_eq_true, decide_eq_true_eq] at hk
    rcases hk with hk | hk
    · rw [txt_inj hk]; exact ⟨f1, .inr (List.mem_append_right _ (.head _))⟩
    · obtain ⟨h1, h2⟩ := h.keys k hk
      exact ⟨h1, h2.imp id fun h => List.mem_append_left _ h⟩
  · rcases List.mem_append.mp hy with hy | hy
    · obtain ⟨h1, h2, h3⟩ := h.new y hy
      exact ⟨h1, by rw [kdpHas_put, h2, Bool.or_true], h3⟩
    · rw [List.mem_singleton.mp hy]
      exact ⟨f1, by rw [kdpHas_put]; simp, by omega⟩
  · rcases List.mem_append.mp hy with hy | hy
    · rw [kdpHas_put, h.seen y hy, Bool.or_true]
    · rw [List.mem_singleton.mp hy, kdpHas_put]; simp
  · rw [List.length_append, List.length_append]; have := h.bl; simp; omega
  · have h1 := kdpPut_len c (txt (swp x a)) e
    have h2 := h.cl
    rw [List.length_append, List.length_singleton]; omega
theorem LInv.old {st : List Nat} {r n0 : Nat} {D bs : List (List Nat)} {c : List (Str × Int)} (h : LInv st r n0 D c bs) {y : List Nat} (hy : kdpHas c (txt y) = true) : LInv st r n0 (D ++ [y]) c bs := by
  refine ⟨h.keys, h.new, fun z hz => ?_, ?_, ?_⟩
  · rcases List.mem_append.mp hz with hz | hz
    · exact h.seen z hz
    · rw [List.mem_singleton.mp hz]; exact hy
  · rw [List.length_append]; have := h.bl; omega
  · rw [List.length_append]; have := h.cl; omega
noncomputable def nbrs : List (List Nat) → List (List Nat)
  | [] => []
  | x :: r => abcd.map (swp x) ++ nbrs r
theorem nbrs_snoc (x : List Nat) : ∀ fs, nbrs (fs ++ [x]) = nbrs fs ++ abcd.map (swp x)
  | [] => by simp [nbrs]
  | y :: r => by rw [List.cons_append, nbrs, nbrs_snoc x r, nbrs, List.append_assoc]
theorem nbrs_mem {x : List Nat} {a : Nat} (ha : a ∈ abcd) : ∀ {fs : List (List Nat)}, x ∈ fs → swp x a ∈ nbrs fs
  | y :: r, h => by
    rcases List.mem_cons.mp h with rfl | h
    · exact List.mem_append_left _ (List.mem_map.mpr ⟨a, ha, rfl⟩)
    · exact List.mem_append_right _ (nbrs_mem ha h)
theorem nbrs_len : ∀ fs : List (List Nat), (nbrs fs).length = 4 * fs.length
  | [] => rfl
  | y :: r => by rw [nbrs, List.length_append, nbrs_len r, List.length_map, List.length_cons]; simp; omega
theorem Inv.less {st : List Nat} {r : Nat} {c : List (Str × Int)} {fs : List (List Nat)} (h : Inv st r c fs) (hg : kdpHas c (txt goalSt) = false) : r < phi st := by
  obtain ⟨x, hx, e⟩ := h.best
  obtain ⟨h1, h2⟩ := h.front x hx
  by_cases h0 : phi x = 0
  · rw [(orders_facts x h1).2.2.1 h0, hg] at h2; cases h2
  · omega
theorem Inv.done {st : List Nat} {r : Nat} {c : List (Str × Int)} {fs : List (List Nat)} (h : Inv st r c fs) (hg : kdpHas c (txt goalSt) = true) : r = phi st := by
  obtain ⟨x, hx, e⟩ := h.best
  have h2 := (h.keys _ hg).2
  rw [phi_goal] at h2
  omega
theorem Inv.next {st : List Nat} {r : Nat} {c c' : List (Str × Int)} {fs bs : List (List Nat)} (hst : st ∈ orders) (h : Inv st r c fs) (hg : kdpHas c (txt goalSt) = false) (hl : LInv st r c.length (nbrs fs) c' bs) : Inv st (r + 1) c' bs := by
  have hr := h.less hg
  have h6 := (orders_facts st hst).2.1
  have hp : 4 ^ (r + 1) = 4 * 4 ^ r := by rw [Nat.pow_succ]; omega
  have e1 := nbrs_len fs
  have e2 := h.fl
  have e3 := h.cl
  have e4 := hl.bl
  have e5 := hl.cl
  refine ⟨fun x hx => ⟨(hl.new x hx).1, (hl.new x hx).2.1⟩, fun k hk => ?_, ?_, by omega, by omega, by omega⟩
  · obtain ⟨h1, h2⟩ := hl.keys k hk
    refine ⟨h1, ?_⟩
    rcases h2 with h2 | h2
    · omega
    · exact (hl.new k h2).2.2
  · obtain ⟨x, hx, e⟩ := h.best
    have hxo := (h.front x hx).1
    rcases (orders_facts x hxo).2.2.2.2 with h0 | ⟨a, ha, e'⟩
    · omega
    · have hy := hl.seen _ (nbrs_mem ha hx)
      rcases (hl.keys _ hy).2 with h2 | h2
      · omega
      · exact ⟨_, h2, by omega⟩
theorem Inv.start {st : List Nat} (hst : st ∈ orders) (e : Int) : Inv st 0 [(txt st, e)] [st] := by
  refine ⟨fun x hx => ?_, fun k hk => ?_, ⟨st, .head _, rfl⟩, by simp, by simp, by omega⟩
  · rw [List.mem_singleton.mp hx]; exact ⟨hst, by simp [kdpHas]⟩
  · have : k = st := by
      have : txt st = txt k := by simpa [kdpHas] using hk
      exact (txt_inj this).symm
    rw [this]; exact ⟨hst, by omega⟩
end Mine
end
theorem Mine.fresh21 : True := by
  w_top off
  k_with_none
  first | (walk1; fail) | trivial
section
open PySem PySem.W PyProof.Rows PySem.Calls
set_option maxRecDepth 100000
namespace Mine
/-- the homes that a table's rows give for a name -/
noncomputable def homesAt (i : Fin 5) (rows : List Row) : List (Fin 5) := (rows.filter fun r => decide (r.1 = i)).map (·.2.2)
theorem look_homes (i : Fin 5) : ∀ rows : List Row, look i rows = (homesAt i rows).head?
  | [] => rfl
  | r :: rows => by
    have ih := look_homes i rows
    unfold look homesAt
    by_cases h : r.1 = i
    · rw [if_pos h, List.filter_cons_of_pos (by simpa using h)]; rfl
    · rw [if_neg h, List.filter_cons_of_neg (by simpa using h)]; exact ih
theorem homes_snoc (i : Fin 5) (rows : List Row) (r : Row) : homesAt i (rows ++ [r]) = homesAt i rows ++ (if r.1 = i then [r.2.2] else []) := by
  unfold homesAt
  rw [List.filter_append, List.map_append]
  by_cases h : r.1 = i <;> simp [h]
theorem homes_drop (i k : Fin 5) (rows : List Row) : homesAt i (drop1 k rows) = if i = k then [] else homesAt i rows := by
  unfold homesAt drop1
  rw [List.filter_filter]
  by_cases h : i = k
  · subst h
    rw [if_pos rfl, List.filter_eq_nil_iff.mpr (by simp)]; rfl
  · rw [if_neg h]
    congr 1
    apply List.filter_congr
    intro r _
    by_cases hr : r.1 = i
    · simp [hr, h]
    · simp [hr]
theorem drop_len (k : Fin 5) : ∀ rows : List Row, (drop1 k rows).length + (homesAt k rows).length = rows.length
  | [] => rfl
  | r :: rows => by
    have ih := drop_len k rows
    unfold drop1 homesAt at ih ⊢
    by_cases h : r.1 = k
    · rw [List.filter_cons_of_neg (by simp [h]), List.filter_cons_of_pos (by simpa using h)]; simp at ih ⊢; omega
    · rw [List.filter_cons_of_pos (by simpa using h), List.filter_cons_of_neg (by simpa using h)]; simp at ih ⊢; omega
/-- the table's rows tell the order st -/
structure Rep (st : List Nat) (rows : List Row) : Prop where
  ord : st ∈ orders
  len : rows.length = 4
  at' : ∀ i : Fin 5, (st.getD i.val 0 = 101 ∧ homesAt i rows = []) ∨ ∃ j : Fin 5, j ≠ 4 ∧ st.getD i.val 0 = 97 + j.val ∧ homesAt i rows = [j]
theorem Rep.row {st : List Nat} {rows : List Row} (h : Rep st rows) {r : Row} (hr : r ∈ rows) : r.2.2 ≠ 4 ∧ st.getD r.1.val 0 = 97 + r.2.2.val := by
  have hm : r.2.2 ∈ homesAt r.1 rows := List.mem_map.mpr ⟨r, List.mem_filter.mpr ⟨hr, by simp⟩, rfl⟩
  rcases h.at' r.1 with ⟨_, e⟩ | ⟨j, h1, h2, e⟩
  · rw [e] at hm; cases hm
  · rw [e] at hm
    rw [List.mem_singleton.mp hm]; exact ⟨h1, h2⟩
theorem Rep.look_some {st : List Nat} {rows : List Row} (h : Rep st rows) {i j : Fin 5} (e : st.getD i.val 0 = 97 + j.val) (hj : j ≠ 4) : look i rows = some j := by
  rw [look_homes]
  rcases h.at' i with ⟨e1, _⟩ | ⟨k, h1, h2, e2⟩
  · rw [e1] at e; exact absurd (Fin.ext (by show j.val = 4; omega)) hj
  · rw [e2]; rw [h2] at e
    rw [show k = j from Fin.ext (by omega)]; rfl
theorem Rep.look_none {st : List Nat} {rows : List Row} (h : Rep st rows) {i : Fin 5} (e : st.getD i.val 0 = 101) : look i rows = none := by
  rw [look_homes]
  rcases h.at' i with ⟨_, e2⟩ | ⟨k, h1, h2, _⟩
  · rw [e2]; rfl
  · rw [h2] at e; exact absurd (Fin.ext (by show k.val = 4; omega)) h1
theorem swp_at : ∀ st ∈ orders, ∀ j : Fin 5, j ≠ 4 → ∀ k : Fin 5, (swp st (97 + j.val)).getD k.val 0 = if st.getD k.val 0 = 101 then 97 + j.val else if st.getD k.val 0 = 97 + j.val then 101 else st.getD k.val 0 := by decide +kernel
theorem inj_at : ∀ st ∈ orders, ∀ i k : Fin 5, st.getD i.val 0 = st.getD k.val 0 → i = k := by decide +kernel
theorem sur_at : ∀ st ∈ orders, (∀ j : Fin 5, ∃ i : Fin 5, st.getD i.val 0 = 97 + j.val) ∧ ∀ f : Fin 5, st.getD f.val 0 = 101 → placeOf 101 st = f.val := by decide +kernel
theorem goal_at : ∀ st ∈ orders, (∀ i : Fin 5, st.getD i.val 0 = 101 ∨ st.getD i.val 0 = 97 + i.val) → st = goalSt := by decide +kernel
theorem abcd_j {j : Fin 5} (h : j ≠ 4) : 97 + j.val ∈ abcd := by
  revert j; decide
theorem Rep.move {st : List Nat} {rows : List Row} (h : Rep st rows) {i f j : Fin 5} {u : Bool} (hj : j ≠ 4) (hi : st.getD i.val 0 = 97 + j.val) (hf : st.getD f.val 0 = 101) : Rep (swp st (97 + j.val)) (drop1 i rows ++ [(f, u, j)]) := by
  have hif : i ≠ f := by rintro rfl; rw [hi] at hf; exact hj (Fin.ext (by show j.val = 4; omega))
  refine ⟨(nbr_facts h.ord (abcd_j hj)).1, ?_, fun k => ?_⟩
  · have h1 := drop_len i rows
    have h2 : homesAt i rows = [j] := by
      rcases h.at' i with ⟨e1, _⟩ | ⟨k, h1, h2, e2⟩
      · rw [e1] at hi; exact absurd (Fin.ext (by show j.val = 4; omega)) hj
      · rw [h2] at hi; rw [e2, show k = j from Fin.ext (by omega)]
    rw [h2, h.len] at h1
    rw [List.length_append]
    simp at h1 ⊢
    omega
  · rw [swp_at st h.ord j hj k, homes_snoc, homes_drop]
    by_cases hkf : f = k
    · subst hkf
      refine .inr ⟨j, hj, by rw [if_pos hf], ?_⟩
      rw [if_neg (Ne.symm hif), if_pos rfl]
      have : homesAt f rows = [] := by
        rcases h.at' f with ⟨_, e⟩ | ⟨k, h1, h2, _⟩
        · exact e
        · rw [h2] at hf; exact absurd (Fin.ext (by show k.val = 4; omega)) h1
      rw [this]; rfl
    · rw [if_neg hkf, List.append_nil]
      have hk1 : st.getD k.val 0 ≠ 101 := fun e => hkf (inj_at st h.ord f k (by rw [hf, e]))
      rw [if_neg hk1]
      by_cases hki : k = i
      · subst hki
        exact .inl ⟨by rw [if_pos hi], by rw [if_pos rfl]⟩
      · have hk2 : st.getD k.val 0 ≠ 97 + j.val := fun e => hki (inj_at st h.ord k i (by rw [hi, e]))
        rw [if_neg hk2, if_neg hki]
        exact h.at' k
/-- the moves that a row of renamings makes: (from, to, home) -/
inductive Path : List Nat → List (Fin 5 × Fin 5 × Fin 5) → List Nat → Prop
  | nil (st) : Path st [] st
  | cons {st mv st'} {i f j : Fin 5} : j ≠ 4 → st.getD i.val 0 = 97 + j.val → st.getD f.val 0 = 101 → Path (swp st (97 + j.val)) mv st' → Path st ((i, f, j) :: mv) st'
theorem Path.snoc {st : List Nat} {mv : List (Fin 5 × Fin 5 × Fin 5)} {st' : List Nat} (h : Path st mv st') {i f j : Fin 5} (h1 : j ≠ 4) (h2 : st'.getD i.val 0 = 97 + j.val) (h3 : st'.getD f.val 0 = 101) : Path st (mv ++ [(i, f, j)]) (swp st' (97 + j.val)) := by
  induction h with
  | nil st => exact .cons h1 h2 h3 (.nil _)
  | cons a b c _ ih => exact .cons a b c (ih h2 h3)
/-- the pairs (name, home) of the files away -/
noncomputable def awayOf (rows : List Row) : List (Fin 5 × Fin 5) := (rows.map fun r => (r.1, r.2.2)).filter fun p => decide (p.1 ≠ p.2)
noncomputable def freeOf (rows : List Row) : List (Fin 5) := ([0, 1, 2, 3, 4] : List (Fin 5)).filter fun k => decide (k ∉ rows.map (·.1))
noncomputable def selOf (f : Fin 5) (rows : List Row) : List (Fin 5 × Fin 5) := ((awayOf rows).filter fun p => decide (p.2 = f)) ++ awayOf rows
theorem all5 (f : Fin 5) : f ∈ ([0, 1, 2, 3, 4] : List (Fin 5)) := by revert f; decide
theorem Rep.home {st : List Nat} {rows : List Row} (h : Rep st rows) (ha : awayOf rows = []) : st = goalSt := by
  refine goal_at st h.ord fun i => ?_
  rcases h.at' i with ⟨e, _⟩ | ⟨j, h1, h2, e⟩
  · exact .inl e
  · have hm : j ∈ homesAt i rows := by rw [e]; exact .head _
    obtain ⟨r, hr, hrj⟩ := List.mem_map.mp hm
    obtain ⟨hr1, hr2⟩ := List.mem_filter.mp hr
    have hri : r.1 = i := by simpa using hr2
    have hn : ¬ (r.1 ≠ r.2.2) := fun hne => by
      have : (r.1, r.2.2) ∈ awayOf rows := List.mem_filter.mpr ⟨List.mem_map.mpr ⟨r, hr1, rfl⟩, by simpa using hne⟩
      rw [ha] at this; cases this
    have : r.1 = r.2.2 := Classical.not_not.mp hn
    exact .inr (by rw [h2]; rw [← hrj, ← this, hri])
theorem Rep.step {st : List Nat} {rows : List Row} (h : Rep st rows) (ha : awayOf rows ≠ []) : ∃ f fr, freeOf rows = f :: fr ∧ st.getD f.val 0 = 101 ∧ ∃ i j c, selOf f rows = (i, j) :: c ∧ j ≠ 4 ∧ st.getD i.val 0 = 97 + j.val ∧ phi (swp st (97 + j.val)) + 1 = phi st := by
  obtain ⟨hs1, hs2⟩ := sur_at st h.ord
  obtain ⟨f0, hf0⟩ := hs1 4
  have hf0m : f0 ∈ freeOf rows := by
    refine List.mem_filter.mpr ⟨all5 f0, ?_⟩
    simp only [decide_eq_true_eq]
    intro hm
    obtain ⟨r, hr, e⟩ := List.mem_map.mp hm
    obtain ⟨h1, h2⟩ := h.row hr
    rw [e, hf0] at h2
    exact h1 (Fin.ext (by show r.2.2.val = 4; simp at h2; omega))
  obtain ⟨f, fr, hfr⟩ : ∃ f fr, freeOf rows = f :: fr := by
    cases hf : freeOf rows with
    | nil => rw [hf] at hf0m; cases hf0m
    | cons f fr => exact ⟨f, fr, rfl⟩
  have hff : st.getD f.val 0 = 101 := by
    have hm : f ∈ freeOf rows := by rw [hfr]; exact .head _
    have hn := (List.mem_filter.mp hm).2
    simp only [decide_eq_true_eq] at hn
    rcases h.at' f with ⟨e, _⟩ | ⟨j, h1, h2, e⟩
    · exact e
    · exfalso
      have hm : j ∈ homesAt f rows := by rw [e]; exact .head _
      obtain ⟨r, hr, _⟩ := List.mem_map.mp hm
      obtain ⟨hr1, hr2⟩ := List.mem_filter.mp hr
      exact hn (List.mem_map.mpr ⟨r, hr1, by simpa using hr2⟩)
  have hpl := hs2 f hff
  refine ⟨f, fr, hfr, hff, ?_⟩
  have key : ∀ i j, (i, j) ∈ awayOf rows → j ≠ 4 ∧ st.getD i.val 0 = 97 + j.val ∧ i ≠ j := fun i j hm => by
    obtain ⟨hm1, hm2⟩ := List.mem_filter.mp hm
    obtain ⟨r, hr, e⟩ := List.mem_map.mp hm1
    injection e with e1 e2
    obtain ⟨h1, h2⟩ := h.row hr
    rw [e1, e2] at h2
    rw [e2] at h1
    exact ⟨h1, h2, by simpa using hm2⟩
  by_cases h4 : f = 4
  · have hnil : (awayOf rows).filter (fun p => decide (p.2 = f)) = [] := List.filter_eq_nil_iff.mpr fun p hp => by
      have := (key p.1 p.2 hp).1
      rw [h4]; simpa using this
    cases hA : awayOf rows with
    | nil => exact absurd hA ha
    | cons p c =>
      obtain ⟨h1, h2, h3⟩ := key p.1 p.2 (by rw [hA]; exact .head _)
      refine ⟨p.1, p.2, c, by rw [selOf, hnil, hA]; rfl, h1, h2, plan_facts st h.ord _ (abcd_j h1) ?_⟩
      rw [hpl, h4, if_pos (show ((4 : Fin 5).val) = 4 from rfl), show 97 + p.2.val - 97 = p.2.val by omega]
      intro e
      exact h3 (inj_at st h.ord p.1 p.2 (by rw [h2, e]))
  · obtain ⟨i, hi⟩ := hs1 f
    have hif : i ≠ f := by rintro rfl; rw [hi] at hff; exact h4 (Fin.ext (by show i.val = 4; omega))
    have hmem : (i, f) ∈ (awayOf rows).filter (fun p => decide (p.2 = f)) := by
      rcases h.at' i with ⟨e, _⟩ | ⟨j, h1, h2, e⟩
      · rw [e] at hi; exact absurd (Fin.ext (by show f.val = 4; omega)) h4
      · have hjf : j = f := Fin.ext (by rw [h2] at hi; omega)
        have hm : j ∈ homesAt i rows := by rw [e]; exact .head _
        obtain ⟨r, hr, hrj⟩ := List.mem_map.mp hm
        obtain ⟨hr1, hr2⟩ := List.mem_filter.mp hr
        have hri : r.1 = i := by simpa using hr2
        refine List.mem_filter.mpr ⟨List.mem_filter.mpr ⟨List.mem_map.mpr ⟨r, hr1, by rw [hri, hrj, hjf]⟩, by simpa using hif⟩, by simp⟩
    cases hF : (awayOf rows).filter (fun p => decide (p.2 = f)) with
    | nil => rw [hF] at hmem; cases hmem
    | cons p c =>
      have hp : p ∈ (awayOf rows).filter (fun p => decide (p.2 = f)) := by rw [hF]; exact .head _
      obtain ⟨hp1, hp2⟩ := List.mem_filter.mp hp
      have hpf : p.2 = f := by simpa using hp2
      obtain ⟨h1, h2, h3⟩ := key p.1 p.2 hp1
      refine ⟨p.1, p.2, c ++ awayOf rows, by rw [selOf, hF]; rfl, h1, h2, plan_facts st h.ord _ (abcd_j h1) ?_⟩
      rw [hpl, if_neg (show ¬ f.val = 4 from fun e => h4 (Fin.ext e)), hpf]
end Mine
end
theorem Mine.fresh22 : True := by
  w_top off
  k_with_none
  first | (walk1; fail) | trivial
section
open PySem PySem.W PyProof.Rows PySem.Calls
set_option maxRecDepth 100000
namespace Mine
theorem restP_ind {prog : Program} {w : World} {A : Around} {h₀ : Heap} {L : Addr} {m : Str → Option Value} {env : Env} {elt : Expr} {x x₂ : Str} {scope : Scope} {cl : List (Str × Addr)} {s : Shared} {S : List (Addr × Obj) → Prop} {P : Nat → Value → Prop}
    {Fin : List Value → List (Addr × Obj) → Prop} (J : Nat → Nat → List Value → List (Addr × Obj) → Prop) (fin : ∀ i ys news, J 0 i ys news → Fin ys news)
    (step : ∀ k i ys news, J (k + 1) i ys news → ∀ v, P i v → ∃ (t : Addr) (ot : Obj) (v₁ v₂ : Value) (nt : Nat), v = .ref t ∧ (t, ot) ∈ news ∧ ot.cls = .type "tuple" ∧ ot.data = .seq #[v₁, v₂] nt ∧
      ∀ I oI C oC D m₂ h tk (E' : Value → Shared → Prop), LCg.NsObj oC m₂ → m₂ x = some v₁ → m₂ x₂ = some v₂ → Fr h₀ L h m → News h₀ L h ((I, oI) :: (C, oC) :: (D, LCg.lst ys) :: news) → LCg.Off3 I C D news → ((@Ne Nat I C) ∧ (@Ne Nat I D) ∧ (@Ne Nat C D)) →
      wpAny (model prog w) A (eval elt (compEnvC scope cl C env)) (LCg.CompEnd h₀ L m { s with heap := h, toks := tk } I oI C oC D (LCg.lst ys) S (fun y news' => J k (i + 1) (ys ++ [y]) news')) E' { s with heap := h, toks := tk }) :
    ∀ k i ys news, J k i ys news → LCp.CompRestP prog w A h₀ L m env elt x x₂ scope cl s S P Fin k i ys news := by
  intro k
  induction k with
  | zero => intro i ys news h; exact fin i ys news h
  | succ k ih =>
    intro i ys news hJ
    refine LCp.CompRestP.succ fun v hv => ?_
    obtain ⟨t, ot, v₁, v₂, nt, e, hm, hc, hd, hs⟩ := step k i ys news hJ v hv
    refine ⟨t, ot, v₁, v₂, nt, e, hm, hc, hd, ?_⟩
    intro I oI C oC D m₂ h tk E' a1 a2 a3 a4 a5 a6 a7
    refine wpAny_mono (hs I oI C oC D m₂ h tk E' a1 a2 a3 a4 a5 a6 a7) (fun y s₂ h₂ => ?_) fun _ _ z => z
    obtain ⟨h', tk', news', e, F', N', O', S', r'⟩ := h₂
    exact ⟨h', tk', news', e, F', N', O', S', ih _ _ _ r'⟩
end Mine
end
theorem Mine.fresh23 : True := by
  w_top off
  k_with_none
  first | (walk1; fail) | trivial
section
open PySem PySem.W PyProof.Rows PySem.Calls
set_option maxRecDepth 100000
namespace Mine
/-- what a table answers -/
noncomputable def Ans (o : Option (Fin 5)) (v : Value) : Prop := match o with | some j => ∃ t, v = .str (txt (rpl j)) t | none => v = .none
set_option maxHeartbeats 4000000 in
theorem get_spec {w : World} {p : Program} {loose : List Str} {mean : ExcName → Option Value} {mg mb : Str → Option Value} {dp un : Nat} {gd : Option (List Code)} {cn : Str} {cs : Scope} {a : Addr} {ccd : Value} {cl : List (Str × Addr)} {outer : List Env} {A₀ : Around} {base h₀ : Heap} {L : Addr} {m : Str → Option Value} {rest : List (Addr × Obj)} {s : Shared} {R : Result → Shared → Prop}
  {hx hd9 hl : Addr} {items : List Value} {n : Nat} {rows : List Row} {t1 tn : Tok} {i : Fin 5} {u : Bool}
  (B : Below A₀ base outer h₀) (F : Fr h₀ L s.heap m) (X : (hd.heap_39 w.params).In h₀) (N : News h₀ L s.heap rest) (T : Top p loose mean mg mb h₀) (hk : cs.kind = .function)
  (hdp : dp + 8 < recursionLimit) (hun : un + 40 < cLine) (hil : items.length ≤ 100) (hr : TabIn rest items rows)
  (m1 : List.Mem (hx, instObj 182 hd9) rest) (m2 : List.Mem (hd9, dictOf [⟨PyData.keyHash w.params (Str.ofString "_headers"), .str (Str.ofString "_headers") t1, .ref hl⟩] 1) rest) (m3 : List.Mem (hl, listOf items.toArray n) rest)
  (hret : ∀ v h' tk', Ans (look i rows) v → Fr h₀ L h' m → News h₀ L h' rest → R (.ok (.ret v)) { s with heap := h', toks := tk' }) :
  codeAny (model PySem.Challenge.rw_tp0038_01.row.prog w) (ktrTop dp un gd cn cs L a ccd cl outer) (.call (.ref 129) ⟨[.ref hx, .str (txt (nm i u)) tn], []⟩) R s := by
  revert X; k_fill; intro X
  walk_at "mine:enter"
  have M1 : (hx, instObj 182 hd9) ∈ rest := m1
  have M2 : (hd9, dictOf [⟨PyData.keyHash w.params (Str.ofString "_headers"), .str (Str.ofString "_headers") t1, .ref hl⟩] 1) ∈ rest := m2
  repeat' ((fail_if_success (with_reducible show wpAny _ _ (exec (Stmt.For _ _ _ _ _) _) _ _ _)); walk_at "mine:step")
  rename_i g₁ L₁ h1 FG₁ B₁ X₁ T₁ tz k2 h2 tk2 h3 F1 N1
  have FF := fr_kst [(Str.ofString "name", .str (txt (nm i false)) tz), (Str.ofString "default", .none), (Str.ofString "self", .ref hx)] F1 (AllP.all ⟨rfl, rfl, rfl, trivial⟩)
  clear F1
  with_unfolding_all refine' For_turns FF ?_
  dsimp only [kstB] at FF
  repeat' ((fail_if_success (with_reducible show wpAny _ _ (pyIter _) _ _ _)); walk_at "mine:step")
  try dsimp only
  with_unfolding_all refine iter_listTurns rfl FF N1 m3 rfl rfl ?_
  intro I lI
  refine items_ind (fun vs m' nw => nw = rest ∧ ∃ todo u, TabIn rest vs todo ∧ look i rows = look i todo ∧ m' = kstB u [(Str.ofString "name", .str (txt (nm i false)) tz), (Str.ofString "default", .none), (Str.ofString "self", .ref hx)]) ?fin ?step _ _ _ ⟨rfl, rows, _, hr, rfl, rfl⟩
  case fin =>
    rintro m' nw ⟨rfl, todo, u, ht, hlk, rfl⟩ h9 tk9 F9 N9
    change Fr g₁ L₁ h9 _ at F9
    change News g₁ L₁ h9 _ at N9
    cases ht
    dsimp only [kstB] at F9
    clear FF N1
    k_steps
    with_reducible rename News h₀ L _ _ => NE
    exact hret _ _ _ (by rw [hlk]; exact rfl) (by k_asm) NE
  case step =>
    rintro v r m' nw ⟨rfl, todo, u, ht, hlk, rfl⟩ h9 tk9 o9 ho9 F9 N9
    change Fr g₁ L₁ h9 _ at F9
    change News g₁ L₁ h9 _ at N9
    dsimp only [kstB] at F9
    clear FF N1
    cases ht with
    | @cons tp ta tb r0 items rows' hm ht' =>
    have HM : (tp, rowObj r0 ta tb) ∈ (I, o9) :: nw := .tail _ hm
    repeat' ((fail_if_success (with_reducible show UnrEndW _ _ _ _ _ _)); walk_at "mine:step")
    · with_reducible rename (_ == _) = true => he
      rw [nm_beq] at he
      have he := of_decide_eq_true he
      with_reducible rename News h₀ L _ _ => NE
      exact hret _ _ _ (by rw [hlk, look, if_pos he]; exact ⟨_, rfl⟩) (by k_asm) (fun p hp => NE p (.tail _ hp))
    · with_reducible rename (_ == _) = false => he
      rw [nm_beq] at he
      have he := of_decide_eq_false he
      with_reducible rename Fr g₁ L₁ _ _ => FE
      with_reducible rename News g₁ L₁ _ _ => NE
      exact unr_loop (fr_kst [(Str.ofString "name", .str (txt (nm i false)) tz), (Str.ofString "default", .none), (Str.ofString "self", .ref hx)] FE (AllP.all ⟨rfl, rfl, rfl, trivial⟩)) NE ⟨rfl, rows', _, ht', by rw [hlk, look, if_neg he], rfl⟩ (fun q hq => Nat.ne_of_lt (lI q hq)) ⟨m3, trivial⟩
end Mine
end
theorem Mine.fresh24 : True := by
  w_top off
  k_with_none
  first | (walk1; fail) | trivial
section
open PySem PySem.W PyProof.Rows PySem.Calls
set_option maxRecDepth 100000
namespace Mine
set_option maxHeartbeats 4000000 in
theorem has_spec {w : World} {p : Program} {loose : List Str} {mean : ExcName → Option Value} {mg mb : Str → Option Value} {dp un : Nat} {gd : Option (List Code)} {cn : Str} {cs : Scope} {a : Addr} {ccd : Value} {cl : List (Str × Addr)} {outer : List Env} {A₀ : Around} {base h₀ : Heap} {L : Addr} {m : Str → Option Value} {rest : List (Addr × Obj)} {s : Shared} {R : Result → Shared → Prop}
  {hx hd9 hl : Addr} {items : List Value} {n : Nat} {rows : List Row} {t1 tn : Tok} {i : Fin 5} {u : Bool}
  (B : Below A₀ base outer h₀) (F : Fr h₀ L s.heap m) (X : (hd.heap_39 w.params).In h₀) (N : News h₀ L s.heap rest) (T : Top p loose mean mg mb h₀) (hk : cs.kind = .function)
  (hdp : dp + 10 < recursionLimit) (hun : un + 50 < cLine) (hil : items.length ≤ 100) (hr : TabIn rest items rows)
  (m1 : List.Mem (hx, instObj 182 hd9) rest) (m2 : List.Mem (hd9, dictOf [⟨PyData.keyHash w.params (Str.ofString "_headers"), .str (Str.ofString "_headers") t1, .ref hl⟩] 1) rest) (m3 : List.Mem (hl, listOf items.toArray n) rest)
  (hret : ∀ h' tk', Fr h₀ L h' m → News h₀ L h' rest → R (.ok (.ret (.bool (look i rows).isSome))) { s with heap := h', toks := tk' }) :
  codeAny (model PySem.Challenge.rw_tp0038_01.row.prog w) (ktrTop dp un gd cn cs L a ccd cl outer) (.call (.ref 116) ⟨[.ref hx, .str (txt (nm i u)) tn], []⟩) R s := by
  revert X; k_fill; intro X
  walk_at "mine:enter"
  have M1 : (hx, instObj 182 hd9) ∈ rest := m1
  have M2 : (hd9, dictOf [⟨PyData.keyHash w.params (Str.ofString "_headers"), .str (Str.ofString "_headers") t1, .ref hl⟩] 1) ∈ rest := m2
  repeat' ((fail_if_success (with_reducible show wpAny _ _ (call (Value.ref 129) _ _) _ _ _)); walk_at "mine:step")
  rename_i g₁ L₁ h1 FG₁ F1 N1 B₁ X₁ T₁
  refine wpAny_call (get_spec B₁ F1 X₁ N1 T₁ rfl (by ktr_room) (by ktr_units) hil hr m1 m2 m3 ?_)
  intro v h7 k7 hv F7 N7
  dsimp only
  clear F1 N1
  cases hl0 : look i rows with
  | none =>
    rw [hl0] at hv hret
    change v = .none at hv
    subst hv
    k_steps
    exact hret _ _ (by k_asm) (by k_asm)
  | some j =>
    rw [hl0] at hv hret
    obtain ⟨tj, rfl⟩ := hv
    k_steps
    exact hret _ _ (by k_asm) (by k_asm)
set_option maxHeartbeats 4000000 in
theorem sd_old {w : World} {p : Program} {loose : List Str} {mean : ExcName → Option Value} {mg mb : Str → Option Value} {dp un : Nat} {gd : Option (List Code)} {cn : Str} {cs : Scope} {a : Addr} {ccd : Value} {cl : List (Str × Addr)} {outer : List Env} {A₀ : Around} {base h₀ : Heap} {L : Addr} {m : Str → Option Value} {rest : List (Addr × Obj)} {s : Shared} {R : Result → Shared → Prop}
  {hx hd9 hl : Addr} {items : List Value} {n : Nat} {rows : List Row} {t1 tn tv : Tok} {v : Str} {i j : Fin 5} {u : Bool}
  (B : Below A₀ base outer h₀) (F : Fr h₀ L s.heap m) (X : (hd.heap_39 w.params).In h₀) (N : News h₀ L s.heap rest) (T : Top p loose mean mg mb h₀) (hk : cs.kind = .function)
  (hdp : dp + 10 < recursionLimit) (hun : un + 50 < cLine) (hil : items.length ≤ 100) (hr : TabIn rest items rows)
  (m1 : List.Mem (hx, instObj 182 hd9) rest) (m2 : List.Mem (hd9, dictOf [⟨PyData.keyHash w.params (Str.ofString "_headers"), .str (Str.ofString "_headers") t1, .ref hl⟩] 1) rest) (m3 : List.Mem (hl, listOf items.toArray n) rest) (hl0 : look i rows = some j)
  (hret : ∀ t' h' tk', Fr h₀ L h' m → News h₀ L h' rest → R (.ok (.ret (.str (txt (rpl j)) t'))) { s with heap := h', toks := tk' }) :
  codeAny (model PySem.Challenge.rw_tp0038_01.row.prog w) (ktrTop dp un gd cn cs L a ccd cl outer) (.call (.ref 172) ⟨[.ref hx, .str (txt (nm i u)) tn, .str v tv], []⟩) R s := by
  revert X; k_fill; intro X
  walk_at "mine:enter"
  have M1 : (hx, instObj 182 hd9) ∈ rest := m1
  have M2 : (hd9, dictOf [⟨PyData.keyHash w.params (Str.ofString "_headers"), .str (Str.ofString "_headers") t1, .ref hl⟩] 1) ∈ rest := m2
  repeat' ((fail_if_success (with_reducible show wpAny _ _ (call (Value.ref 129) _ _) _ _ _)); walk_at "mine:step")
  with_reducible rename Fr _ _ s.heap _ => F0
  rename_i g₁ L₁ h1 FG₁ F1 N1 B₁ X₁ T₁
  refine wpAny_call (get_spec B₁ (by k_asm) X₁ N1 T₁ rfl (by ktr_room) (by ktr_units) hil hr m1 m2 m3 ?_)
  intro v h7 k7 hv F7 N7
  dsimp only
  clear N1
  rw [hl0] at hv
  obtain ⟨tj, rfl⟩ := hv
  k_steps
  all_goals exact hret _ _ _ (by k_asm) (by k_asm)
theorem push_arr (items : List Value) (v : Value) : items.toArray.push v = (items ++ [v]).toArray := by simp
set_option maxHeartbeats 4000000 in
theorem sd_new {w : World} {p : Program} {loose : List Str} {mean : ExcName → Option Value} {mg mb : Str → Option Value} {dp un : Nat} {gd : Option (List Code)} {cn : Str} {cs : Scope} {a : Addr} {ccd : Value} {cl : List (Str × Addr)} {outer : List Env} {A₀ : Around} {base h₀ : Heap} {L : Addr} {m : Str → Option Value} {rest : List (Addr × Obj)} {s : Shared} {R : Result → Shared → Prop}
  {hx hd9 hl : Addr} {items : List Value} {n : Nat} {rows : List Row} {t1 tn tv : Tok} {i j : Fin 5} {u : Bool}
  (B : Below A₀ base outer h₀) (F : Fr h₀ L s.heap m) (X : (hd.heap_39 w.params).In h₀) (N : News h₀ L s.heap ((hl, listOf items.toArray n) :: rest)) (T : Top p loose mean mg mb h₀) (hk : cs.kind = .function)
  (hdp : dp + 10 < recursionLimit) (hun : un + 50 < cLine) (hil : items.length ≤ 100) (hr : TabIn rest items rows)
  (o1 : ∀ q ∈ rest, q.1 ≠ hl)
  (m1 : List.Mem (hx, instObj 182 hd9) rest) (m2 : List.Mem (hd9, dictOf [⟨PyData.keyHash w.params (Str.ofString "_headers"), .str (Str.ofString "_headers") t1, .ref hl⟩] 1) rest) (hl0 : look i rows = none)
  (hret : ∀ tp ta tb t' h' tk', Fr h₀ L h' m → News h₀ L h' ((hl, listOf (items ++ [Value.ref tp]).toArray (n + 1)) :: (tp, rowObj (i, u, j) ta tb) :: rest) → (∀ q ∈ (hl, listOf items.toArray n) :: rest, q.1 < tp) → R (.ok (.ret (.str (txt (rpl j)) t'))) { s with heap := h', toks := tk' }) :
  codeAny (model PySem.Challenge.rw_tp0038_01.row.prog w) (ktrTop dp un gd cn cs L a ccd cl outer) (.call (.ref 172) ⟨[.ref hx, .str (txt (nm i u)) tn, .str (txt (rpl j)) tv], []⟩) R s := by
  revert X; k_fill; intro X
  walk_at "mine:enter"
  have M1 : (hx, instObj 182 hd9) ∈ (hl, listOf items.toArray n) :: rest := .tail _ m1
  have M2 : (hd9, dictOf [⟨PyData.keyHash w.params (Str.ofString "_headers"), .str (Str.ofString "_headers") t1, .ref hl⟩] 1) ∈ (hl, listOf items.toArray n) :: rest := .tail _ m2
  repeat' ((fail_if_success (with_reducible show wpAny _ _ (call (Value.ref 129) _ _) _ _ _)); walk_at "mine:step")
  rename_i g₁ L₁ h1 FG₁ F1 N1 B₁ X₁ T₁
  refine wpAny_call (get_spec B₁ (by k_asm) X₁ N1 T₁ rfl (by ktr_room) (by ktr_units) hil (hr.mono fun p h => .tail _ h) (.tail _ m1) (.tail _ m2) (.head _) ?_)
  intro v h7 k7 hv F7 N7
  dsimp only
  clear N1
  rw [hl0] at hv
  change v = .none at hv
  subst hv
  k_steps
  with_reducible rename News h₀ L _ _ => NE
  with_reducible rename _ ∧ AllLt _ _ => lE
  have NE' := news_sw NE
  rw [push_arr] at NE'
  exact hret _ _ _ _ _ _ (by k_asm) NE' (ktn_ltOf (l := (hl, listOf items.toArray n) :: rest) lE)
end Mine
end
theorem Mine.fresh25 : True := by
  w_top off
  k_with_none
  first | (walk1; fail) | trivial
section
open PySem PySem.W PyProof.Rows PySem.Calls
set_option maxRecDepth 100000
namespace Mine
section
variable {M : Model} {A : Around} {E : Value → Shared → Prop} {s : Shared} {K : Frag} {x C L f : Addr} {h₀ : Heap} {m : Str → Option Value} {ox : Obj} {od : Option Obj} {i v : Value}
theorem own_delItem {Q : Unit → Shared → Prop} (F : Fr h₀ L s.heap m) (X₀ : K.In h₀) (I : InstAt s.heap x ox C od) (hq : noSeq K C = true) (hs : findIn K (.ref C) "__delitem__" = some (some (.ref f))) (hf : isFn K (.ref f) = true)
    (h : wpAny M A (call (.ref f) [.ref x, i]) (fun _ s' => Q () s') E s) : wpAny M A (delItem (.ref x) i) Q E s := by
  have X := X₀.keeps F.keep
  unfold delItem sequenceKey
  refine wpAny_holding (wpAny_bind (wpAny_bind (I.type.here ?_)))
  refine wpAny_bind ((anyM_none X hq).here ?_)
  rw [if_pos (show (!false) = true from rfl)]
  exact wpAny_pure (wpAny_bind (special_fn X I hs (beq_iff_eq.mp hf) (wpAny_mono h (fun _ _ z => wpAny_pure z) fun _ _ z => z)))
end
section
variable {prog : Program} {w : World} {A : Around} {E : Value → Shared → Prop} {s : Shared} {h₀ h : Heap} {L : Addr} {m : Str → Option Value}
theorem set_all {l sl b : Addr} {items its2 : Array Value} {n n2 : Nat} {Q : Unit → Shared → Prop} (ho : s.heap.get? l = some (listOf items n)) (hs : s.heap.IsSliceOf sl .none .none .none) (hb : s.heap.get? b = some (listOf its2 n2)) (hne : (l == b) = false) (hz : items.size + its2.size ≤ 1000)
    (hQ : Q () { s with heap := s.heap.update l (Obj.mapSeq fun xs => xs.extract 0 0 ++ its2 ++ xs.extract items.size xs.size) }) : wpAny (model prog w) A (setItem (.ref l) (.ref sl) (.ref b)) Q E s := by
  have hl : s.heap.IsList l items := PySem.IsL.isList (n := n) ho
  have hbl : s.heap.IsList b its2 := PySem.IsL.isList (n := n2) hb
  obtain ⟨os, hos, hcs, hds⟩ := id hs
  have hTs : s.TypeIs (.ref sl) "slice" := ⟨os, hos, hcs⟩
  unfold setItem
  try with_reducible refine wpAny_holding ?_
  first | refine wpAny_bind (wpAny_pure ?_) | skip
  refine wpAny_bind (wpAny_sequenceKey hl.typeIs (by decide) ?_)
  refine wpAny_bind (wpAny_callSpecial?_slot (name := Str.ofString "__setitem__") hl.typeIs slot_list_setitem
    (wpAny_call_entry slot_list_setitem hl.typeIs entry_list_setitem ?_ (args_list_setitem _ _ _)))
  show wpAny _ _ (Builtin.List.listSubscript? (.ref sl) >>= _) _ _ s
  refine wpAny_bind ?_
  unfold Builtin.List.listSubscript?
  refine wpAny_bind (wpAny_specialOf hTs slice_no_index ?_)
  simp only [Option.isNone_none, if_true]
  refine wpAny_pure ?_
  show wpAny _ _ (typeOf (.ref sl) >>= _) _ _ s
  refine wpAny_bind (wpAny_typeOf hTs ?_)
  rw [if_neg (by decide)]
  rw [listSliceParts_eq]
  refine wpAny_bind (wpAny_bind (wpAny_field hos hds (x := .none) rfl (wpAny_bind (wpAny_listPart .none ?_))))
  rw [if_neg (by exact Bool.false_ne_true)]
  refine wpAny_bind (wpAny_field hos hds (x := .none) rfl (wpAny_bind (wpAny_listPart .none ?_)))
  refine wpAny_bind (wpAny_field hos hds (x := .none) rfl (wpAny_bind (wpAny_listPart .none (wpAny_pure ?_))))
  rw [if_neg (show ¬ Builtin.List.listSameRef (.ref l) (.ref b) = true by show ¬ (l == b) = true; rw [hne]; exact Bool.false_ne_true)]
  refine wpAny_bind ?_
  unfold Builtin.List.listAllItems
  refine wpAny_bind (wpAny_typeOf hbl.typeIs ?_)
  rw [if_pos (by decide)]
  unfold Builtin.List.listItems
  refine wpAny_bind (wpAny_seqItems hb rfl (wpAny_pure ?_))
  refine wpAny_bind ?_
  refine wpAny_bind (wpAny_seqItems ho rfl (wpAny_pure ?_))
  refine wpAny_bind (wpAny_of_eq (sliceIndices_raw none none none items.size (by simp)) ?_)
  have e : sliceBounds none none none items.size = (0, (items.size : Int), 1) := by simp [sliceBounds]
  rw [e]
  rw [if_pos (by rfl)]
  refine wpAny_bind (wpAny_rule ?_)
  rw [if_neg (by simp [Builtin.List.listTooLong, sizeLine]; omega)]
  refine wpAny_bind (m := Builtin.List.listUpdate (.ref l) _) ?_
  unfold Builtin.List.listUpdate
  refine wpAny_updateSeq ho rfl ?_ (by rw [sizeLine_eq]; omega) (by rw [sizeLine_eq]; simp; omega)
  refine wpAny_bind (wpAny_letGo ?_)
  exact wpAny_bind (wpAny_pure (wpAny_pure ⟨.none, rfl, wpAny_pure (by simpa using hQ)⟩))
theorem set_slice_all {pre post : List (Addr × Obj)} {D b : Addr} {its its2 : Array Value} {n n2 : Nat} {Q : Unit → Shared → Prop} (F : Fr h₀ L s.heap m) (N : News h₀ L s.heap (pre ++ (D, listOf its n) :: post)) (hb : (b, listOf its2 n2) ∈ pre ++ (D, listOf its n) :: post) (hne : (D == b) = false)
    (a : ∀ p ∈ pre, p.1 ≠ D) (c : ∀ p ∈ post, p.1 ≠ D) (hz : its.size + its2.size ≤ 1000)
    (k : ∀ h' n', Fr h₀ L h' m → News h₀ L h' (pre ++ (D, listOf its2 n') :: post) → Q () { s with heap := h' }) :
    wpAny (model prog w) A (setItem (.ref D) (.ref s.heap.objs.size) (.ref b)) Q E { s with heap := s.heap.push { cls := .type "slice", data := .fields #[.none, .none, .none] } } := by
  have F' := F.push { cls := .type "slice", data := .fields #[.none, .none, .none] }
  have N' : News h₀ L (s.heap.push { cls := .type "slice", data := .fields #[.none, .none, .none] }) (pre ++ (D, listOf its n) :: post) := N.grown fun _ _ e => Heap.get?_push_of_some _ e
  have z := N' (D, listOf its n) (List.mem_append.mpr (.inr (.head _)))
  have zb := N' _ hb
  refine set_all (s := { s with heap := s.heap.push { cls := .type "slice", data := .fields #[.none, .none, .none] } }) (n := n) (n2 := n2) z.1 (Heap.IsSliceOf.new ..) zb.1 hne hz ?_
  exact k _ _ (F'.change (Heap.SameBut.update ..) z.2.1 z.2.2) (ki_turn _ N' a c (by simp) rfl)
end
end Mine
end
theorem Mine.fresh26 : True := by
  w_top off
  k_with_none
  first | (walk1; fail) | trivial
local macro_rules | `(tactic| walk_at "delItem ref") => `(tactic| (refine own_delItem (by k_asm) (by k_asm) (by k_inst) (by k_is) (by k_is) (by k_is) ?_))
section
open PySem PySem.W PyProof.Rows PySem.Calls
set_option maxRecDepth 100000
namespace Mine
theorem drop1_add (i : Fin 5) (rows : List Row) (r : Row) : drop1 i (rows ++ [r]) = drop1 i rows ++ (if r.1 = i then [] else [r]) := by
  unfold drop1
  rw [List.filter_append]
  by_cases h : r.1 = i <;> simp [h]
set_option maxHeartbeats 4000000 in
theorem del_spec {w : World} {p : Program} {loose : List Str} {mean : ExcName → Option Value} {mg mb : Str → Option Value} {dp un : Nat} {gd : Option (List Code)} {cn : Str} {cs : Scope} {a : Addr} {ccd : Value} {cl : List (Str × Addr)} {outer : List Env} {A₀ : Around} {base h₀ : Heap} {L : Addr} {m : Str → Option Value} {rest : List (Addr × Obj)} {s : Shared} {R : Result → Shared → Prop}
  {hx hd9 hl : Addr} {items : List Value} {n : Nat} {rows : List Row} {t1 tn : Tok} {i : Fin 5} {u : Bool}
  (B : Below A₀ base outer h₀) (F : Fr h₀ L s.heap m) (X : (hd.heap_39 w.params).In h₀) (N : News h₀ L s.heap ((hl, listOf items.toArray n) :: rest)) (T : Top p loose mean mg mb h₀) (hk : cs.kind = .function)
  (hdp : dp + 10 < recursionLimit) (hun : un + 50 < cLine) (hil : items.length ≤ 100) (hr : TabIn rest items rows)
  (o1 : ∀ q ∈ rest, q.1 ≠ hl)
  (m1 : List.Mem (hx, instObj 182 hd9) rest) (m2 : List.Mem (hd9, dictOf [⟨PyData.keyHash w.params (Str.ofString "_headers"), .str (Str.ofString "_headers") t1, .ref hl⟩] 1) rest)
  (hret : ∀ items' n' h' tk', (∀ r0, TabIn r0 items rows → TabIn r0 items' (drop1 i rows)) → Fr h₀ L h' m → News h₀ L h' ((hl, listOf items'.toArray n') :: rest) → R (.ok (.ret .none)) { s with heap := h', toks := tk' }) :
  codeAny (model PySem.Challenge.rw_tp0038_01.row.prog w) (ktrTop dp un gd cn cs L a ccd cl outer) (.call (.ref 102) ⟨[.ref hx, .str (txt (nm i u)) tn], []⟩) R s := by
  revert X; k_fill; intro X
  walk_at "mine:enter"
  have M1 : (hx, instObj 182 hd9) ∈ (hl, listOf items.toArray n) :: rest := .tail _ m1
  have M2 : (hd9, dictOf [⟨PyData.keyHash w.params (Str.ofString "_headers"), .str (Str.ofString "_headers") t1, .ref hl⟩] 1) ∈ (hl, listOf items.toArray n) :: rest := .tail _ m2
  repeat' ((fail_if_success (with_reducible show wpAny _ _ (eval (Expr.ListComp _ _ _ _) _) _ _ _)); walk_at "mine:step")
  rename_i g₁ L₁ h1 tk1 FG₁ B₁ X₁ T₁ l₁ o1' d1 tz kz h2 tk2 h3 oN F1 N1 dN
  refine LCt.ListComp_T (F₀ := by k_asm) (by with_unfolding_all rfl) (by decide) (by rfl) (by decide) (by rfl) ?_
  repeat' ((fail_if_success (with_reducible show LCt.CompSrcT _ _ _ _ _ _ _ _ _ _ _ _ _ _ _)); walk_at "mine:step")
  refine LCt.CompSrcT.ledger rfl F1 N1 (.tail _ (.head _)) (by rw [sizeLine_eq, List.size_toArray]; omega) ?_
  intro g2
  have hlen := hr.len
  refine restT_ind (fun k j ys nw => nw = (L₁ + 1, oN) :: (hl, listOf items.toArray n) :: rest ∧ j + k = items.length ∧ ∀ r0, TabIn r0 items rows → TabIn r0 ys (drop1 i (rows.take j))) ?_ ?_ _ _ _ _ ⟨rfl, by rw [List.size_toArray]; omega, fun _ _ => .nil⟩
  · rintro j ys nw ⟨rfl, hi, hys⟩
    rw [List.take_of_length_le (by omega)] at hys
    repeat' ((fail_if_success (with_reducible show wpAny _ _ (setItem _ _ _) _ _ _)); walk_at "mine:step")
    with_reducible rename Fr g₁ L₁ _ _ => F6
    with_reducible rename News g₁ L₁ _ _ => N6
    rename_i oF
    rename (_ ∧ _ ∧ LCg.Off1 _ _) => oF
    have hyl : ys.length ≤ items.length := by rw [(hys rest hr).len, hlen]; exact List.length_filter_le _ _
    refine set_slice_all (pre := [_, _]) (its := items.toArray) F6 N6 (.head _) (beq_eq_false_iff_ne.mpr (Ne.symm (Ne.symm oF.2.1))) (AllP.all ⟨Ne.symm oF.2.1, (Nat.ne_of_gt (Nat.lt_succ_of_lt l₁.1)), trivial⟩) o1 (by rw [List.size_toArray]; simp; omega) ?_
    intro h7 n7 F7 N7
    clear F6 N6
    k_steps
    with_reducible rename News h₀ L _ _ => NE
    exact hret ys n7 _ _ hys (by k_asm) (fun p hp => NE p (.tail _ (.tail _ hp)))
  · rintro k j ys nw ⟨rfl, hi, hys⟩ v I oI C oC D m₂ h tk9 E' hv hC hm₂ F3 N3 off ne
    obtain ⟨tp, ta, tb, r, rfl, hrow, hmem⟩ := hr.at j v hv
    have HM : (tp, rowObj r ta tb) ∈ (I, oI) :: (C, oC) :: (D, LCg.lst ys) :: (L₁ + 1, oN) :: (hl, listOf items.toArray n) :: rest := .tail _ (.tail _ (.tail _ (.tail _ (.tail _ hmem))))
    repeat' ((fail_if_success (with_reducible show LCg.CompEnd _ _ _ _ _ _ _ _ _ _ _ _ _ _)); walk_at "mine:step")
    · with_reducible rename (_ != _) = true => he
      rw [nm_bne] at he
      have he := of_decide_eq_true he
      refine LCg.CompEnd.intro F3 N3 ((L₁ + 1, oN) :: (hl, listOf items.toArray n) :: rest) (fun p hp => hp) off (.inr ⟨_, .tail _ (.head _), rfl, _, rfl⟩) ⟨rfl, by omega, ?_⟩
      rw [List.take_add_one, hrow]
      show ∀ r0, TabIn r0 items rows → TabIn r0 _ (drop1 i (rows.take j ++ [r]))
      rw [drop1_add, if_neg he]
      intro r0 h0
      obtain ⟨tp', ta', tb', r', e1, e2, e3⟩ := h0.at j _ hv
      injection e1 with e1
      rw [hrow] at e2
      injection e2 with e2
      subst e1 e2
      exact (hys r0 h0).snoc e3
    · with_reducible rename (_ != _) = false => he
      rw [nm_bne] at he
      have he : r.1 = i := by simpa using of_decide_eq_false he
      refine LCg.CompEnd.intro F3 N3 ((L₁ + 1, oN) :: (hl, listOf items.toArray n) :: rest) (fun p hp => hp) off (.inr ⟨_, .tail _ (.head _), rfl, _, rfl⟩) ⟨rfl, by omega, ?_⟩
      rw [List.take_add_one, hrow]
      show ∀ r0, TabIn r0 items rows → TabIn r0 _ (drop1 i (rows.take j ++ [r]))
      rw [drop1_add, if_pos he, List.append_nil]
      exact hys
end Mine
end
theorem Mine.fresh27 : True := by
  w_top off
  k_with_none
  first | (walk1; fail) | trivial
section
open PySem PySem.W PyProof.Rows PySem.Calls
set_option maxRecDepth 100000
namespace Mine
set_option maxHeartbeats 4000000 in
theorem set_spec {w : World} {p : Program} {loose : List Str} {mean : ExcName → Option Value} {mg mb : Str → Option Value} {dp un : Nat} {gd : Option (List Code)} {cn : Str} {cs : Scope} {a : Addr} {ccd : Value} {cl : List (Str × Addr)} {outer : List Env} {A₀ : Around} {base h₀ : Heap} {L : Addr} {m : Str → Option Value} {rest : List (Addr × Obj)} {s : Shared} {R : Result → Shared → Prop}
  {hx hd9 hl : Addr} {items : List Value} {n : Nat} {rows : List Row} {t1 tn tv : Tok} {i j : Fin 5} {u : Bool}
  (B : Below A₀ base outer h₀) (F : Fr h₀ L s.heap m) (X : (hd.heap_39 w.params).In h₀) (N : News h₀ L s.heap ((hl, listOf items.toArray n) :: rest)) (T : Top p loose mean mg mb h₀) (hk : cs.kind = .function)
  (hdp : dp + 12 < recursionLimit) (hun : un + 60 < cLine) (hil : items.length ≤ 100) (hr : TabIn rest items rows)
  (o1 : ∀ q ∈ rest, q.1 ≠ hl)
  (m1 : List.Mem (hx, instObj 182 hd9) rest) (m2 : List.Mem (hd9, dictOf [⟨PyData.keyHash w.params (Str.ofString "_headers"), .str (Str.ofString "_headers") t1, .ref hl⟩] 1) rest)
  (hret : ∀ tp ta tb items' n' h' tk', (∀ r0, TabIn r0 items rows → TabIn ((tp, rowObj (i, u, j) ta tb) :: r0) items' (drop1 i rows ++ [(i, u, j)])) → Fr h₀ L h' m → News h₀ L h' ((hl, listOf items'.toArray n') :: (tp, rowObj (i, u, j) ta tb) :: rest) → (∀ q ∈ (hl, listOf items.toArray n) :: rest, q.1 < tp) → R (.ok (.ret .none)) { s with heap := h', toks := tk' }) :
  codeAny (model PySem.Challenge.rw_tp0038_01.row.prog w) (ktrTop dp un gd cn cs L a ccd cl outer) (.call (.ref 97) ⟨[.ref hx, .str (txt (nm i u)) tn, .str (txt (rpl j)) tv], []⟩) R s := by
  revert X; k_fill; intro X
  walk_at "mine:enter"
  have M1 : (hx, instObj 182 hd9) ∈ (hl, listOf items.toArray n) :: rest := .tail _ m1
  have M2 : (hd9, dictOf [⟨PyData.keyHash w.params (Str.ofString "_headers"), .str (Str.ofString "_headers") t1, .ref hl⟩] 1) ∈ (hl, listOf items.toArray n) :: rest := .tail _ m2
  repeat' ((fail_if_success (with_reducible show wpAny _ _ (call (Value.ref 102) _ _) _ _ _)); walk_at "mine:step")
  rename_i g₁ L₁ h1 FG₁ F1 N1 B₁ X₁ T₁
  refine wpAny_call (del_spec B₁ F1 X₁ N1 T₁ rfl (by ktr_room) (by ktr_units) hil hr o1 m1 m2 ?_)
  intro items2 n2 h7 k7 hr2 F7 N7
  dsimp only
  clear F1 N1 M1 M2
  have M1 : (hx, instObj 182 hd9) ∈ (hl, listOf items2.toArray n2) :: rest := .tail _ m1
  have M2 : (hd9, dictOf [⟨PyData.keyHash w.params (Str.ofString "_headers"), .str (Str.ofString "_headers") t1, .ref hl⟩] 1) ∈ (hl, listOf items2.toArray n2) :: rest := .tail _ m2
  have hil2 : items2.length ≤ 100 := by
    have e1 := hr.len
    have e2 : (drop1 i rows).length ≤ rows.length := List.length_filter_le _ _
    rw [(hr2 rest hr).len]; omega
  k_steps
  with_reducible rename News h₀ L _ _ => NE
  with_reducible rename _ ∧ AllLt _ _ => lE
  have NE' := news_sw NE
  rw [push_arr] at NE'
  exact hret _ tn tv _ _ _ _ (fun r0 h0 => ((hr2 r0 h0).mono fun p h => .tail _ h).snoc (.head _)) (by k_asm) NE' (ktn_ltOf (l := (hl, listOf items.toArray n) :: rest) lE)
end Mine
end
theorem Mine.fresh28 : True := by
  w_top off
  k_with_none
  first | (walk1; fail) | trivial
section
open PySem PySem.W PyProof.Rows PySem.Calls
set_option maxRecDepth 100000
namespace Mine
section
variable {prog : Program} {w : World} {A : Around} {E : Value → Shared → Prop} {s : Shared} {env : Env} {h₀ : Heap} {L : Addr} {body : List Stmt} {Q : Flow → Shared → Prop} {v0 : Str}
/-- where a stage ends: at its own end, or out of the list -/
noncomputable def StageOut (P : Shared → Prop) (Q : Flow → Shared → Prop) (f : Flow) (s' : Shared) : Prop := match f with
  | .next => P s'
  | f => Q f s'
theorem stageR {M : Model} {P : Shared → Prop} {l l1 l2 : List Stmt} {env : Env} {Q : Flow → Shared → Prop} (hs : Cut l l1 l2) (hk : 1 ≤ s.toks) (h1 : wpAny M A (execs l1 env) (fun f s' => HeldT s'.toks (StageOut P Q f s')) E s) (h2 : ∀ s', P s' → wpAny M A (execs l2 env) Q E s') : wpAny M A (execs l env) Q E s := by
  have h3 : wpAny M A (execs l1 env) (StageOut P Q) E s := wpAny_with_toks hk (wpAny_mono h1 (fun _ _ x => x) fun _ _ x _ => x)
  clear h1 hk
  intro Γ p hΓ
  replace h1 := h3 Γ p hΓ
  clear h3
  revert h1
  induction hs generalizing s p with
  | here l =>
    intro h1
    exact h2 s (show P s from h1) Γ p hΓ
  | step x hc ih =>
    intro h1
    rw [execs_cons, Sem.wp_bind'] at h1 ⊢
    refine Sem.wp_mono M Γ _ (fun f p' s' h' => ?_) (fun _ _ _ h' => h') _ _ h1
    cases f with
    | next => exact ih h2 p' h'
    | _ => exact h'
theorem iter_rangeK {r : Addr} {a₀ b₀ : Int} {t₀ u₀ v₀ : Tok} {n : Nat} {m₀ : Str → Option Value} {news : List (Addr × Obj)} (hk : 1 ≤ s.toks) (hh : A.handled = none)
    (hr : IsRange s.heap r a₀ b₀ 1 t₀ u₀ v₀) (hsmall : Builtin.Range.small a₀ b₀ 1 = true) (hn : Builtin.Range.rangeSize a₀ b₀ 1 = (n : Int)) (F : Fr h₀ L s.heap m₀) (N : News h₀ L s.heap news)
    (J : Addr → Nat → (Str → Option Value) → List (Addr × Obj) → Prop) (h0 : ∀ I, (∀ p ∈ news, p.1 < I) → J I 0 m₀ news) (off : ∀ I i m nw, J I i m nw → ∀ q ∈ nw, q.1 ≠ I)
    (fin : ∀ I m nw, J I n m nw → ∀ h tk, 1 ≤ tk → Fr h₀ L h m → News h₀ L h nw → Q .next { s with heap := h, toks := tk })
    (step : ∀ I i m nw t o, i < n → J I i m nw → ∀ h tk, 1 ≤ tk → Fr h₀ L h m → News h₀ L h ((I, o) :: nw) → wpAny (model prog w) A (storeName env v0 (.int (a₀ + (i : Int)) t)) (fun _ s₂ => wpAny (model prog w) A (execs body env) (PostK h₀ L s I o (J I (i + 1)) Q) E s₂) E { s with heap := h, toks := tk }) :
    wpAny (model prog w) A (pyIter (.ref r)) (fun it s₂ => ∃ I n, it = .ref I ∧ OwitRest prog w A E env v0 body Q I n s₂) E s := by
  refine wpAny_pyIter_range hr hsmall ?_
  refine ⟨_, _, rfl, loopK (s := s) (P := fun i v _ => ∃ t, v = .int (a₀ + (i : Int)) t) (fun i h h' st hkp => (LCg.range_walks (prog := prog) (w := w) (A := A) (I := s.heap.objs.size) hh a₀ n).frame i h h' st hkp) (fun i s' Q' E' hi st hk' hQ => wpAny_with_toks (n := 1) hk' ((LCg.range_walks hh a₀ n).item i s' _ _ hi st fun v h' tk hP st' hkp hk2 => hQ v h' tk hP hk2 st' hkp)) (LCg.range_walks hh a₀ n).done (Nat.ne_of_lt F.ns.lt) (next_is_new F) (J _) (fun i h st => ⟨_, st⟩) (fun b hb => .inl (by simpa using hb)) (off _) (fin _) (fun i m nw v o hi hJ h tk hP => ?_) _ s.toks m₀ news hk (F.push _) (fun p hp => ⟨Heap.get?_push_of_some _ (N p hp).1, (N p hp).2⟩) ?_ (h0 _ fun p hp => Heap.lt_size (N p hp).1)⟩
  · obtain ⟨t, rfl⟩ := hP
    exact step _ i m nw t o hi hJ h tk
  · show IsRangeIter _ _ _ _ _
    rw [hn]
    simpa using Heap.get?_push_size _ rfl
end
end Mine
end
theorem Mine.fresh29 : True := by
  w_top off
  k_with_none
  first | (walk1; fail) | trivial
section
open PySem PySem.W PyProof.Rows PySem.Calls
set_option maxRecDepth 100000
namespace Mine
local macro_rules | `(tactic| walk_at "setAttr ref") => `(tactic| (k_here; k_dflt (refine' fn_setattr ?F ?X ?N ?U ?n ?_; (case F => k_asm); (case X => k_asm); (case N => k_asm); (case U => k_updF); (case n => kernel_rfl); k_whole); intro d' h' tk' F' N' l1; (try dsimp only at N'); (try k_lt l1); (try k_sweep)))
noncomputable abbrev tabFull1 (c1 c2 : Addr) : Obj := tabObj (#[] ++ #[rawInt ↑168, rawInt ↑4, Value.ref c1] ++ #[rawInt ↑172, rawInt ↑13, Value.ref c2])
theorem wl2 : Str.ofString "\n=" = txt [10, 61] := by decide +kernel
theorem lt_all {d x : Nat} : ∀ {l : List (Addr × Obj)}, AllLt d l → @LE.le Nat _ d x → ∀ q ∈ l, @LT.lt Nat _ q.1 x
  | [], _, _, _, h => nomatch h
  | p :: r, a, e, q, h => by
    rcases List.mem_cons.mp h with rfl | h
    · exact Nat.lt_of_lt_of_le a.1 e
    · exact lt_all a.2 e q h
theorem lex_led {h₀ h : Heap} {L : Addr} {a0 a1 a2 a3 a4 a5 a6 a7 a8 a9 a10 : Addr × Obj} {tl : List (Addr × Obj)} (N : News h₀ L h (a0 :: a1 :: a2 :: a3 :: a4 :: a5 :: a6 :: a7 :: a8 :: a9 :: a10 :: tl)) : News h₀ L h (a8 :: a2 :: ([a0, a1, a3, a4, a5, a6, a7, a9] ++ a10 :: tl)) := by
  intro p hp
  refine N p ?_
  simp only [List.mem_cons, List.mem_append, List.not_mem_nil, or_false] at hp ⊢
  rcases hp with h | h | (h | h | h | h | h | h | h | h) | h | h <;> simp only [h, true_or, or_true]
set_option maxHeartbeats 4000000 in
theorem lexer_spec {w : World} {p : Program} {loose : List Str} {mean : ExcName → Option Value} {mg mb : Str → Option Value} {dp un : Nat} {gd : Option (List Code)} {cn : Str} {cs : Scope} {a : Addr} {ccd : Value} {cl : List (Str × Addr)} {outer : List Env} {A₀ : Around} {base h₀ : Heap} {L : Addr} {m : Str → Option Value} {news : List (Addr × Obj)} {s : Shared} {R : Result → Shared → Prop}
  (B : Below A₀ base outer h₀) (F : Fr h₀ L s.heap m) (X : (hd.heap_39 w.params).In h₀) (N : News h₀ L s.heap ((276, tabObj #[]) :: news)) (T : Top p loose mean mg mb h₀) (hk : cs.kind = .function)
  (C9 : CodeHd base 280 276) (hdp : dp + 10 < recursionLimit) (hun : un + 60 < cLine) {x : List Nat} {t : Tok} (hx : x.length ≤ 50000)
  (o9 : ∀ q ∈ news, q.1 ≠ 276)
  (hret : ∀ (lx ll ld pb fs sd fr c1 c2 : Addr) (fd fdr : FuncData) (t1 t2 t3 t4 tw t5 tl tx : Tok) (mid : List (Addr × Obj)) h' tk',
    List.Mem (pb, listOf #[] 0) mid → List.Mem (lx, instObj 256 ld) mid → List.Mem (fs, ({ cls := .type "function", dict := some sd, data := .func fd } : Obj)) mid →
    List.Mem (sd, dictOf [⟨PyData.keyHash w.params (Str.ofString "read"), .str (Str.ofString "read") t5, .ref fr⟩] 1) mid → List.Mem (fr, ({ cls := .type "function", data := .func fdr } : Obj)) mid →
    @Ne Nat ld ll → (∀ q ∈ mid, @Ne Nat q.1 ll ∧ @Ne Nat q.1 ld) → (∀ q ∈ (276, tabObj #[]) :: news, @LT.lt Nat _ q.1 ll ∧ @LT.lt Nat _ q.1 ld ∧ ∀ r ∈ mid, @LT.lt Nat _ q.1 r.1) →
    ReadSpec PySem.Challenge.rw_tp0038_01.row.prog w (hd.heap_39 w.params) p loose mean mg mb ll fr mid → Fr h₀ L h' m →
    News h₀ L h' ((ll, listOf #[.str (txt x) tx] 0) :: (ld, lexDict w 1 tl t1 t2 t3 t4 fs (txt [10, 61]) tw pb) :: (mid ++ (276, tabFull1 c1 c2) :: news)) → R (.ok (.ret (.ref lx))) { s with heap := h', toks := tk' }) :
  codeAny (model PySem.Challenge.rw_tp0038_01.row.prog w) (ktrTop dp un gd cn cs L a ccd cl outer) (.call (.ref 281) ⟨[.str (txt x) t], []⟩) R s := by
  revert X; k_fill; intro X
  walk_at "mine:enter"
  repeat' ((fail_if_success (with_reducible show R _ _)); walk_at "mine:step")
  rename_i g₁ L₁ h₁ tk₁ FG₁ B₁ X₁ T₁ l₁ o1 dO1 ll h2 l_ll h3 oL dL tkA fr c1 oc1 vs1 tc1 ct1 dcv1 h4 tkB dc1a dc1b l_c1 l_fr h5 fs c2 oc2 vs2 tc2 ct2 h6 tkC dc2a dc2b l_c2 l_fs h7 sd h8 tkD l_sd lx ld h9 l_ld l_lx gi Li hi Bi Xi Ti tkE hj1 hj2 hj3 pb hj4 l_pb hj5 Fi Ni tk Tc kX hk1 hk2 Fa Na kF kN Tc2 kX2
  rw [wl2] at kN
  have NR := lex_led kN
  have hL1 := lt_all (l := (276, tabObj #[]) :: news) (x := L₁) l₁ (Nat.le_refl _)
  refine hret lx ll ld pb fs sd fr c1 c2 _ _ _ _ _ _ _ _ _ _ _ _ _ (.head _) (.tail _ (.head _)) (.tail _ (.tail _ (.tail _ (.head _)))) (.tail _ (.tail _ (.head _))) (.tail _ (.tail _ (.tail _ (.tail _ (.tail _ (.head _)))))) (Nat.ne_of_gt (by omega)) ?off ?low ?rd (by k_asm) NR
  case off =>
    intro q hq
    simp only [List.mem_cons, List.not_mem_nil, or_false] at hq
    rcases hq with rfl | rfl | rfl | rfl | rfl | rfl | rfl | rfl <;> dsimp only <;> omega
  case low =>
    intro q hq
    have hq1 := hL1 q hq
    refine ⟨by omega, by omega, ?_⟩
    intro r hr
    simp only [List.mem_cons, List.not_mem_nil, or_false] at hr
    rcases hr with rfl | rfl | rfl | rfl | rfl | rfl | rfl | rfl <;> dsimp only <;> omega
  case rd =>
    clear NR kN Fa Na Fi Ni kF F B N T X B₁ FG₁ T₁ hk hret Bi Xi Ti Tc kX Tc2 kX2 X₁ hL1 o9
    intro dp un gd cn cs a ccd cl outer A₀ base h₀ L m pre s xl tx t R B F X N hne T hk hd hu hx hret
    have M5 := pm5 N
    have M6 := pm6 N
    have M7 := pm7 N
    refine code_nest B F X N T rfl rfl hk M5 (codeRec_news N M6 dc1a dc1b) (by ktr_room) (BindsTo.of_eq rfl) (locs rfl) ?_ rfl rfl rfl (by decide)
    k_whole
    intro g' L' h' FG' F' N' B' X' T'
    (try dsimp only)
    k_steps
    rw [slice_to1]
    with_reducible rename News h₀ L _ _ => NE
    rw [slice_from1] at NE
    exact hret _ _ _ _ (by k_asm) NE
end Mine
end
theorem Mine.fresh30 : True := by
  w_top off
  k_with_none
  first | (walk1; fail) | trivial
section
open PySem PySem.W PyProof.Rows PySem.Calls
set_option maxRecDepth 100000
namespace Mine
set_option maxHeartbeats 4000000 in
theorem init_spec {w : World} {p : Program} {loose : List Str} {mean : ExcName → Option Value} {mg mb : Str → Option Value} {dp un : Nat} {gd : Option (List Code)} {cn : Str} {cs : Scope} {a : Addr} {ccd : Value} {cl : List (Str × Addr)} {outer : List Env} {A₀ : Around} {base h₀ : Heap} {L : Addr} {m : Str → Option Value} {rest : List (Addr × Obj)} {s : Shared} {R : Result → Shared → Prop}
  {hx dx rl : Addr} {items : List Value} {n : Nat} {rows : List Row}
  (B : Below A₀ base outer h₀) (F : Fr h₀ L s.heap m) (X : (hd.heap_39 w.params).In h₀) (N : News h₀ L s.heap ((hx, instObj 182 dx) :: (dx, dictOf [] 0) :: rest)) (T : Top p loose mean mg mb h₀) (hk : cs.kind = .function)
  (hdp : dp + 8 < recursionLimit) (hun : un + 40 < cLine) (hil : items.length ≤ 100) (hr : TabIn rest items rows)
  (m3 : List.Mem (rl, listOf items.toArray n) rest) (o1 : ∀ q ∈ rest, @LT.lt Nat _ q.1 dx) (o2 : @LT.lt Nat _ dx hx)
  (hret : ∀ t1 h' tk', Fr h₀ L h' m → News h₀ L h' ((hx, instObj 182 dx) :: (dx, dictOf [⟨PyData.keyHash w.params (Str.ofString "_headers"), .str (Str.ofString "_headers") t1, .ref rl⟩] 1) :: rest) → R (.ok (.ret .none)) { s with heap := h', toks := tk' }) :
  codeAny (model PySem.Challenge.rw_tp0038_01.row.prog w) (ktrTop dp un gd cn cs L a ccd cl outer) (.call (.ref 76) ⟨[.ref hx, .ref rl], []⟩) R s := by
  have HX : (rl, listOf items.toArray n) ∈ (hx, instObj 182 dx) :: (dx, dictOf [] 0) :: rest := .tail _ (.tail _ m3)
  revert X; k_fill; intro X
  walk_at "mine:enter"
  repeat' ((fail_if_success (with_reducible show wpAny _ _ (exec (Stmt.For _ _ _ _ _) _) _ _ _)); walk_at "mine:step")
  rename_i g₁ L₁ h1 FG₁ B₁ X₁ T₁ k2 h2 tk2 h3 F1 N1
  have FF := fr_kst [(Str.ofString "headers", .ref rl), (Str.ofString "self", .ref hx)] F1 (AllP.all ⟨rfl, rfl, trivial⟩)
  clear F1
  dsimp only at N1
  generalize tk2 + 1 = t1 at N1
  with_unfolding_all refine' For_turns FF ?_
  dsimp only [kstB] at FF
  repeat' ((fail_if_success (with_reducible show wpAny _ _ (pyIter _) _ _ _)); walk_at "mine:step")
  try dsimp only
  with_unfolding_all refine iter_listTurns rfl FF N1 (.tail _ (.tail _ m3)) rfl rfl ?_
  intro I lI
  refine items_ind (fun vs m' nw => nw = _ ∧ ∃ todo u, TabIn rest vs todo ∧ m' = kstB u [(Str.ofString "headers", .ref rl), (Str.ofString "self", .ref hx)]) ?fin ?step _ _ _ ⟨rfl, rows, _, hr, rfl⟩
  case fin =>
    rintro m' nw ⟨rfl, todo, u, ht, rfl⟩ h9 tk9 F9 N9
    change Fr g₁ L₁ h9 _ at F9
    change News g₁ L₁ h9 _ at N9
    dsimp only [kstB] at F9
    clear FF N1
    k_steps
    with_reducible rename News h₀ L _ _ => NE
    exact hret _ _ _ (by k_asm) NE
  case step =>
    rintro v r m' nw ⟨rfl, todo, u, ht, rfl⟩ h9 tk9 o9 ho9 F9 N9
    change Fr g₁ L₁ h9 _ at F9
    change News g₁ L₁ h9 _ at N9
    dsimp only [kstB] at F9
    clear FF N1
    cases ht with
    | @cons tp ta tb r0 items rows' hm ht' =>
    have HM : (tp, rowObj r0 ta tb) ∈ (I, o9) :: (hx, instObj 182 dx) :: (dx, dictOf [⟨PyData.keyHash w.params (Str.ofString "_headers"), .str (Str.ofString "_headers") t1, .ref rl⟩] 1) :: rest := .tail _ (.tail _ (.tail _ hm))
    repeat' ((fail_if_success (with_reducible show UnrEndW _ _ _ _ _ _)); walk_at "mine:step")
    with_reducible rename Fr g₁ L₁ _ _ => FE
    with_reducible rename News g₁ L₁ _ _ => NE
    exact unr_loop (fr_kst [(Str.ofString "headers", .ref rl), (Str.ofString "self", .ref hx)] FE (AllP.all ⟨rfl, rfl, trivial⟩)) NE ⟨rfl, rows', _, ht', rfl⟩ (fun q hq => Nat.ne_of_lt (lI q hq)) ⟨.tail _ (.tail _ m3), trivial⟩
set_option maxHeartbeats 4000000 in
theorem headers_spec {w : World} {p : Program} {loose : List Str} {mean : ExcName → Option Value} {mg mb : Str → Option Value} {dp un : Nat} {gd : Option (List Code)} {cn : Str} {cs : Scope} {a : Addr} {ccd : Value} {cl : List (Str × Addr)} {outer : List Env} {A₀ : Around} {base h₀ : Heap} {L : Addr} {m : Str → Option Value} {rest : List (Addr × Obj)} {s : Shared} {Q E : Value → Shared → Prop}
  {rl : Addr} {items : List Value} {n : Nat} {rows : List Row}
  (B : Below A₀ base outer h₀) (F : Fr h₀ L s.heap m) (X : (hd.heap_39 w.params).In h₀) (N : News h₀ L s.heap rest) (T : Top p loose mean mg mb h₀) (hk : cs.kind = .function)
  (hdp : dp + 10 < recursionLimit) (hun : un + 50 < cLine) (hil : items.length ≤ 100) (hr : TabIn rest items rows)
  (m3 : List.Mem (rl, listOf items.toArray n) rest) (hs : 1 ≤ s.toks)
  (hret : ∀ hx dx tH h' tk', 1 ≤ tk' → Fr h₀ L h' m → News h₀ L h' ((hx, instObj 182 dx) :: (dx, dictOf [⟨PyData.keyHash w.params (Str.ofString "_headers"), .str (Str.ofString "_headers") tH, .ref rl⟩] 1) :: rest) → (∀ q ∈ rest, @LT.lt Nat _ q.1 dx) → @LT.lt Nat _ dx hx → Q (.ref hx) { s with heap := h', toks := tk' }) :
  wpAny (model PySem.Challenge.rw_tp0038_01.row.prog w) (ktrTop dp un gd cn cs L a ccd cl outer) (call (.ref 182) [.ref rl]) Q E s := by
  refine wpAny_with_toks (n := 1) hs ?_
  refine call_cls F X N (by rfl) (by rfl) (by rfl) ?_
  intro hx dx h9 F9 N9 l9 l99
  with_unfolding_all refine init_spec (dp := dp + 1) (un := un + 1) (gd := pushGuards (Code.guards (.builtin "type.__call__" ⟨[.ref 182, .ref rl], []⟩)) gd) (cn := cn) (a := a) (ccd := ccd) (cl := cl) (outer := outer) (s := { s with heap := h9 }) B F9 X N9 T hk (by omega) (by omega) hil hr m3 l9 l99 ?_
  intro tH h10 k10 F10 N10
  exact ⟨rfl, fun hk8 => hret hx dx tH h10 k10 hk8 F10 N10 l9 l99⟩
end Mine
end
theorem Mine.fresh31 : True := by
  w_top off
  k_with_none
  first | (walk1; fail) | trivial
section
open PySem PySem.W PyProof.Rows PySem.Calls
set_option maxRecDepth 100000
namespace Mine
local macro_rules | `(tactic| k_all) => `(tactic| first | assumption | (refine ne_all (by assumption) ?_; omega) | exact fun q hq => Nat.ne_of_lt (Nat.lt_succ_of_lt (‹∀ p : Addr × Obj, p ∈ _ → @LT.lt Nat _ p.1 _› q hq)))
theorem ga1_fin {h₀ h : Heap} {L : Addr} {a b : Addr × Obj} {rest : List (Addr × Obj)} (N : News h₀ L h (a :: b :: rest)) : News h₀ L h (a :: rest) := fun p hp => N p (by
  rcases List.mem_cons.mp hp with rfl | hp
  · exact .head _
  · exact .tail _ (.tail _ hp))
theorem off1G {D : Addr} : ∀ {l : List (Addr × Obj)}, LCg.Off1 D l → ∀ p ∈ l, @Ne Nat p.1 D
  | [], _, _, h => nomatch h
  | _ :: _, x, p, h => by
    rcases List.mem_cons.mp h with rfl | h
    · exact x.1
    · exact off1G x.2 p h
set_option maxHeartbeats 4000000 in
theorem get_all_spec {w : World} {p : Program} {loose : List Str} {mean : ExcName → Option Value} {mg mb : Str → Option Value} {dp un : Nat} {gd : Option (List Code)} {cn : Str} {cs : Scope} {a : Addr} {ccd : Value} {cl : List (Str × Addr)} {outer : List Env} {A₀ : Around} {base h₀ : Heap} {L : Addr} {m : Str → Option Value} {rest : List (Addr × Obj)} {s : Shared} {R : Result → Shared → Prop}
  {hx hd9 hl : Addr} {items : List Value} {n : Nat} {rows : List Row} {t1 tn : Tok} {i : Fin 5} {u : Bool}
  (B : Below A₀ base outer h₀) (F : Fr h₀ L s.heap m) (X : (hd.heap_39 w.params).In h₀) (N : News h₀ L s.heap rest) (T : Top p loose mean mg mb h₀) (hk : cs.kind = .function)
  (hdp : dp + 8 < recursionLimit) (hun : un + 40 < cLine) (hil : items.length ≤ 100) (hr : TabIn rest items rows)
  (m1 : List.Mem (hx, instObj 182 hd9) rest) (m2 : List.Mem (hd9, dictOf [⟨PyData.keyHash w.params (Str.ofString "_headers"), .str (Str.ofString "_headers") t1, .ref hl⟩] 1) rest) (m3 : List.Mem (hl, listOf items.toArray n) rest)
  (hret : ∀ D ys h' tk', StrsAre ys ((homesAt i rows).map fun j => txt (rpl j)) → Fr h₀ L h' m → News h₀ L h' ((D, LCg.lst ys) :: rest) → (∀ q ∈ rest, @Ne Nat q.1 D) → R (.ok (.ret (.ref D))) { s with heap := h', toks := tk' }) :
  codeAny (model PySem.Challenge.rw_tp0038_01.row.prog w) (ktrTop dp un gd cn cs L a ccd cl outer) (.call (.ref 121) ⟨[.ref hx, .str (txt (nm i u)) tn], []⟩) R s := by
  revert X; k_fill; intro X
  walk_at "mine:enter"
  have M1 : (hx, instObj 182 hd9) ∈ rest := m1
  have M2 : (hd9, dictOf [⟨PyData.keyHash w.params (Str.ofString "_headers"), .str (Str.ofString "_headers") t1, .ref hl⟩] 1) ∈ rest := m2
  repeat' ((fail_if_success (with_reducible show wpAny _ _ (eval (Expr.ListComp _ _ _ _) _) _ _ _)); walk_at "mine:step")
  rename_i g₁ L₁ h1 tk1 FG₁ B₁ X₁ T₁ l₁ o1' d1 tz kz h2 tk2 h3 oN F1 N1 dN
  refine LCt.ListComp_T (F₀ := by k_asm) (by with_unfolding_all rfl) (by decide) (by rfl) (by decide) (by rfl) ?_
  repeat' ((fail_if_success (with_reducible show LCt.CompSrcT _ _ _ _ _ _ _ _ _ _ _ _ _ _ _)); walk_at "mine:step")
  refine LCt.CompSrcT.ledger rfl F1 N1 (.tail _ m3) (by rw [sizeLine_eq, List.size_toArray]; omega) ?_
  intro g2
  have hlen := hr.len
  refine restT_ind (fun k j ys nw => nw = (L₁ + 1, oN) :: rest ∧ j + k = items.length ∧ StrsAre ys ((homesAt i (rows.take j)).map fun j => txt (rpl j))) ?_ ?_ _ _ _ _ ⟨rfl, by rw [List.size_toArray]; omega, .nil⟩
  · rintro j ys nw ⟨rfl, hi, hys⟩
    rw [List.take_of_length_le (by omega)] at hys
    k_steps
    with_reducible rename News h₀ L _ _ => NE
    with_reducible rename _ ∧ LCg.Off1 _ _ => oF
    exact hret _ _ _ _ hys (by k_asm) (ga1_fin NE) (off1G oF.2)
  · rintro k j ys nw ⟨rfl, hi, hys⟩ v I oI C oC D m₂ h tk9 E' hv hC hm₂ F3 N3 off ne
    obtain ⟨tp, ta, tb, r, rfl, hrow, hmem⟩ := hr.at j v hv
    have HM : (tp, rowObj r ta tb) ∈ (I, oI) :: (C, oC) :: (D, LCg.lst ys) :: (L₁ + 1, oN) :: rest := .tail _ (.tail _ (.tail _ (.tail _ hmem)))
    repeat' ((fail_if_success (with_reducible show LCg.CompEnd _ _ _ _ _ _ _ _ _ _ _ _ _ _)); walk_at "mine:step")
    · with_reducible rename (_ == _) = true => he
      rw [nm_beq] at he
      have he := of_decide_eq_true he
      refine LCg.CompEnd.intro F3 N3 ((L₁ + 1, oN) :: rest) (fun p hp => hp) off (.inr ⟨_, .tail _ m3, rfl, _, rfl⟩) ⟨rfl, by omega, ?_⟩
      rw [List.take_add_one, hrow]
      show StrsAre _ ((homesAt i (rows.take j ++ [r])).map _)
      rw [homes_snoc, if_pos he, List.map_append]
      exact StrsAre.append' hys (.cons _ _ .nil)
    · with_reducible rename (_ == _) = false => he
      rw [nm_beq] at he
      have he := of_decide_eq_false he
      refine LCg.CompEnd.intro F3 N3 ((L₁ + 1, oN) :: rest) (fun p hp => hp) off (.inr ⟨_, .tail _ m3, rfl, _, rfl⟩) ⟨rfl, by omega, ?_⟩
      rw [List.take_add_one, hrow]
      show StrsAre _ ((homesAt i (rows.take j ++ [r])).map _)
      rw [homes_snoc, if_neg he, List.append_nil]
      exact hys
end Mine
end
theorem Mine.fresh32 : True := by
  w_top off
  k_with_none
  first | (walk1; fail) | trivial
section
open PySem PySem.W PyProof.Rows PySem.Calls
set_option maxRecDepth 100000
namespace Mine
section
variable {prog : Program} {w : World} {A : Around} {E : Value → Shared → Prop} {s : Shared} {h₀ : Heap} {L : Addr} {m : Str → Option Value} {env : Env}
/-- a comprehension's source: enumerate over a list of the ledger -/
noncomputable def EnSrc (prog : Program) (w : World) (A : Around) (h₀ : Heap) (L : Addr) (m : Str → Option Value) (env : Env) (elt : Expr) (a b : Str) (scope : Scope) (cl : List (Str × Addr)) (y0 : Str) (Q : Flow → Shared → Prop) (xv : Value) (s₁ : Shared) : Prop :=
  ∃ (e it l : Addr) (its : List Value) (n : Nat) (news : List (Addr × Obj)), xv = .ref e ∧ A.handled = none ∧ Fr h₀ L s₁.heap m ∧ News h₀ L s₁.heap news ∧ List.Mem (l, listOf its.toArray n) news ∧ IsEnum s₁.heap e it 0 .none ∧ s₁.heap.IsListIter it l 0 ∧ e ≠ it ∧
    (∀ p ∈ news, p.1 ≠ e ∧ p.1 ≠ it) ∧ L ≠ e ∧ L ≠ it ∧ h₀.get? e = none ∧ h₀.get? it = none ∧ its.length ≤ 100 ∧
    (∀ (i : Nat) (x : Value) (t : Tok) oe oi C oC D ys m₂ h tk (E' : Value → Shared → Prop), its[i]? = some x → LCg.NsObj oC m₂ → m₂ a = some (.int (i : Int) t) → m₂ b = some x → Fr h₀ L h m → News h₀ L h ((C, oC) :: (D, LCg.lst ys) :: (e, oe) :: (it, oi) :: news) →
      wpAny (model prog w) A (eval elt (compEnvC scope cl C env)) (fun y s₅ => ∃ h₅ tk₅ z t₅, s₅ = { s₁ with heap := h₅, toks := tk₅ } ∧ y = .int z t₅ ∧ Fr h₀ L h₅ m ∧ News h₀ L h₅ ((C, oC) :: (D, LCg.lst ys) :: (e, oe) :: (it, oi) :: news)) E' { s₁ with heap := h, toks := tk }) ∧
    (∀ D ys ns h tk, ys.length = its.length → IntsAre ys ns → Fr h₀ L h (fun z => if z = y0 then some (.ref D) else m z) → News h₀ L h ((D, LCg.lst ys) :: news) → (∀ p ∈ news, @LT.lt Nat _ p.1 D) → Q .next { s₁ with heap := h, toks := tk })
theorem ints_snoc {ys : List Value} {ns : List Int} (h : IntsAre ys ns) (z : Int) (t : Tok) : IntsAre (ys ++ [.int z t]) (ns ++ [z]) := by
  induction h with
  | nil => exact .cons _ _ .nil
  | cons n t _ ih => exact .cons _ _ ih
theorem enum_assign {elt iter : Expr} {a b y : Str} {pa pb tp py : Pos} {kk : Nat} {scope : Scope} {cl : List (Str × Addr)} {pos spos : Pos} {Q : Flow → Shared → Prop} (_F₀ : Fr h₀ L s.heap m) (hLe : env.locals = L)
    (hsw : swapsWith (.ListComp elt [⟨.Tuple [.Name a pa, .Name b pb] kk tp, iter, [], 0⟩] scope pos) (some (.Name y py)) spos.line env = pure true)
    (hclos : closureFor scope env = pure cl) (hcell : ∀ y ∈ scope.names, y.2 ≠ .cell) (hkind : scope.kind = .function)
    (hnames : ∀ y ∈ scope.names, y.2 = .local → scope.names.lookup y.1 = some .local) (hxa : scope.names.lookup a = some .local) (hxb : scope.names.lookup b = some .local) (hab : ¬ a = b)
    (hy : env.kindOf y = some .local) (hp : (env.scope.kind == .class || (env.scope.kind == .module && env.locals != env.globals)) = false)
    (h : wpAny (model prog w) A (eval iter env) (EnSrc prog w A h₀ L m env elt a b scope cl y Q) E s)
    (hs : ∀ x, foldedSetIterable iter env x = pure x := by intro _; rfl) :
    wpAny (model prog w) A (exec (.Assign [.Name y py] (.ListComp elt [⟨.Tuple [.Name a pa, .Name b pb] kk tp, iter, [], 0⟩] scope pos) spos) env) Q E s := by
  subst hLe
  rw [exec_Assign_Name_used _ _ _ _ hsw]
  refine wpAny_bind (wpAny_standAt (wpAny_bind ?_))
  show wpAny _ A (do let _ ← comprehension (.ListComp elt [⟨.Tuple [.Name a pa, .Name b pb] kk tp, iter, [], 0⟩] scope pos) scope env _ (newList []) false (eval iter env) (some (assign (.Name y py) env))) _ _ s
  refine wpAny_bind (wpAny_mono (wpAny_comprehension_free (use := some (assign (.Name y py) env)) (Q := fun _ s' => Q .next s') rfl hs hclos hkind hnames
    (wpAny_mono h (fun xv s₁ h₁ => ?_) fun _ _ e => e)) (fun _ s' hq => wpAny_pure (wpAny_pure hq)) fun _ _ e => e)
  obtain ⟨e, it, l, its, n, news, rfl, hh, F, N, hm, hE, hI, nEI, off, nLE, nLI, h0E, h0I, hlen, hstep, hfin⟩ := h₁
  refine wpAny_pyIter_enum hE ?_
  refine wpAny_newObj_type (wpAny_newFunctionEnv hcell (by intro y hy; simp at hy) (fun h₁ hns₁ hsb₁ => ?_) hkind)
  dsimp only at hns₁ hsb₁ ⊢
  generalize hH2 : s₁.heap.push { cls := .type "list", dict := none, data := .seq ([] : List Value).toArray } = H2 at hns₁ hsb₁ ⊢
  have hC : H2.objs.size = s₁.heap.objs.size + 1 := by rw [← hH2, Heap.size_push]
  generalize hDd : s₁.heap.objs.size = D at hC ⊢
  generalize hCc : H2.objs.size = C at hC hns₁ hsb₁ ⊢
  have lt : ∀ b o, s₁.heap.get? b = some o → @LT.lt Nat _ b D := fun b o e => by rw [← hDd]; exact Heap.lt_size e
  have old : ∀ b o, s₁.heap.get? b = some o → h₁.get? b = some o := fun b o e => hsb₁.extBut b o (Nat.ne_of_lt (by have := lt b o e; omega)) (Heap.get?_push_of_some _ (hH2 ▸ Heap.get?_push_of_some _ e))
  have hacc : h₁.get? D = some (LCg.lst []) := hsb₁.extBut _ _ (Nat.ne_of_lt (by omega)) (Heap.get?_push_of_some _ (by rw [← hH2, ← hDd]; exact Heap.get?_push_size _ rfl))
  have h0 : ∀ c, @LE.le Nat _ D c → h₀.get? c = none := fun c hc => by
    cases e9 : h₀.get? c with
    | none => rfl
    | some o' => exact absurd (lt _ _ (F.keep c o' e9)) (Nat.not_lt.mpr hc)
  have hLD : @LT.lt Nat _ env.locals D := by rw [← hDd]; exact F.ns.lt
  have hED : @LT.lt Nat _ e D := lt _ _ hE
  have hID : @LT.lt Nat _ it D := by obtain ⟨_, y, _⟩ := hI; exact lt _ _ y
  have hnD : ∀ p ∈ news, @LT.lt Nat _ p.1 D := fun p hp => lt _ _ (N p hp).1
  have hlD := hnD _ hm
  have W := KTurns.ofWalksU (elts := [.Name a pa, .Name b pb]) (k := kk) (pos := tp) (WalksT.enumerate (prog := prog) (w := w) (A := A) hh e it l nEI (off _ hm).1 (off _ hm).2 its.toArray).toU
  have hCD : C ≠ D := Nat.ne_of_gt (by omega)
  have hCe : C ≠ e := Nat.ne_of_gt (by omega)
  have hCi : C ≠ it := Nat.ne_of_gt (by omega)
  have hCL : C ≠ env.locals := Nat.ne_of_gt (by omega)
  have hDL : D ≠ env.locals := Nat.ne_of_gt (by omega)
  have hDe : D ≠ e := Nat.ne_of_gt (by omega)
  have hDi : D ≠ it := Nat.ne_of_gt (by omega)
  have hC0 : h₀.get? C = none := h0 C (by omega)
  have hD0 : h₀.get? D = none := h0 D (Nat.le_refl _)
  have loop : ∀ s₃ : Shared, s₃ = { s₁ with heap := h₁, toks := s₁.toks + ([] : List (Str × Value)).length } →
      codeAny (model prog w) A (.compLoop (.ListComp elt [⟨.Tuple [.Name a pa, .Name b pb] kk tp, iter, [], 0⟩] scope pos) 0 (.ref e) (.ref D) (compEnvC scope cl C env)) (compPost (model prog w) A E (some (assign (.Name y py) env)) (fun _ s' => Q .next s') (.ref D) C) s₃ := by
    rintro s₃ rfl
    refine kcp_loop (fun k s' => ∃ (h' : Heap) (tk i : Nat) (ys : List Value) (ns : List Int) (m' : Str → Option Value), s' = { s₁ with heap := h', toks := tk } ∧ i ≤ its.length ∧ k = its.length + 1 - i ∧ ys.length = i ∧ IntsAre ys ns ∧ (∃ od, IsEnum h' e it (i : Int) od) ∧
      h'.IsListIter it l i ∧ Fr h₀ env.locals h' m ∧ h'.Ns C m' ∧ News h₀ env.locals h' ((D, LCg.lst ys) :: news)) ?_ (its.length + 1)
      ⟨h₁, _, 0, [], [], _, rfl, Nat.zero_le _, rfl, rfl, .nil, ⟨_, old _ _ hE⟩, hI.at (fun o z => old _ _ z), F.keeps old, hns₁, fun p hp => ?_⟩
    · rintro k s' ⟨h', tk, i, ys, ns, m', rfl, hi, rfl, hyl, hys, ⟨od, hE'⟩, hI', F', hn', N'⟩
      have hl' : h'.IsList l its.toArray := ⟨_, (N' _ (.tail _ hm)).1, rfl, n, rfl⟩
      by_cases hlt : i < its.length
      · refine W.item i _ _ _ (by simpa using hlt) ⟨⟨od, hE'⟩, hI', hl'⟩ fun v h₂ tk₂ hMd hk₂ => ?_
        refine W.go i v _ _ _ hMd fun h₃ hP hst₃ hk₃ => ?_
        obtain ⟨T, vals, rfl, ⟨t, x, hx, rfl⟩, hT⟩ := hP
        obtain ⟨⟨od3, hE3⟩, hI3, _⟩ := hst₃
        have up3 : ∀ c o, c ≠ e → c ≠ it → h'.get? c = some o → h₃.get? c = some o := fun c o g1 g2 z => hk₃ c o (by simp [g1, g2]) (hk₂ c o (by simp [g1, g2]) z)
        refine kcp_assign (env := compEnvC scope cl C env) hh hT (lookup_relabel_local hxa) (lookup_relabel_local hxb) (by simp [compEnvC, relabel, hkind]) (hn'.at' fun o z => up3 C o hCe hCi z) fun h₄ tk₄ hn₄ hs₄ => ?_
        have up : ∀ c o, c ≠ e → c ≠ it → c ≠ C → h'.get? c = some o → h₄.get? c = some o := fun c o g1 g2 g3 z => hs₄ c o g3 (up3 c o g1 g2 z)
        obtain ⟨oe, hoe, hoe2⟩ : ∃ oe : Obj, h₄.get? e = some oe ∧ ∀ h : Heap, h.get? e = some oe → IsEnum h e it ((i + 1 : Nat) : Int) od3 := ⟨_, hs₄ e _ (Ne.symm hCe) hE3, fun _ z => z⟩
        obtain ⟨oi, hoi, hoi2⟩ : ∃ oi : Obj, h₄.get? it = some oi ∧ ∀ h : Heap, h.get? it = some oi → h.IsListIter it l (i + 1) := by
          obtain ⟨oi, q1, q2⟩ := hI3
          exact ⟨oi, hs₄ it _ (Ne.symm hCi) q1, fun _ z => ⟨oi, z, q2⟩⟩
        obtain ⟨oC, heC, hoC⟩ := LCg.ns_obj hn₄
        have F₄ : Fr h₀ env.locals h₄ m := ⟨F'.ns.at' fun o z => up env.locals o nLE nLI (Ne.symm hCL) z, fun c o z => up c o (fun q => by rw [q, h0E] at z; cases z) (fun q => by rw [q, h0I] at z; cases z) (fun q => by rw [q, hC0] at z; cases z) (F'.keep c o z), F'.above⟩
        have N₄ : News h₀ env.locals h₄ ((C, oC) :: (D, LCg.lst ys) :: (e, oe) :: (it, oi) :: news) := fun q hq => by
          rcases List.mem_cons.mp hq with rfl | hq
          · exact ⟨heC, hCL, hC0⟩
          rcases List.mem_cons.mp hq with rfl | hq
          · exact ⟨up D _ hDe hDi (Ne.symm hCD) (N' _ (.head _)).1, hDL, hD0⟩
          rcases List.mem_cons.mp hq with rfl | hq
          · exact ⟨hoe, Ne.symm nLE, h0E⟩
          rcases List.mem_cons.mp hq with rfl | hq
          · exact ⟨hoi, Ne.symm nLI, h0I⟩
          · have z := N' q (.tail _ hq)
            exact ⟨up _ _ (off q hq).1 (off q hq).2 (Nat.ne_of_lt (by have := hnD q hq; omega)) z.1, z.2⟩
        refine wpAny_mono (hstep i x t oe oi C oC D ys _ h₄ _ _ (by simpa using hx) hoC (by simp [hab]) (by simp) F₄ N₄) (fun y s₅ h₅ => ?_) fun _ _ z => z
        obtain ⟨h₅, tk₅, z, t₅, rfl, rfl, F₅, N₅⟩ := h₅
        have zC := (N₅ (C, oC) (.head _)).1
        have zD := (N₅ (D, LCg.lst ys) (.tail _ (.head _))).1
        have zE := (N₅ (e, oe) (.tail _ (.tail _ (.head _)))).1
        have zI := (N₅ (it, oi) (.tail _ (.tail _ (.tail _ (.head _))))).1
        refine append_at (hsz := by show ys.toArray.size ≤ sizeLine; rw [sizeLine_eq, List.size_toArray, hyl]; omega) zD fun h₆ hs₆ hD₆ => ?_
        refine ⟨its.length + 1 - (i + 1), by omega, h₆, tk₅, i + 1, ys ++ [.int z t₅], ns ++ [z], _, rfl, hlt, rfl, by rw [List.length_append, List.length_singleton, hyl], ints_snoc hys z t₅, ⟨od3, hoe2 _ (hs₆.extBut e _ (Ne.symm hDe) zE)⟩, hoi2 _ (hs₆.extBut it _ (Ne.symm hDi) zI), F₅.change hs₆ hDL hD0,
          (hoC.ns zC).sameBut hs₆ hCD, fun q hq => ?_⟩
        rcases List.mem_cons.mp hq with rfl | hq
        · exact ⟨hD₆.trans (congrArg some (LCg.lst_snoc ys _)), hDL, hD0⟩
        · have z := N₅ q (.tail _ (.tail _ (.tail _ (.tail _ hq))))
          exact ⟨hs₆.extBut _ _ (Nat.ne_of_lt (hnD q hq)) z.1, z.2⟩
      · obtain rfl : i = its.length := by omega
        refine W.done _ _ _ (by simpa using And.intro ⟨od, hE'⟩ ⟨hI', hl'⟩) fun h₂ tk₂ hk₂ => ?_
        have up : ∀ c o, c ≠ e → c ≠ it → h'.get? c = some o → h₂.get? c = some o := fun c o g1 g2 z => hk₂ c o (by simp [g1, g2]) z
        have F₂ : Fr h₀ env.locals h₂ m := ⟨F'.ns.at' fun o z => up env.locals o nLE nLI z, fun c o z => up c o (fun q => by rw [q, h0E] at z; cases z) (fun q => by rw [q, h0I] at z; cases z) (F'.keep c o z), F'.above⟩
        have n₂ : h₂.Ns C m' := hn'.at' fun o z => up C o hCe hCi z
        show wpAny _ A (assign (.Name y py) env (.ref D)) _ _ _
        refine wpAny_assign_Name (wpAny_storeName_local hy F₂.ns (fun h₃ hn₃ hs₃ => ?_) hp)
        have hL0 : h₀.get? env.locals = none := Heap.get?_none_of_le F₂.above
        have F₃ : Fr h₀ env.locals h₃ (fun z => if z = y then some (.ref D) else m z) := ⟨hn₃, fun b o z => hs₃.extBut b o (fun q => by rw [q, hL0] at z; cases z) (F₂.keep b o z), F₂.above⟩
        refine ⟨m', n₂.sameBut hs₃ hCL, fun h'' hs'' => hfin D ys ns h'' _ hyl hys (F₃.change hs'' hCL hC0) (fun q hq => ?_) fun q hq => hnD q hq⟩
        rcases List.mem_cons.mp hq with rfl | hq
        · exact ⟨hs''.extBut _ _ (Ne.symm hCD) (hs₃.extBut _ _ hDL (up D _ hDe hDi (N' _ (.head _)).1)), hDL, hD0⟩
        · have z := N' q (.tail _ hq)
          exact ⟨hs''.extBut _ _ (Nat.ne_of_lt (by have := hnD q hq; omega)) (hs₃.extBut _ _ z.2.1 (up _ _ (off q hq).1 (off q hq).2 z.1)), z.2⟩
    · rcases List.mem_cons.mp hp with rfl | hp
      · exact ⟨hacc, hDL, hD0⟩
      · exact ⟨old _ _ (N p hp).1, (N p hp).2⟩
  exact codeAny_compStart_list (loop _ rfl) (wpAny_pyIter_enum (old _ _ hE) (loop _ rfl))
end
end Mine
end
theorem Mine.fresh33 : True := by
  w_top off
  k_with_none
  first | (walk1; fail) | trivial
section
open PySem PySem.W PyProof.Rows PySem.Calls
set_option maxRecDepth 100000
namespace Mine
theorem mem_insAll (x : Nat) (b : List Nat) : ∀ a : List Nat, a ++ x :: b ∈ insAll x (a ++ b)
  | [] => by
    cases b with
    | nil => exact .head _
    | cons y r => exact .head _
  | y :: a => List.mem_cons_of_mem _ (List.mem_map.mpr ⟨_, mem_insAll x b a, rfl⟩)
theorem mem_perms : ∀ (xs l : List Nat), l.Perm xs → l ∈ permsOf xs
  | [], l, h => by rw [List.Perm.eq_nil h]; exact .head _
  | x :: r, l, h => by
    obtain ⟨a, b, rfl⟩ := List.append_of_mem (h.mem_iff.mpr (.head _))
    have h2 : (a ++ b).Perm r := (List.perm_middle.symm.trans h).cons_inv
    exact List.mem_flatten.mpr ⟨_, List.mem_map.mpr ⟨_, mem_perms r _ h2, rfl⟩, mem_insAll x b a⟩
theorem perm_pop {st a b xs : List Nat} {c : Nat} (h : (st ++ (a ++ c :: b)).Perm xs) : ((st ++ [c]) ++ (a ++ b)).Perm xs := by
  refine List.Perm.trans ?_ h
  rw [List.append_assoc]
  exact List.Perm.append_left st (List.perm_middle (a := c) (l₁ := a) (l₂ := b)).symm
theorem cut_at {α : Type} (l : List α) {k : Nat} (h : k < l.length) : ∃ a c b, l = a ++ c :: b ∧ a.length = k :=
  ⟨l.take k, l[k], l.drop (k + 1), by rw [List.getElem_cons_drop, List.take_append_drop], by rw [List.length_take]; omega⟩
theorem strs_split {b : List Nat} {c : Nat} : ∀ {a : List Nat} {lv : List Value}, StrsAre lv ((a ++ c :: b).map fun c => txt [c]) → ∃ p t q, lv = p ++ .str (txt [c]) t :: q ∧ p.length = a.length ∧ StrsAre (p ++ q) ((a ++ b).map fun c => txt [c])
  | [], lv, h => by
    cases h with
    | cons _ t h => exact ⟨[], t, _, rfl, rfl, h⟩
  | y :: a, lv, h => by
    cases h with
    | cons _ t h =>
      obtain ⟨p, t', q, rfl, hp, hq⟩ := strs_split h
      exact ⟨_ :: p, t', q, rfl, by rw [List.length_cons, List.length_cons, hp], .cons _ _ hq⟩
theorem cut_spec (y : Value) (q : List Value) : ∀ p : List Value, kl_cut (p ++ y :: q) p.length = some (p, y, q)
  | [] => rfl
  | x :: p => by
    have ih := cut_spec y q p
    show kl_cut (x :: (p ++ y :: q)) (p.length + 1) = _
    unfold kl_cut
    rw [ih]
/-- the rows laid for the first k places -/
structure RowsAt (st : List Nat) (k : Nat) (rows : List Row) : Prop where
  len : rows.length = ((st.take k).filter fun c => decide (c ≠ 101)).length
  at' : ∀ i : Fin 5, if i.val < k then (st.getD i.val 0 = 101 ∧ homesAt i rows = []) ∨ ∃ j : Fin 5, j ≠ 4 ∧ st.getD i.val 0 = 97 + j.val ∧ homesAt i rows = [j] else homesAt i rows = []
theorem RowsAt.start (st : List Nat) : RowsAt st 0 [] := ⟨by simp, fun i => by rw [if_neg (Nat.not_lt_zero _)]; rfl⟩
theorem order_codes : ∀ st ∈ orders, st.length = 5 ∧ (∀ k : Fin 5, st[k.val]? = some (st.getD k.val 0) ∧ ∃ j : Fin 5, st.getD k.val 0 = 97 + j.val) ∧ (st.filter fun c => decide (c ≠ 101)).length = 4 := by decide +kernel
theorem RowsAt.rep {st : List Nat} {rows : List Row} (hst : st ∈ orders) (h : RowsAt st 5 rows) : Rep st rows := by
  obtain ⟨h1, h2, h3⟩ := order_codes st hst
  refine ⟨hst, ?_, fun i => ?_⟩
  · rw [h.len, List.take_of_length_le (by omega), h3]
  · have := h.at' i
    rw [if_pos i.isLt] at this
    exact this
theorem RowsAt.skip {st : List Nat} {k : Fin 5} {rows : List Row} (hst : st ∈ orders) (h : RowsAt st k.val rows) (hk : st.getD k.val 0 = 101) : RowsAt st (k.val + 1) rows := by
  obtain ⟨h1, h2, h3⟩ := order_codes st hst
  refine ⟨?_, fun i => ?_⟩
  · rw [h.len, List.take_add_one, (h2 k).1, hk, List.filter_append]
    simp
  · have hi := h.at' i
    by_cases hik : i = k
    · subst hik
      rw [if_neg (Nat.lt_irrefl _)] at hi
      rw [if_pos (Nat.lt_succ_self _)]
      exact .inl ⟨hk, hi⟩
    · have : i.val ≠ k.val := fun e => hik (Fin.ext e)
      by_cases hlt : i.val < k.val
      · rw [if_pos hlt] at hi; rw [if_pos (by omega)]; exact hi
      · rw [if_neg hlt] at hi; rw [if_neg (by omega)]; exact hi
theorem RowsAt.add {st : List Nat} {k j : Fin 5} {rows : List Row} (hst : st ∈ orders) (h : RowsAt st k.val rows) (u : Bool) (hk : st.getD k.val 0 = 97 + j.val) (hj : j ≠ 4) : RowsAt st (k.val + 1) (rows ++ [(k, u, j)]) := by
  obtain ⟨h1, h2, h3⟩ := order_codes st hst
  have hj4 : j.val ≠ 4 := fun e => hj (Fin.ext e)
  refine ⟨?_, fun i => ?_⟩
  · rw [List.length_append, h.len, List.take_add_one, (h2 k).1, hk, List.filter_append, List.length_append]
    have : decide (97 + j.val ≠ 101) = true := by simp; omega
    show _ + 1 = _ + ([97 + j.val].filter fun c => decide (c ≠ 101)).length
    rw [List.filter_cons_of_pos (by simpa using this)]
    rfl
  · have hi := h.at' i
    rw [homes_snoc]
    by_cases hik : i = k
    · subst hik
      rw [if_neg (Nat.lt_irrefl _)] at hi
      rw [if_pos (Nat.lt_succ_self _), hi, if_pos rfl]
      exact .inr ⟨j, hj, hk, rfl⟩
    · have : i.val ≠ k.val := fun e => hik (Fin.ext e)
      rw [if_neg (fun e : k = i => hik e.symm), List.append_nil]
      by_cases hlt : i.val < k.val
      · rw [if_pos hlt] at hi; rw [if_pos (by omega)]; exact hi
      · rw [if_neg hlt] at hi; rw [if_neg (by omega)]; exact hi
end Mine
end
theorem Mine.fresh34 : True := by
  w_top off
  k_with_none
  first | (walk1; fail) | trivial
section
local macro_rules | `(tactic| walk_at "execs cons") => `(tactic| ((refine keep_toks (by first | assumption | exact Nat.succ_le_succ (Nat.zero_le _) | (dsimp only; omega) | (dsimp only at *; omega)) ?_); (intro tk hk1); (with_reducible refine wpAny_execs_cons ?_); (try dsimp only)))
local macro_rules | `(tactic| walk_at "execs nil") => `(tactic| ((refine keep_toks (by first | assumption | exact Nat.succ_le_succ (Nat.zero_le _) | (dsimp only; omega) | (dsimp only at *; omega)) ?_); (intro tk hk1); (refine wpAny_execs_nil ?_); (try dsimp only)))
section
open PySem PySem.W PyProof.Rows PySem.Calls
set_option maxRecDepth 100000
namespace Mine
set_option maxHeartbeats 4000000 in
theorem names_spec {w : World} {p : Program} {loose : List Str} {mean : ExcName → Option Value} {mg mb : Str → Option Value} {dp un : Nat} {gd : Option (List Code)} {cn : Str} {cs : Scope} {a : Addr} {ccd : Value} {cl : List (Str × Addr)} {outer : List Env} {A₀ : Around} {base h₀ : Heap} {L : Addr} {m : Str → Option Value} {rest : List (Addr × Obj)} {s : Shared} {R : Result → Shared → Prop}
  (B : Below A₀ base outer h₀) (F : Fr h₀ L s.heap m) (X : (hd.heap_39 w.params).In h₀) (N : News h₀ L s.heap rest) (T : Top p loose mean mg mb h₀) (hk : cs.kind = .function)
  (hdp : dp + 2 < recursionLimit) (hun : un + 20 < cLine)
  (hret : ∀ D ys h' tk', StrsAre ys ([0, 1, 2, 3, 4].map fun i => txt (nm i false)) → Fr h₀ L h' m → News h₀ L h' ((D, listOf ys.toArray 0) :: rest) → (∀ q ∈ rest, q.1 < D) → R (.ok (.ret (.ref D))) { s with heap := h', toks := tk' }) :
  codeAny (model PySem.Challenge.rw_tp0038_01.row.prog w) (ktrTop dp un gd cn cs L a ccd cl outer) (.call (.ref 267) ⟨[], []⟩) R s := by
  revert X; k_fill; intro X
  walk_at "mine:enter"
  k_steps
  with_reducible rename News h₀ L _ _ => NE
  have e0 : Str.ofString "a" = txt (nm 0 false) := by decide +kernel
  have e1 : Str.ofString "b\"" = txt (nm 1 false) := by decide +kernel
  have e2 : Str.ofString "c\\" = txt (nm 2 false) := by decide +kernel
  have e3 : Str.ofString "d =" = txt (nm 3 false) := by decide +kernel
  have e4 : Str.ofString "e;" = txt (nm 4 false) := by decide +kernel
  rw [e0, e1, e2, e3, e4] at NE
  exact hret _ [_, _, _, _, _] _ _ (.cons _ _ (.cons _ _ (.cons _ _ (.cons _ _ (.cons _ _ .nil))))) (by k_asm) NE (by assumption)
set_option maxHeartbeats 4000000 in
theorem items_spec {w : World} {p : Program} {loose : List Str} {mean : ExcName → Option Value} {mg mb : Str → Option Value} {dp un : Nat} {gd : Option (List Code)} {cn : Str} {cs : Scope} {a : Addr} {ccd : Value} {cl : List (Str × Addr)} {outer : List Env} {A₀ : Around} {base h₀ : Heap} {L : Addr} {m : Str → Option Value} {rest : List (Addr × Obj)} {s : Shared} {R : Result → Shared → Prop}
  {hx hd9 hl : Addr} {items : List Value} {n : Nat} {t1 : Tok}
  (B : Below A₀ base outer h₀) (F : Fr h₀ L s.heap m) (X : (hd.heap_39 w.params).In h₀) (N : News h₀ L s.heap rest) (T : Top p loose mean mg mb h₀) (hk : cs.kind = .function)
  (hdp : dp + 2 < recursionLimit) (hun : un + 20 < cLine) (hil : items.length ≤ 100)
  (m1 : List.Mem (hx, instObj 182 hd9) rest) (m2 : List.Mem (hd9, dictOf [⟨PyData.keyHash w.params (Str.ofString "_headers"), .str (Str.ofString "_headers") t1, .ref hl⟩] 1) rest) (m3 : List.Mem (hl, listOf items.toArray n) rest)
  (hret : ∀ D h' tk', Fr h₀ L h' m → News h₀ L h' ((D, listOf items.toArray 0) :: rest) → (∀ q ∈ rest, q.1 < D) → R (.ok (.ret (.ref D))) { s with heap := h', toks := tk' }) :
  codeAny (model PySem.Challenge.rw_tp0038_01.row.prog w) (ktrTop dp un gd cn cs L a ccd cl outer) (.call (.ref 146) ⟨[.ref hx], []⟩) R s := by
  revert X; k_fill; intro X
  walk_at "mine:enter"
  have M1 : (hx, instObj 182 hd9) ∈ rest := m1
  have M2 : (hd9, dictOf [⟨PyData.keyHash w.params (Str.ofString "_headers"), .str (Str.ofString "_headers") t1, .ref hl⟩] 1) ∈ rest := m2
  repeat' ((fail_if_success (with_reducible show wpAny _ _ (subscriptTail _ _ _ _) _ _ _)); walk_at "mine:step")
  walk_at "mine:step"
  with_reducible rename Fr _ _ _ _ => F6
  with_reducible rename News _ _ _ _ => N6
  refine kmk_slice_lit F6 N6 (News.isList N6 m3) .none .none (zs := items) (by rw [slicePick_all]) ?_ (by with_unfolding_all rfl) (by intro _; with_unfolding_all rfl) (by rw [sizeLine_eq, List.size_toArray]; omega)
  intro D h7 F7 N7 l7
  clear F6 N6
  k_steps
  exact hret _ _ _ (by k_asm) (by k_asm) l7
local macro_rules | `(tactic| walk_at "call builtin:str.replace") => `(tactic| ((with_reducible show wpAny _ _ (call (Value.builtin "str.replace") [Value.str _ _, Value.str _ _, Value.str _ _]) _ _ _); (refine rep_qq (by first | (dsimp only; omega) | (dsimp only at *; omega)) (by first | omega | (dsimp only at *; omega)) (by first | omega | (dsimp only at *; omega)) (by omega) ?hl ?_); (case hl => (simp only [txt_len] at *; omega)); intro _ _ _ _))
local macro_rules | `(tactic| walk_at "execs cons") => `(tactic| ((refine keep_toks (by first | (dsimp only; omega) | (dsimp only at *; omega)) ?_); (intro tk hk1); (with_reducible refine wpAny_execs_cons ?_); (try dsimp only)))
local macro_rules | `(tactic| walk_at "execs nil") => `(tactic| ((refine keep_toks (by first | (dsimp only; omega) | (dsimp only at *; omega)) ?_); (intro tk hk1); (refine wpAny_execs_nil ?_); (try dsimp only)))
theorem rpl_txt (j : Fin 5) : Str.ofString "257 \"" ++ txt (rep 34 [34, 34] (nm j false)) ++ Str.ofString "\" is home" = txt (rpl j) := by
  have h : ∀ j : Fin 5, Str.ofString "257 \"" ++ txt (rep 34 [34, 34] (nm j false)) ++ Str.ofString "\" is home" = txt (rpl j) := by decide +kernel
  exact h j
set_option maxHeartbeats 4000000 in
theorem reply_spec {w : World} {p : Program} {loose : List Str} {mean : ExcName → Option Value} {mg mb : Str → Option Value} {dp un : Nat} {gd : Option (List Code)} {cn : Str} {cs : Scope} {a : Addr} {ccd : Value} {cl : List (Str × Addr)} {outer : List Env} {A₀ : Around} {base h₀ : Heap} {L : Addr} {m : Str → Option Value} {rest : List (Addr × Obj)} {s : Shared} {R : Result → Shared → Prop}
  {j : Fin 5} {t1 : Tok}
  (B : Below A₀ base outer h₀) (F : Fr h₀ L s.heap m) (X : (hd.heap_39 w.params).In h₀) (N : News h₀ L s.heap rest) (T : Top p loose mean mg mb h₀) (hk : cs.kind = .function)
  (hdp : dp + 2 < recursionLimit) (hun : un + 20 < cLine)
  (hret : ∀ t' h' tk', Fr h₀ L h' m → News h₀ L h' rest → R (.ok (.ret (.str (txt (rpl j)) t'))) { s with heap := h', toks := tk' }) :
  codeAny (model PySem.Challenge.rw_tp0038_01.row.prog w) (ktrTop dp un gd cn cs L a ccd cl outer) (.call (.ref 274) ⟨[.str (txt (nm j false)) t1], []⟩) R s := by
  have hl8 := nm_len j false
  revert X; k_fill; intro X
  walk_at "mine:enter"
  k_steps
  rw [rpl_txt]
  exact hret _ _ _ (by k_asm) (by k_asm)
end Mine
end
theorem Mine.fresh35 : True := by
  w_top off
  k_with_none
  first | (walk1; fail) | trivial
section
open PySem PySem.W PyProof.Rows PySem.Calls PyProof.V
set_option maxRecDepth 100000
namespace Mine
/-- the state ahead of a round of the search -/
inductive WJ (prog : Program) (w : World) (st : List Nat) (KD : Addr) (rest : List (Addr × Obj)) (n : Nat) (m : Str → Option Value) (nw : List (Addr × Obj)) : Prop
  | intro r FR vs nF od kvs c fs u tr (z0 : n = phi st - r) (z1 : m = kstB u [(Str.ofString "rounds", .int ((r : Nat) : Int) tr), (Str.ofString "known", .ref KD), (Str.ofString "front", .ref FR)]) (z2 : nw = (FR, listOf (List.toArray vs) nF) :: (KD, od) :: rest) (z3 : od.IsDictOf (PySem.strKind prog w) kvs) (z4 : FlatPairs PyData.str kvs (kdpD c)) (z5 : StrsAre vs (fs.map txt)) (z6 : Inv st r c fs) (z7 : @LT.lt Nat _ KD FR) : WJ prog w st KD rest n m nw
/-- the state within a round; D: the orders looked at -/
inductive RJ (prog : Program) (w : World) (st : List Nat) (r n0 : Nat) (tr : Tok) (KD FR BH : Addr) (lF : Obj) (pre rest : List (Addr × Obj)) (loc : List (Str × Value)) (D : List (List Nat)) (m : Str → Option Value) (nw : List (Addr × Obj)) : Prop
  | intro bv nB od kvs c bs u (z0 : m = kstB u ([(Str.ofString "rounds", .int (((r : Nat) : Int) + 1) tr), (Str.ofString "known", .ref KD), (Str.ofString "front", .ref FR), (Str.ofString "behind", .ref BH)] ++ loc)) (z1 : nw = pre ++ (BH, listOf (List.toArray bv) nB) :: (FR, lF) :: (KD, od) :: rest) (z2 : od.IsDictOf (PySem.strKind prog w) kvs) (z3 : FlatPairs PyData.str kvs (kdpD c)) (z4 : StrsAre bv (bs.map txt)) (z5 : LInv st r n0 D c bs) : RJ prog w st r n0 tr KD FR BH lF pre rest loc D m nw
theorem strs_at {vs : List Value} {fs : List (List Nat)} {i : Nat} {v : Value} (h : StrsAre vs (fs.map txt)) (hv : vs[i]? = some v) : ∃ x t, v = .str (txt x) t ∧ fs[i]? = some x := by
  obtain ⟨y, t, rfl, e⟩ := h.item i v hv
  rw [List.getElem?_map] at e
  cases hr : fs[i]? with
  | none => rw [hr] at e; cases e
  | some x =>
    rw [hr] at e
    injection e with e
    subst e
    exact ⟨x, t, rfl, rfl⟩
theorem abcd_at {j c : Nat} (h : (Str.ofString "abcd").cps[j]? = some c) : abcd[j]? = some c := by
  rw [show Str.ofString "abcd" = txt abcd by decide +kernel] at h
  exact (by simpa using h : abcd[j]? = some c)
theorem goal_txt : Str.ofString "abcde" = txt goalSt := by decide +kernel
theorem held_toks {α : Type} {M : Model} {A : Around} {E : Value → Shared → Prop} {s : Shared} {t : Sem α} {Q : α → Shared → Prop} (hk : 1 ≤ s.toks) (h : wpAny M A t (fun a s' => HeldT s'.toks (Q a s')) E s) : wpAny M A t Q E s :=
  wpAny_with_toks hk (wpAny_mono h (fun _ _ x => x) fun _ _ x _ => x)
section
variable {prog : Program} {w : World} {A : Around} {E : Value → Shared → Prop} {s : Shared} {Q : Value → Shared → Prop}
theorem rep_any {l z : List Nat} {c : Nat} {t : Tok} {u v : Nat} (hu : u ≠ 0) (hv : v ≠ 0) (huv : u ≠ v) (hl : l.length ≤ 100) (hz : z.length ≤ 8) (hyz : z ≠ [c])
    (h : ∀ t' k, Q (.str (txt (rep c z l)) t') { s with toks := k }) : wpAny (model prog w) A (call (.builtin "str.replace") [.str (txt l) t, .str (txt [c]) u, .str (txt z) v]) Q E s := by
  refine SC.replaceW hu hv huv (beq_eq_false_iff_ne.mpr fun e => hyz (txt_inj e).symm) (by show l.length ≤ 1048576; omega) (by show z.length ≤ 14; omega) ?_
  intro t' k
  rw [replace_txt]
  exact h t' k
theorem rep_ed {l : List Nat} {t : Tok} {u v : Nat} (hu : u ≠ 0) (hv : v ≠ 0) (huv : u ≠ v) (hl : l.length ≤ 100) (h : ∀ t' k, Q (.str (txt (rep 101 [45] l)) t') { s with toks := k }) :
    wpAny (model prog w) A (call (.builtin "str.replace") [.str (txt l) t, .str (Str.ofString "e") u, .str (Str.ofString "-") v]) Q E s := by
  rw [show Str.ofString "e" = txt [101] by decide +kernel, show Str.ofString "-" = txt [45] by decide +kernel]
  exact rep_any hu hv huv hl (by decide) (by decide) h
theorem rep_ce {l : List Nat} {c : Nat} {t : Tok} {u v : Nat} (hc : c ≠ 101) (hu : u ≠ 0) (hv : v ≠ 0) (huv : u ≠ v) (hl : l.length ≤ 100) (h : ∀ t' k, Q (.str (txt (rep c [101] l)) t') { s with toks := k }) :
    wpAny (model prog w) A (call (.builtin "str.replace") [.str (txt l) t, .str ⟨#[c]⟩ u, .str (Str.ofString "e") v]) Q E s := by
  rw [show Str.ofString "e" = txt [101] by decide +kernel]
  exact rep_any hu hv huv hl (by simp) (by intro e; injection e with e; exact hc e.symm) h
theorem rep_dc {l : List Nat} {c : Nat} {t : Tok} {u v : Nat} (hc : c ≠ 45) (hu : u ≠ 0) (hv : v ≠ 0) (huv : u ≠ v) (hl : l.length ≤ 100) (h : ∀ t' k, Q (.str (txt (rep 45 [c] l)) t') { s with toks := k }) :
    wpAny (model prog w) A (call (.builtin "str.replace") [.str (txt l) t, .str (Str.ofString "-") u, .str ⟨#[c]⟩ v]) Q E s := by
  rw [show Str.ofString "-" = txt [45] by decide +kernel]
  exact rep_any hu hv huv hl (by simp) (by intro e; injection e with e; exact hc e) h
end
theorem push_arr2 (items : List Value) (v : Value) : items.toArray.push v = (items ++ [v]).toArray := by simp
theorem take_map {x : List Nat} {j c : Nat} (h : abcd[j]? = some c) : (abcd.take (j + 1)).map (swp x) = (abcd.take j).map (swp x) ++ [swp x c] := by
  rw [List.take_add_one, h, List.map_append]; rfl
theorem rep1_len (c d : Nat) : ∀ l : List Nat, (rep c [d] l).length = l.length
  | [] => rfl
  | k :: r => by
    have ih := rep1_len c d r
    unfold rep
    split <;> simp [ih]
set_option maxHeartbeats 4000000 in
theorem least_spec {w : World} {p : Program} {loose : List Str} {mean : ExcName → Option Value} {mg mb : Str → Option Value} {dp un : Nat} {gd : Option (List Code)} {cn : Str} {cs : Scope} {a : Addr} {ccd : Value} {cl : List (Str × Addr)} {outer : List Env} {A₀ : Around} {base h₀ : Heap} {L : Addr} {m : Str → Option Value} {rest : List (Addr × Obj)} {s : Shared} {R : Result → Shared → Prop}
  {st : List Nat} {t1 : Tok}
  (B : Below A₀ base outer h₀) (F : Fr h₀ L s.heap m) (X : (hd.heap_39 w.params).In h₀) (N : News h₀ L s.heap rest) (T : Top p loose mean mg mb h₀) (hk : cs.kind = .function)
  (hdp : dp + 2 < recursionLimit) (hun : un + 20 < cLine) (hs : 1 ≤ s.toks) (hst : st ∈ orders)
  (hret : ∀ t' h' tk', Fr h₀ L h' m → News h₀ L h' rest → R (.ok (.ret (.int (phi st) t'))) { s with heap := h', toks := tk' }) :
  codeAny (model PySem.Challenge.rw_tp0038_01.row.prog w) (ktrTop dp un gd cn cs L a ccd cl outer) (.call (.ref 298) ⟨[.str (txt st) t1], []⟩) R s := by
  revert X; k_fill; intro X
  walk_at "mine:enter"
  repeat' ((fail_if_success (with_reducible show wpAny _ _ (eval (Expr.Dict _ _ _) _) _ _ _)); walk_at "mine:step")
  rename_i g₁ L₁ h1 FG₁ B₁ X₁ T₁ tk1 hk1 h2 F1 N1 tk2 hk2
  refine wpAny_with_toks (n := 1) (by exact hk2) ?_
  refine kdn_eval (knd := PySem.strKind _ _) F1 N1 (Top.nolimit T₁) rfl rfl (List.cons_ne_nil _ _) (by decide) ?_
  intro KD h3 od F3 N3 lKD loKD hd3
  repeat' ((fail_if_success (with_reducible show KdnMade _ _ _ _ _ _ _)); walk_at "mine:step")
  refine kdn_made_strF (g := fun o => (KD, o) :: rest) F3 N3 (by k_updF) hd3 rfl (by simp [strPairs]) rfl ?_
  intro h4 od4 F4 N4 hd4 hf4 hk4
  change FlatPairs PyData.str _ (kdpD [(txt st, (0 : Int))]) at hf4
  generalize strPairs _ = kv4 at hd4 hf4
  dsimp only at hk4 ⊢
  clear F1 N1 F3 N3
  repeat' ((fail_if_success (with_reducible show wpAny _ _ (exec (Stmt.While _ _ _ _) _) _ _ _)); walk_at "mine:step")
  rename_i h5 tk5 hk5 FR h6 l6 h7 F7 N7 tk7 hk7
  have FF := fr_kst [(Str.ofString "rounds", .int ((0 : Nat) : Int) _), (Str.ofString "known", .ref KD), (Str.ofString "front", .ref FR)] F7 (AllP.all ⟨rfl, rfl, rfl, trivial⟩)
  refine While_inv (WJ PySem.Challenge.rw_tp0038_01.row.prog w st KD rest) FF N7 ⟨0, FR, [_], 0, od4, kv4, [(txt st, 0)], [st], _, _, rfl, rfl, rfl, hd4, hf4, .cons _ _ .nil, Inv.start hst 0, l6.1⟩ ?_
  clear F7 N7 FF hd4 hf4
  rintro n m₁ nw h₁ tk₁ F N ⟨r, FR, vs, nF, od, kvs, c, fs, u, tr, rfl, rfl, rfl, hd, hf, hvs, hI, lF⟩
  dsimp only [kstB] at F
  repeat' ((fail_if_success (with_reducible show wpAny _ _ (truthy _) _ _ _)); walk_at "mine:step")
  rw [goal_txt]
  cases hg : kdpHas c (txt goalSt) with
  | true =>
    obtain rfl := hI.done hg
    k_steps
    with_reducible rename News h₀ L _ _ => NE
    exact hret _ _ _ (by k_asm) (fun p hp => NE p (.tail _ (.tail _ hp)))
  | false =>
    have hr := hI.less hg
    have hp := Nat.pow_le_pow_right (n := 4) (by decide) hI.rl
    have hfl := hI.fl
    have hcl := hI.cl
    walk_at "mine:step"
    walk_at "mine:step"
    (with_reducible show wpAny _ _ _ _ _ _)
    k_fold
    repeat' ((fail_if_success (with_reducible show wpAny _ _ (exec (Stmt.For _ _ _ _ _) _) _ _ _)); walk_at "mine:step")
    rename_i tkA hkA hA BH hB lB hC FB NB tkB hkB
    have FF := fr_kst [(Str.ofString "rounds", .int (((r : Nat) : Int) + 1) _), (Str.ofString "known", .ref KD), (Str.ofString "front", .ref FR), (Str.ofString "behind", .ref BH)] FB (AllP.all ⟨rfl, rfl, rfl, rfl, trivial⟩)
    refine for_own ?_
    clear F N
    dsimp only [kstB] at FF
    repeat' ((fail_if_success (with_reducible show wpAny _ _ (pyIter _) _ _ _)); walk_at "mine:step")
    refine iter_listK (by exact hkB) rfl FF NB (.tail _ (.head _)) (fun I i m nw => (∀ q ∈ nw, q.1 ≠ I) ∧ RJ PySem.Challenge.rw_tp0038_01.row.prog w st r c.length _ KD FR BH (listOf vs.toArray nF) [] rest [] (nbrs (fs.take i)) m nw)
      (fun I lI => ⟨fun q hq => Nat.ne_of_lt (lI q hq), [], 0, od, kvs, c, [], _, rfl, rfl, hd, hf, .nil, LInv.start hI⟩) ?keep (fun I i m nw h => h.1) ?fin ?step
    case keep =>
      rintro I i m nw ⟨_, bv, nB, od, kvs, c2, bs, u, rfl, rfl, _⟩
      exact .tail _ (.head _)
    case fin =>
      rintro I m nw ⟨hoff, bv, nB, od, kvs, c2, bs, u2, rfl, rfl, hd, hf, hbv, hL⟩ h tk hk F N
      have hvl : vs.length = fs.length := by rw [hvs.len_eq, List.length_map]
      rw [List.take_of_length_le (by omega)] at hL
      dsimp only [kstB, List.cons_append, List.nil_append] at F N
      repeat' ((fail_if_success (with_reducible show WhileStep _ _ _ _ _ _ _)); walk_at "mine:step")
      with_reducible rename Fr _ _ _ _ => FE
      with_reducible rename News _ _ _ _ => NE
      refine WhileStep.intro (fr_kst [(Str.ofString "rounds", .int (((r + 1 : Nat)) : Int) _), (Str.ofString "known", .ref KD), (Str.ofString "front", .ref BH)] FE (AllP.all ⟨rfl, rfl, rfl, trivial⟩)) (fun p hp => NE p (by rcases List.mem_cons.mp hp with rfl | hp; exact .head _; exact .tail _ (.tail _ hp))) (n' := phi st - (r + 1)) (by omega) ⟨r + 1, BH, bv, nB, _, _, _, bs, _, _, rfl, rfl, rfl, hd, hf, hbv, hI.next hst hg hL, lB.2.1⟩
    case step =>
      rintro I i m nw v o hv ⟨hoff, bv, nB, od, kvs, c2, bs, u2, rfl, rfl, hd, hf, hbv, hL⟩ h tk hk F N
      have nBI : @Ne Nat BH I := hoff (BH, _) (.head _)
      have nFI : @Ne Nat FR I := hoff (FR, _) (.tail _ (.head _))
      have nKI : @Ne Nat KD I := hoff (KD, _) (.tail _ (.tail _ (.head _)))
      have nRI : ∀ q ∈ rest, @Ne Nat q.1 I := fun q hq => hoff q (.tail _ (.tail _ (.tail _ hq)))
      obtain ⟨x, tx, rfl, hx⟩ := strs_at hvs hv
      have hxf := List.mem_of_getElem? hx
      obtain ⟨hxo, hxk⟩ := hI.front x hxf
      have hxp := (hI.keys x hxk).2
      have hx5 := (orders_facts x hxo).1
      dsimp only [kstB, List.cons_append, List.nil_append] at F N
      walk_at "mine:step"
      refine held_toks (by dsimp only; omega) ?_
      (with_reducible show wpAny _ _ _ _ _ _)
      k_fold
      repeat' ((fail_if_success (with_reducible show wpAny _ _ (call (Value.builtin "str.replace") _ _) _ _ _)); walk_at "mine:step")
      refine wpAny_with_toks (n := 1) (by dsimp only; omega) ?_
      rename_i hC2 FC NC tkC hkC
      refine rep_ed (by omega) (by omega) (by omega) (by omega) ?_
      intro t7 k7 hk7
      change 1 ≤ k7 at hk7
      dsimp only
      repeat' ((fail_if_success (with_reducible show wpAny _ _ (exec (Stmt.For _ _ _ _ _) _) _ _ _)); walk_at "mine:step")
      refine for_own ?_
      with_reducible rename Fr _ _ _ _ => FM
      with_reducible rename News _ _ _ _ => NM
      rename_i tkD hkD
      have FF2 := fr_kst ([(Str.ofString "rounds", .int (((r : Nat) : Int) + 1) _), (Str.ofString "known", .ref KD), (Str.ofString "front", .ref FR), (Str.ofString "behind", .ref BH), (Str.ofString "middle", .str (txt (rep 101 [45] x)) t7)]) FM (AllP.all ⟨rfl, rfl, rfl, rfl, rfl, trivial⟩)
      repeat' ((fail_if_success (with_reducible show wpAny _ _ (pyIter _) _ _ _)); walk_at "mine:step")
      dsimp only [kstB] at FF2
      refine iter_strK (by decide +kernel) (by dsimp only; omega) rfl FF2 NM (fun I2 j m nw => (∀ q ∈ nw, q.1 ≠ I2) ∧ RJ PySem.Challenge.rw_tp0038_01.row.prog w st r c.length _ KD FR BH (listOf vs.toArray nF) [(I, o)] rest [(Str.ofString "middle", .str (txt (rep 101 [45] x)) t7)] (nbrs (fs.take i) ++ (abcd.take j).map (swp x)) m nw)
        (fun I2 lI => ⟨fun q hq => Nat.ne_of_lt (lI q hq), bv, nB, od, kvs, c2, bs, _, rfl, rfl, hd, hf, hbv, by simpa using hL⟩) (fun I i m nw h => h.1) ?fin2 ?step2
      case fin2 =>
        clear FM NM FF2 hd hf hbv hL
        rintro I2 m nw ⟨hoff2, bv, nB, od, kvs, c2, bs, u3, rfl, rfl, hd, hf, hbv, hL⟩ h tk hk F N
        rw [show (Str.ofString "abcd").cps.size = 4 by decide +kernel] at hL
        dsimp only [kstB, List.cons_append, List.nil_append] at F N
        repeat' ((fail_if_success (with_reducible show HeldT _ _)); walk_at "mine:step")
        intro hk9
        with_reducible rename Fr _ _ _ _ => FE
        with_reducible rename News _ _ _ _ => NE
        refine ⟨_, _, _, _, rfl, hk9, fr_kst [(Str.ofString "rounds", .int (((r : Nat) : Int) + 1) _), (Str.ofString "known", .ref KD), (Str.ofString "front", .ref FR), (Str.ofString "behind", .ref BH)] FE (AllP.all ⟨rfl, rfl, rfl, rfl, trivial⟩), NE, ?_, _, _, _, _, _, _, _, rfl, rfl, hd, hf, hbv, ?_⟩
        · intro q hq
          rcases List.mem_cons.mp hq with rfl | hq
          · exact nBI
          rcases List.mem_cons.mp hq with rfl | hq
          · exact nFI
          rcases List.mem_cons.mp hq with rfl | hq
          · exact nKI
          · exact nRI q hq
        · rw [List.take_add_one, hx]
          show LInv st r c.length (nbrs (fs.take i ++ [x])) c2 bs
          rw [nbrs_snoc]
          exact hL
      case step2 =>
        clear FM NM FF2 hd hf hbv hL
        rintro I2 j m nw c' (uS : Nat) o2 hc' ⟨hoff2, bv, nB, od, kvs, c2, bs, u3, rfl, rfl, hd, hf, hbv, hL⟩ h tk hu hut hk F N
        have hc2 := abcd_at hc'
        have hcm := List.mem_of_getElem? hc2
        have hc9 : c' ≠ 101 ∧ c' ≠ 45 := by
          have : ∀ c ∈ abcd, c ≠ 101 ∧ c ≠ 45 := by decide
          exact this c' hcm
        dsimp only [kstB, List.cons_append, List.nil_append] at F N
        have hrl := rep1_len 101 45 x
        walk_at "mine:step"
        refine held_toks (by dsimp only; omega) ?_
        with_reducible refine wpAny_execs_cons ?_
        try dsimp only
        (with_reducible show wpAny _ _ _ _ _ _)
        k_fold
        repeat' ((fail_if_success (with_reducible show wpAny _ _ (call (Value.builtin "str.replace") _ _) _ _ _)); walk_at "mine:step")
        refine wpAny_with_toks (n := uS + 1) (by dsimp only; omega) ?_
        refine rep_ce hc9.1 (by omega) (by omega) (by omega) (by omega) ?_
        intro t8 k8 hk8
        change uS + 1 ≤ k8 at hk8
        dsimp only
        have hrl2 := rep1_len c' 101 (rep 101 [45] x)
        repeat' ((fail_if_success (with_reducible show wpAny _ _ (call (Value.builtin "str.replace") _ _) _ _ _)); walk_at "mine:step")
        refine wpAny_with_toks (n := 1) (by dsimp only; omega) ?_
        refine rep_dc hc9.2 (by omega) (by omega) (by omega) (by omega) ?_
        intro t9 k9 hk9
        change 1 ≤ k9 at hk9
        dsimp only
        rw [show txt (rep 45 [c'] (rep c' [101] (rep 101 [45] x))) = txt (swp x c') from rfl]
        have hcl2 := hL.cl
        have hbl2 := hL.bl
        have hbv2 : bv.length = bs.length := by rw [hbv.len_eq, List.length_map]
        have hD : (nbrs (fs.take i) ++ (abcd.take j).map (swp x)).length ≤ 4 * fs.length + 4 := by
          rw [List.length_append, nbrs_len, List.length_map, List.length_take, List.length_take]
          simp only [List.length_cons, List.length_nil]
          omega
        repeat' ((fail_if_success (with_reducible show HeldT _ _)); walk_at "mine:step")
        · with_reducible rename kdpHas _ _ = true => hne
          with_reducible rename Fr _ _ _ _ => FE
          with_reducible rename News _ _ _ _ => NE
          intro hk9
          refine ⟨_, _, _, _, rfl, hk9, fr_kst [(Str.ofString "rounds", .int (((r : Nat) : Int) + 1) _), (Str.ofString "known", .ref KD), (Str.ofString "front", .ref FR), (Str.ofString "behind", .ref BH), (Str.ofString "middle", .str (txt (rep 101 [45] x)) t7)] FE (AllP.all ⟨rfl, rfl, rfl, rfl, rfl, trivial⟩), NE, hoff2, _, _, _, _, _, _, _, rfl, rfl, hd, hf, hbv, ?_⟩
          rw [take_map hc2, ← List.append_assoc]
          exact hL.old hne
        · with_reducible rename kdpHas _ _ = false => hne
          with_reducible rename Fr _ _ _ _ => FE
          with_reducible rename News _ _ _ _ => NE
          have nKB : @Ne Nat BH KD := Nat.ne_of_gt lB.2.1
          have nFB : @Ne Nat BH FR := Nat.ne_of_gt lB.1
          have nI : @Ne Nat KD I := hoff (KD, _) (.tail _ (.tail _ (.head _)))
          have nI2 : @Ne Nat KD I2 := hoff2 (KD, _) (.tail _ (.tail _ (.tail _ (.head _))))
          have nB : @Ne Nat BH I := hoff (BH, _) (.head _)
          have nB2 : @Ne Nat BH I2 := hoff2 (BH, _) (.tail _ (.head _))
          refine wpAny_with_toks (n := 1) (by first | (dsimp only; omega) | omega) ?_
          refine kdp_setItem FE NE (.tail (Ne.symm nI2) (.tail (Ne.symm nI) (.tail nKB (.tail (Nat.ne_of_gt lF) (.head fun p hp => Nat.ne_of_lt (lKD p hp)))))) hd hf (by omega) ?_
          intro hX odX kvsX FX NX hdX hfX hkX
          change 1 ≤ _ + 1 at hkX
          dsimp only
          clear FE NE
          repeat' ((fail_if_success (with_reducible show wpAny _ _ (call (Value.builtin "list.append") _) _ _ _)); walk_at "mine:step")
          with_reducible rename Fr _ _ _ _ => FY
          with_reducible rename News _ _ _ _ => NY
          refine append_led (pre := [_, _]) FY NY (AllP.all ⟨Ne.symm nB2, Ne.symm nB, trivial⟩) (c := ?post) (by rw [List.size_toArray]; omega) ?_
          case post =>
            intro p hp
            rcases List.mem_cons.mp hp with rfl | hp
            · exact Ne.symm nFB
            rcases List.mem_cons.mp hp with rfl | hp
            · exact Ne.symm nKB
            · exact Nat.ne_of_lt (ktn_ltOf lB.2.2 p hp)
          intro hZ FZ NZ
          clear FY NY
          rw [push_arr2] at NZ
          repeat' ((fail_if_success (with_reducible show HeldT _ _)); walk_at "mine:step")
          intro hk9
          with_reducible rename Fr _ _ _ _ => FW
          with_reducible rename News _ _ _ _ => NW
          refine ⟨_, _, _, _, rfl, hk9, fr_kst [(Str.ofString "rounds", .int (((r : Nat) : Int) + 1) _), (Str.ofString "known", .ref KD), (Str.ofString "front", .ref FR), (Str.ofString "behind", .ref BH), (Str.ofString "middle", .str (txt (rep 101 [45] x)) t7)] FW (AllP.all ⟨rfl, rfl, rfl, rfl, rfl, trivial⟩), NW, ?off, bv ++ [.str (txt (swp x c')) t9], _, _, _, _, bs ++ [swp x c'], _, rfl, rfl, hdX, hfX, ?bv, ?lj⟩
          case bv => rw [List.map_append]; exact StrsAre.append' hbv (.cons _ _ .nil)
          case lj =>
            rw [take_map hc2, ← List.append_assoc]
            exact hL.add hxo hxp hcm _
          case off =>
            intro q hq
            rcases List.mem_cons.mp hq with rfl | hq
            · exact hoff2 (I, o) (.head _)
            rcases List.mem_cons.mp hq with rfl | hq
            · exact nB2
            rcases List.mem_cons.mp hq with rfl | hq
            · exact hoff2 (FR, listOf vs.toArray nF) (.tail _ (.tail _ (.head _)))
            rcases List.mem_cons.mp hq with rfl | hq
            · exact nI2
            · exact hoff2 q (.tail _ (.tail _ (.tail _ (.tail _ hq))))
end Mine
end
theorem Mine.fresh36 : True := by
  w_top off
  k_with_none
  first | (walk1; fail) | trivial
section
open PySem PySem.W PyProof.Rows PySem.Calls
set_option maxRecDepth 100000
namespace Mine
noncomputable def rnfr : List Nat := [82, 78, 70, 82]
noncomputable def rnto : List Nat := [82, 78, 84, 79]
/-- the text that tells the renamings -/
noncomputable def textOf : List (Fin 5 × Fin 5 × Fin 5) → List Nat
  | [] => []
  | (i, f, _) :: mv => fpOf rnfr (nm i false) ++ 10 :: (fpOf rnto (nm f false) ++ 10 :: textOf mv)
noncomputable abbrev pairObj (p : Fin 5 × Fin 5) (ta tb : Tok) : Obj := { cls := .type "tuple", data := .seq #[.str (txt (nm p.1 false)) ta, .str (txt (nm p.2 false)) tb] }
inductive PairsIn (led : List (Addr × Obj)) : List Value → List (Fin 5 × Fin 5) → Prop
  | nil : PairsIn led [] []
  | cons {tp : Addr} {ta tb : Tok} {p : Fin 5 × Fin 5} {items ps} (h : List.Mem (tp, pairObj p ta tb) led) : PairsIn led items ps → PairsIn led (.ref tp :: items) (p :: ps)
theorem PairsIn.mono {r1 r2 : List (Addr × Obj)} {items : List Value} {ps : List (Fin 5 × Fin 5)} (h : PairsIn r1 items ps) (hs : ∀ p, List.Mem p r1 → List.Mem p r2) : PairsIn r2 items ps := by
  induction h with
  | nil => exact .nil
  | cons hm _ ih => exact .cons (hs _ hm) ih
theorem PairsIn.snoc {r1 : List (Addr × Obj)} {items : List Value} {ps : List (Fin 5 × Fin 5)} (h : PairsIn r1 items ps) {tp : Addr} {ta tb : Tok} {p : Fin 5 × Fin 5} (hm : List.Mem (tp, pairObj p ta tb) r1) : PairsIn r1 (items ++ [.ref tp]) (ps ++ [p]) := by
  induction h with
  | nil => exact .cons hm .nil
  | cons h1 _ ih => exact .cons h1 ih
theorem PairsIn.len {r : List (Addr × Obj)} {items : List Value} {ps : List (Fin 5 × Fin 5)} (h : PairsIn r items ps) : items.length = ps.length := by
  induction h with
  | nil => rfl
  | cons _ _ ih => rw [List.length_cons, List.length_cons, ih]
theorem PairsIn.at {r : List (Addr × Obj)} {items : List Value} {ps : List (Fin 5 × Fin 5)} (h : PairsIn r items ps) : ∀ (i : Nat) (v : Value), items.toArray[i]? = some v → ∃ tp ta tb p, v = .ref tp ∧ ps[i]? = some p ∧ List.Mem (tp, pairObj p ta tb) r := by
  induction h with
  | nil => intro i v e; simp at e
  | @cons tp ta tb p items ps hm _ ih =>
    intro i v e
    cases i with
    | zero => simp at e; exact ⟨tp, ta, tb, p, e.symm, rfl, hm⟩
    | succ i =>
      obtain ⟨tp', ta', tb', p', e1, e2, e3⟩ := ih i v (by simpa using e)
      exact ⟨tp', ta', tb', p', e1, by simpa using e2, e3⟩
theorem sub4 {a b c d : Addr × Obj} {r : List (Addr × Obj)} : ∀ p ∈ b :: c :: d :: a :: r, p ∈ a :: b :: c :: d :: r := by
  intro p hp
  simp only [List.mem_cons] at hp ⊢
  rcases hp with h | h | h | h | h <;> simp only [h, true_or, or_true]
theorem one1 {rest : List (Addr × Obj)} {a : Addr × Obj} {x : Addr} (h : ∀ q ∈ rest, q.1 ≠ x) (ha : @Ne Nat a.1 x) : ∀ q ∈ a :: rest, q.1 ≠ x := by
  intro q hq
  rcases List.mem_cons.mp hq with rfl | hq
  · exact ha
  · exact h q hq
theorem off1_mem {D : Addr} : ∀ {l : List (Addr × Obj)}, LCg.Off1 D l → ∀ p ∈ l, @Ne Nat p.1 D
  | [], _, _, h => nomatch h
  | _ :: _, x, p, h => by
    rcases List.mem_cons.mp h with rfl | h
    · exact x.1
    · exact off1_mem x.2 p h
theorem filt_pos {p : Fin 5 × Fin 5} (h : decide (p.1 ≠ p.2) = true) : ([p].filter fun p => decide (p.1 ≠ p.2)) = [p] := by simpa using h
theorem filt_neg {p : Fin 5 × Fin 5} (h : decide (p.1 ≠ p.2) = false) : ([p].filter fun p => decide (p.1 ≠ p.2)) = [] := by simpa using h
theorem eq_nil {prog : Program} {w : World} {A : Around} {E : Value → Shared → Prop} {s : Shared} {Q : Value → Shared → Prop} {h₀ : Heap} {L : Addr} {news : List (Addr × Obj)} {c d : Addr} {xs : List Value} {n m : Nat} (N : News h₀ L s.heap news) (hc : (c, listOf xs.toArray n) ∈ news) (hd : (d, listOf #[] m) ∈ news) (hu : A.units < cLine)
    (h : Q (.bool (decide (xs = []))) s) : wpAny (model prog w) A (compareOp .Eq (.ref c) (.ref d)) Q E s := by
  cases xs with
  | nil =>
    have key := PySem.SeqAt.RcAt.lists (A := A) (s := s) (e := fun _ => true) (News.isList N hc) (News.isList N hd) rfl hu (fun j h1 _ => absurd h1 (by simp))
    exact key prog w E Q h
  | cons x xs =>
    have hz2 : ((x :: xs).toArray.size != (#[] : Array Value).size) = true := by simp
    have key := PySem.SeqAt.RcAt.lists_lengths (A := A) (s := s) (News.isList N hc) (News.isList N hd) hz2 hu
    exact key prog w E Q h
theorem keep7 {h₀ h : Heap} {L : Addr} {a b1 b2 b3 b4 b5 b6 b7 : Addr × Obj} {l rest : List (Addr × Obj)} (N : News h₀ L h (a :: b1 :: b2 :: b3 :: b4 :: b5 :: b6 :: b7 :: l)) (f : ∀ q, List.Mem q rest → List.Mem q l) : News h₀ L h (a :: rest) := by
  intro p hp
  refine N p ?_
  rcases List.mem_cons.mp hp with rfl | hp
  · exact .head _
  · exact .tail _ (.tail _ (.tail _ (.tail _ (.tail _ (.tail _ (.tail _ (.tail _ (f _ hp))))))))
noncomputable def strIs (z : Str) : Value → Bool
  | .str y _ => y == z
  | _ => false
theorem any_strs {z : Str} : ∀ {xs : List Value} {l : List Str}, StrsAre xs l → xs.any (strIs z) = decide (z ∈ l) := by
  intro xs l h
  induction h with
  | nil => rfl
  | cons x t _ ih =>
    rw [List.any_cons, ih]
    show (x == z || _) = _
    by_cases e : x = z
    · subst e; simp
    · rw [beq_eq_false_iff_ne.mpr e, Bool.false_or]
      simp [Ne.symm e]
theorem notin_strs {prog : Program} {w : World} {A : Around} {E : Value → Shared → Prop} {s : Shared} {Q : Value → Shared → Prop} {h₀ : Heap} {L : Addr} {news : List (Addr × Obj)} {c : Addr} {xs : List Value} {l : List Str} {n : Nat} {z : Str} {t : Tok} (N : News h₀ L s.heap news) (hc : (c, listOf xs.toArray n) ∈ news) (hx : StrsAre xs l)
    (h : Q (.bool (decide (z ∉ l))) s) : wpAny (model prog w) A (compareOp .NotIn (.str z t) (.ref c)) Q E s := by
  refine PySem.SeqAt.notIn_listAt (strIs z) (News.isList N hc) (fun y hy => ?_) ?_
  · obtain ⟨i, hi, e⟩ := List.getElem_of_mem (Array.mem_toList_iff.mpr hy)
    obtain ⟨a, t2, ea, _⟩ := hx.item i y (by rw [List.getElem?_eq_getElem (by simpa using hi)]; simpa using e)
    subst ea
    exact PySem.SeqAt.EqAt.str_str a t2 z t
  · rw [List.any_toArray, any_strs hx, ← decide_not]
    exact h
theorem taken_mem (i : Fin 5) (rows : List Row) : (txt (nm i false) ∉ (rows.map fun r => (r.1, r.2.2)).map fun p => txt (nm p.1 false)) ↔ i ∉ rows.map (·.1) := by
  rw [List.map_map]
  refine not_congr ⟨fun h => ?_, fun h => ?_⟩
  · obtain ⟨r, hr, e⟩ := List.mem_map.mp h
    exact List.mem_map.mpr ⟨r, hr, (nm_inj (txt_inj e)).1⟩
  · obtain ⟨r, hr, e⟩ := List.mem_map.mp h
    exact List.mem_map.mpr ⟨r, hr, by show txt (nm r.1 false) = _; rw [e]⟩
theorem e_txt1 : Str.ofString "" = txt (textOf []) := by decide +kernel
/-- the state between two turns of the plan -/
inductive PJ (st : List Nat) (hx hl L₁ : Addr) (rest : List (Addr × Obj)) (I : Addr) (t : Nat) (m : Str → Option Value) (nw : List (Addr × Obj)) : Prop
  | intro (items : List Value) (n : Nat) (rows : List Row) (st' : List Nat) (mv : List (Fin 5 × Fin 5 × Fin 5)) (led : List (Addr × Obj)) (tt : Tok) (oA oB : Obj) (xA xB : Option Value) (u : Str → Option Value) (z0 : m = kstB u [(Str.ofString "table", .ref hx), (Str.ofString "text", .str (txt (textOf mv)) tt)]) (z1 : nw = (L₁ + 1 + 1, oA) :: (L₁ + 1, oB) :: (hl, listOf items.toArray n) :: led) (z2 : oA.data = Data.cell xA) (z3 : oB.data = Data.cell xB) (z4 : TabIn led items rows) (z5 : Rep st' rows) (z6 : Path st mv st') (z7 : mv.length = t) (z8 : phi st' + t = phi st) (z9 : (∀ q, List.Mem q rest → List.Mem q led)) (z10 : (∀ q ∈ led, @Ne Nat q.1 hl)) (z11 : (∀ q ∈ led, @Ne Nat q.1 (L₁ + 1) ∧ @Ne Nat q.1 (L₁ + 1 + 1))) (z12 : (∀ q ∈ nw, @Ne Nat q.1 I)) : PJ st hx hl L₁ rest I t m nw
/-- what the turn's first part leaves: the renaming is chosen and done in the table -/
inductive SP (hx hl L₁ : Addr) (rest : List (Addr × Obj)) (g₁ : Heap) (I : Addr) (o : Obj) (tx : Value) (rows : List Row) (st' : List Nat) (s s' : Shared) : Prop
  | intro (h : Heap) (tk : Nat) (i f j : Fin 5) (tc tf : Tok) (led : List (Addr × Obj)) (items : List Value) (n : Nat) (oA oB : Obj) (xB : Option Value) (u : Str → Option Value) (z0 : s' = { s with heap := h, toks := tk }) (z1 : 1 ≤ tk) (z2 : Fr g₁ L₁ h (kstB u [(Str.ofString "table", .ref hx), (Str.ofString "text", tx), (Str.ofString "chosen", .str (txt (nm i false)) tc)])) (z3 : News g₁ L₁ h ((I, o) :: (L₁ + 1 + 1, oA) :: (L₁ + 1, oB) :: (hl, listOf items.toArray n) :: led)) (z4 : oA.data = Data.cell (some (.str (txt (nm f false)) tf))) (z5 : oB.data = Data.cell xB) (z6 : TabIn led items (drop1 i rows ++ [(f, true, j)])) (z7 : j ≠ 4) (z8 : st'.getD i.val 0 = 97 + j.val) (z9 : st'.getD f.val 0 = 101) (z10 : phi (swp st' (97 + j.val)) + 1 = phi st') (z11 : (∀ q, List.Mem q rest → List.Mem q led)) (z12 : (∀ q ∈ led, @Ne Nat q.1 hl)) (z13 : (∀ q ∈ led, @Ne Nat q.1 (L₁ + 1) ∧ @Ne Nat q.1 (L₁ + 1 + 1))) (z14 : (∀ q ∈ (L₁ + 1 + 1, oA) :: (L₁ + 1, oB) :: (hl, listOf items.toArray n) :: led, @Ne Nat q.1 I)) : SP hx hl L₁ rest g₁ I o tx rows st' s s'
/-- what the turn's first lines leave: the names away and the free name -/
inductive SP1 (hx hl L₁ : Addr) (led : List (Addr × Obj)) (g₁ : Heap) (I : Addr) (o : Obj) (tx : Value) (items : List Value) (n : Nat) (rows : List Row) (s s' : Shared) : Prop
  | intro (h : Heap) (tk : Nat) (f : Fin 5) (fr : List (Fin 5)) (tf : Tok) (AW : Addr) (zs : List Value) (lq : List (Addr × Obj)) (oA oB : Obj) (xB : Option Value) (u : Str → Option Value) (z0 : s' = { s with heap := h, toks := tk }) (z1 : 1 ≤ tk) (z2 : awayOf rows ≠ []) (z3 : freeOf rows = f :: fr) (z4 : Fr g₁ L₁ h (kstB u [(Str.ofString "table", .ref hx), (Str.ofString "text", tx), (Str.ofString "away", .ref AW)])) (z5 : News g₁ L₁ h ((AW, LCg.lst zs) :: (I, o) :: (L₁ + 1 + 1, oA) :: (L₁ + 1, oB) :: (hl, listOf items.toArray n) :: lq)) (z6 : oA.data = Data.cell (some (.str (txt (nm f false)) tf))) (z7 : oB.data = Data.cell xB) (z8 : PairsIn lq zs (awayOf rows)) (z9 : (∀ q, List.Mem q led → List.Mem q lq)) : SP1 hx hl L₁ led g₁ I o tx items n rows s s'
theorem PairsIn.app {r : List (Addr × Obj)} {xs ys : List Value} {ps qs : List (Fin 5 × Fin 5)} (h : PairsIn r xs ps) (h2 : PairsIn r ys qs) : PairsIn r (xs ++ ys) (ps ++ qs) := by
  induction h with
  | nil => exact h2
  | cons hm _ ih => exact .cons hm ih
theorem selIn {r : List (Addr × Obj)} {fz zs : List Value} {rows : List Row} {f i j : Fin 5} {c : List (Fin 5 × Fin 5)} (h : PairsIn r fz ((awayOf rows).filter fun p => decide (p.2 = f))) (h2 : PairsIn r zs (awayOf rows)) (hs : selOf f rows = (i, j) :: c) :
    ∃ tp ys ta tb, fz ++ zs = .ref tp :: ys ∧ List.Mem (tp, pairObj (i, j) ta tb) r := by
  have h3 := h.app h2
  change PairsIn r (fz ++ zs) (selOf f rows) at h3
  rw [hs] at h3
  generalize fz ++ zs = xs at h3
  cases h3 with
  | cons hm _ => exact ⟨_, _, _, _, rfl, hm⟩
theorem plan_led {h₀ h : Heap} {L : Addr} {a0 a1 a2 b c d e : Addr × Obj} {lq led : List (Addr × Obj)} (N : News h₀ L h (a0 :: a1 :: a2 :: b :: c :: d :: e :: lq)) (f : ∀ q, List.Mem q led → List.Mem q lq) : News h₀ L h (e :: b :: c :: d :: led) := by
  intro p hp
  refine N p ?_
  simp only [List.mem_cons] at hp ⊢
  rcases hp with h | h | h | h | h
  · simp only [h, true_or, or_true]
  · simp only [h, true_or, or_true]
  · simp only [h, true_or, or_true]
  · simp only [h, true_or, or_true]
  · exact .inr (.inr (.inr (.inr (.inr (.inr (.inr (f _ h)))))))
theorem ne_data {h₀ h : Heap} {L : Addr} {news : List (Addr × Obj)} {a b : Addr} {oa ob : Obj} (N : News h₀ L h news) (ha : (a, oa) ∈ news) (hb : (b, ob) ∈ news) (hd : oa.data ≠ ob.data) : @Ne Nat a b := by
  intro e
  have e1 := (N _ ha).1
  have e2 := (N _ hb).1
  dsimp only at e1 e2
  rw [show a = b from e] at e1
  rw [e1] at e2
  injection e2 with e2
  exact hd (by rw [e2])
theorem Rep.look_drop {st : List Nat} {rows : List Row} (h : Rep st rows) {f : Fin 5} (i : Fin 5) (e : st.getD f.val 0 = 101) : look f (drop1 i rows) = none := by
  rw [look_homes, homes_drop]
  by_cases hf : f = i
  · rw [if_pos hf]; rfl
  · rw [if_neg hf, ← look_homes]; exact h.look_none e
theorem Rep.look_add {st : List Nat} {rows : List Row} (h : Rep st rows) {f : Fin 5} (i : Fin 5) (u : Bool) (j : Fin 5) (e : st.getD f.val 0 = 101) : look f (drop1 i rows ++ [(f, u, j)]) = some j := by
  rw [look_homes, homes_snoc, if_pos rfl]
  have := h.look_drop i e
  rw [look_homes] at this
  cases hh : homesAt f (drop1 i rows) with
  | nil => rfl
  | cons a r => rw [hh] at this; cases this
theorem drop1_len (i : Fin 5) (rows : List Row) : (drop1 i rows).length ≤ rows.length := List.length_filter_le _ _
theorem rnfr_txt : Str.ofString "RNFR" = txt rnfr := by decide +kernel
theorem rnto_txt : Str.ofString "RNTO" = txt rnto := by decide +kernel
theorem fp_name_len (i : Fin 5) : (txt (fpOf rnfr (nm i false))).length ≤ 16 ∧ (txt (fpOf rnto (nm i false))).length ≤ 16 := by revert i; decide +kernel
theorem textOf_len : ∀ mv, (textOf mv).length ≤ mv.length * 40
  | [] => Nat.le_refl _
  | (i, f, j) :: mv => by
    have ih := textOf_len mv
    have h1 := (fp_name_len i).1
    have h2 := (fp_name_len f).2
    rw [txt_len] at h1 h2
    simp only [textOf, List.length_append, List.length_cons]
    omega
theorem textOf_snoc (i f j : Fin 5) : ∀ mv, textOf (mv ++ [(i, f, j)]) = textOf mv ++ (fpOf rnfr (nm i false) ++ [10] ++ (fpOf rnto (nm f false) ++ [10]))
  | [] => by simp [textOf]
  | (a, b, c) :: mv => by
    rw [List.cons_append, textOf, textOf, textOf_snoc i f j mv]
    simp
theorem nl1 : Str.ofString "\n" = txt [10] := by decide +kernel
theorem rn_piece (a b : List Nat) : txt a ++ Str.ofString "\n" ++ txt b ++ Str.ofString "\n" = txt (a ++ [10] ++ (b ++ [10])) := by
  rw [nl1, txt_app, txt_app, txt_app]
  simp
set_option maxHeartbeats 4000000 in
theorem plan_spec {w : World} {p : Program} {loose : List Str} {mean : ExcName → Option Value} {mg mb : Str → Option Value} {dp un : Nat} {gd : Option (List Code)} {cn : Str} {cs : Scope} {a : Addr} {ccd : Value} {cl : List (Str × Addr)} {outer : List Env} {A₀ : Around} {base h₀ : Heap} {L : Addr} {m : Str → Option Value} {rest : List (Addr × Obj)} {s : Shared} {R : Result → Shared → Prop}
  {hx hd9 hl : Addr} {items : List Value} {n : Nat} {rows : List Row} {t1 : Tok} {st : List Nat}
  (B : Below A₀ base outer h₀) (F : Fr h₀ L s.heap m) (X : (hd.heap_39 w.params).In h₀) (N : News h₀ L s.heap ((hl, listOf items.toArray n) :: rest)) (T : Top p loose mean mg mb h₀) (hk : cs.kind = .function)
  (hdp : dp + 14 < recursionLimit) (hun : un + 80 < cLine) (hr : TabIn rest items rows) (hrep : Rep st rows)
  (o1 : ∀ q ∈ rest, q.1 ≠ hl) (hs : 1 ≤ s.toks)
  (m1 : List.Mem (hx, instObj 182 hd9) rest) (m2 : List.Mem (hd9, dictOf [⟨PyData.keyHash w.params (Str.ofString "_headers"), .str (Str.ofString "_headers") t1, .ref hl⟩] 1) rest)
  (hret : ∀ tup mv tc tt h' tk', Path st mv goalSt → mv.length = phi st → Fr h₀ L h' m → News h₀ L h' ((tup, ({ cls := .type "tuple", data := .seq #[.int (phi st) tc, .str (txt (textOf mv)) tt] } : Obj)) :: rest) → R (.ok (.ret (.ref tup))) { s with heap := h', toks := tk' }) :
  codeAny (model PySem.Challenge.rw_tp0038_01.row.prog w) (ktrTop dp un gd cn cs L a ccd cl outer) (.call (.ref 286) ⟨[.ref hx], []⟩) R s := by
  have hrep0 := hrep
  revert X; k_fill; intro X
  walk_at "mine:enter"
  repeat' ((fail_if_success (with_reducible show wpAny _ _ (exec (Stmt.For _ _ _ _ _) _) _ _ _)); walk_at "mine:step")
  rename_i g₁ L₁ h1 tk1 FG₁ B₁ X₁ T₁ l₁ oA oB dA dB h2 F1 N1 tkx hkx
  refine for_own ?_
  refine held_toks (by exact hkx) ?_
  repeat' ((fail_if_success (with_reducible show HeldT _ _)); walk_at "mine:step")
  intro hs1
  rename_i h3 tk3 tr1 tr2 tr3 IR FF NN KP
  clear KP
  rw [e_txt1] at FF
  have F1 := fr_kst [(Str.ofString "table", .ref hx), (Str.ofString "text", .str (txt (textOf [])) _)] FF (AllP.all ⟨rfl, rfl, trivial⟩)
  refine iter_rangeK (n := 9) hs1 rfl IR (by decide) (by decide) F1 NN (PJ st hx hl L₁ rest) (fun I lI => ⟨items, n, rows, st, [], rest, _, oA, oB, _, _, _, rfl, rfl, dA, dB, hr, hrep, .nil _, rfl, rfl, fun _ h => h, o1, fun q hq => ⟨Nat.ne_of_lt (Nat.lt_succ_of_lt (ktn_ltOf l₁.2 q hq)), Nat.ne_of_lt (Nat.lt_succ_of_lt (Nat.lt_succ_of_lt (ktn_ltOf l₁.2 q hq)))⟩, fun q hq => Nat.ne_of_lt (lI q hq)⟩) ?off ?fin ?step
  case off =>
    rintro I t m nw ⟨items, n, rows, st', mv, led, tt, oA, oB, xA, xB, u, rfl, rfl, hdA, hdB, hr, hrep, hpath, hmv, hphi, hsub, o1, oAB, hoff⟩
    exact hoff
  case fin =>
    rintro I m nw ⟨items, n, rows, st', mv, led, tt, oA, oB, xA, xB, u, rfl, rfl, hdA, hdB, hr, hrep, hpath, hmv, hphi, hsub, o1, oAB, hoff⟩ h tk hk1 F N
    exfalso
    have h1 := (orders_facts st hrep0.ord).2.1
    omega
  case step =>
    rintro I t m nw tv o ht9 ⟨items, n, rows, st', mv, led, tt, oA, oB, xA, xB, u, rfl, rfl, hdA, hdB, hr, hrep, hpath, hmv, hphi, hsub, o1, oAB, hoff⟩ h tk hk1 F N
    change Fr g₁ L₁ h _ at F
    change News g₁ L₁ h _ at N
    dsimp only [kstB] at F
    have hil := hr.len
    rw [hrep.len] at hil
    have M1 : (hx, instObj 182 hd9) ∈ (I, o) :: (L₁ + 1 + 1, oA) :: (L₁ + 1, oB) :: (hl, listOf items.toArray n) :: led := .tail _ (.tail _ (.tail _ (.tail _ (hsub _ m1))))
    have M2 : (hd9, dictOf [⟨PyData.keyHash w.params (Str.ofString "_headers"), .str (Str.ofString "_headers") t1, .ref hl⟩] 1) ∈ (I, o) :: (L₁ + 1 + 1, oA) :: (L₁ + 1, oB) :: (hl, listOf items.toArray n) :: led := .tail _ (.tail _ (.tail _ (.tail _ (hsub _ m2))))
    walk_at "mine:step"
    (with_reducible show wpAny _ _ _ _ _ _)
    k_fold
    refine stageR (.step _ (.step _ (.step _ (.step _ (.step _ (.step _ (.step _ (.step _ (.step _ (.here _)))))))))) (by dsimp only; omega) (P := SP hx hl L₁ rest g₁ I o (.str (txt (textOf mv)) tt) rows st' s) ?stA ?stB
    case stB =>
      rintro s' ⟨h, tk, i, f, j, tc, tf, led2, items2, n2, oA2, oB2, xB2, u2, rfl, hk1, F, N, hdA2, hdB2, hr2, hj4, hij, hff, hph, hsub2, o12, oAB2, hoff2⟩
      dsimp only [kstB] at F
      refine held_toks (by dsimp only; exact hk1) ?_
      (with_reducible show wpAny _ _ _ _ _ _)
      k_fold
      repeat' ((fail_if_success (with_reducible show wpAny _ _ (call (Value.ref 61) _ _) _ _ _)); walk_at "mine:step")
      rw [rnfr_txt]
      with_reducible rename Fr _ _ _ _ => F6
      with_reducible rename News _ _ _ _ => N6
      have hfl1 := (fp_name_len i).1
      have hfl2 := (fp_name_len f).2
      have htl := textOf_len mv
      have htl2 : (txt (textOf mv)).length ≤ 400 := by rw [txt_len]; omega
      refine wpAny_call (fp_spec B₁ F6 X₁ N6 T₁ rfl (by ktr_room) (by ktr_units) (by dsimp only; omega) (by decide) (Nat.le_trans (nm_len _ _) (by decide)) ?_)
      intro t7 h7 k7 F7 N7
      dsimp only
      clear F6 N6
      repeat' ((fail_if_success (with_reducible show wpAny _ _ (call (Value.ref 61) _ _) _ _ _)); walk_at "mine:step")
      rw [rnto_txt]
      with_reducible rename Fr _ _ _ _ => F6
      with_reducible rename News _ _ _ _ => N6
      refine wpAny_call (fp_spec B₁ F6 X₁ N6 T₁ rfl (by ktr_room) (by ktr_units) (by dsimp only; omega) (by decide) (Nat.le_trans (nm_len _ _) (by decide)) ?_)
      intro t8 h8 k8 F8 N8
      dsimp only
      clear F6 N6
      repeat' ((fail_if_success (with_reducible show wpAny _ _ (inplaceOp _ _ _) _ _ _)); walk_at "mine:step")
      rw [rn_piece]
      refine iadd_txt (by simp only [List.length_append, List.length_cons, List.length_nil]; simp only [txt_len] at hfl1 hfl2; omega) ?_
      intro t9 k9
      repeat' ((fail_if_success (with_reducible show HeldT _ _)); walk_at "mine:step")
      intro hk9
      with_reducible rename Fr _ _ _ _ => FE
      with_reducible rename News _ _ _ _ => NE
      rw [← textOf_snoc i f j] at FE
      refine ⟨_, _, _, _, rfl, hk9, fr_kst [(Str.ofString "table", .ref hx), (Str.ofString "text", .str (txt (textOf (mv ++ [(i, f, j)]))) t9)] FE (AllP.all ⟨rfl, rfl, trivial⟩), NE, ?_⟩
      exact ⟨items2, n2, drop1 i rows ++ [(f, true, j)], _, mv ++ [(i, f, j)], led2, t9, oA2, oB2, _, _, _, rfl, rfl, hdA2, hdB2, hr2, hrep.move hj4 hij hff, hpath.snoc hj4 hij hff, by rw [List.length_append, hmv]; rfl, by omega, hsub2, o12, oAB2, hoff2⟩
    refine stageR (.step _ (.step _ (.step _ (.step _ (.step _ (.here _)))))) (by dsimp only; omega) (P := SP1 hx hl L₁ led g₁ I o (.str (txt (textOf mv)) tt) items n rows s) ?stA1 ?stA2
    case stA2 =>
      rintro s' ⟨h, tk, f, fr, tf, AW, zs, lq, oA, oB, xB, u, rfl, hk1, haw, hfr, F, N, hdA, hdB, hzs, hled⟩
      obtain ⟨f', fr', hfr', hff, i, j, c, hsel, hj4, hij, hph⟩ := hrep.step haw
      rw [hfr] at hfr'
      obtain ⟨rfl, rfl⟩ : f = f' ∧ fr = fr' := by injection hfr' with e1 e2; exact ⟨e1, e2⟩
      dsimp only [kstB] at F
      (with_reducible show wpAny _ _ _ _ _ _)
      k_fold
      repeat' ((fail_if_success (with_reducible show wpAny _ _ (eval (Expr.ListComp _ _ _ _) _) _ _ _)); walk_at "mine:step")
      refine LCt.ListComp_T (F₀ := by k_asm) (by with_unfolding_all rfl) (by decide) (by rfl) (by decide) (by rfl) ?_
      repeat' ((fail_if_success (with_reducible show LCt.CompSrcT _ _ _ _ _ _ _ _ _ _ _ _ _ _ _)); walk_at "mine:step")
      have hzl : zs.length ≤ 4 := by
        rw [hzs.len]
        refine Nat.le_trans (List.length_filter_le _ _) ?_
        rw [List.length_map, hrep.len]
        decide
      refine LCt.CompSrcT.ledger rfl F N (.head _) (by rw [sizeLine_eq, List.size_toArray]; omega) ?_
      intro g12
      refine restT_ind (fun k j fz nw => nw = (AW, LCg.lst zs) :: (I, o) :: (L₁ + 1 + 1, oA) :: (L₁ + 1, oB) :: (hl, listOf items.toArray n) :: lq ∧ j + k = zs.length ∧ PairsIn lq fz (((awayOf rows).take j).filter fun p => decide (p.2 = f))) ?_ ?_ _ _ _ _ ⟨rfl, by rw [List.size_toArray]; omega, .nil⟩
      · rintro jj fz nw ⟨rfl, hi, hfz⟩
        rw [List.take_of_length_le (by rw [← hzs.len]; omega)] at hfz
        repeat' ((fail_if_success (with_reducible show wpAny _ _ (binaryOp _ _ _) _ _ _)); walk_at "mine:step")
        rename_i D5 h5 tk5 F5 N5 oD5
        obtain ⟨tp, ys, ta, tb, efz, hmem⟩ := selIn hfz hzs hsel
        have hfl : fz.length ≤ 4 := by
          rw [hfz.len]
          refine Nat.le_trans (List.length_filter_le _ _) ?_
          rw [← hzs.len]; exact hzl
        refine kmk_add_lit F5 N5 (News.isList N5 (.head _)) (News.isList N5 (.tail _ (.head _))) (zs := .ref tp :: ys) (by simpa using efz) ?_ (by rw [sizeLine_eq]; simp; omega)
        intro D6 h6 F6 N6 l6
        dsimp only
        clear F5 N5
        (with_reducible show wpAny _ _ _ _ _ _)
        k_fold
        have HM : (tp, pairObj (i, j) ta tb) ∈ (D6, listOf (Value.ref tp :: ys).toArray 0) :: (D5, LCg.lst fz) :: (AW, LCg.lst zs) :: (I, o) :: (L₁ + 1 + 1, oA) :: (L₁ + 1, oB) :: (hl, listOf items.toArray n) :: lq := .tail _ (.tail _ (.tail _ (.tail _ (.tail _ (.tail _ (.tail _ hmem))))))
        repeat' ((fail_if_success (with_reducible show wpAny _ _ (exec (Stmt.Assign _ _ _) _) _ _ _)); walk_at "mine:step")
        with_reducible rename News _ _ _ _ => N7
        have hh1 : @Ne Nat hl I := hoff (hl, listOf items.toArray n) (.tail _ (.tail _ (.head _)))
        have hh2 : @Ne Nat hl (L₁ + 1) := ne_data N7 (.tail _ (.tail _ (.tail _ (.tail _ (.tail _ (.tail _ (.head _))))))) (.tail _ (.tail _ (.tail _ (.tail _ (.tail _ (.head _)))))) (by rw [hdB]; intro e; cases e)
        have hh3 : @Ne Nat hl (L₁ + 1 + 1) := ne_data N7 (.tail _ (.tail _ (.tail _ (.tail _ (.tail _ (.tail _ (.head _))))))) (.tail _ (.tail _ (.tail _ (.tail _ (.head _))))) (by rw [hdA]; intro e; cases e)
        have N8 := plan_led N7 hled
        clear N7 l6 HM hmem oD5 hzs hfz hled efz
        have oR : ∀ q ∈ (I, o) :: (L₁ + 1 + 1, oA) :: (L₁ + 1, oB) :: led, @Ne Nat q.1 hl := three o1 (Ne.symm hh1) (Ne.symm hh3) (Ne.symm hh2)
        have m1R : List.Mem (hx, instObj 182 hd9) ((I, o) :: (L₁ + 1 + 1, oA) :: (L₁ + 1, oB) :: led) := .tail _ (.tail _ (.tail _ (hsub _ m1)))
        have m2R : List.Mem (hd9, dictOf [⟨PyData.keyHash w.params (Str.ofString "_headers"), .str (Str.ofString "_headers") t1, .ref hl⟩] 1) ((I, o) :: (L₁ + 1 + 1, oA) :: (L₁ + 1, oB) :: led) := .tail _ (.tail _ (.tail _ (hsub _ m2)))
        have hrR : TabIn ((I, o) :: (L₁ + 1 + 1, oA) :: (L₁ + 1, oB) :: led) items rows := hr.mono fun p h => .tail _ (.tail _ (.tail _ h))
        have M1 : (hx, instObj 182 hd9) ∈ (hl, listOf items.toArray n) :: (I, o) :: (L₁ + 1 + 1, oA) :: (L₁ + 1, oB) :: led := .tail _ m1R
        have M2 : (hd9, dictOf [⟨PyData.keyHash w.params (Str.ofString "_headers"), .str (Str.ofString "_headers") t1, .ref hl⟩] 1) ∈ (hl, listOf items.toArray n) :: (I, o) :: (L₁ + 1 + 1, oA) :: (L₁ + 1, oB) :: led := .tail _ m2R
        repeat' ((fail_if_success (with_reducible show wpAny _ _ (call (Value.ref 129) _ _) _ _ _)); walk_at "mine:step")
        with_reducible rename Fr _ _ _ _ => F9
        with_reducible rename News _ _ _ _ => N9
        refine wpAny_call (get_spec B₁ F9 X₁ N9 T₁ rfl (by ktr_room) (by ktr_units) (by omega) (hrR.mono fun p h => .tail _ h) (.tail _ m1R) (.tail _ m2R) (.head _) ?_)
        intro v h10 k10 hv F10 N10
        rw [hrep.look_some hij hj4] at hv
        obtain ⟨tj, rfl⟩ := hv
        dsimp only
        clear F9 N9
        repeat' ((fail_if_success (with_reducible show wpAny _ _ (call (Value.ref 102) _ _) _ _ _)); walk_at "mine:step")
        with_reducible rename Fr _ _ _ _ => F9
        with_reducible rename News _ _ _ _ => N9
        refine wpAny_call (del_spec B₁ F9 X₁ N9 T₁ rfl (by ktr_room) (by ktr_units) (by omega) hrR oR m1R m2R ?_)
        intro items2 n2 h11 k11 hr2 F11 N11
        dsimp only
        clear F9 N9 M1 M2
        dsimp only at hr2
        have hr20 := hr2 led hr
        have hr2 := hr2 _ hrR
        have hil2 := hr2.len
        have hil3 := drop1_len i rows
        rw [hrep.len] at hil3
        have M1 : (hx, instObj 182 hd9) ∈ (hl, listOf items2.toArray n2) :: (I, o) :: (L₁ + 1 + 1, oA) :: (L₁ + 1, oB) :: led := .tail _ m1R
        have M2 : (hd9, dictOf [⟨PyData.keyHash w.params (Str.ofString "_headers"), .str (Str.ofString "_headers") t1, .ref hl⟩] 1) ∈ (hl, listOf items2.toArray n2) :: (I, o) :: (L₁ + 1 + 1, oA) :: (L₁ + 1, oB) :: led := .tail _ m2R
        repeat' ((fail_if_success (with_reducible show wpAny _ _ (call (Value.ref 172) _ _) _ _ _)); walk_at "mine:step")
        with_reducible rename Fr _ _ _ _ => F9
        with_reducible rename News _ _ _ _ => N9
        refine wpAny_call (sd_new B₁ F9 X₁ N9 T₁ rfl (by ktr_room) (by ktr_units) (by omega) hr2 oR m1R m2R (hrep.look_drop i hff) ?_)
        intro tp2 ta2 tb2 t12 h12 k12 F12 N12 l12
        dsimp only
        clear F9 N9 M1 M2
        have lI : @LT.lt Nat _ I tp2 := l12 (I, o) (.tail _ (.head _))
        have lA : @LT.lt Nat _ (L₁ + 1 + 1) tp2 := l12 (L₁ + 1 + 1, oA) (.tail _ (.tail _ (.head _)))
        have lB : @LT.lt Nat _ (L₁ + 1) tp2 := l12 (L₁ + 1, oB) (.tail _ (.tail _ (.tail _ (.head _))))
        have lh : @LT.lt Nat _ hl tp2 := l12 (hl, listOf items2.toArray n2) (.head _)
        have M1 : (hx, instObj 182 hd9) ∈ (hl, listOf (items2 ++ [Value.ref tp2]).toArray (n2 + 1)) :: (tp2, rowObj (f, true, j) ta2 tb2) :: (I, o) :: (L₁ + 1 + 1, oA) :: (L₁ + 1, oB) :: led := .tail _ (.tail _ m1R)
        have M2 : (hd9, dictOf [⟨PyData.keyHash w.params (Str.ofString "_headers"), .str (Str.ofString "_headers") t1, .ref hl⟩] 1) ∈ (hl, listOf (items2 ++ [Value.ref tp2]).toArray (n2 + 1)) :: (tp2, rowObj (f, true, j) ta2 tb2) :: (I, o) :: (L₁ + 1 + 1, oA) :: (L₁ + 1, oB) :: led := .tail _ (.tail _ m2R)
        have hr3 : TabIn ((tp2, rowObj (f, true, j) ta2 tb2) :: (I, o) :: (L₁ + 1 + 1, oA) :: (L₁ + 1, oB) :: led) (items2 ++ [Value.ref tp2]) (drop1 i rows ++ [(f, true, j)]) := (hr2.mono fun p h => .tail _ h).snoc (.head _)
        repeat' ((fail_if_success (with_reducible show wpAny _ _ (compareOp _ _ _) _ _ _)); walk_at "mine:step")
        walk_at "mine:step"
        rw [show (txt (rpl j) != txt (rpl j)) = false from bne_self_eq_false _]
        repeat' ((fail_if_success (with_reducible show wpAny _ _ (call (Value.ref 172) _ _) _ _ _)); walk_at "mine:step")
        with_reducible rename Fr _ _ _ _ => F9
        with_reducible rename News _ _ _ _ => N9
        refine wpAny_call (sd_old B₁ F9 X₁ N9 T₁ rfl (by ktr_room) (by ktr_units) (by simp; omega) (hr3.mono fun p h => .tail _ h) (.tail _ (.tail _ m1R)) (.tail _ (.tail _ m2R)) (.head _) (hrep.look_add i true j hff) ?_)
        intro t13 h13 k13 F13 N13
        dsimp only
        clear F9 N9 M1 M2
        repeat' ((fail_if_success (with_reducible show wpAny _ _ (compareOp _ _ _) _ _ _)); walk_at "mine:step")
        walk_at "mine:step"
        rw [show (txt (rpl j) != txt (rpl j)) = false from bne_self_eq_false _]
        repeat' ((fail_if_success (with_reducible show HeldT _ _)); walk_at "mine:step")
        intro hk9
        with_reducible rename Fr _ _ _ _ => F9
        with_reducible rename News _ _ _ _ => N9
        refine ⟨_, _, i, f, j, _, tf, (tp2, rowObj (f, true, j) ta2 tb2) :: led, items2 ++ [.ref tp2], n2 + 1, oA, oB, _, _, rfl, hk9, fr_kst [(Str.ofString "table", .ref hx), (Str.ofString "text", .str (txt (textOf mv)) tt), (Str.ofString "chosen", .str (txt (nm i false)) _)] F9 (AllP.all ⟨rfl, rfl, rfl, trivial⟩), ?_, hdA, hdB, (hr20.mono fun p h => .tail _ h).snoc (.head _), hj4, hij, hff, hph, fun q hq => .tail _ (hsub q hq), ?_, ?_, ?_⟩
        · exact fun p hp => N9 p (by
            simp only [List.mem_cons] at hp ⊢
            rcases hp with h | h | h | h | h | h <;> simp only [h, true_or, or_true])
        · intro q hq
          rcases List.mem_cons.mp hq with rfl | hq
          · exact Nat.ne_of_gt lh
          · exact o1 q hq
        · intro q hq
          rcases List.mem_cons.mp hq with rfl | hq
          · exact ⟨Nat.ne_of_gt lB, Nat.ne_of_gt lA⟩
          · exact oAB q hq
        · intro q hq
          rcases List.mem_cons.mp hq with rfl | hq
          · have h9 := hoff _ (.head _)
            exact h9
          rcases List.mem_cons.mp hq with rfl | hq
          · have h9 := hoff _ (.tail _ (.head _))
            exact h9
          rcases List.mem_cons.mp hq with rfl | hq
          · exact hh1
          rcases List.mem_cons.mp hq with rfl | hq
          · exact Nat.ne_of_gt lI
          · exact hoff _ (.tail _ (.tail _ (.tail _ hq)))
      · rintro k j fz nw ⟨rfl, hi, hfz⟩ v I2 oI C oC D m₂ h tk9 E' hv hC hm₂ F3 N3 off ne
        obtain ⟨tp, ta, tb, p, rfl, hrow, hmem⟩ := hzs.at j v hv
        have HM : (tp, pairObj p ta tb) ∈ (I2, oI) :: (C, oC) :: (D, LCg.lst fz) :: (AW, LCg.lst zs) :: (I, o) :: (L₁ + 1 + 1, oA) :: (L₁ + 1, oB) :: (hl, listOf items.toArray n) :: lq := .tail _ (.tail _ (.tail _ (.tail _ (.tail _ (.tail _ (.tail _ (.tail _ hmem)))))))
        have key : ∀ b, b = decide (p.2 = f) → PairsIn lq (fz ++ if b then [.ref tp] else []) (((awayOf rows).take (j + 1)).filter fun p => decide (p.2 = f)) := by
          rintro b hb
          rw [List.take_add_one, hrow, List.filter_append]
          show PairsIn lq _ (_ ++ [p].filter fun p => decide (p.2 = f))
          rw [List.filter_cons, ← hb]
          cases b
          · rw [if_neg (by decide), if_neg (by decide), List.append_nil]; show PairsIn lq _ (_ ++ []); rw [List.append_nil]; exact hfz
          · rw [if_pos rfl, if_pos rfl]; exact hfz.snoc hmem
        repeat' ((fail_if_success (with_reducible show LCg.CompEnd _ _ _ _ _ _ _ _ _ _ _ _ _ _)); walk_at "mine:step")
        · with_reducible rename (_ == _) = true => he
          rw [nm_beq] at he
          have k1 := key true he.symm
          refine LCg.CompEnd.intro F3 N3 ((AW, LCg.lst zs) :: (I, o) :: (L₁ + 1 + 1, oA) :: (L₁ + 1, oB) :: (hl, listOf items.toArray n) :: lq) (fun p hp => hp) off (.inr ⟨_, .head _, rfl, _, rfl⟩) ⟨rfl, by omega, k1⟩
        · with_reducible rename (_ == _) = false => he
          rw [nm_beq] at he
          have k1 := key false he.symm
          rw [if_neg (by decide), List.append_nil] at k1
          refine LCg.CompEnd.intro F3 N3 ((AW, LCg.lst zs) :: (I, o) :: (L₁ + 1 + 1, oA) :: (L₁ + 1, oB) :: (hl, listOf items.toArray n) :: lq) (fun p hp => hp) off (.inr ⟨_, .head _, rfl, _, rfl⟩) ⟨rfl, by omega, k1⟩
    case stA1 =>
      (with_reducible show wpAny _ _ _ _ _ _)
      k_fold
      repeat' ((fail_if_success (with_reducible show wpAny _ _ (eval (Expr.ListComp _ _ _ _) _) _ _ _)); walk_at "mine:step")
      refine LCp.Assign_ListComp_P (F₀ := by k_asm) (by rfl) (by with_unfolding_all rfl) (by with_unfolding_all rfl) (by decide) (by rfl) (by decide) (by rfl) (by rfl) (by decide) (by rfl) (by rfl) ?_
      repeat' ((fail_if_success (with_reducible show wpAny _ _ (call (Value.ref 146) _ _) _ _ _)); walk_at "mine:step")
      with_reducible rename Fr _ _ _ _ => F6
      with_reducible rename News _ _ _ _ => N6
      dsimp only
      refine wpAny_call (items_spec B₁ F6 X₁ N6 T₁ rfl (by ktr_room) (by ktr_units) (by omega) (.tail _ (.tail _ (.tail _ (.tail _ (hsub _ m1))))) (.tail _ (.tail _ (.tail _ (.tail _ (hsub _ m2))))) (.tail _ (.tail _ (.tail _ (.head _)))) ?_)
      intro D1 h7 k7 F7 N7 l7
      dsimp only
      clear F6 N6 M1 M2 F N
      repeat' ((fail_if_success (with_reducible show LCp.SrcLP _ _ _ _ _ _ _ _ _ _ _ _ _ _ _)); walk_at "mine:step")
      refine LCp.SrcLP.ledger rfl F7 N7 (.head _) (by rw [sizeLine_eq, List.size_toArray]; omega) ?_
      intro g2
      refine restP_ind (fun k i ys nw => ∃ tps, nw = tps ++ ((D1, listOf items.toArray 0) :: (I, o) :: (L₁ + 1 + 1, oA) :: (L₁ + 1, oB) :: (hl, listOf items.toArray n) :: led) ∧ i + k = items.length ∧ PairsIn tps ys ((rows.take i).map fun r => (r.1, r.2.2)) ∧ ∀ q ∈ tps, ∃ xs n, q.2.data = .seq xs n) ?_ ?_ _ _ _ _ ⟨[], rfl, by rw [List.size_toArray]; omega, .nil, fun _ h => nomatch h⟩
      · rintro i ys nw ⟨tps, rfl, hi, hys, htp⟩
        rw [List.take_of_length_le (by rw [hrep.len]; omega)] at hys
        repeat' ((fail_if_success (with_reducible show wpAny _ _ (exec (Stmt.Assign _ _ _) _) _ _ _)); walk_at "mine:step")
        rename_i tk0 hb H hc tkc F8 N8 oH
        have oH2 := off1_mem oH
        obtain ⟨lq, N9, hP, hled, hq⟩ : ∃ lq, News g₁ L₁ hc ((H, LCg.lst ys) :: (I, o) :: (L₁ + 1 + 1, oA) :: (L₁ + 1, oB) :: (hl, listOf items.toArray n) :: lq) ∧ PairsIn lq ys (rows.map fun r => (r.1, r.2.2)) ∧ (∀ q, List.Mem q led → List.Mem q lq) ∧ (∀ q ∈ lq, @Ne Nat q.1 (L₁ + 1) ∧ @Ne Nat q.1 (L₁ + 1 + 1)) := by
          refine ⟨tps ++ led, ?_, hys.mono fun p h => List.mem_append_left _ h, fun q h => List.mem_append_right _ h, ?_⟩
          · intro p hp
            refine N8 p ?_
            simp only [List.mem_cons, List.mem_append] at hp ⊢
            rcases hp with h | h | h | h | h | h | h <;> simp only [h, true_or, or_true]
          · intro q hq
            rcases List.mem_append.mp hq with hq | hq
            · obtain ⟨xs, m9, e⟩ := htp q hq
              have e1 := (N8 q (.tail _ (List.mem_append_left _ hq))).1
              constructor
              · intro h9
                have e2 := (N8 (L₁ + 1, oB) (.tail _ (List.mem_append_right _ (.tail _ (.tail _ (.tail _ (.head _))))))).1
                rw [h9] at e1; rw [e1] at e2; injection e2 with e2
                rw [e2, hdB] at e; cases e
              · intro h9
                have e2 := (N8 (L₁ + 1 + 1, oA) (.tail _ (List.mem_append_right _ (.tail _ (.tail _ (.head _)))))).1
                rw [h9] at e1; rw [e1] at e2; injection e2 with e2
                rw [e2, hdA] at e; cases e
            · exact oAB q hq
        have hH : @Ne Nat I H ∧ @Ne Nat (L₁ + 1 + 1) H ∧ @Ne Nat (L₁ + 1) H ∧ @Ne Nat hl H := ⟨oH2 (I, o) (List.mem_append_right _ (.tail _ (.head _))), oH2 (L₁ + 1 + 1, oA) (List.mem_append_right _ (.tail _ (.tail _ (.head _)))), oH2 (L₁ + 1, oB) (List.mem_append_right _ (.tail _ (.tail _ (.tail _ (.head _))))), oH2 (hl, listOf items.toArray n) (List.mem_append_right _ (.tail _ (.tail _ (.tail _ (.tail _ (.head _))))))⟩
        clear N8 N7 oH oH2 l7 F7 htp hys
        have hyl := hP.len
        (with_reducible show wpAny _ _ _ _ _ _)
        k_fold
        rw [List.length_map, hrep.len] at hyl
        refine LCt.Assign_ListComp_T (F₀ := by k_asm) (by rfl) (by with_unfolding_all rfl) (by with_unfolding_all rfl) (by decide) (by rfl) (by decide) (by rfl) (by rfl) (by rfl) ?_
        repeat' ((fail_if_success (with_reducible show LCt.CompSrcT _ _ _ _ _ _ _ _ _ _ _ _ _ _ _)); walk_at "mine:step")
        refine LCt.CompSrcT.ledger rfl F8 N9 (.head _) (by rw [sizeLine_eq, List.size_toArray]; omega) ?_
        intro g3
        refine restT_ind (fun k j zs nw => nw = (H, LCg.lst ys) :: (I, o) :: (L₁ + 1 + 1, oA) :: (L₁ + 1, oB) :: (hl, listOf items.toArray n) :: lq ∧ j + k = ys.length ∧ PairsIn lq zs (((rows.map fun r => (r.1, r.2.2)).take j).filter fun p => decide (p.1 ≠ p.2))) ?_ ?_ _ _ _ _ ⟨rfl, by rw [List.size_toArray]; omega, .nil⟩
        · rintro j zs nw ⟨rfl, hi, hzs⟩
          rw [List.take_of_length_le (by rw [List.length_map, hrep.len]; omega)] at hzs
          change PairsIn lq zs (awayOf rows) at hzs
          repeat' ((fail_if_success (with_reducible show wpAny _ _ (compareOp _ _ _) _ _ _)); walk_at "mine:step")
          rename_i AW hAW tkAW oAW E0 hE0 FE hf lE1
          with_reducible rename News _ _ _ _ => NF
          refine eq_nil NF (.tail _ (.head _)) (.head _) (by ke_room) ?_
          by_cases hza : zs = []
          · subst hza
            rw [decide_eq_true rfl]
            repeat' ((fail_if_success (with_reducible show HeldT _ _)); walk_at "mine:step")
            intro _
            repeat (first | k_unfold | dsimp only [StageOut])
            intro _
            repeat (first | k_unfold | dsimp only [StageOut, PostK])
            repeat' ((fail_if_success (with_reducible show R _ _)); walk_at "mine:step")
            have haw : awayOf rows = [] := List.length_eq_zero_iff.mp (by rw [← hzs.len]; rfl)
            have hg := hrep.home haw
            rw [hg] at hpath hphi
            rw [phi_goal] at hphi
            rename_i kF kN _ _
            rw [show (0 : Int) + (t : Int) = ((phi st : Nat) : Int) by omega] at kN
            exact hret _ mv _ _ _ _ hpath (by omega) kF (keep7 kN fun q hq => hled _ (hsub _ hq))
          · rw [decide_eq_false hza]
            repeat' ((fail_if_success (with_reducible show wpAny _ _ (exec (Stmt.Assign _ _ _) _) _ _ _)); walk_at "mine:step")
            with_reducible refine wpAny_Assign_Name ?_ ?_
            rotate_left
            · with_unfolding_all rfl
            refine LCg.ListComp_U (F₀ := by k_asm) (by with_unfolding_all rfl) (by decide) (by rfl) (by decide) (by rfl) ?_
            repeat' ((fail_if_success (with_reducible show LCg.CompSrc _ _ _ _ _ _ _ _ _ _ _ _ _ _)); walk_at "mine:step")
            refine LCg.CompSrc.ledger rfl FE NF (.tail _ (.tail _ (.head _))) (by rw [sizeLine_eq, List.size_toArray]; omega) ?_
            intro g4
            refine rest_ind (fun k j ts nw => nw = (E0, listOf #[] 0) :: (AW, LCg.lst zs) :: (H, LCg.lst ys) :: (I, o) :: (L₁ + 1 + 1, oA) :: (L₁ + 1, oB) :: (hl, listOf items.toArray n) :: lq ∧ j + k = ys.length ∧ StrsAre ts (((rows.map fun r => (r.1, r.2.2)).take j).map fun p => txt (nm p.1 false))) ?_ ?_ _ _ _ _ ⟨rfl, by rw [List.size_toArray]; omega, .nil⟩
            · rintro j ts nw ⟨rfl, hi, hts⟩
              rw [List.take_of_length_le (by rw [List.length_map, hrep.len]; omega)] at hts
              have hq1 : ∀ q ∈ lq, @Ne Nat q.1 (L₁ + 1) := fun q h => (hq q h).1
              have hq2 : ∀ q ∈ lq, @Ne Nat q.1 (L₁ + 1 + 1) := fun q h => (hq q h).2
              have hI1 : @Ne Nat (L₁ + 1) I := hoff _ (.tail _ (.head _))
              have hI2 : @Ne Nat (L₁ + 1 + 1) I := hoff _ (.head _)
              repeat' ((fail_if_success (with_reducible show wpAny _ _ (storeName _ _ _) _ _ _)); walk_at "mine:step")
              rename_i TK h5 tk6 F5 N5 oTK
              refine storeX_C F5 N5 (by rfl) (.tail (Ne.symm oTK.2.2.2.2.2.1) (.tail (Nat.ne_of_gt lE1.2.2.2.2.1) (.tail (Ne.symm oAW.2.2.2.1) (.tail (Ne.symm hH.2.2.1) (.tail (Ne.symm hI1) (.tail (Nat.succ_ne_self _) (.head (one1 hq1 (Nat.ne_of_lt (Nat.lt_succ_of_lt l₁.1)))))))))) hdB ?_
              intro h6 oB2 F6 N6 dB2
              (try dsimp only at N6)
              clear F5 N5
              repeat' ((fail_if_success (with_reducible show wpAny _ _ (exec (Stmt.Assign _ _ _) _) _ _ _)); walk_at "mine:step")
              with_reducible refine wpAny_Assign_Name ?_ ?_
              rotate_left
              · with_unfolding_all rfl
              repeat' ((fail_if_success (with_reducible show wpAny _ _ (eval (Expr.ListComp _ _ _ _) _) _ _ _)); walk_at "mine:step")
              refine LCt.ListComp_T (F₀ := by k_asm) (by with_unfolding_all rfl) (by decide) (by rfl) (by decide) (by rfl) ?_
              repeat' ((fail_if_success (with_reducible show wpAny _ _ (call (Value.ref 267) _ _) _ _ _)); walk_at "mine:step")
              refine wpAny_call (names_spec B₁ F6 X₁ N6 T₁ rfl (by ktr_room) (by ktr_units) ?_)
              intro NS ns h8 k8 hns F8 N8 l8
              dsimp only
              repeat' ((fail_if_success (with_reducible show LCt.CompSrcT _ _ _ _ _ _ _ _ _ _ _ _ _ _ _)); walk_at "mine:step")
              have hnl : ns.length = 5 := hns.len_eq
              refine LCt.CompSrcT.ledger rfl F8 N8 (.head _) (by rw [sizeLine_eq, List.size_toArray]; omega) ?_
              intro g8
              refine restT_ind (fun k j fs nw => nw = (NS, listOf ns.toArray 0) :: (TK, LCg.lst ts) :: (E0, listOf #[] 0) :: (AW, LCg.lst zs) :: (H, LCg.lst ys) :: (I, o) :: (L₁ + 1 + 1, oA) :: (L₁ + 1, oB2) :: (hl, listOf items.toArray n) :: lq ∧ j + k = ns.length ∧ StrsAre fs (((([0, 1, 2, 3, 4] : List (Fin 5)).take j).filter fun k => decide (k ∉ rows.map (·.1))).map fun i => txt (nm i false))) ?_ ?_ _ _ _ _ ⟨rfl, by rw [List.size_toArray]; omega, .nil⟩
              · rintro j fs nw ⟨rfl, hi, hfs⟩
                rw [List.take_of_length_le (by show 5 ≤ _; omega)] at hfs
                change StrsAre fs ((freeOf rows).map fun i => txt (nm i false)) at hfs
                have haw : awayOf rows ≠ [] := fun e => hza (List.length_eq_zero_iff.mp (by rw [hzs.len, e]; rfl))
                obtain ⟨f, fr, hfr, hff, i, j, c, hsel, hj4, hij, hph⟩ := hrep.step haw
                rw [hfr] at hfs
                obtain ⟨tf, fs', rfl⟩ : ∃ tf fs', fs = .str (txt (nm f false)) tf :: fs' := by cases hfs; exact ⟨_, _, rfl⟩
                have hNS2 : @Ne Nat (L₁ + 1 + 1) NS := Nat.ne_of_lt (l8 (L₁ + 1 + 1, oA) (.tail _ (.tail _ (.tail _ (.tail _ (.tail _ (.head _)))))))
                repeat' ((fail_if_success (with_reducible show wpAny _ _ (storeName _ _ _) _ _ _)); walk_at "mine:step")
                rename_i FS h11 k11 F11 N11 oFS
                dsimp only
                refine storeX_C F11 N11 (by rfl) (.tail (Ne.symm oFS.2.2.2.2.2.2.1) (.tail (Ne.symm hNS2) (.tail (Ne.symm oTK.2.2.2.2.1) (.tail (Nat.ne_of_gt lE1.2.2.2.1) (.tail (Ne.symm oAW.2.2.1) (.tail (Ne.symm hH.2.1) (.tail (Ne.symm hI2) (.head (two hq2 (Nat.ne_of_lt (Nat.lt_succ_self _)) (Nat.ne_of_lt (Nat.lt_succ_of_lt (Nat.lt_succ_of_lt l₁.1)))))))))))) hdA ?_
                intro h12 oA2 F12 N12 dA2
                (try dsimp only at N12)
                clear F11 N11
                repeat' ((fail_if_success (with_reducible show HeldT _ _)); walk_at "mine:step")
                rename_i tkE hkE
                intro _
                refine ⟨h12, tkE, f, fr, tf, AW, zs, lq, oA2, oB2, _, _, rfl, hkE, haw, hfr, fr_kst [(Str.ofString "table", .ref hx), (Str.ofString "text", .str (txt (textOf mv)) tt), (Str.ofString "away", .ref AW)] F12 (AllP.all ⟨rfl, rfl, rfl, trivial⟩), ?_, dA2, dB2, hzs, hled⟩
                exact fun p hp => N12 p (by
                  simp only [List.mem_cons] at hp ⊢
                  rcases hp with h | h | h | h | h | h <;> simp only [h, true_or, or_true])
              · rintro k j fs nw ⟨rfl, hi, hfs⟩ v I2 oI C oC D m₂ h tk9 E' hv hC hm₂ F3 N3 off ne
                have hv2 : ns[j]? = some v := by simpa using hv
                obtain ⟨x, tx, rfl, hx⟩ := hns.item j v hv2
                rw [List.getElem?_map] at hx
                obtain ⟨i, hi5, rfl⟩ : ∃ i, ([0, 1, 2, 3, 4] : List (Fin 5))[j]? = some i ∧ x = txt (nm i false) := by
                  cases h9 : ([0, 1, 2, 3, 4] : List (Fin 5))[j]? with
                  | none => rw [h9] at hx; cases hx
                  | some i => rw [h9] at hx; injection hx with hx; exact ⟨i, rfl, hx.symm⟩
                repeat' ((fail_if_success (with_reducible show wpAny _ _ (compareOp _ _ _) _ _ _)); walk_at "mine:step")
                refine notin_strs N3 (.tail _ (.tail _ (.tail _ (.tail _ (.head _))))) hts ?_
                rw [show decide (txt (nm i false) ∉ (rows.map fun r => (r.1, r.2.2)).map fun p => txt (nm p.1 false)) = decide (i ∉ rows.map (·.1)) from decide_eq_decide.mpr (taken_mem i rows)]
                have key : ∀ b, b = decide (i ∉ rows.map (·.1)) → StrsAre (fs ++ if b then [.str (txt (nm i false)) tx] else []) (((([0, 1, 2, 3, 4] : List (Fin 5)).take (j + 1)).filter fun k => decide (k ∉ rows.map (·.1))).map fun i => txt (nm i false)) := by
                  rintro b hb
                  rw [List.take_add_one, hi5, List.filter_append, List.map_append]
                  refine StrsAre.append' hfs ?_
                  show StrsAre _ (([i].filter fun k => decide (k ∉ rows.map (·.1))).map fun i => txt (nm i false))
                  rw [List.filter_cons, ← hb]
                  cases b
                  · exact .nil
                  · exact .cons _ _ .nil
                by_cases hb : i ∉ rows.map (·.1)
                · rw [decide_eq_true hb]
                  have k1 := key true (decide_eq_true hb).symm
                  repeat' ((fail_if_success (with_reducible show LCg.CompEnd _ _ _ _ _ _ _ _ _ _ _ _ _ _)); walk_at "mine:step")
                  refine LCg.CompEnd.intro F3 N3 ((NS, listOf ns.toArray 0) :: (TK, LCg.lst ts) :: (E0, listOf #[] 0) :: (AW, LCg.lst zs) :: (H, LCg.lst ys) :: (I, o) :: (L₁ + 1 + 1, oA) :: (L₁ + 1, oB2) :: (hl, listOf items.toArray n) :: lq) (fun p hp => hp) off (.inr ⟨_, .head _, rfl, _, rfl⟩) ⟨rfl, by omega, k1⟩
                · rw [decide_eq_false hb]
                  have k1 := key false (decide_eq_false hb).symm
                  rw [if_neg (by decide), List.append_nil] at k1
                  repeat' ((fail_if_success (with_reducible show LCg.CompEnd _ _ _ _ _ _ _ _ _ _ _ _ _ _)); walk_at "mine:step")
                  refine LCg.CompEnd.intro F3 N3 ((NS, listOf ns.toArray 0) :: (TK, LCg.lst ts) :: (E0, listOf #[] 0) :: (AW, LCg.lst zs) :: (H, LCg.lst ys) :: (I, o) :: (L₁ + 1 + 1, oA) :: (L₁ + 1, oB2) :: (hl, listOf items.toArray n) :: lq) (fun p hp => hp) off (.inr ⟨_, .head _, rfl, _, rfl⟩) ⟨rfl, by omega, k1⟩
            · rintro k j ts nw ⟨rfl, hi, hts⟩ v I2 oI C oC D m₂ h tk9 E' hv hC hm₂ F3 N3 off ne
              obtain ⟨tp, ta, tb, p, rfl, hrow, hmem⟩ := hP.at j v hv
              have HM : (tp, pairObj p ta tb) ∈ (I2, oI) :: (C, oC) :: (D, LCg.lst ts) :: (E0, listOf #[] 0) :: (AW, LCg.lst zs) :: (H, LCg.lst ys) :: (I, o) :: (L₁ + 1 + 1, oA) :: (L₁ + 1, oB) :: (hl, listOf items.toArray n) :: lq := .tail _ (.tail _ (.tail _ (.tail _ (.tail _ (.tail _ (.tail _ (.tail _ (.tail _ (.tail _ hmem)))))))))
              repeat' ((fail_if_success (with_reducible show LCg.CompEnd _ _ _ _ _ _ _ _ _ _ _ _ _ _)); walk_at "mine:step")
              refine LCg.CompEnd.intro F3 N3 ((E0, listOf #[] 0) :: (AW, LCg.lst zs) :: (H, LCg.lst ys) :: (I, o) :: (L₁ + 1 + 1, oA) :: (L₁ + 1, oB) :: (hl, listOf items.toArray n) :: lq) (fun p hp => hp) off (.inr ⟨_, .tail _ (.tail _ (.head _)), rfl, _, rfl⟩) ⟨rfl, by omega, ?_⟩
              rw [List.take_add_one, hrow, List.map_append]
              exact StrsAre.append' hts (.cons _ _ .nil)
        · rintro k j zs nw ⟨rfl, hi, hzs⟩ v I2 oI C oC D m₂ h tk9 E' hv hC hm₂ F3 N3 off ne
          obtain ⟨tp, ta, tb, p, rfl, hrow, hmem⟩ := hP.at j v hv
          have HM : (tp, pairObj p ta tb) ∈ (I2, oI) :: (C, oC) :: (D, LCg.lst zs) :: (H, LCg.lst ys) :: (I, o) :: (L₁ + 1 + 1, oA) :: (L₁ + 1, oB) :: (hl, listOf items.toArray n) :: lq := .tail _ (.tail _ (.tail _ (.tail _ (.tail _ (.tail _ (.tail _ (.tail _ hmem)))))))
          repeat' ((fail_if_success (with_reducible show LCg.CompEnd _ _ _ _ _ _ _ _ _ _ _ _ _ _)); walk_at "mine:step")
          · with_reducible rename (_ != _) = true => he
            rw [nm_bne] at he
            refine LCg.CompEnd.intro F3 N3 ((H, LCg.lst ys) :: (I, o) :: (L₁ + 1 + 1, oA) :: (L₁ + 1, oB) :: (hl, listOf items.toArray n) :: lq) (fun p hp => hp) off (.inr ⟨_, .head _, rfl, _, rfl⟩) ⟨rfl, by omega, ?_⟩
            rw [List.take_add_one, hrow, List.filter_append]
            show PairsIn lq _ (_ ++ [p].filter fun p => decide (p.1 ≠ p.2))
            rw [filt_pos he]
            exact hzs.snoc hmem
          · with_reducible rename (_ != _) = false => he
            rw [nm_bne] at he
            refine LCg.CompEnd.intro F3 N3 ((H, LCg.lst ys) :: (I, o) :: (L₁ + 1 + 1, oA) :: (L₁ + 1, oB) :: (hl, listOf items.toArray n) :: lq) (fun p hp => hp) off (.inr ⟨_, .head _, rfl, _, rfl⟩) ⟨rfl, by omega, ?_⟩
            rw [List.take_add_one, hrow, List.filter_append]
            show PairsIn lq _ (_ ++ [p].filter fun p => decide (p.1 ≠ p.2))
            rw [filt_neg he, List.append_nil]
            exact hzs
      · rintro k i ys nw ⟨tps, rfl, hi, hys, htp⟩ v hv
        obtain ⟨tp, ta, tb, r, rfl, hrow, hmem⟩ := hr.at i v hv
        refine ⟨tp, rowObj r ta tb, _, _, _, rfl, List.mem_append_right _ (.tail _ (.tail _ (.tail _ (.tail _ (.tail _ hmem))))), rfl, rfl, ?_⟩
        intro I2 oI C oC D m₂ h tk9 E' hC hm1 hm2 F3 N3 off ne
        repeat' ((fail_if_success (with_reducible show wpAny _ _ (call (Value.ref 218) _ _) _ _ _)); walk_at "mine:step")
        refine wpAny_call (parse257_spec (r := rep 34 [34, 34] (nm r.2.2 false) ++ 34 :: homeTxt) B₁ F3 X₁ N3 T₁ rfl (by ktr_room) (by ktr_units) (Nat.le_trans (rpl_len r.2.2) (by decide)) ?_)
        intro t8 h8 k8 F8 N8
        rw [p257_rpl]
        dsimp only
        repeat' ((fail_if_success (with_reducible show LCg.CompEnd _ _ _ _ _ _ _ _ _ _ _ _ _ _)); walk_at "mine:step")
        with_reducible rename Fr _ _ _ _ => F9
        with_reducible rename News _ _ _ _ => N9
        with_reducible rename _ ∧ _ ∧ _ ∧ AllLt _ _ => lT
        refine LCg.CompEnd.intro F9 N9 (_ :: (tps ++ ((D1, listOf items.toArray 0) :: (I, o) :: (L₁ + 1 + 1, oA) :: (L₁ + 1, oB) :: (hl, listOf items.toArray n) :: led))) sub4 ⟨⟨Nat.ne_of_gt lT.1, Nat.ne_of_gt lT.2.1, Nat.ne_of_gt lT.2.2.1⟩, off⟩ (.inr ⟨_, .tail _ (List.mem_append_right _ (.head _)), rfl, _, rfl⟩) ⟨_ :: tps, rfl, by omega, ?_, fun q hq => (by rcases List.mem_cons.mp hq with rfl | hq; exact ⟨_, _, rfl⟩; exact htp q hq)⟩
        rw [List.take_add_one, hrow]
        show PairsIn _ _ ((rows.take i ++ [r]).map fun r => (r.1, r.2.2))
        rw [List.map_append]
        exact (hys.mono fun p h => .tail _ h).snoc (p := (r.1, r.2.2)) (.head _)
end Mine
end
theorem Mine.fresh37 : True := by
  w_top off
  k_with_none
  first | (walk1; fail) | trivial
end
theorem Mine.fresh38 : True := by
  w_top off
  k_with_none
  first | (walk1; fail) | trivial
section
open PySem PySem.W PyProof.Rows PySem.Calls
set_option maxRecDepth 100000
namespace Mine
/-- the four words of a renaming -/
noncomputable def toks4 (i f : Fin 5) : List (List Nat) := [rnfr, nm i false, rnto, nm f false]
theorem gts_key {c0 c1 c2 c3 : Nat} (h : ∀ c ∈ [c0, c1, c2, c3], c ∉ [10, 61] ∧ c ≠ 34 ∧ c ≠ 92) (i : Fin 5) {r : List Nat} {ts : List (List Nat)} {z : List Nat} (g : GTs [10, 61] r ts z) : GTs [10, 61] (fpOf [c0, c1, c2, c3] (nm i false) ++ r) ([c0, c1, c2, c3] :: nm i false :: ts) z := by
  have h0 := h c0 (.head _)
  have h1 := h c1 (.tail _ (.head _))
  have h2 := h c2 (.tail _ (.tail _ (.head _)))
  have h3 := h c3 (.tail _ (.tail _ (.tail _ (.head _))))
  rw [fpOf, if_neg (nm_ne i false)]
  show GTs [10, 61] (c0 :: c1 :: c2 :: c3 :: 61 :: 34 :: (esc (nm i false) ++ [34] ++ r)) _ z
  refine .cons (y := 34 :: (esc (nm i false) ++ [34] ++ r)) (.word _ _ _ _ h0.1 h0.2.1 h0.2.2 (.plain _ _ _ _ h1.1 h1.2.2 (.plain _ _ _ _ h2.1 h2.2.2 (.plain _ _ _ _ h3.1 h3.2.2 (.stop _ _ (by decide)))))) ?_
  refine .cons (.quote _ _ _ (by decide) ?_) g
  rw [List.append_assoc]
  exact inq_esc _ r
theorem gts_move (i f j : Fin 5) (mv : List (Fin 5 × Fin 5 × Fin 5)) : GTs [10, 61] (textOf ((i, f, j) :: mv)) (toks4 i f) (10 :: textOf mv) := by
  refine gts_key (c0 := 82) (c1 := 78) (c2 := 70) (c3 := 82) (by decide) i ?_
  refine gt_skip (by decide) (by simp) ?_
  exact gts_key (c0 := 82) (c1 := 78) (c2 := 84) (c3 := 79) (by decide) f (.nil _)
/-- what is left of the text ahead of the renamings todo -/
noncomputable def Left (x : List Nat) (todo : List (Fin 5 × Fin 5 × Fin 5)) : Prop := x = textOf todo ∨ x = 10 :: textOf todo
theorem Left.gts {x : List Nat} {i f j : Fin 5} {mv : List (Fin 5 × Fin 5 × Fin 5)} (h : Left x ((i, f, j) :: mv)) : GTs [10, 61] x (toks4 i f) (10 :: textOf mv) := by
  rcases h with rfl | rfl
  · exact gts_move i f j mv
  · exact gt_skip (by decide) (by simp [toks4]) (gts_move i f j mv)
theorem Left.len {x : List Nat} {todo : List (Fin 5 × Fin 5 × Fin 5)} (h : Left x todo) : x.length ≤ todo.length * 40 + 1 := by
  have := textOf_len todo
  rcases h with rfl | rfl
  · omega
  · rw [List.length_cons]; omega
theorem drop1_none {f : Fin 5} {rows : List Row} (h : look f rows = none) : drop1 f rows = rows := by
  rw [look_homes] at h
  have h2 : homesAt f rows = [] := by
    cases hh : homesAt f rows with
    | nil => rfl
    | cons a r => rw [hh] at h; cases h
  refine List.filter_eq_self.mpr fun r hr => ?_
  simp only [decide_eq_true_eq]
  intro e
  have : r.2.2 ∈ homesAt f rows := List.mem_map.mpr ⟨r, List.mem_filter.mpr ⟨hr, by simpa using e⟩, rfl⟩
  rw [h2] at this
  cases this
/-- the state between two turns of the second table -/
inductive DJ (w : World) (hx hl L₁ ll ld lx fs pb : Addr) (base mid : List (Addr × Obj)) (I : Addr) (k : Nat) (m : Str → Option Value) (nw : List (Addr × Obj)) : Prop
  | intro (items : List Value) (n : Nat) (rows : List Row) (st : List Nat) (todo : List (Fin 5 × Fin 5 × Fin 5)) (led : List (Addr × Obj)) (x : List Nat) (ln : Int) (tx tl t1 t2 t3 t4 tw : Tok) (oC : Obj) (u : Str → Option Value) (z0 : m = kstB u [(Str.ofString "table", .ref hx)]) (z1 : nw = (L₁ + 1, oC) :: (ll, listOf #[.str (txt x) tx] 0) :: (ld, lexDict w ln tl t1 t2 t3 t4 fs (txt [10, 61]) tw pb) :: (hl, listOf items.toArray n) :: (led ++ mid)) (z2 : oC.data = Data.cell (some (.ref lx))) (z3 : TabIn led items rows) (z4 : Rep st rows) (z5 : Path st todo goalSt) (z6 : todo.length = k) (z7 : Left x todo) (z8 : ln.natAbs + x.length ≤ 1000) (z9 : (∀ q, List.Mem q base → List.Mem q led)) (z10 : (∀ q ∈ led, @Ne Nat q.1 hl ∧ @Ne Nat q.1 ll ∧ @Ne Nat q.1 ld)) (z11 : (∀ q ∈ nw, @Ne Nat q.1 I)) : DJ w hx hl L₁ ll ld lx fs pb base mid I k m nw
theorem done_led {h₀ h : Heap} {L : Addr} {a b c d e : Addr × Obj} {mid r : List (Addr × Obj)} (N : News h₀ L h (a :: b :: (mid ++ c :: d :: e :: r))) : News h₀ L h (d :: a :: b :: e :: ((c :: r) ++ mid)) := by
  intro p hp
  refine N p ?_
  simp only [List.mem_cons, List.mem_append] at hp ⊢
  rcases hp with h | h | h | h | (h | h) | h <;> simp only [h, true_or, or_true]
theorem comp_led {h₀ h : Heap} {L : Addr} {i c d j k a e l : Addr × Obj} {r : List (Addr × Obj)} (N : News h₀ L h (i :: c :: d :: j :: k :: a :: e :: l :: r)) : News h₀ L h (a :: e :: i :: c :: d :: j :: k :: l :: r) := by
  intro p hp
  refine N p ?_
  simp only [List.mem_cons] at hp ⊢
  rcases hp with h | h | h | h | h | h | h | h | h <;> simp only [h, true_or, or_true]
theorem comp_sub {i c d j k a e l : Addr × Obj} {r : List (Addr × Obj)} : ∀ p ∈ i :: c :: d :: j :: k :: a :: e :: l :: r, p ∈ a :: e :: i :: c :: d :: j :: k :: l :: r := by
  intro p hp
  simp only [List.mem_cons] at hp ⊢
  rcases hp with h | h | h | h | h | h | h | h | h <;> simp only [h, true_or, or_true]
theorem strs4 {ys : List Value} {i f : Fin 5} (h : StrsAre ys ((toks4 i f).map txt)) : ∃ w0 w1 w2 w3, ys = [.str (txt rnfr) w0, .str (txt (nm i false)) w1, .str (txt rnto) w2, .str (txt (nm f false)) w3] := by
  cases h with | cons _ w0 h => cases h with | cons _ w1 h => cases h with | cons _ w2 h => cases h with | cons _ w3 h => cases h with | nil => exact ⟨w0, w1, w2, w3, rfl⟩
theorem hl_front {h₀ h : Heap} {L : Addr} {d i c a e l : Addr × Obj} {r : List (Addr × Obj)} (N : News h₀ L h (d :: i :: c :: a :: e :: l :: r)) : News h₀ L h (l :: d :: i :: c :: a :: e :: r) := by
  intro p hp
  refine N p ?_
  simp only [List.mem_cons] at hp ⊢
  rcases hp with h | h | h | h | h | h | h <;> simp only [h, true_or, or_true]
theorem turn_led {h₀ h : Heap} {L : Addr} {i c a e l d t : Addr × Obj} {led mid : List (Addr × Obj)} (N : News h₀ L h (l :: t :: d :: i :: c :: a :: e :: (led ++ mid))) : News h₀ L h (i :: c :: a :: e :: l :: ((t :: led) ++ mid)) := by
  intro p hp
  refine N p ?_
  simp only [List.mem_cons, List.mem_append] at hp ⊢
  rcases hp with h | h | h | h | h | (h | h) | h <;> simp only [h, true_or, or_true]
theorem fin_led {h₀ h : Heap} {L : Addr} {c a e l : Addr × Obj} {r : List (Addr × Obj)} (N : News h₀ L h (c :: a :: e :: l :: r)) : News h₀ L h (a :: e :: c :: l :: r) := by
  intro p hp
  refine N p ?_
  simp only [List.mem_cons] at hp ⊢
  rcases hp with h | h | h | h | h <;> simp only [h, true_or, or_true]
set_option maxHeartbeats 4000000 in
theorem done_spec {w : World} {p : Program} {loose : List Str} {mean : ExcName → Option Value} {mg mb : Str → Option Value} {dp un : Nat} {gd : Option (List Code)} {cn : Str} {cs : Scope} {a : Addr} {ccd : Value} {cl : List (Str × Addr)} {outer : List Env} {A₀ : Around} {base h₀ : Heap} {L : Addr} {m : Str → Option Value} {rest : List (Addr × Obj)} {s : Shared} {R : Result → Shared → Prop}
  {hx hd9 hl : Addr} {items : List Value} {n : Nat} {rows : List Row} {t1 tc tt : Tok} {st : List Nat} {mv : List (Fin 5 × Fin 5 × Fin 5)}
  (B : Below A₀ base outer h₀) (F : Fr h₀ L s.heap m) (X : (hd.heap_39 w.params).In h₀) (N : News h₀ L s.heap ((276, tabObj #[]) :: (hl, listOf items.toArray n) :: rest)) (T : Top p loose mean mg mb h₀) (hk : cs.kind = .function)
  (C9 : CodeHd base 280 276) (hdp : dp + 16 < recursionLimit) (hun : un + 90 < cLine) (hr : TabIn rest items rows) (hrep : Rep st rows)
  (o1 : ∀ q ∈ rest, @Ne Nat q.1 hl) (oT : ∀ q ∈ (hl, listOf items.toArray n) :: rest, q.1 ≠ 276) (hpath : Path st mv goalSt) (hmv : mv.length ≤ 9)
  (m1 : List.Mem (hx, instObj 182 hd9) rest) (m2 : List.Mem (hd9, dictOf [⟨PyData.keyHash w.params (Str.ofString "_headers"), .str (Str.ofString "_headers") t1, .ref hl⟩] 1) rest)
  (hret : ∀ h' tk' items' n' rows' led c1 c2, TabIn led items' rows' → Rep goalSt rows' → (∀ q, List.Mem q rest → List.Mem q led) → (∀ q ∈ led, @Ne Nat q.1 hl) → List.Mem (276, tabFull1 c1 c2) led → Fr h₀ L h' m → News h₀ L h' ((hl, listOf items'.toArray n') :: led) → R (.ok (.ret (.bool true))) { s with heap := h', toks := tk' }) :
  codeAny (model PySem.Challenge.rw_tp0038_01.row.prog w) (ktrTop dp un gd cn cs L a ccd cl outer) (.call (.ref 291) ⟨[.ref hx, .int (mv.length : Int) tc, .str (txt (textOf mv)) tt], []⟩) R s := by
  revert X; k_fill; intro X
  walk_at "mine:enter"
  repeat' ((fail_if_success (with_reducible show wpAny _ _ (call (Value.ref 281) _ _) _ _ _)); walk_at "mine:step")
  rename_i g₁ L₁ h₁ tk₁ FG₁ F₁ B₁ X₁ T₁ l₁ oC dC N₁
  have hL1 := lt_all (l := (276, tabObj #[]) :: (hl, listOf items.toArray n) :: rest) (x := L₁) l₁ (Nat.le_refl _)
  have hC : oC.data = Data.cell none := dC
  refine wpAny_call (lexer_spec (news := (L₁ + 1, oC) :: (hl, listOf items.toArray n) :: rest) B₁ F₁ X₁ (news_sw N₁) T₁ rfl C9 (by ktr_room) (by ktr_units) ?lx ?o9 ?_)
  case lx =>
    have := textOf_len mv
    omega
  case o9 =>
    intro q hq
    rcases List.mem_cons.mp hq with rfl | hq
    · have := hL1 (276, tabObj #[]) (.head _)
      exact Nat.ne_of_gt (Nat.lt_succ_of_lt this)
    · exact oT q hq
  intro lx ll ld pb fs sd fr c1 c2 fd fdr ta1 ta2 ta3 ta4 taw ta5 tal tax mid h2 k2 g0 g1 g2 g3 g4 nLD nM low RD F2 N2
  dsimp only
  clear F₁ N₁
  have N3 := done_led N2
  clear N2
  have l276 : @LT.lt Nat _ 276 L₁ := hL1 (276, tabObj #[]) (.head _)
  have lhl : @LT.lt Nat _ hl L₁ := hL1 (hl, listOf items.toArray n) (.tail _ (.head _))
  have lC := low (L₁ + 1, oC) (.tail _ (.head _))
  have lhl2 := low (hl, listOf items.toArray n) (.tail _ (.tail _ (.head _)))
  have oAll : ∀ q ∈ (ll, listOf #[.str (txt (textOf mv)) tax] 0) :: (ld, lexDict w 1 tal ta1 ta2 ta3 ta4 fs (txt [10, 61]) taw pb) :: (hl, listOf items.toArray n) :: (((276, tabFull1 c1 c2) :: rest) ++ mid), @Ne Nat q.1 (L₁ + 1) := by
    intro q hq
    simp only [List.mem_cons, List.mem_append] at hq
    rcases hq with rfl | rfl | rfl | (rfl | hq) | hq
    · exact Nat.ne_of_gt lC.1
    · exact Nat.ne_of_gt lC.2.1
    · exact Nat.ne_of_lt (Nat.lt_succ_of_lt lhl)
    · exact Nat.ne_of_lt (Nat.lt_succ_of_lt l276)
    · exact Nat.ne_of_lt (Nat.lt_succ_of_lt (hL1 q (.tail _ (.tail _ hq))))
    · exact Nat.ne_of_gt (lC.2.2 q hq)
  repeat' ((fail_if_success (with_reducible show wpAny _ _ (exec (Stmt.For _ _ _ _ _) _) _ _ _)); walk_at "mine:step")
  rename_i h3 oC2 F3 N4 dC2
  have FF := fr_kst [(Str.ofString "table", .ref hx)] F3 (AllP.all ⟨rfl, trivial⟩)
  with_unfolding_all refine' For_turns FF ?_
  dsimp only [kstB] at FF
  repeat' ((fail_if_success (with_reducible show wpAny _ _ (pyIter _) _ _ _)); walk_at "mine:step")
  rename_i h4 tk4 tr1 tr2 tr3 IR FF2 NN KP
  clear KP
  have lhC : @Ne Nat hl (L₁ + 1) := Nat.ne_of_lt (Nat.lt_succ_of_lt lhl)
  refine iter_rangeT (n := mv.length) rfl IR (small_one (by decide) (by decide) (by omega) (by omega)) (by rw [rangeSize_nat]; omega) FF2 NN ?_
  intro I lI
  refine toks_ind (fun (i : Nat) t => .int (0 + (i : Int)) t) (fun l m nw => DJ w hx hl L₁ ll ld lx fs pb ((276, tabFull1 c1 c2) :: rest) mid I l.length m nw) ?fin ?step _ _ _ ⟨items, n, rows, st, mv, (276, tabFull1 c1 c2) :: rest, textOf mv, 1, _, _, _, _, _, _, _, oC2, _, rfl, rfl, dC2, hr.mono fun p h => .tail _ h, hrep, hpath, by rw [List.length_range], .inl rfl, ?len, fun _ h => h, ?off, ?offI⟩
  case len =>
    have := textOf_len mv
    show 1 + (textOf mv).length ≤ 1000
    omega
  case off =>
    intro q hq
    rcases List.mem_cons.mp hq with rfl | hq
    · have h9 := low (276, tabObj #[]) (.head _)
      exact ⟨Ne.symm (oT (hl, _) (.head _)), Nat.ne_of_lt h9.1, Nat.ne_of_lt h9.2.1⟩
    · have h9 := low q (.tail _ (.tail _ (.tail _ hq)))
      exact ⟨o1 q hq, Nat.ne_of_lt h9.1, Nat.ne_of_lt h9.2.1⟩
  case offI => exact fun q hq => Nat.ne_of_lt (lI q hq)
  case fin =>
    clear FF2 NN
    rintro m nw ⟨items, n, rows, st, todo, led, x, ln, tx, tl, tb1, tb2, tb3, tb4, tw, oC, u, rfl, rfl, dC, hr, hrep, hpath, hk0, hleft, hln, hsub, hoff, hoffI⟩ h tk F N
    obtain rfl := List.length_eq_zero_iff.mp hk0
    cases hpath
    change Fr g₁ L₁ h _ at F
    change News g₁ L₁ h _ at N
    dsimp only [kstB] at F
    have MX : (lx, instObj 256 ld) ∈ (L₁ + 1, oC) :: (ll, listOf #[.str (txt x) tx] 0) :: (ld, lexDict w ln tl tb1 tb2 tb3 tb4 fs (txt [10, 61]) tw pb) :: (hl, listOf items.toArray n) :: (led ++ mid) := .tail _ (.tail _ (.tail _ (.tail _ (List.mem_append_right _ g1))))
    repeat' ((fail_if_success (with_reducible show wpAny _ _ (call (Value.ref 246) _ _) _ _ _)); walk_at "mine:step")
    with_reducible rename Fr _ _ _ _ => F4
    with_reducible rename News _ _ _ _ => N4
    have N5 := fin_led N4
    have RR := RD.more ((L₁ + 1, oC) :: (hl, listOf items.toArray n) :: led)
    refine wpAny_call (get_end_spec (ln := ln) (x := x) B₁ F4 X₁ N5 T₁ rfl (by ktr_room) (by ktr_units) (by omega) hleft nLD ?oa ?ob (.tail _ (.tail _ (List.mem_append_right _ g0))) (.tail _ (.tail _ (List.mem_append_right _ g1))) (.tail _ (.tail _ (List.mem_append_right _ g2))) (.tail _ (.tail _ (List.mem_append_right _ g3))) (.tail _ (.tail _ (List.mem_append_right _ g4))) RR ?_)
    case oa =>
      refine two (fun q hq => ?_) (Nat.ne_of_lt lC.1) (Nat.ne_of_lt lhl2.1)
      rcases List.mem_append.mp hq with hq | hq
      · exact (hoff q hq).2.1
      · exact (nM q hq).1
    case ob =>
      refine two (fun q hq => ?_) (Nat.ne_of_lt lC.2.1) (Nat.ne_of_lt lhl2.2.1)
      rcases List.mem_append.mp hq with hq | hq
      · exact (hoff q hq).2.2
      · exact (nM q hq).2
    intro t12 h12 k12 F12 N12
    dsimp only
    clear F4 N4 N5
    repeat' ((fail_if_success (with_reducible show R _ _)); walk_at "mine:step")
    with_reducible rename News h₀ L _ _ => NE
    exact hret _ _ items n rows (led ++ mid) c1 c2 (hr.mono fun p h => List.mem_append_left _ h) hrep (fun q hq => List.mem_append_left _ (hsub _ (.tail _ hq))) (fun q hq => by
      rcases List.mem_append.mp hq with hq | hq
      · exact (hoff q hq).1
      · exact Nat.ne_of_gt (lhl2.2.2 q hq)) (List.mem_append_left _ (hsub _ (.head _))) (by k_asm) (fun p hp => NE p (.tail _ hp))
  case step =>
    clear FF2 NN
    rintro i r m nw ⟨items, n, rows, st, todo, led, x, ln, tx, tl, tb1, tb2, tb3, tb4, tw, oC, u, rfl, rfl, dC, hr, hrep, hpath, hk0, hleft, hln, hsub, hoff, hoffI⟩ t9 h tk o ho F N
    cases hpath with
    | nil => exact absurd hk0 (by simp)
    | @cons _ mv' _ i0 f0 j0 hj4 hij hff hpath =>
    rw [List.length_cons, List.length_cons] at hk0
    have hk1 := Nat.succ.inj hk0
    change Fr g₁ L₁ h _ at F
    change News g₁ L₁ h _ at N
    dsimp only [kstB] at F
    have hil := hr.len
    rw [hrep.len] at hil
    have hhI : @Ne Nat hl I := hoffI (hl, listOf items.toArray n) (.tail _ (.tail _ (.tail _ (.head _))))
    have hlI : @Ne Nat ll I := hoffI (ll, _) (.tail _ (.head _))
    have hdI : @Ne Nat ld I := hoffI (ld, _) (.tail _ (.tail _ (.head _)))
    have oLL : ∀ q ∈ (I, o) :: (L₁ + 1, oC) :: (hl, listOf items.toArray n) :: (led ++ mid), q.1 ≠ ll := by
      refine three (fun q hq => ?_) (Ne.symm hlI) (Nat.ne_of_lt lC.1) (Nat.ne_of_lt lhl2.1)
      rcases List.mem_append.mp hq with hq | hq
      · exact (hoff q hq).2.1
      · exact (nM q hq).1
    have oLD : ∀ q ∈ (I, o) :: (L₁ + 1, oC) :: (hl, listOf items.toArray n) :: (led ++ mid), q.1 ≠ ld := by
      refine three (fun q hq => ?_) (Ne.symm hdI) (Nat.ne_of_lt lC.2.1) (Nat.ne_of_lt lhl2.2.1)
      rcases List.mem_append.mp hq with hq | hq
      · exact (hoff q hq).2.2
      · exact (nM q hq).2
    walk_at "mine:step"
    walk_at "mine:step"
    (with_reducible show wpAny _ _ _ _ _ _)
    k_fold
    repeat' ((fail_if_success (with_reducible show wpAny _ _ (exec (Stmt.Assign _ _ _) _) _ _ _)); walk_at "mine:step")
    refine LCg.Assign_ListComp_U (F₀ := by k_asm) (by rfl) (by with_unfolding_all rfl) (by with_unfolding_all rfl) (by decide) (by rfl) (by decide) (by rfl) (by rfl) (by rfl) ?_
    repeat' ((fail_if_success (with_reducible show LCg.CompSrc _ _ _ _ _ _ _ _ _ _ _ _ _ _)); walk_at "mine:step")
    with_reducible rename Fr _ _ _ _ => F4
    with_reducible rename News _ _ _ _ => N4
    with_reducible rename IsRange _ _ _ _ _ _ _ _ => IR4
    refine LCg.CompSrc.range (n := 4) rfl F4 N4 IR4 (by decide) (by decide) (by rw [sizeLine_eq]; decide) ?_
    intro gz
    refine rest_ind (fun k i ys nw => ∃ xr tx ln tl t1 t2 t3 t4 tw dn td, nw = (I, o) :: (L₁ + 1, oC) :: (ll, listOf #[.str (txt xr) tx] 0) :: (ld, lexDict w ln tl t1 t2 t3 t4 fs (txt [10, 61]) tw pb) :: (hl, listOf items.toArray n) :: (led ++ mid) ∧ toks4 i0 f0 = dn ++ td ∧ td.length = k ∧ StrsAre ys (dn.map txt) ∧ GTs [10, 61] xr td (10 :: textOf mv') ∧ ln.natAbs + xr.length ≤ 1000) ?_ ?_ _ _ _ _ ⟨x, _, ln, _, _, _, _, _, _, [], toks4 i0 f0, rfl, rfl, rfl, .nil, hleft.gts, hln⟩
    · rintro i2 ys nw ⟨xr, tx, ln, tl, tb1, tb2, tb3, tb4, tw, dn, td, rfl, htk, ht0, hys, hG, hl2⟩
      obtain rfl := List.length_eq_zero_iff.mp ht0
      rw [List.append_nil] at htk
      subst htk
      cases hG
      obtain ⟨w0, w1, w2, w3, rfl⟩ := strs4 hys
      have m1L : List.Mem (hx, instObj 182 hd9) (led ++ mid) := List.mem_append_left _ (hsub _ (.tail _ m1))
      have m2L : List.Mem (hd9, dictOf [⟨PyData.keyHash w.params (Str.ofString "_headers"), .str (Str.ofString "_headers") t1, .ref hl⟩] 1) (led ++ mid) := List.mem_append_left _ (hsub _ (.tail _ m2))
      repeat' ((fail_if_success (with_reducible show wpAny _ _ (exec (Stmt.Assign _ _ _) _) _ _ _)); walk_at "mine:step")
      (with_reducible show wpAny _ _ _ _ _ _)
      k_fold
      rename_i WD h6 k6 F6 N6 o6
      have N7 := hl_front N6
      clear N6
      have oR : ∀ q ∈ (WD, LCg.lst [Value.str (txt rnfr) w0, Value.str (txt (nm i0 false)) w1, Value.str (txt rnto) w2, Value.str (txt (nm f0 false)) w3]) :: (I, o) :: (L₁ + 1, oC) :: (ll, listOf #[.str (txt (10 :: textOf mv')) tx] 0) :: (ld, lexDict w ln tl tb1 tb2 tb3 tb4 fs (txt [10, 61]) tw pb) :: (led ++ mid), @Ne Nat q.1 hl := by
        intro q hq
        simp only [List.mem_cons, List.mem_append] at hq
        rcases hq with rfl | rfl | rfl | rfl | rfl | hq | hq
        · exact Ne.symm o6.2.2.2.2.1
        · exact Ne.symm hhI
        · exact Ne.symm lhC
        · exact Nat.ne_of_gt lhl2.1
        · exact Nat.ne_of_gt lhl2.2.1
        · exact (hoff q hq).1
        · exact Nat.ne_of_gt (lhl2.2.2 q hq)
      generalize hRE : (I, o) :: (L₁ + 1, oC) :: (ll, listOf #[.str (txt (10 :: textOf mv')) tx] 0) :: (ld, lexDict w ln tl tb1 tb2 tb3 tb4 fs (txt [10, 61]) tw pb) :: (led ++ mid) = RE at N7 oR
      have m1R : List.Mem (hx, instObj 182 hd9) RE := by rw [← hRE]; exact .tail _ (.tail _ (.tail _ (.tail _ m1L)))
      have m2R : List.Mem (hd9, dictOf [⟨PyData.keyHash w.params (Str.ofString "_headers"), .str (Str.ofString "_headers") t1, .ref hl⟩] 1) RE := by rw [← hRE]; exact .tail _ (.tail _ (.tail _ (.tail _ m2L)))
      have hrR : TabIn RE items rows := by rw [← hRE]; exact hr.mono fun p h => .tail _ (.tail _ (.tail _ (.tail _ (List.mem_append_left _ h))))
      have M1 : (hx, instObj 182 hd9) ∈ (hl, listOf items.toArray n) :: (WD, LCg.lst [Value.str (txt rnfr) w0, Value.str (txt (nm i0 false)) w1, Value.str (txt rnto) w2, Value.str (txt (nm f0 false)) w3]) :: RE := .tail _ (.tail _ m1R)
      have M2 : (hd9, dictOf [⟨PyData.keyHash w.params (Str.ofString "_headers"), .str (Str.ofString "_headers") t1, .ref hl⟩] 1) ∈ (hl, listOf items.toArray n) :: (WD, LCg.lst [Value.str (txt rnfr) w0, Value.str (txt (nm i0 false)) w1, Value.str (txt rnto) w2, Value.str (txt (nm f0 false)) w3]) :: RE := .tail _ (.tail _ m2R)
      repeat' ((fail_if_success (with_reducible show wpAny _ _ (call (Value.ref 129) _ _) _ _ _)); walk_at "mine:step")
      with_reducible rename Fr _ _ _ _ => F9
      with_reducible rename News _ _ _ _ => N9
      refine wpAny_call (get_spec B₁ F9 X₁ N9 T₁ rfl (by ktr_room) (by ktr_units) (by omega) (hrR.mono fun p h => .tail _ (.tail _ h)) (.tail _ (.tail _ m1R)) (.tail _ (.tail _ m2R)) (.head _) ?_)
      intro v h10 k10 hv F10 N10
      rw [hrep.look_some hij hj4] at hv
      obtain ⟨tj, rfl⟩ := hv
      dsimp only
      clear F9 N9
      repeat' ((fail_if_success (with_reducible show wpAny _ _ (compareOp _ _ _) _ _ _)); walk_at "mine:step")
      with_reducible rename News _ _ _ _ => N9
      rw [rnfr_txt, rnto_txt] at N9
      walk_at "mine:step"
      repeat' ((fail_if_success (with_reducible show wpAny _ _ (call (Value.ref 116) _ _) _ _ _)); walk_at "mine:step")
      with_reducible rename Fr _ _ _ _ => F11
      with_reducible rename News _ _ _ _ => N11
      refine wpAny_call (has_spec B₁ F11 X₁ N11 T₁ rfl (by ktr_room) (by ktr_units) (by omega) (hrR.mono fun p h => .tail _ (.tail _ (.tail _ (.tail _ h)))) (.tail _ (.tail _ (.tail _ (.tail _ m1R)))) (.tail _ (.tail _ (.tail _ (.tail _ m2R)))) (.tail _ (.tail _ (.head _))) ?_)
      intro h12 k12 F12 N12
      rw [hrep.look_none hff]
      dsimp only [Option.isSome]
      clear F11 N11
      have N13 : News g₁ L₁ h12 ((hl, listOf items.toArray n) :: (WD, LCg.lst [Value.str (txt rnfr) w0, Value.str (txt (nm i0 false)) w1, Value.str (txt rnto) w2, Value.str (txt (nm f0 false)) w3]) :: RE) := fun p hp => N12 p (.tail _ (.tail _ hp))
      clear N12
      repeat' ((fail_if_success (with_reducible show wpAny _ _ (call (Value.ref 102) _ _) _ _ _)); walk_at "mine:step")
      with_reducible rename Fr _ _ _ _ => F15
      with_reducible rename News _ _ _ _ => N15
      refine wpAny_call (del_spec B₁ F15 X₁ N15 T₁ rfl (by ktr_room) (by ktr_units) (by omega) (hrR.mono fun p h => .tail _ h) oR (.tail _ m1R) (.tail _ m2R) ?_)
      intro items2 n2 h14 k14 hr2 F14 N14
      dsimp only at hr2 ⊢
      clear F15 N15 M1 M2
      have hil2 := (hr2 led hr).len
      have hil3 := drop1_len i0 rows
      rw [hrep.len] at hil3
      have M1 : (hx, instObj 182 hd9) ∈ (hl, listOf items2.toArray n2) :: (WD, LCg.lst [Value.str (txt rnfr) w0, Value.str (txt (nm i0 false)) w1, Value.str (txt rnto) w2, Value.str (txt (nm f0 false)) w3]) :: RE := .tail _ (.tail _ m1R)
      have M2 : (hd9, dictOf [⟨PyData.keyHash w.params (Str.ofString "_headers"), .str (Str.ofString "_headers") t1, .ref hl⟩] 1) ∈ (hl, listOf items2.toArray n2) :: (WD, LCg.lst [Value.str (txt rnfr) w0, Value.str (txt (nm i0 false)) w1, Value.str (txt rnto) w2, Value.str (txt (nm f0 false)) w3]) :: RE := .tail _ (.tail _ m2R)
      repeat' ((fail_if_success (with_reducible show wpAny _ _ (call (Value.ref 97) _ _) _ _ _)); walk_at "mine:step")
      with_reducible rename Fr _ _ _ _ => F15
      with_reducible rename News _ _ _ _ => N15
      refine wpAny_call (set_spec B₁ F15 X₁ N15 T₁ rfl (by ktr_room) (by ktr_units) (by omega) ((hr2 RE hrR).mono fun p h => .tail _ h) oR (.tail _ m1R) (.tail _ m2R) ?_)
      intro tp ta tb items3 n3 h16 k16 hr3 F16 N16 l16
      dsimp only at hr3 ⊢
      clear F15 N15 M1 M2
      rw [drop1_none (hrep.look_drop i0 hff)] at hr3
      repeat' ((fail_if_success (with_reducible show UnrEndW _ _ _ _ _ _)); walk_at "mine:step")
      with_reducible rename Fr g₁ L₁ _ _ => F17
      with_reducible rename News g₁ L₁ _ _ => N17
      subst hRE
      have eh := l16 (hl, listOf items2.toArray n2) (.head _)
      have eI := l16 (I, o) (.tail _ (.tail _ (.head _)))
      have eL := l16 (ll, listOf #[.str (txt (10 :: textOf mv')) tx] 0) (.tail _ (.tail _ (.tail _ (.tail _ (.head _)))))
      have eD := l16 (ld, lexDict w ln tl tb1 tb2 tb3 tb4 fs (txt [10, 61]) tw pb) (.tail _ (.tail _ (.tail _ (.tail _ (.tail _ (.head _))))))
      refine unr_loop (nw := (L₁ + 1, oC) :: (ll, listOf #[.str (txt (10 :: textOf mv')) tx] 0) :: (ld, lexDict w ln tl tb1 tb2 tb3 tb4 fs (txt [10, 61]) tw pb) :: (hl, listOf items3.toArray n3) :: (((tp, rowObj (f0, false, j0) ta tb) :: led) ++ mid)) (fr_kst [(Str.ofString "table", .ref hx)] F17 (AllP.all ⟨rfl, trivial⟩)) (turn_led N17)
        ⟨items3, n3, _, _, mv', (tp, rowObj (f0, false, j0) ta tb) :: led, _, _, _, _, _, _, _, _, _, oC, _, rfl, rfl, dC, hr3 led (hr2 led hr), hrep.move hj4 hij hff, hpath, hk1, .inr rfl, hl2, fun q hq => .tail _ (hsub q hq), ?of1, ?of2⟩ ?of2 trivial
      case of1 =>
        intro q hq
        rcases List.mem_cons.mp hq with rfl | hq
        · exact ⟨Nat.ne_of_gt eh, Nat.ne_of_gt eL, Nat.ne_of_gt eD⟩
        · exact hoff q hq
      case of2 =>
        intro q hq
        simp only [List.mem_cons, List.mem_append] at hq
        rcases hq with rfl | rfl | rfl | rfl | (rfl | hq) | hq
        · have h9 := hoffI _ (.head _)
          exact h9
        · exact hlI
        · exact hdI
        · exact hhI
        · exact Nat.ne_of_gt eI
        · exact hoffI q (.tail _ (.tail _ (.tail _ (.tail _ (List.mem_append_left _ hq)))))
        · exact hoffI q (.tail _ (.tail _ (.tail _ (.tail _ (List.mem_append_right _ hq)))))
    · rintro k i2 ys nw ⟨xr, tx, ln, tl, tb1, tb2, tb3, tb4, tw, dn, td, rfl, htk, ht0, hys, hG, hl2⟩ v I2 oI C oCC D m₂ h9 tk9 E' hv hC hm₂ F3 N3 off ne
      cases hG with
      | nil => exact absurd ht0 (by simp)
      | @cons _ tk0 y0 td _ G1 G2 =>
        rw [List.length_cons] at ht0
        have ht1 := Nat.succ.inj ht0
        obtain ⟨t10, rfl⟩ := hv
        have MX : (lx, instObj 256 ld) ∈ (I2, oI) :: (C, oCC) :: (D, LCg.lst ys) :: (I, o) :: (L₁ + 1, oC) :: (ll, listOf #[.str (txt xr) tx] 0) :: (ld, lexDict w ln tl tb1 tb2 tb3 tb4 fs (txt [10, 61]) tw pb) :: (hl, listOf items.toArray n) :: (led ++ mid) := .tail _ (.tail _ (.tail _ (.tail _ (.tail _ (.tail _ (.tail _ (.tail _ (List.mem_append_right _ g1))))))))
        repeat' ((fail_if_success (with_reducible show wpAny _ _ (call (Value.ref 246) _ _) _ _ _)); walk_at "mine:step")
        have RR := RD.more ((I2, oI) :: (C, oCC) :: (D, LCg.lst ys) :: (I, o) :: (L₁ + 1, oC) :: (hl, listOf items.toArray n) :: led)
        have N4 := comp_led N3
        refine wpAny_call (get_token_spec (ln := ln) (x := xr) (wl := [10, 61]) (x' := y0) (tkn := tk0) B₁ F3 X₁ N4 T₁ rfl (by ktr_room) (by ktr_units) (by omega) (by omega) nLD (three oLL (Ne.symm off.2.2.1.1) (Ne.symm off.2.2.1.2.1) (Ne.symm off.2.2.1.2.2)) (three oLD (Ne.symm off.2.2.2.1.1) (Ne.symm off.2.2.2.1.2.1) (Ne.symm off.2.2.2.1.2.2))
          (.tail _ (.tail _ (.tail _ (.tail _ (.tail _ (.tail _ (List.mem_append_right _ g0))))))) (.tail _ (.tail _ (.tail _ (.tail _ (.tail _ (.tail _ (List.mem_append_right _ g1))))))) (.tail _ (.tail _ (.tail _ (.tail _ (.tail _ (.tail _ (List.mem_append_right _ g2))))))) (.tail _ (.tail _ (.tail _ (.tail _ (.tail _ (.tail _ (List.mem_append_right _ g3))))))) (.tail _ (.tail _ (.tail _ (.tail _ (.tail _ (.tail _ (List.mem_append_right _ g4))))))) RR G1 ?_)
        intro tt2 tx2 ln2 tl2 h5 k5 hl5 F5 N5
        repeat' ((fail_if_success (with_reducible show LCg.CompEnd _ _ _ _ _ _ _ _ _ _ _ _ _ _)); walk_at "mine:step")
        refine LCg.CompEnd.intro F5 N5 ((I, o) :: (L₁ + 1, oC) :: (ll, listOf #[.str (txt y0) tx2] 0) :: (ld, lexDict w ln2 tl2 tb1 tb2 tb3 tb4 fs (txt [10, 61]) tw pb) :: (hl, listOf items.toArray n) :: (led ++ mid)) comp_sub off trivial ⟨_, _, _, _, _, _, _, _, _, dn ++ [tk0], td, rfl, by rw [htk, List.append_assoc]; rfl, ht1, ?_, G2, by omega⟩
        rw [List.map_append]
        exact StrsAre.append' hys (.cons _ _ .nil)
end Mine
end
theorem Mine.fresh39 : True := by
  w_top off
  k_with_none
  first | (walk1; fail) | trivial
section
open PySem PySem.W PyProof.Rows PySem.Calls
set_option maxRecDepth 100000
namespace Mine
local macro_rules | `(tactic| walk_at "execs cons") => `(tactic| ((refine keep_toks (by first | assumption | exact Nat.succ_le_succ (Nat.zero_le _) | (dsimp only; omega)) ?_); (intro tk hk1); (with_reducible refine wpAny_execs_cons ?_); (try dsimp only)))
local macro_rules | `(tactic| walk_at "execs nil") => `(tactic| ((refine keep_toks (by first | assumption | exact Nat.succ_le_succ (Nat.zero_le _) | (dsimp only; omega)) ?_); (intro tk hk1); (refine wpAny_execs_nil ?_); (try dsimp only)))
theorem ints_item {vs : List Value} {ns : List Int} (h : IntsAre vs ns) : ∀ (i : Nat) (v : Value), vs[i]? = some v → ∃ z t, v = .int z t := by
  induction h with
  | nil => intro i v e; simp at e
  | cons n t _ ih =>
    intro i v e
    cases i with
    | zero => simp at e; exact ⟨n, t, e.symm⟩
    | succ i => exact ih i v (by simpa using e)
theorem pick_ints {vs : List Value} {ns : List Int} (h : IntsAre vs ns) (lo hi st : Option Int) : ∃ ms, IntsAre (slicePick vs.toArray lo hi st).toList ms := by
  unfold slicePick
  rw [List.toList_toArray]
  generalize sliceRange _ _ _ = l
  induction l with
  | nil => exact ⟨[], .nil⟩
  | cons i l ih =>
    obtain ⟨ms, hm⟩ := ih
    cases hv : vs.toArray[i]? with
    | none => exact ⟨ms, by rw [List.filterMap_cons, hv]; exact hm⟩
    | some v =>
      obtain ⟨z, t, rfl⟩ := ints_item h i v (by simpa using hv)
      exact ⟨z :: ms, by rw [List.filterMap_cons, hv]; exact .cons _ _ hm⟩
theorem stage0 {A : Around} {E : Value → Shared → Prop} {s : Shared} {M : Model} {P : Shared → Prop} {l l1 l2 : List Stmt} {env : Env} {Q : Flow → Shared → Prop} (hs : Cut l l1 l2) (h1 : wpAny M A (execs l1 env) (fun f s' => Held (f = .next ∧ P s')) E s) (h2 : ∀ s', P s' → wpAny M A (execs l2 env) Q E s') : wpAny M A (execs l env) Q E s := by
  intro Γ p hΓ
  replace h1 := h1 Γ p hΓ
  revert h1
  induction hs generalizing s p with
  | here l =>
    intro h1
    exact h2 s (show _ ∧ _ from h1).2 Γ p hΓ
  | step x hc ih =>
    intro h1
    rw [execs_cons, Sem.wp_bind'] at h1 ⊢
    refine Sem.wp_mono M Γ _ (fun f p' s' h' => ?_) (fun _ _ _ h' => h') _ _ h1
    cases f with
    | next => exact ih h2 p' h'
    | _ => exact absurd (show _ ∧ _ from h').1 (by simp)
/-- the law's state between two statements -/
inductive St1 (s₁ : Shared) (loc : List (Str × Value)) (led : List (Addr × Obj)) (s' : Shared) : Prop
  | intro (h : Heap) (tk : Nat) (u : Str → Option Value) (z0 : s' = { s₁ with heap := h, toks := tk }) (z1 : 1 ≤ tk) (z2 : Fr (ghostOf s₁.heap [(280, 276)]) s₁.heap.objs.size h (kstB u loc)) (z3 : News (ghostOf s₁.heap [(280, 276)]) s₁.heap.objs.size h led) : St1 s₁ loc led s'
theorem St1.mk {s₁ : Shared} {h : Heap} {tk : Nat} {m : Str → Option Value} {led led' : List (Addr × Obj)} {loc : List (Str × Value)} (hk : 1 ≤ tk) (F : Fr (ghostOf s₁.heap [(280, 276)]) s₁.heap.objs.size h m) (N : News (ghostOf s₁.heap [(280, 276)]) s₁.heap.objs.size h led) (hl : AllP (fun p : Str × Value => m p.1 = some p.2) loc) (hn : AllP (fun p => List.Mem p led) led') :
    St1 s₁ loc led' { s₁ with heap := h, toks := tk } := ⟨h, tk, m, rfl, hk, fr_kst loc F hl.all, fun p hp => N p (hn.all p hp)⟩
noncomputable abbrev namesL : List Str := [0, 1, 2, 3, 4].map fun i => txt (nm i false)
/-- behind «state = ''» -/
inductive S1 (s₁ : Shared) (s' : Shared) : Prop
  | intro (NS NU LE : Addr) (ns us lv : List Value) (zs : List Int) (oT : Obj) (t0 : Tok) (z0 : StrsAre ns namesL) (z1 : IntsAre us zs) (z2 : us.length = 4) (z3 : StrsAre lv ([97, 98, 99, 100, 101].map fun c => txt [c])) (z4 : oT.data = Data.cell none) (z5 : @LT.lt Nat _ 276 s₁.heap.objs.size) (z6 : @LT.lt Nat _ (s₁.heap.objs.size + 1 + 1) NS) (z7 : @LT.lt Nat _ NS NU) (z8 : @LT.lt Nat _ NU LE) (z9 : St1 s₁ [(Str.ofString "names", .ref NS), (Str.ofString "numbers", .ref NU), (Str.ofString "left", .ref LE), (Str.ofString "state", .str (txt []) t0)] [(LE, listOf lv.toArray 0), (NU, LCg.lst us), (NS, listOf ns.toArray 0), (s₁.heap.objs.size + 1 + 1, oT), (276, tabObj #[])] s') : S1 s₁ s'
theorem e_nil : Str.ofString "" = txt [] := by decide +kernel
/-- behind «state += left[0]» -/
inductive S2 (s₁ : Shared) (s' : Shared) : Prop
  | intro (NS NU : Addr) (ns us : List Value) (zs : List Int) (st : List Nat) (oT : Obj) (t0 : Tok) (z0 : StrsAre ns namesL) (z1 : IntsAre us zs) (z2 : us.length = 4) (z3 : st ∈ orders) (z4 : oT.data = Data.cell none) (z5 : @LT.lt Nat _ 276 s₁.heap.objs.size) (z6 : @LT.lt Nat _ (s₁.heap.objs.size + 1 + 1) NS) (z7 : @LT.lt Nat _ NS NU) (z8 : St1 s₁ [(Str.ofString "names", .ref NS), (Str.ofString "numbers", .ref NU), (Str.ofString "state", .str (txt st) t0)] [(NU, LCg.lst us), (NS, listOf ns.toArray 0), (s₁.heap.objs.size + 1 + 1, oT), (276, tabObj #[])] s') : S2 s₁ s'
/-- between two turns of the draw -/
inductive LJ (L0 NS NU LE : Addr) (ns us : List Value) (oT : Obj) (I : Addr) (todo : List Value) (m : Str → Option Value) (nw : List (Addr × Obj)) : Prop
  | intro (lv : List Value) (n : Nat) (st lf : List Nat) (zs : List Int) (t0 : Tok) (u : Str → Option Value) (z0 : m = kstB u [(Str.ofString "names", .ref NS), (Str.ofString "numbers", .ref NU), (Str.ofString "left", .ref LE), (Str.ofString "state", .str (txt st) t0)]) (z1 : nw = [(LE, listOf lv.toArray n), (NU, LCg.lst us), (NS, listOf ns.toArray 0), (L0 + 1 + 1, oT), (276, tabObj #[])]) (z2 : StrsAre lv (lf.map fun c => txt [c])) (z3 : (st ++ lf).Perm [97, 98, 99, 100, 101]) (z4 : lf.length = todo.length + 1) (z5 : IntsAre todo zs) (z6 : (∀ q ∈ nw, @Ne Nat q.1 I)) : LJ L0 NS NU LE ns us oT I todo m nw
theorem fits5 {z : Int} {n : Nat} (h0 : 0 ≤ z) (h1 : z < n) (hn : n ≤ 5) : Builtin.List.listFitsIndex z = true := by
  unfold Builtin.List.listFitsIndex
  simp
  omega
theorem state_len {st lf : List Nat} (h : (st ++ lf).Perm [97, 98, 99, 100, 101]) : st.length + lf.length = 5 := by
  have := h.length_eq
  rw [List.length_append] at this
  exact this
/-- between two turns of the rows' laying -/
inductive KJ (L0 NS NU RW : Addr) (ns us : List Value) (oT : Obj) (st : List Nat) (t0 : Tok) (I : Addr) (k : Nat) (m : Str → Option Value) (nw : List (Addr × Obj)) : Prop
  | intro (items : List Value) (n : Nat) (rows : List Row) (tps : List (Addr × Obj)) (u : Str → Option Value) (z0 : m = kstB u [(Str.ofString "names", .ref NS), (Str.ofString "numbers", .ref NU), (Str.ofString "state", .str (txt st) t0), (Str.ofString "rows", .ref RW)]) (z1 : nw = (RW, listOf items.toArray n) :: (NU, LCg.lst us) :: (NS, listOf ns.toArray 0) :: (L0 + 1 + 1, oT) :: (276, tabObj #[]) :: tps) (z2 : TabIn tps items rows) (z3 : RowsAt st k rows) (z4 : (∀ q ∈ tps, @LT.lt Nat _ RW q.1)) (z5 : (∀ q ∈ nw, @Ne Nat q.1 I)) : KJ L0 NS NU RW ns us oT st t0 I k m nw
/-- behind the rows' laying -/
inductive S3 (s₁ : Shared) (s' : Shared) : Prop
  | intro (NS RW : Addr) (ns items : List Value) (n : Nat) (rows : List Row) (st : List Nat) (tps : List (Addr × Obj)) (oT : Obj) (t0 : Tok) (z0 : StrsAre ns namesL) (z1 : Rep st rows) (z2 : TabIn tps items rows) (z3 : oT.data = Data.cell none) (z4 : @LT.lt Nat _ 276 s₁.heap.objs.size) (z5 : @LT.lt Nat _ (s₁.heap.objs.size + 1 + 1) NS) (z6 : @LT.lt Nat _ NS RW) (z7 : (∀ q ∈ tps, @LT.lt Nat _ RW q.1)) (z8 : St1 s₁ [(Str.ofString "names", .ref NS), (Str.ofString "state", .str (txt st) t0), (Str.ofString "rows", .ref RW)] ((RW, listOf items.toArray n) :: (NS, listOf ns.toArray 0) :: (s₁.heap.objs.size + 1 + 1, oT) :: (276, tabObj #[]) :: tps) s') : S3 s₁ s'
noncomputable abbrev hdDict (W : World) (tH : Tok) (hl : Addr) : Obj := dictOf [⟨PyData.keyHash W.params (Str.ofString "_headers"), .str (Str.ofString "_headers") tH, .ref hl⟩] 1
/-- behind «count, text = ..» -/
inductive S4 (s₁ : Shared) (s' : Shared) : Prop
  | intro (NS RW : Addr) (ns items : List Value) (n : Nat) (rows : List Row) (st : List Nat) (mv : List (Fin 5 × Fin 5 × Fin 5)) (tps : List (Addr × Obj)) (oT : Obj) (t0 tc tt : Tok) (z0 : StrsAre ns namesL) (z1 : Rep st rows) (z2 : TabIn tps items rows) (z3 : Path st mv goalSt) (z4 : mv.length = phi st) (z5 : oT.data = Data.cell none) (z6 : @LT.lt Nat _ 276 s₁.heap.objs.size) (z7 : @LT.lt Nat _ (s₁.heap.objs.size + 1 + 1) NS) (z8 : @LT.lt Nat _ NS RW) (z9 : (∀ q ∈ tps, @LT.lt Nat _ RW q.1)) (z10 : St1 s₁ [(Str.ofString "names", .ref NS), (Str.ofString "state", .str (txt st) t0), (Str.ofString "rows", .ref RW), (Str.ofString "count", .int (phi st) tc), (Str.ofString "text", .str (txt (textOf mv)) tt)] ((RW, listOf items.toArray n) :: (NS, listOf ns.toArray 0) :: (s₁.heap.objs.size + 1 + 1, oT) :: (276, tabObj #[]) :: tps) s') : S4 s₁ s'
/-- behind «table = ..» -/
inductive S5 (W : World) (s₁ : Shared) (s' : Shared) : Prop
  | intro (NS HL hx dx : Addr) (ns items : List Value) (rows : List Row) (st : List Nat) (mv : List (Fin 5 × Fin 5 × Fin 5)) (tps : List (Addr × Obj)) (oT : Obj) (t0 tc tt tH : Tok) (z0 : StrsAre ns namesL) (z1 : Rep st rows) (z2 : TabIn tps items rows) (z3 : Path st mv goalSt) (z4 : mv.length = phi st) (z5 : oT.data = Data.cell (some (.ref hx))) (z6 : @LT.lt Nat _ 276 s₁.heap.objs.size) (z7 : @LT.lt Nat _ (s₁.heap.objs.size + 1 + 1) NS) (z8 : @LT.lt Nat _ NS HL) (z9 : @LT.lt Nat _ HL dx) (z10 : @LT.lt Nat _ dx hx) (z11 : (∀ q ∈ tps, @LT.lt Nat _ NS q.1 ∧ @LT.lt Nat _ q.1 HL)) (z12 : St1 s₁ [(Str.ofString "names", .ref NS), (Str.ofString "state", .str (txt st) t0), (Str.ofString "count", .int (phi st) tc), (Str.ofString "text", .str (txt (textOf mv)) tt)] ((276, tabObj #[]) :: (HL, listOf items.toArray 0) :: (hx, instObj 182 dx) :: (dx, hdDict W tH HL) :: (NS, listOf ns.toArray 0) :: (s₁.heap.objs.size + 1 + 1, oT) :: tps) s') : S5 W s₁ s'
/-- behind the If -/
inductive S6 (W : World) (s₁ : Shared) (s' : Shared) : Prop
  | intro (NS HL hx dx : Addr) (ns items : List Value) (n : Nat) (rows : List Row) (led : List (Addr × Obj)) (oT : Obj) (tH : Tok) (z0 : StrsAre ns namesL) (z1 : Rep goalSt rows) (z2 : TabIn led items rows) (z3 : oT.data = Data.cell (some (.ref hx))) (z4 : List.Mem (hx, instObj 182 dx) led) (z5 : List.Mem (dx, hdDict W tH HL) led) (z6 : List.Mem (NS, listOf ns.toArray 0) led) (z7 : List.Mem (s₁.heap.objs.size + 1 + 1, oT) led) (z8 : (∃ c1 c2, List.Mem (276, tabFull1 c1 c2) led)) (z9 : (∀ q ∈ led, @Ne Nat q.1 HL)) (z10 : St1 s₁ [(Str.ofString "names", .ref NS)] ((HL, listOf items.toArray n) :: led) s') : S6 W s₁ s'
theorem tab_led {h₀ h : Heap} {L : Addr} {x d l r n c t : Addr × Obj} {tps : List (Addr × Obj)} (N : News h₀ L h (x :: d :: l :: r :: n :: c :: t :: tps)) : News h₀ L h (t :: l :: x :: d :: n :: c :: tps) := by
  intro p hp
  refine N p ?_
  simp only [List.mem_cons] at hp ⊢
  rcases hp with h | h | h | h | h | h | h <;> simp only [h, true_or, or_true]
/-- lists of texts in the ledger -/
inductive LLs (led : List (Addr × Obj)) : List Value → List (List Str) → Prop
  | nil : LLs led [] []
  | cons {D : Addr} {zs : List Value} {n : Nat} {l : List Str} {vs ls} (h : List.Mem (D, listOf zs.toArray n) led) (hz : StrsAre zs l) : LLs led vs ls → LLs led (.ref D :: vs) (l :: ls)
theorem LLs.mono {r1 r2 : List (Addr × Obj)} {vs : List Value} {ls : List (List Str)} (h : LLs r1 vs ls) (hs : ∀ p, List.Mem p r1 → List.Mem p r2) : LLs r2 vs ls := by
  induction h with
  | nil => exact .nil
  | cons hm hz _ ih => exact .cons (hs _ hm) hz ih
theorem LLs.snoc {r : List (Addr × Obj)} {vs : List Value} {ls : List (List Str)} (h : LLs r vs ls) {D : Addr} {zs : List Value} {n : Nat} {l : List Str} (hm : List.Mem (D, listOf zs.toArray n) r) (hz : StrsAre zs l) : LLs r (vs ++ [.ref D]) (ls ++ [l]) := by
  induction h with
  | nil => exact .cons hm hz .nil
  | cons h1 h2 _ ih => exact .cons h1 h2 ih
theorem LLs.len {r : List (Addr × Obj)} {vs : List Value} {ls : List (List Str)} (h : LLs r vs ls) : vs.length = ls.length := by
  induction h with
  | nil => rfl
  | cons _ _ _ ih => rw [List.length_cons, List.length_cons, ih]
theorem LLs.at {r : List (Addr × Obj)} {vs : List Value} {ls : List (List Str)} (h : LLs r vs ls) : ∀ (i : Nat) (v : Value), vs[i]? = some v → ∃ D zs n l, v = .ref D ∧ ls[i]? = some l ∧ List.Mem (D, listOf zs.toArray n) r ∧ StrsAre zs l := by
  induction h with
  | nil => intro i v e; simp at e
  | @cons D zs n l vs ls hm hz _ ih =>
    intro i v e
    cases i with
    | zero => simp at e; exact ⟨D, zs, n, l, e.symm, rfl, hm, hz⟩
    | succ i =>
      obtain ⟨D', zs', n', l', e1, e2, e3, e4⟩ := ih i v (by simpa using e)
      exact ⟨D', zs', n', l', e1, by simpa using e2, e3, e4⟩
theorem lls_eq {prog : Program} {w : World} {A : Around} {E : Value → Shared → Prop} {s : Shared} {Q : Value → Shared → Prop} {h₀ : Heap} {L : Addr} {news : List (Addr × Obj)} {a b : Addr} {xs ys : List Value} {ls : List (List Str)} {n m : Nat}
    (N : News h₀ L s.heap news) (ha : (a, listOf xs.toArray n) ∈ news) (hb : (b, listOf ys.toArray m) ∈ news) (hx : LLs news xs ls) (hy : LLs news ys ls) (hu : A.units + 1 < cLine) (h : Q (.bool true) s) :
    wpAny (model prog w) A (compareOp .Eq (.ref a) (.ref b)) Q E s := by
  have hz2 : xs.toArray.size = ys.toArray.size := by simpa using hx.len.trans hy.len.symm
  have key := PySem.SeqAt.RcAt.lists (A := A) (s := s) (e := fun _ => true) (News.isList N ha) (News.isList N hb) hz2 (Nat.lt_of_succ_lt hu) (fun j h1 h2 => by
    obtain ⟨D, zs, k, l, e1, e2, e3, e4⟩ := hx.at j xs.toArray[j] (by simp)
    obtain ⟨D', zs', k', l', e1', e2', e3', e4'⟩ := hy.at j ys.toArray[j] (by simp)
    rw [e2] at e2'
    injection e2' with e2'
    subst e2'
    rw [e1, e1']
    exact eqAt_lists N e3 e3' e4 e4' (Nat.lt_of_le_of_lt (in1_units A) hu))
  have e2 : (List.range xs.toArray.size).all (fun _ => true) = true := List.all_eq_true.mpr fun _ _ => rfl
  rw [e2] at key
  exact key prog w E Q h
/-- what a name's get_all gives at the end -/
noncomputable def gl (j : Fin 5) : List Str := if j = 4 then [] else [txt (rpl j)]
noncomputable abbrev gall : List (List Str) := [gl 0, gl 1, gl 2, gl 3, gl 4]
theorem goal_homes {rows : List Row} (h : Rep goalSt rows) (j : Fin 5) : ((homesAt j rows).map fun j => txt (rpl j)) = gl j := by
  have hg : ∀ j : Fin 5, goalSt.getD j.val 0 = 97 + j.val := by decide
  rcases h.at' j with ⟨e1, e2⟩ | ⟨k, h1, h2, e2⟩
  · rw [hg j] at e1
    have : j = 4 := Fin.ext (by show j.val = 4; omega)
    rw [e2, gl, if_pos this]; rfl
  · rw [hg j] at h2
    have : j = k := Fin.ext (by omega)
    subst this
    rw [e2, gl, if_neg h1]; rfl
theorem gall_take (j : Fin 5) : gall.take (j.val + 1) = gall.take j.val ++ [gl j] := by
  match j with
  | 0 => rfl
  | 1 => rfl
  | 2 => rfl
  | 3 => rfl
  | 4 => rfl
theorem name_at {ns : List Value} {l : List Str} (h : StrsAre ns l) (hl : l <+: namesL) (i : Nat) (v : Value) (hv : ns[i]? = some v) : ∃ (j : Fin 5) (t : Tok), i = j.val ∧ v = .str (txt (nm j false)) t := by
  obtain ⟨a, t, rfl, e⟩ := h.item i v hv
  have e5 : namesL[i]? = some a := by
    obtain ⟨r, hr⟩ := hl
    rw [← hr, List.getElem?_append_left (List.getElem?_eq_some_iff.mp e).1]; exact e
  have hi : i < 5 := (List.getElem?_eq_some_iff.mp e5).1
  refine ⟨⟨i, hi⟩, t, rfl, ?_⟩
  have hj : ∀ j : Fin 5, namesL[j.val]? = some (txt (nm j false)) := by decide +kernel
  have := hj ⟨i, hi⟩
  rw [e5] at this
  injection this with this
  rw [this]
theorem comp_front {i c d g : Addr × Obj} {r : List (Addr × Obj)} : ∀ p ∈ i :: c :: d :: g :: r, p ∈ g :: i :: c :: d :: r := by
  intro p hp
  simp only [List.mem_cons] at hp ⊢
  rcases hp with h | h | h | h | h <;> simp only [h, true_or, or_true]
theorem strs_take {vs : List Value} {l : List Str} (h : StrsAre vs l) : ∀ k, StrsAre (vs.take k) (l.take k) := by
  induction h with
  | nil => intro k; rw [List.take_nil, List.take_nil]; exact .nil
  | cons x t _ ih =>
    intro k
    cases k with
    | zero => exact .nil
    | succ k => exact .cons _ _ (ih k)
theorem item_get {st : List Nat} {i : Nat} (h : i < st.length) : Txt.item (txt st) (0 + (i : Int)) = txt [st.getD i 0] := by
  have hl : (txt st).length = st.length := rfl
  rw [item_meets ⟨by omega, by rw [hl]; omega⟩]
  show Str.mk _ = Str.mk _
  congr 1
  simp [h, Array.getD]
theorem my_item {prog : Program} {w : World} {A : Around} {E : Value → Shared → Prop} {s : Shared} {value slice : PySem.Expr} {l : Addr} {vs : List Value} {k : Int} {u : Tok} {v : Value} {Q : Value → Shared → Prop}
    (hl : s.heap.IsList l vs.toArray) (h0 : 0 ≤ k) (hhi : k < 2 ^ 63) (hx : vs[k.toNat]? = some v) (h : Q v s)
    (hs : subscripted slice false (.ref l) (.int k u) = operate [.ref l, .int k u] (getItem (.ref l) (.int k u)) := by with_unfolding_all rfl) :
    wpAny (model prog w) A (subscriptTail value slice (.ref l) (.int k u)) Q E s :=
  tail_any hl.typeIs slot_list_getitem.lookup (wpAny_getItem_list hl h0 hhi (by simpa using hx) h) hs
theorem abcde_at (j : Fin 5) : Builtin.Str.occurrences (Str.ofString "abcde") (txt [97 + j.val]) 0 (Str.ofString "abcde").length 1 = [j.val] := by revert j; decide +kernel
theorem ne_e (j : Fin 5) : (txt [97 + j.val] != Str.ofString "e") = decide (j ≠ 4) := by revert j; decide +kernel
theorem names_at (j : Fin 5) : namesL.getD j.val Str.empty = txt (nm j false) := by revert j; decide +kernel
/-- behind «name = ..» -/
inductive NP (s₁ : Shared) (NS NU RW I : Addr) (ns us items : List Value) (n : Nat) (oT o : Obj) (st : List Nat) (t0 tv : Tok) (kF : Fin 5) (tps : List (Addr × Obj)) (s' : Shared) : Prop
  | intro (h : Heap) (tk : Nat) (b : Bool) (tn : Tok) (u : Str → Option Value) (z0 : s' = { s₁ with heap := h, toks := tk }) (z1 : 1 ≤ tk) (z2 : Fr (ghostOf s₁.heap [(280, 276)]) s₁.heap.objs.size h (kstB u [(Str.ofString "names", .ref NS), (Str.ofString "numbers", .ref NU), (Str.ofString "state", .str (txt st) t0), (Str.ofString "rows", .ref RW), (Str.ofString "k", .int (0 + (kF.val : Int)) tv), (Str.ofString "name", .str (txt (nm kF b)) tn)])) (z3 : News (ghostOf s₁.heap [(280, 276)]) s₁.heap.objs.size h ((I, o) :: (RW, listOf items.toArray n) :: (NU, LCg.lst us) :: (NS, listOf ns.toArray 0) :: (s₁.heap.objs.size + 1 + 1, oT) :: (276, tabObj #[]) :: tps)) : NP s₁ NS NU RW I ns us items n oT o st t0 tv kF tps s'
theorem int_at {us : List Value} {zs : List Int} (h : IntsAre us zs) (h4 : us.length = 4) (k : Int) : ∃ z t, us[((k.fmod 4)).toNat]? = some (.int z t) := by
  have h0 := Int.fmod_nonneg_of_pos k (show (0 : Int) < 4 by decide)
  have h1 := Int.fmod_lt_of_pos k (show (0 : Int) < 4 by decide)
  have hlt : (k.fmod 4).toNat < us.length := by omega
  obtain ⟨z, t, e⟩ := ints_item h _ us[(k.fmod 4).toNat] (List.getElem?_eq_getElem hlt)
  exact ⟨z, t, by rw [List.getElem?_eq_getElem hlt, e]⟩
theorem row_led {h₀ h : Heap} {L : Addr} {t i r a b c d : Addr × Obj} {tps : List (Addr × Obj)} (N : News h₀ L h (t :: i :: r :: a :: b :: c :: d :: tps)) : News h₀ L h (i :: r :: a :: b :: c :: d :: t :: tps) := by
  intro p hp
  refine N p ?_
  simp only [List.mem_cons] at hp ⊢
  rcases hp with h | h | h | h | h | h | h | h <;> simp only [h, true_or, or_true]
set_option maxHeartbeats 8000000 in
theorem law_holds1 : PySem.Challenge.rw_tp0038_01.Holds := by
  refine hd ?_
  w_strict (
    k_go0
    all_goals try k_fold
    rename_i W s₀ s₁ mg mb G Y fa ob pm cd doc ho hcd hg Xm V T B TE TW scr hs hlay0 hL hr hl2 wa1 wa2 ax vs wa3 hL2 ra w1 r0 hI hr2 hc1 hc2 hD h₁ tk₁ oT oS dT dS Y0 X1 T1 K1 F1 N1 l0
    with_reducible show wpAny _ _ _ _ _ _
    k_fold
    refine stage0 (.step _ (.step _ (.step _ (.step _ (.here _))))) (P := S1 s₁) ?zga ?zgb
    case zga =>
      (with_reducible show wpAny _ _ _ _ _ _)
      k_fold
      have hT : oT.data = Data.cell none := dT
      have hS : oS.data = Data.cell (some (.ref ax)) := dS
      repeat' ((fail_if_success (with_reducible show wpAny _ _ (call (Value.ref 267) _ _) _ _ _)); walk_at "mine:step")
      refine wpAny_call (names_spec K1 F1 X1 N1 T1 rfl (by ktr_room) (by ktr_units) ?_)
      intro NS ns h2 k2 hns F2 N2 l2
      dsimp only
      clear F1 N1
      repeat' ((fail_if_success (with_reducible show wpAny _ _ (exec (Stmt.Assign _ _ _) _) _ _ _)); walk_at "mine:step")
      have hvl : vs.length ≤ 63 := by rw [hI.length]; omega
      with_reducible rename Fr _ _ _ _ => F3
      refine enum_assign F3 (by rfl) (by with_unfolding_all rfl) (by with_unfolding_all rfl) (by decide) (by rfl) (by decide) (by rfl) (by rfl) (by decide) (by rfl) (by rfl) ?_
      repeat' ((fail_if_success (with_reducible show wpAny _ _ (call (Value.type _) _) _ _ _)); walk_at "mine:step")
      with_reducible rename Fr _ _ _ _ => F4
      with_reducible rename News _ _ _ _ => N4
      rename_i hA l hB lE
      refine call_enumerate_list (News.isList N4 (.head _)) ?_
      intro h5 hE hIt hsz hkeep
      have lt4 := fun p hp => Heap.lt_size (N4 p hp).1
      refine ⟨_, _, _, [.int 1 _, .int 0 _, .int 2 _, .int 1 _], 0, _, rfl, rfl, F4.keeps hkeep, N4.grown hkeep, .head _, hE, hIt, Nat.succ_ne_self _, fun p hp => ⟨Nat.ne_of_lt (Nat.lt_succ_of_lt (lt4 p hp)), Nat.ne_of_lt (lt4 p hp)⟩, Nat.ne_of_lt (Nat.lt_succ_of_lt F4.ns.lt), Nat.ne_of_lt F4.ns.lt, ktu_new F4 (Nat.le_add_right _ _), ktu_new F4 (Nat.le_refl _), Nat.le_of_ble_eq_true rfl, ?step, ?fin⟩
      case step =>
        intro i x t oe oi C oC D ys m₂ h tk E' hx hC ha hb F5 N5
        obtain ⟨z0, tz0, rfl⟩ := ints_item (.cons 1 _ (.cons 0 _ (.cons 2 _ (.cons 1 _ .nil)))) i x hx
        repeat' ((fail_if_success (with_reducible show wpAny _ _ (subscriptTail _ _ _ _) _ _ _)); walk_at "mine:step")
        refine kmk_slice3_lit F5 N5 (its := vs.toArray) (lo := some (i : Int)) (hi := none) (st := some 4) (lifted.at fun o e => F5.keep _ _ e) (.int _ _) .none (.int _ _) (by decide) rfl ?_ (by with_unfolding_all rfl) (by intro _; with_unfolding_all rfl) (by rw [sizeLine_eq, List.size_toArray]; omega)
        intro SL h6 F6 N6 l6
        obtain ⟨ms, hms⟩ := pick_ints hI (some (i : Int)) none (some 4)
        repeat' ((fail_if_success (with_reducible show wpAny _ _ (call (Value.builtin "sum") _) _ _ _)); walk_at "mine:step")
        refine LSm.sum_ints F6 N6 rfl (News.isList N6 (.head _)) hms ?_
        intro h7 k7 t7 F7 N7
        repeat' ((fail_if_success (with_reducible show wpAny _ _ (binaryOp _ _ _) _ _ _)); walk_at "mine:step")
        refine add_int ?_
        exact ⟨_, _, _, _, rfl, rfl, F7, fun p hp => N7 p (.tail _ hp)⟩
      case fin =>
        intro NU us zs h tk hyl hys F5 N5 lD
        repeat' ((fail_if_success (with_reducible show Held _)); walk_at "mine:step")
        with_reducible rename Fr _ _ _ _ => F9
        with_reducible rename News _ _ _ _ => N9
        rename _ ∧ _ ∧ _ ∧ _ ∧ _ ∧ _ => lX
        rw [e_nil] at F9
        rw [show Str.ofString "a" = txt [97] by decide +kernel, show Str.ofString "b" = txt [98] by decide +kernel, show Str.ofString "c" = txt [99] by decide +kernel, show Str.ofString "d" = txt [100] by decide +kernel, show Str.ofString "e" = txt [101] by decide +kernel] at N9
        exact ⟨rfl, NS, NU, _, ns, us, [_, _, _, _, _], zs, oT, _, hns, hys, hyl, .cons _ _ (.cons _ _ (.cons _ _ (.cons _ _ (.cons _ _ .nil)))), hT, l0, l2 (s₁.heap.objs.size + 1 + 1, oT) (.head _), lD (NS, _) (.tail _ (.head _)), lX.1,
          .mk (by first | omega | (dsimp only; omega)) F9 N9 ⟨rfl, rfl, rfl, rfl, trivial⟩ ⟨.head _, .tail _ (.head _), .tail _ (.tail _ (.tail _ (.head _))), .tail _ (.tail _ (.tail _ (.tail _ (.head _)))), .tail _ (.tail _ (.tail _ (.tail _ (.tail _ (.tail _ (.head _)))))), trivial⟩⟩
    case zgb =>
    rintro s' ⟨NS, NU, LE, ns, us, lv, zs, oT, t0, hns, hus, hu4, hlv, hT, l0, lNS, lNU, lLE, h, tk, u, rfl, hk1, F, N⟩
    refine stage (.step _ (.step _ (.here _))) (by exact hk1) (P := S2 s₁) ?zgb ?zgc
    case zgb =>
      dsimp only [kstB] at F
      (with_reducible show wpAny _ _ _ _ _ _)
      k_fold
      repeat' ((fail_if_success (with_reducible show wpAny _ _ (exec (Stmt.For _ _ _ _ _) _) _ _ _)); walk_at "mine:step")
      with_unfolding_all refine' For_turns F ?_
      repeat' ((fail_if_success (with_reducible show wpAny _ _ (pyIter _) _ _ _)); walk_at "mine:step")
      try dsimp only
      with_unfolding_all refine iter_listTurns rfl F N (.tail _ (.head _)) rfl rfl ?_
      intro I lI
      refine items_ind (LJ s₁.heap.objs.size NS NU LE ns us oT I) ?fin ?step _ _ _ ⟨lv, 0, [], [97, 98, 99, 100, 101], zs, t0, u, rfl, rfl, hlv, List.Perm.refl _, by rw [hu4]; rfl, hus, fun q hq => Nat.ne_of_lt (lI q hq)⟩
      case fin =>
        rintro m nw ⟨lv, n, st, lf, zs', t0, u2, rfl, rfl, hlv, hp, hlf, hz, hI9⟩ h9 tk9 F9 N9
        change Fr (ghostOf s₁.heap [(280, 276)]) s₁.heap.objs.size h9 _ at F9
        change News (ghostOf s₁.heap [(280, 276)]) s₁.heap.objs.size h9 _ at N9
        dsimp only [kstB] at F9
        clear F N
        have hsl := state_len hp
        obtain ⟨c, rfl⟩ : ∃ c, lf = [c] := by
          match lf, hlf with
          | [c], _ => exact ⟨c, rfl⟩
        repeat' ((fail_if_success (with_reducible show wpAny _ _ (inplaceOp _ _ _) _ _ _)); walk_at "mine:step")
        refine iadd_txt (b := [c]) (by rw [List.length_singleton]; omega) ?_
        intro t12 k12
        repeat' ((fail_if_success (with_reducible show HeldT _ _)); walk_at "mine:step")
        intro hk9
        with_reducible rename Fr _ _ _ _ => F8
        with_reducible rename News _ _ _ _ => N8
        exact ⟨rfl, NS, NU, ns, us, zs, st ++ [c], oT, _, hns, hus, hu4, mem_perms _ _ hp, hT, l0, lNS, lNU, .mk hk9 F8 N8 ⟨rfl, rfl, rfl, trivial⟩ ⟨.tail _ (.head _), .tail _ (.tail _ (.head _)), .tail _ (.tail _ (.tail _ (.head _))), .tail _ (.tail _ (.tail _ (.tail _ (.head _)))), trivial⟩⟩
      case step =>
        rintro v r m nw ⟨lv, n, st, lf, zs', t0, u2, rfl, rfl, hlv, hp, hlf, hz, hI9⟩ h9 tk9 o9 ho9 F9 N9
        change Fr (ghostOf s₁.heap [(280, 276)]) s₁.heap.objs.size h9 _ at F9
        change News (ghostOf s₁.heap [(280, 276)]) s₁.heap.objs.size h9 _ at N9
        obtain ⟨z, tz, zr, rfl, hz'⟩ : ∃ z tz zr, v = .int z tz ∧ IntsAre r zr := by
          cases hz with
          | cons z t h => exact ⟨z, t, _, rfl, h⟩
        dsimp only [kstB] at F9
        clear F N
        have hsl := state_len hp
        have hll : lv.length = lf.length := by rw [hlv.len_eq, List.length_map]
        walk_at "mine:step"
        (with_reducible show wpAny _ _ _ _ _ _)
        k_fold
        repeat' ((fail_if_success (with_reducible show wpAny _ _ (call (Value.builtin "len") _) _ _ _)); walk_at "mine:step")
        with_reducible rename News _ _ _ _ => N6
        refine call_len_list (News.isList N6 (.tail _ (.head _))) (by rw [List.size_toArray]; omega) ?_
        repeat' ((fail_if_success (with_reducible show wpAny _ _ (binaryOp _ _ _) _ _ _)); walk_at "mine:step")
        rw [List.length_cons] at hlf
        rw [show lv.toArray.size = lf.length by rw [List.size_toArray, hll]]
        have hpos : (0 : Int) < (lf.length : Int) := by omega
        refine mod_int (by omega) ?_
        have hz0 := Int.fmod_nonneg_of_pos z hpos
        have hz1 := Int.fmod_lt_of_pos z hpos
        generalize z.fmod (lf.length : Int) = zi at hz0 hz1
        obtain ⟨a, c, b, hab, hal⟩ := cut_at lf (k := zi.toNat) (by omega)
        subst hab
        obtain ⟨p, tq, q, rfl, hpl, hpq⟩ := strs_split hlv
        repeat' ((fail_if_success (with_reducible show wpAny _ _ (call (Value.builtin "list.pop") _) _ _ _)); walk_at "mine:step")
        with_reducible rename Fr _ _ _ _ => F7
        with_reducible rename News _ _ _ _ => N7
        rw [List.length_append, List.length_cons] at hsl hz1
        refine kl_popAt F7 N7 (p := p) (q := q) (k := p.length) (fits5 hz0 hz1 (by omega)) ?hk (cut_spec _ q p) (.tail (Ne.symm (hI9 (LE, _) (.head _))) (.head (AllP.all (l := [(NU, LCg.lst us), (NS, listOf ns.toArray 0), (s₁.heap.objs.size + 1 + 1, oT), (276, tabObj #[])]) ⟨Nat.ne_of_lt lLE, Nat.ne_of_lt (Nat.lt_trans lNU lLE), Nat.ne_of_lt (Nat.lt_trans lNS (Nat.lt_trans lNU lLE)), Nat.ne_of_lt (by omega), trivial⟩))) ?hz ?_
        case hk =>
          rw [seqIndex_of hz0 (by rw [List.size_toArray, hll, List.length_append, List.length_cons]; omega), hpl, hal]
        case hz => rw [sizeLine_eq, show (p ++ Value.str (txt [c]) tq :: q).toArray.toList.length = _ from rfl, hll, List.length_append, List.length_cons]; omega
        intro h8 F8 N8
        repeat' ((fail_if_success (with_reducible show wpAny _ _ (inplaceOp _ _ _) _ _ _)); walk_at "mine:step")
        refine iadd_txt (by rw [List.length_singleton]; omega) ?_
        intro t12 k12
        repeat' ((fail_if_success (with_reducible show UnrEndW _ _ _ _ _ _)); walk_at "mine:step")
        with_reducible rename Fr (ghostOf s₁.heap [(280, 276)]) _ _ _ => FE
        with_reducible rename News (ghostOf s₁.heap [(280, 276)]) _ _ _ => NE
        have hoff : ∀ x ∈ [(LE, listOf (p ++ q).toArray (n + 1)), (NU, LCg.lst us), (NS, listOf ns.toArray 0), (s₁.heap.objs.size + 1 + 1, oT), (276, tabObj #[])], @Ne Nat x.1 I := by
          intro x hx
          rcases List.mem_cons.mp hx with rfl | hx
          · have h9 := hI9 _ (.head _)
            exact h9
          · exact hI9 x (.tail _ hx)
        exact unr_loop (fr_kst [(Str.ofString "names", .ref NS), (Str.ofString "numbers", .ref NU), (Str.ofString "left", .ref LE), (Str.ofString "state", .str (txt (st ++ [c])) t12)] FE (AllP.all ⟨rfl, rfl, rfl, rfl, trivial⟩)) NE
          ⟨p ++ q, n + 1, st ++ [c], a ++ b, zr, t12, _, rfl, rfl, hpq, perm_pop hp, by rw [List.length_append] at hlf ⊢; rw [List.length_cons] at hlf; omega, hz', hoff⟩ hoff ⟨.tail _ (.head _), trivial⟩
    case zgc =>
    rintro s' ⟨NS, NU, ns, us, zs, st, oT, t0, hns, hus, hu4, hst, hT, l0, lNS, lNU, h, tk, u, rfl, hk1, F, N⟩
    refine stage (.step _ (.step _ (.here _))) (by exact hk1) (P := S3 s₁) ?zgc ?zgd
    case zgc =>
      dsimp only [kstB] at F
      (with_reducible show wpAny _ _ _ _ _ _)
      k_fold
      repeat' ((fail_if_success (with_reducible show wpAny _ _ (exec (Stmt.For _ _ _ _ _) _) _ _ _)); walk_at "mine:step")

      rename_i RW hX lR hY F3 N3 tkX hkX
      refine for_own ?_
      refine held_toks (by exact hkX) ?_
      repeat' ((fail_if_success (with_reducible show HeldT _ _)); walk_at "mine:step")
      intro hs1
      rename_i h3 tk3 tr1 tr2 tr3 IR FF NN KP
      clear KP
      have F1 := fr_kst [(Str.ofString "names", .ref NS), (Str.ofString "numbers", .ref NU), (Str.ofString "state", .str (txt st) t0), (Str.ofString "rows", .ref RW)] FF (AllP.all ⟨rfl, rfl, rfl, rfl, trivial⟩)
      refine iter_rangeK (n := 5) hs1 rfl IR (by decide) (by decide) F1 NN (KJ s₁.heap.objs.size NS NU RW ns us oT st t0) (fun I lI => ⟨[], 0, [], [], _, rfl, rfl, .nil, RowsAt.start st, (fun _ h => nomatch h), fun q hq => Nat.ne_of_lt (lI q hq)⟩) ?off ?fin ?step
      case off =>
        rintro I t m nw ⟨items, n, rows, tps, u, rfl, rfl, hr, hra, ltp, hoff⟩
        exact hoff
      case fin =>
        rintro I m nw ⟨items, n, rows, tps, u, rfl, rfl, hr, hra, ltp, hoff⟩ h tk hk9 F N
        change Fr (ghostOf s₁.heap [(280, 276)]) s₁.heap.objs.size h _ at F
        change News (ghostOf s₁.heap [(280, 276)]) s₁.heap.objs.size h _ at N
        dsimp only [kstB] at F
        repeat' ((fail_if_success (with_reducible show HeldT _ _)); walk_at "mine:step")
        intro hk8
        exact ⟨rfl, NS, RW, ns, items, n, rows, st, tps, oT, _, hns, hra.rep hst, hr, hT, l0, lNS, lR.2.1, ltp, _, _, _, rfl, hk8, fr_kst [(Str.ofString "names", .ref NS), (Str.ofString "state", .str (txt st) t0), (Str.ofString "rows", .ref RW)] F (AllP.all ⟨rfl, rfl, rfl, trivial⟩), fun p hp => N p (by
          rcases List.mem_cons.mp hp with h | hp
          · rw [h]; exact .head _
          · exact .tail _ (.tail _ hp))⟩
      case step =>
        rintro I k m nw tv o hk5 ⟨items, n, rows, tps, u, rfl, rfl, hr, hra, ltp, hoff⟩ h tk hk9 F N
        change Fr (ghostOf s₁.heap [(280, 276)]) s₁.heap.objs.size h _ at F
        change News (ghostOf s₁.heap [(280, 276)]) s₁.heap.objs.size h _ at N
        dsimp only [kstB] at F
        obtain ⟨c5, cat, _⟩ := order_codes st hst
        obtain ⟨kF, rfl⟩ : ∃ kF : Fin 5, k = kF.val := ⟨⟨k, hk5⟩, rfl⟩
        obtain ⟨j, hj⟩ := (cat kF).2
        have hb0 : (0 : Int) ≤ 0 + (kF.val : Int) := by omega
        have hb1 : (0 : Int) + (kF.val : Int) < ((txt st).length : Int) := by rw [txt_len]; omega
        walk_at "mine:step"
        refine held_toks (by dsimp only; omega) ?_
        (with_reducible show wpAny _ _ _ _ _ _)
        k_fold
        repeat' ((fail_if_success (with_reducible show wpAny _ _ (compareOp _ _ _) _ _ _)); walk_at "mine:step")
        rw [item_get (by omega), hj]
        walk_at "mine:step"
        rw [ne_e j]
        have hNI : @Ne Nat (s₁.heap.objs.size + 1 + 1) I := by
          have h9 := hoff _ (.tail _ (.tail _ (.tail _ (.head _))))
          exact h9
        by_cases hj4 : j = 4
        · subst hj4
          rw [decide_eq_false (by decide)]
          repeat' ((fail_if_success (with_reducible show HeldT _ _)); walk_at "mine:step")
          intro hk8
          with_reducible rename Fr _ _ _ _ => FE
          with_reducible rename News _ _ _ _ => NE
          exact ⟨_, _, _, _, rfl, hk8, fr_kst [(Str.ofString "names", .ref NS), (Str.ofString "numbers", .ref NU), (Str.ofString "state", .str (txt st) t0), (Str.ofString "rows", .ref RW)] FE (AllP.all ⟨rfl, rfl, rfl, rfl, trivial⟩), NE, items, n, rows, tps, _, rfl, rfl, hr, hra.skip hst hj, ltp, hoff⟩
        · rw [decide_eq_true hj4]
          repeat' ((fail_if_success (with_reducible show wpAny _ _ (execs _ _) _ _ _)); walk_at "mine:step")
          refine stageR (.step _ (.here _)) (by dsimp only; omega) (P := NP s₁ NS NU RW I ns us items n oT o st t0 tv kF tps) ?zgn ?zgo
          case zgn =>
            (with_reducible show wpAny _ _ _ _ _ _)
            k_fold
            repeat' ((fail_if_success (with_reducible show wpAny _ _ (subscriptTail _ _ _ _) _ _ _)); walk_at "mine:step")
            with_reducible rename News _ _ _ _ => N6
            obtain ⟨z, tz, hz⟩ := int_at hus hu4 (0 + (kF.val : Int))
            refine my_item (News.isList N6 (.tail _ (.tail _ (.head _)))) (Int.fmod_nonneg_of_pos _ (by decide)) (by have := Int.fmod_lt_of_pos (0 + (kF.val : Int)) (show (0 : Int) < 4 by decide); omega) hz ?_
            repeat' ((fail_if_success (with_reducible show wpAny _ _ (subscriptTail _ _ _ _) _ _ _)); walk_at "mine:step")
            all_goals with_reducible rename News _ _ _ _ => N7
            all_goals (refine item_strsA (News.isList N7 (.tail _ (.tail _ (.tail _ (.head _))))) hns (by omega) (by show _ < ((5 : Nat) : Int); omega) (by omega) ?_; intro tn; rw [show (0 + (kF.val : Int)).toNat = kF.val by omega, names_at])
            all_goals (repeat' ((fail_if_success (with_reducible show HeldT _ _)); walk_at "mine:step"))
            all_goals with_reducible rename Fr _ _ _ _ => FE
            all_goals with_reducible rename News _ _ _ _ => NE
            all_goals exact fun hk8 => ⟨_, _, _, _, _, rfl, hk8, fr_kst [(Str.ofString "names", .ref NS), (Str.ofString "numbers", .ref NU), (Str.ofString "state", .str (txt st) t0), (Str.ofString "rows", .ref RW), (Str.ofString "k", .int (0 + (kF.val : Int)) tv), (Str.ofString "name", .str (txt (nm kF _)) _)] FE (AllP.all ⟨rfl, rfl, rfl, rfl, rfl, rfl, trivial⟩), NE⟩
          case zgo =>
            rintro s' ⟨h, tk, b, tn, u, rfl, hk8, F, N⟩
            dsimp only [kstB] at F
            (with_reducible show wpAny _ _ _ _ _ _)
            k_fold
            repeat' ((fail_if_success (with_reducible show wpAny _ _ (call (Value.builtin "str.index") _) _ _ _)); walk_at "mine:step")
            rw [item_get (by omega), hj]
            refine SC.index (abcde_at j) ?_
            repeat' ((fail_if_success (with_reducible show wpAny _ _ (subscriptTail _ _ _ _) _ _ _)); walk_at "mine:step")
            with_reducible rename News _ _ _ _ => N7
            refine item_strsA (News.isList N7 (.tail _ (.tail _ (.tail _ (.head _))))) hns (by omega) (by show _ < ((5 : Nat) : Int); omega) (by omega) ?_
            intro tm
            rw [show ((j.val : Int)).toNat = j.val by omega, names_at]
            repeat' ((fail_if_success (with_reducible show wpAny _ _ (call (Value.ref 274) _ _) _ _ _)); walk_at "mine:step")
            with_reducible rename Fr _ _ _ _ => F8
            with_reducible rename News _ _ _ _ => N8
            refine wpAny_call (reply_spec K1 F8 X1 N8 T1 rfl (by ktr_room) (by ktr_units) ?_)
            intro t9 h9 k9 F9 N9
            dsimp only
            clear F8 N8
            repeat' ((fail_if_success (with_reducible show wpAny _ _ (call (Value.builtin "list.append") _) _ _ _)); walk_at "mine:step")
            rename_i TP hA2 F10 N10 lT
            have hil : items.length ≤ 5 := by
              rw [hr.len, hra.len]
              refine Nat.le_trans (List.length_filter_le _ _) ?_
              rw [List.length_take]
              omega
            refine append_led (pre := [_, _]) F10 N10 (AllP.all ⟨Nat.ne_of_gt lT.2.1, Ne.symm (hoff (RW, _) (.head _)), trivial⟩) (c := ?post) (by rw [List.size_toArray]; omega) ?_
            case post =>
              intro q hq
              rcases List.mem_cons.mp hq with rfl | hq
              · exact Nat.ne_of_lt lR.1
              rcases List.mem_cons.mp hq with rfl | hq
              · exact Nat.ne_of_lt lR.2.1
              rcases List.mem_cons.mp hq with rfl | hq
              · exact Nat.ne_of_lt lR.2.2.1
              rcases List.mem_cons.mp hq with rfl | hq
              · exact Nat.ne_of_lt lR.2.2.2
              · exact Nat.ne_of_gt (ltp q hq)
            intro h12 F12 N12
            rw [push_arr2] at N12
            repeat' ((fail_if_success (with_reducible show HeldT _ _)); walk_at "mine:step")
            intro hk7
            with_reducible rename Fr _ _ _ _ => FE
            with_reducible rename News _ _ _ _ => NE
            refine ⟨_, _, _, _, rfl, hk7, fr_kst [(Str.ofString "names", .ref NS), (Str.ofString "numbers", .ref NU), (Str.ofString "state", .str (txt st) t0), (Str.ofString "rows", .ref RW)] FE (AllP.all ⟨rfl, rfl, rfl, rfl, trivial⟩), row_led NE, items ++ [.ref TP], n + 1, rows ++ [(kF, b, j)], (TP, rowObj (kF, b, j) _ _) :: tps, _, rfl, rfl, (hr.mono fun p h => .tail _ h).snoc (.head _), hra.add hst b hj hj4, ?_, ?_⟩
            · intro q hq
              rcases List.mem_cons.mp hq with rfl | hq
              · exact lT.2.1
              · exact ltp q hq
            · intro q hq
              rcases List.mem_cons.mp hq with rfl | hq
              · have h9 := hoff _ (.head _)
                exact h9
              rcases List.mem_cons.mp hq with rfl | hq
              · exact hoff _ (.tail _ (.head _))
              rcases List.mem_cons.mp hq with rfl | hq
              · exact hoff _ (.tail _ (.tail _ (.head _)))
              rcases List.mem_cons.mp hq with rfl | hq
              · exact hNI
              rcases List.mem_cons.mp hq with rfl | hq
              · exact hoff _ (.tail _ (.tail _ (.tail _ (.tail _ (.head _)))))
              rcases List.mem_cons.mp hq with rfl | hq
              · exact Nat.ne_of_gt lT.1
              · exact hoff q (.tail _ (.tail _ (.tail _ (.tail _ (.tail _ hq)))))
    case zgd =>
    rintro s' ⟨NS, RW, ns, items, n, rows, st, tps, oT, t0, hns, hrep, hr, hT, l0, lNS, lRW, ltp, h, tk, u, rfl, hk1, F, N⟩
    refine stage (.step _ (.here _)) (by exact hk1) (P := S4 s₁) ?zgd ?zge
    case zgd =>
      dsimp only [kstB] at F
      (with_reducible show wpAny _ _ _ _ _ _)
      k_fold
      have hil := hr.len
      rw [hrep.len] at hil
      have l7 : ∀ q ∈ (RW, listOf items.toArray n) :: (NS, listOf ns.toArray 0) :: (s₁.heap.objs.size + 1 + 1, oT) :: (276, tabObj #[]) :: tps, @LT.lt Nat _ q.1 (h.objs.size + 1) := fun q hq => Nat.lt_succ_of_lt (Heap.lt_size (N q hq).1)
      repeat' ((fail_if_success (with_reducible show wpAny _ _ (subscriptTail _ _ _ _) _ _ _)); walk_at "mine:step")
      walk_at "mine:step"
      with_reducible rename Fr _ _ _ _ => F6
      with_reducible rename News _ _ _ _ => N6
      rw [slicePick_all] at N6
      dsimp only at N6 ⊢
      generalize h.objs.size + 1 = HL at N6 l7 ⊢
      clear F N
      repeat' ((fail_if_success (with_reducible show wpAny _ _ (call (Value.ref 182) _ _) _ _ _)); walk_at "mine:step")
      with_reducible rename Fr _ _ _ _ => F8
      with_reducible rename News _ _ _ _ => N8
      refine headers_spec K1 F8 X1 N8 T1 rfl (by ktr_room) (by ktr_units) (by omega) (hr.mono fun p h => .tail _ (.tail _ (.tail _ (.tail _ (.tail _ h))))) (.head _) (by dsimp only; omega) ?_
      intro hx dx tH h10 k10 hk8 F10 N10 l9 l99
      dsimp only
      clear F8 N8
      repeat' ((fail_if_success (with_reducible show wpAny _ _ (call (Value.ref 286) _ _) _ _ _)); walk_at "mine:step")
      with_reducible rename Fr _ _ _ _ => F8
      with_reducible rename News _ _ _ _ => N8
      refine wpAny_call (plan_spec (n := 0) K1 F8 X1 (news_rot N8) T1 rfl (by ktr_room) (by ktr_units) (hr.mono fun p h => .tail _ (.tail _ (.tail _ (.tail _ (.tail _ (.tail _ h)))))) hrep ?o1 (by dsimp only; omega) (.head _) (.tail _ (.head _)) ?_)
      case o1 =>
        intro q hq
        have e9 := l9 (HL, _) (.head _)
        rcases List.mem_cons.mp hq with rfl | hq
        · exact Nat.ne_of_gt (Nat.lt_trans e9 l99)
        rcases List.mem_cons.mp hq with rfl | hq
        · exact Nat.ne_of_gt e9
        · exact Nat.ne_of_lt (l7 q hq)
      intro tup mv tc tt h11 k11 hpath hmv F11 N11
      dsimp only
      clear F8 N8
      repeat' ((fail_if_success (with_reducible show HeldT _ _)); walk_at "mine:step")
      intro hk9
      with_reducible rename Fr _ _ _ _ => FE
      with_reducible rename News _ _ _ _ => NE
      exact ⟨rfl, NS, RW, ns, items, n, rows, st, mv, tps, oT, t0, tc, tt, hns, hrep, hr, hpath, hmv, hT, l0, lNS, lRW, ltp, _, _, _, rfl, hk9, fr_kst [(Str.ofString "names", .ref NS), (Str.ofString "state", .str (txt st) t0), (Str.ofString "rows", .ref RW), (Str.ofString "count", .int (phi st) tc), (Str.ofString "text", .str (txt (textOf mv)) tt)] FE (AllP.all ⟨rfl, rfl, rfl, rfl, rfl, trivial⟩), fun p hp => NE p (.tail _ (.tail _ (.tail _ hp)))⟩
    case zge =>
    rintro s' ⟨NS, RW, ns, items, n, rows, st, mv, tps, oT, t0, tc, tt, hns, hrep, hr, hpath, hmv, hT, l0, lNS, lRW, ltp, h, tk, u, rfl, hk1, F, N⟩
    refine stage (.step _ (.here _)) (by exact hk1) (P := S5 W s₁) ?zge ?zgf
    case zge =>
      dsimp only [kstB] at F
      (with_reducible show wpAny _ _ _ _ _ _)
      k_fold
      have hil := hr.len
      rw [hrep.len] at hil
      have l7 : ∀ q ∈ (RW, listOf items.toArray n) :: (NS, listOf ns.toArray 0) :: (s₁.heap.objs.size + 1 + 1, oT) :: (276, tabObj #[]) :: tps, @LT.lt Nat _ q.1 (h.objs.size + 1) := fun q hq => Nat.lt_succ_of_lt (Heap.lt_size (N q hq).1)
      repeat' ((fail_if_success (with_reducible show wpAny _ _ (subscriptTail _ _ _ _) _ _ _)); walk_at "mine:step")
      walk_at "mine:step"
      with_reducible rename Fr _ _ _ _ => F6
      with_reducible rename News _ _ _ _ => N6
      rw [slicePick_all] at N6
      dsimp only at N6 ⊢
      generalize h.objs.size + 1 = HL at N6 l7 ⊢
      clear F N
      repeat' ((fail_if_success (with_reducible show wpAny _ _ (call (Value.ref 182) _ _) _ _ _)); walk_at "mine:step")
      with_reducible rename Fr _ _ _ _ => F8
      with_reducible rename News _ _ _ _ => N8
      refine headers_spec K1 F8 X1 N8 T1 rfl (by ktr_room) (by ktr_units) (by omega) (hr.mono fun p h => .tail _ (.tail _ (.tail _ (.tail _ (.tail _ h))))) (.head _) (by dsimp only; omega) ?_
      intro hx dx tH h10 k10 hk8 F10 N10 l9 l99
      dsimp only
      clear F8 N8
      have cdx : @LT.lt Nat _ (s₁.heap.objs.size + 1 + 1) dx := l9 _ (.tail _ (.tail _ (.tail _ (.head _))))
      have cHL : @LT.lt Nat _ (s₁.heap.objs.size + 1 + 1) HL := l7 _ (.tail _ (.tail _ (.head _)))
      refine storeX_C F10 N10 (by rfl) (.tail (Nat.ne_of_gt (Nat.lt_trans cdx l99)) (.tail (Nat.ne_of_gt cdx) (.tail (Nat.ne_of_gt cHL) (.tail (Nat.ne_of_gt (Nat.lt_trans lNS lRW)) (.tail (Nat.ne_of_gt lNS) (.head ?off)))))) hT ?_
      case off =>
        intro q hq
        rcases List.mem_cons.mp hq with rfl | hq
        · exact Nat.ne_of_lt (Nat.lt_succ_of_lt (Nat.lt_succ_of_lt l0))
        · exact Nat.ne_of_gt (Nat.lt_trans (Nat.lt_trans lNS lRW) (ltp q hq))
      intro h11 oT' F11 N11 hT'
      clear F10 N10
      repeat' ((fail_if_success (with_reducible show HeldT _ _)); walk_at "mine:step")
      intro hk9
      with_reducible rename Fr _ _ _ _ => FE
      with_reducible rename News _ _ _ _ => NE
      exact ⟨rfl, NS, HL, hx, dx, ns, items, rows, st, mv, tps, oT', t0, tc, tt, tH, hns, hrep, hr, hpath, hmv, hT', l0, lNS, Nat.lt_trans lRW (l7 _ (.head _)), l9 (HL, _) (.head _), l99, fun q hq => ⟨Nat.lt_trans lRW (ltp q hq), l7 q (.tail _ (.tail _ (.tail _ (.tail _ hq))))⟩,
        _, _, _, rfl, hk9, fr_kst [(Str.ofString "names", .ref NS), (Str.ofString "state", .str (txt st) t0), (Str.ofString "count", .int (phi st) tc), (Str.ofString "text", .str (txt (textOf mv)) tt)] FE (AllP.all ⟨rfl, rfl, rfl, rfl, trivial⟩), tab_led NE⟩
    case zgf =>
    rintro s' ⟨NS, HL, hx, dx, ns, items, rows, st, mv, tps, oT, t0, tc, tt, tH, hns, hrep, hr, hpath, hmv, hT, l0, lNS, lHL, ldx, lhx, ltp, h, tk, u, rfl, hk1, F, N⟩
    refine stage (.step _ (.here _)) (by exact hk1) (P := S6 W s₁) ?zgf ?zgg
    case zgf =>
      dsimp only [kstB] at F
      (with_reducible show wpAny _ _ _ _ _ _)
      k_fold
      repeat' ((fail_if_success (with_reducible show wpAny _ _ (call (Value.ref 298) _ _) _ _ _)); walk_at "mine:step")
      with_reducible rename Fr _ _ _ _ => F8
      with_reducible rename News _ _ _ _ => N8
      refine wpAny_call (least_spec K1 F8 X1 N8 T1 rfl (by ktr_room) (by ktr_units) (by dsimp only; omega) hrep.ord ?_)
      intro t9 h9 k9 F9 N9
      dsimp only
      clear F8 N8
      repeat' ((fail_if_success (with_reducible show wpAny _ _ (call (Value.ref 291) _ _) _ _ _)); walk_at "mine:step")
      · with_reducible rename ((phi st : Nat) : Int) ≠ ((phi st : Nat) : Int) => ha
        exact absurd rfl ha
      with_reducible rename Fr _ _ _ _ => F8
      with_reducible rename News _ _ _ _ => N8
      have h6 := (orders_facts st hrep.ord).2.1
      have cHL : @LT.lt Nat _ (s₁.heap.objs.size + 1 + 1) HL := Nat.lt_trans lNS lHL
      rw [← hmv] at F8 ⊢
      refine wpAny_call (done_spec (tc := tc) (tt := tt) (n := 0) K1 F8 X1 N8 T1 rfl codeHd (by ktr_room) (by ktr_units) (hr.mono fun p h => .tail _ (.tail _ (.tail _ (.tail _ h)))) hrep ?o1 ?oT hpath (by omega) (.head _) (.tail _ (.head _)) ?_)
      case o1 =>
        intro q hq
        rcases List.mem_cons.mp hq with rfl | hq
        · exact Nat.ne_of_gt (Nat.lt_trans ldx lhx)
        rcases List.mem_cons.mp hq with rfl | hq
        · exact Nat.ne_of_gt ldx
        rcases List.mem_cons.mp hq with rfl | hq
        · exact Nat.ne_of_lt lHL
        rcases List.mem_cons.mp hq with rfl | hq
        · exact Nat.ne_of_lt cHL
        · exact Nat.ne_of_lt (ltp q hq).2
      case oT =>
        have l2 : @LT.lt Nat _ 276 (s₁.heap.objs.size + 1 + 1) := Nat.lt_succ_of_lt (Nat.lt_succ_of_lt l0)
        have l3 : @LT.lt Nat _ 276 NS := Nat.lt_trans l2 lNS
        have l4 : @LT.lt Nat _ 276 HL := Nat.lt_trans l3 lHL
        intro q hq
        rcases List.mem_cons.mp hq with rfl | hq
        · exact Nat.ne_of_gt l4
        rcases List.mem_cons.mp hq with rfl | hq
        · exact Nat.ne_of_gt (Nat.lt_trans l4 (Nat.lt_trans ldx lhx))
        rcases List.mem_cons.mp hq with rfl | hq
        · exact Nat.ne_of_gt (Nat.lt_trans l4 ldx)
        rcases List.mem_cons.mp hq with rfl | hq
        · exact Nat.ne_of_gt l3
        rcases List.mem_cons.mp hq with rfl | hq
        · exact Nat.ne_of_gt l2
        · exact Nat.ne_of_gt (Nat.lt_trans l3 (ltp q hq).1)
      intro h11 k11 items2 n2 rows2 led c1 c2 hr2 hrep2 hsub hoff hmT F11 N11
      dsimp only
      clear F8 N8
      repeat' ((fail_if_success (with_reducible show HeldT _ _)); walk_at "mine:step")
      intro hk9
      with_reducible rename Fr _ _ _ _ => FE
      with_reducible rename News _ _ _ _ => NE
      exact ⟨rfl, NS, HL, hx, dx, ns, items2, n2, rows2, led, oT, tH, hns, hrep2, hr2, hT, hsub _ (.head _), hsub _ (.tail _ (.head _)), hsub _ (.tail _ (.tail _ (.head _))), hsub _ (.tail _ (.tail _ (.tail _ (.head _)))), ⟨_, _, hmT⟩, hoff,
        _, _, _, rfl, hk9, fr_kst [(Str.ofString "names", .ref NS)] FE (AllP.all ⟨rfl, trivial⟩), NE⟩
    case zgg =>
    rintro s' ⟨NS, HL, hx, dx, ns, items, n, rows, led, oT, tH, hns, hrep, hr, hT, q1, q2, q3, q4, ⟨c1, c2, q5⟩, hoff, h, tk, u, rfl, hk1, F, N⟩
    dsimp only [kstB] at F
    have hil := hr.len
    rw [hrep.len] at hil
    repeat' ((fail_if_success (with_reducible show wpAny _ _ (eval (Expr.ListComp _ _ _ _) _) _ _ _)); walk_at "mine:step")
    with_reducible rename Fr _ _ _ _ => F6
    refine LCg.ListComp_U F6 (by with_unfolding_all rfl) (by decide) (by rfl) (by decide) (by rfl) ?_
    repeat' ((fail_if_success (with_reducible show LCg.CompSrc _ _ _ _ _ _ _ _ _ _ _ _ _ _)); walk_at "mine:step")
    with_reducible rename Fr _ _ _ _ => F8
    with_reducible rename News _ _ _ _ => N8
    refine LCg.CompSrc.ledger rfl F8 N8 (.tail _ q3) (by rw [sizeLine_eq, List.size_toArray, hns.len_eq]; decide) ?_
    intro gz
    refine rest_ind (fun k j ys nw => ∃ pre, nw = pre ++ (HL, listOf items.toArray n) :: led ∧ j + k = 5 ∧ LLs nw ys (gall.take j)) ?_ ?_ _ _ _ _ ⟨[], rfl, by rw [List.size_toArray, hns.len_eq]; rfl, .nil⟩
    · rintro j ys nw ⟨pre, rfl, hj, hys⟩
      obtain rfl : j = 5 := by omega
      repeat' ((fail_if_success (with_reducible show wpAny _ _ (eval (Expr.ListComp _ _ _ _) _) _ _ _)); walk_at "mine:step")
      rename_i D1 h2 tk2 F2 N2 o2
      generalize hbig : pre ++ (HL, listOf items.toArray n) :: led = big at N2 hys o2
      have q3b : List.Mem (NS, listOf ns.toArray 0) big := by rw [← hbig]; exact List.mem_append_right _ (.tail _ q3)
      have q5b : List.Mem (276, tabFull1 c1 c2) big := by rw [← hbig]; exact List.mem_append_right _ (.tail _ q5)
      clear hbig
      have MN : (NS, listOf ns.toArray 0) ∈ (D1, LCg.lst ys) :: big := .tail _ q3b
      refine LCg.ListComp_U F2 (by with_unfolding_all rfl) (by decide) (by rfl) (by decide) (by rfl) ?_
      repeat' ((fail_if_success (with_reducible show wpAny _ _ (subscriptTail _ _ _ _) _ _ _)); walk_at "mine:step")
      refine kmk_slice_lit F2 N2 (News.isList N2 MN) .none (.int 4 _) (zs := ns.take 4) (by rw [show ((4 : Int)) = ((4 : Nat) : Int) from rfl, slicePick_upto']) ?_ (by with_unfolding_all rfl) (by intro _; with_unfolding_all rfl) (by rw [sizeLine_eq, List.size_toArray, hns.len_eq]; decide)
      intro SL h3 F3 N3 l3
      clear F2 N2
      repeat' ((fail_if_success (with_reducible show LCg.CompSrc _ _ _ _ _ _ _ _ _ _ _ _ _ _)); walk_at "mine:step")
      refine LCg.CompSrc.ledger rfl F3 N3 (.head _) (by rw [sizeLine_eq, List.size_toArray, List.length_take]; omega) ?_
      intro gz2
      have hn4 : StrsAre (ns.take 4) (namesL.take 4) := strs_take hns 4
      refine rest_ind (fun k j ys2 nw => ∃ pre2, nw = pre2 ++ (SL, listOf (ns.take 4).toArray 0) :: (D1, LCg.lst ys) :: big ∧ j + k = 4 ∧ LLs nw ys2 (gall.take j)) ?_ ?_ _ _ _ _ ⟨[], rfl, by rw [List.size_toArray, hn4.len_eq]; rfl, .nil⟩
      · rintro j ys2 nw ⟨pre2, rfl, hj2, hys2⟩
        obtain rfl : j = 4 := by omega
        repeat' ((fail_if_success (with_reducible show wpAny _ _ (binaryOp _ _ _) _ _ _)); walk_at "mine:step")
        rename_i D2 h4 tk4 o4 L5 h5 l5 L6 h6 F6 N6 l6
        generalize hbig2 : pre2 ++ (SL, listOf (ns.take 4).toArray 0) :: (D1, LCg.lst ys) :: big = big2 at N6 hys2 l6 l5 o4
        have q5c : List.Mem (276, tabFull1 c1 c2) big2 := by rw [← hbig2]; exact List.mem_append_right _ (.tail _ (.tail _ q5b))
        have qD1 : List.Mem (D1, LCg.lst ys) big2 := by rw [← hbig2]; exact List.mem_append_right _ (.tail _ (.head _))
        have hysb : LLs big2 ys gall := by rw [← hbig2]; exact hys.mono fun p h => List.mem_append_right _ (.tail _ (.tail _ h))
        clear hbig2
        have A1 : (D2, LCg.lst ys2) ∈ (L6, listOf #[Value.ref L5] 0) :: (L5, listOf #[] 0) :: (D2, LCg.lst ys2) :: big2 := .tail _ (.tail _ (.head _))
        have A2 : (L6, listOf #[Value.ref L5] 0) ∈ (L6, listOf #[Value.ref L5] 0) :: (L5, listOf #[] 0) :: (D2, LCg.lst ys2) :: big2 := .head _
        have hy2 := hys2.len
        refine kmk_add_lit F6 N6 (News.isList N6 A1) (News.isList N6 A2) (zs := ys2 ++ [.ref L5]) ?addE ?_ ?addZ
        case addE => simp
        case addZ => rw [sizeLine_eq]; simp; rw [hy2, List.length_take]; omega
        intro R5 h7 F7 N7 l7
        clear A1 A2
        repeat' ((fail_if_success (with_reducible show wpAny _ _ (compareOp _ _ _) _ _ _)); walk_at "mine:step")
        have hL5 : LLs ((R5, listOf (ys2 ++ [Value.ref L5]).toArray 0) :: (L6, listOf #[Value.ref L5] 0) :: (L5, listOf #[] 0) :: (D2, LCg.lst ys2) :: big2) (ys2 ++ [Value.ref L5]) gall :=
          (hys2.mono fun p h => .tail _ (.tail _ (.tail _ (.tail _ h)))).snoc (n := 0) (zs := []) (.tail _ (.tail _ (.head _))) .nil
        refine lls_eq N7 (.tail _ (.tail _ (.tail _ (.tail _ qD1)))) (.head _) (hysb.mono fun p h => .tail _ (.tail _ (.tail _ (.tail _ h)))) hL5 (by ke_room) ?_
        refine ⟨?_, ?_⟩
        · kc_close
        · exact ⟨GrownAt.of N7 (.tail _ (.tail _ (.tail _ (.tail _ q5c)))), trivial⟩
      · rintro k j ys2 nw ⟨pre2, rfl, hj2, hys2⟩ v I oI C oC D m₂ h9 tk9 E' hv hC hm₂ F4 N4 off ne
        obtain ⟨jF, tn, rfl, rfl⟩ := name_at hn4 (List.take_prefix _ _) j v (by simpa using hv)
        repeat' ((fail_if_success (with_reducible show wpAny _ _ (call (Value.ref 274) _ _) _ _ _)); walk_at "mine:step")
        refine wpAny_call (reply_spec K1 F4 X1 N4 T1 rfl (by ktr_room) (by ktr_units) ?_)
        intro t12 h12 k12 F12 N12
        dsimp only
        clear F4 N4
        repeat' ((fail_if_success (with_reducible show LCg.CompEnd _ _ _ _ _ _ _ _ _ _ _ _ _ _)); walk_at "mine:step")
        rename_i G9 h13 F13 N13 l13
        refine LCg.CompEnd.intro F13 N13 ((G9, listOf #[Value.str (txt (rpl jF)) t12] 0) :: (pre2 ++ (SL, listOf (ns.take 4).toArray 0) :: (D1, LCg.lst ys) :: big)) comp_front ⟨⟨Nat.ne_of_gt l13.1, Nat.ne_of_gt l13.2.1, Nat.ne_of_gt l13.2.2.1⟩, off⟩ (.inr ⟨_, .tail _ (List.mem_append_right _ (.head _)), rfl, _, rfl⟩)
          ⟨(G9, listOf #[Value.str (txt (rpl jF)) t12] 0) :: pre2, rfl, by omega, ?_⟩
        rw [gall_take]
        refine (hys2.mono fun p h => .tail _ h).snoc (n := 0) (zs := [.str (txt (rpl jF)) t12]) (.head _) ?_
        have hj4 : jF ≠ 4 := by
          rintro rfl
          have h9 : (4 : Nat) + (k + 1) = 4 := hj2
          omega
        rw [gl, if_neg hj4]
        exact .cons _ _ .nil
    · rintro k j ys nw ⟨pre, rfl, hj, hys⟩ v I oI C oC D m₂ h9 tk9 E' hv hC hm₂ F3 N3 off ne
      obtain ⟨jF, tn, rfl, rfl⟩ := name_at hns (List.prefix_refl _) j v (by simpa using hv)
      have hcell : (s₁.heap.objs.size + 1 + 1, oT) ∈ (I, oI) :: (C, oC) :: (D, LCg.lst ys) :: (pre ++ (HL, listOf items.toArray n) :: led) := .tail _ (.tail _ (.tail _ (List.mem_append_right _ (.tail _ q4))))
      have M1 : (hx, instObj 182 dx) ∈ (I, oI) :: (C, oC) :: (D, LCg.lst ys) :: (pre ++ (HL, listOf items.toArray n) :: led) := .tail _ (.tail _ (.tail _ (List.mem_append_right _ (.tail _ q1))))
      have M2 : (dx, hdDict W tH HL) ∈ (I, oI) :: (C, oC) :: (D, LCg.lst ys) :: (pre ++ (HL, listOf items.toArray n) :: led) := .tail _ (.tail _ (.tail _ (List.mem_append_right _ (.tail _ q2))))
      repeat' ((fail_if_success (with_reducible show wpAny _ _ (call (Value.ref 121) _ _) _ _ _)); walk_at "mine:step")
      refine wpAny_call (get_all_spec (hl := HL) K1 F3 X1 N3 T1 rfl (by ktr_room) (by ktr_units) (by omega) (hr.mono fun p h => .tail _ (.tail _ (.tail _ (List.mem_append_right _ (.tail _ h))))) M1 M2 (.tail _ (.tail _ (.tail _ (List.mem_append_right _ (.head _))))) ?_)
      intro G9 zs h12 k12 hzs F12 N12 off12
      rw [goal_homes hrep] at hzs
      repeat' ((fail_if_success (with_reducible show LCg.CompEnd _ _ _ _ _ _ _ _ _ _ _ _ _ _)); walk_at "mine:step")
      refine LCg.CompEnd.intro F12 N12 ((G9, LCg.lst zs) :: (pre ++ (HL, listOf items.toArray n) :: led)) comp_front ⟨⟨Ne.symm (off12 (I, oI) (.head _)), Ne.symm (off12 (C, oC) (.tail _ (.head _))), Ne.symm (off12 (D, LCg.lst ys) (.tail _ (.tail _ (.head _))))⟩, off⟩ (.inr ⟨_, .tail _ (List.mem_append_right _ (.tail _ q3)), rfl, _, rfl⟩)
        ⟨(G9, LCg.lst zs) :: pre, rfl, by omega, ?_⟩
      rw [gall_take]
      exact (hys.mono fun p h => .tail _ h).snoc (.head _) hzs)
end Mine
end
theorem Mine.fresh40 : True := by
  w_top off
  k_with_none
  first | (walk1; fail) | trivial
set_option maxRecDepth 100000 in
set_option maxHeartbeats 8000000 in
theorem PySem.Challenge.cw_tp0038_01_holds : PySem.Challenge.rw_tp0038_01.Holds := by
  exact Mine.law_holds1
